import JvmDerived
import JvmDerived.Pilot.@@N@@Statement
import JvmDerived.Pilot.@@N@@Code
set_option linter.unusedVariables false
set_option linter.unusedSimpArgs false
namespace Jvm.Pilot.@@N@@
open Jvm Jvm.ClassFile Sem Op Lib Jvm.Free Jvm.Stand Jvm.LawKit Jvm.RoadKit Bundle Jvm.Pilot.@@N@@.Jvm.D
section Own
variable {p : Program} {l : Launch} {e : Env} {R : Room} {s : State} {m : MethodId} {args : Array Value} {below : List Frame} {meth : Method} {c : Code} {T : State} {locs : List Loc} {cells slots : Nat} {Q : Option Value → Heap → List Loc → Prop} {K N : Nat} {s' : State} {E : State → Outcome → State → List Loc → Nat → Nat → Prop}
/-- the run from a ends in a return of which Q holds, within the frame -/
def own_End (p : Program) (e : Env) (below : List Frame) (s : State) (Q : Option Value → Heap → List Loc → Prop) (K N : Nat) (a : State) (E : State → Outcome → State → List Loc → Nat → Nat → Prop := FrameEnd) : Prop :=
  ∃ s₂ o, Steps p.tables e below a s₂ ∧ s₂.status = .running ∧ Ended s₂ below o ∧ ∃ v L, o = .returned v ∧ Q v s₂.heap L ∧ E s o s₂ L K N
theorem own_back {a b : State} (k : ∀ t, Steps p.tables e below b t → Steps p.tables e below a t) (h : own_End p e below s Q K N b E) : own_End p e below s Q K N a E := by
  obtain ⟨s₂, o, h1, h2⟩ := h
  exact ⟨s₂, o, k _ h1, h2⟩
theorem own_via {a b : State} (k : Steps p.tables e below a b) (h : own_End p e below s Q K N b E) : own_End p e below s Q K N a E :=
  own_back (fun _ j => k.trans j) h
/-- behind a call by contract: nothing to substitute, the places written under a name of their own -/
theorem own_shutS {g : JFrame} {rest : List Value} {Q : Option Value → Heap → List Loc → Prop} {rc rs n0 : Nat} {val : Option Value} (N : Fr n0 locs) (hv : ∀ v h L, Q v h L → v = val ∧ Fr n0 L)
    (H : ∃ (v : Option Value) (vm₁ : Vm) (B : Pt), s.WarmedH vm₁ ∧ Stand p l e R s m args below meth c B.U B.locs B.cells B.slots ∧ (∃ L, Q v B.U.heap L ∧ B.locs = locs ++ L ∧ B.cells = cells + rc ∧ B.slots = slots + rs) ∧
      ∀ target, Steps p.tables e below (B.U.setTop { g with pc := g.pc + 3, stack := v.toList ++ rest }) target → Steps p.tables e below (T.setTop g) target) :
    ∃ (T' : State) (L L' : List Loc), Stand p l e R s m args below meth c T' L' (cells + rc) (slots + rs) ∧ Fr n0 L' ∧ Q val T'.heap L ∧ ∀ target, Steps p.tables e below (T'.setTop { g with pc := g.pc + 3, stack := val.toList ++ rest }) target → Steps p.tables e below (T.setTop g) target := by
  obtain ⟨v, vm₁, ⟨T', L', k', n'⟩, -, X, ⟨L, q, l1, l2, l3⟩, st⟩ := H
  subst l1 l2 l3
  obtain ⟨hv1, hv2⟩ := hv _ _ _ q
  cases hv1
  exact ⟨T', L, _, X, N.app hv2, q, st⟩
theorem own_shutV {g : JFrame} {rest : List Value} {Q : Option Value → Heap → List Loc → Prop} {rc rs n0 : Nat} {val : Option Value} {s₀ : State} (N : Fr n0 locs) (hv : ∀ v h L, Q v h L → v = val ∧ Fr n0 L)
    (H : ∃ (v : Option Value) (vm₁ : Vm) (B : Pt), s.WarmedH vm₁ ∧ Stand p l e R s m args below meth c B.U B.locs B.cells B.slots ∧ (∃ L, Q v B.U.heap L ∧ B.locs = locs ++ L ∧ B.cells = cells + rc ∧ B.slots = slots + rs) ∧
      Steps p.tables e below s₀ (B.U.setTop { g with pc := g.pc + 3, stack := v.toList ++ rest })) :
    ∃ (T' : State) (L L' : List Loc), Stand p l e R s m args below meth c T' L' (cells + rc) (slots + rs) ∧ Fr n0 L' ∧ Q val T'.heap L ∧ Steps p.tables e below s₀ (T'.setTop { g with pc := g.pc + 3, stack := val.toList ++ rest }) := by
  obtain ⟨v, vm₁, ⟨T', L', k', n'⟩, -, X, ⟨L, q, l1, l2, l3⟩, st⟩ := H
  subst l1 l2 l3
  obtain ⟨hv1, hv2⟩ := hv _ _ _ q
  cases hv1
  exact ⟨T', L, _, X, N.app hv2, q, st⟩
theorem own_gl {n0 : Nat} (X : Stand p l e R s m args below meth c T locs cells slots) (N : Fr n0 locs) : ∃ L, Stand p l e R s m args below meth c T L cells slots ∧ Fr n0 L := ⟨_, X, N⟩
theorem own_selfsel {y : MethodName} {n : Nat} (wi : (Jvm.Cond.instantiable y.cls n).before args s = true) (hp : s.PrivateAt y) (hi : (Jvm.Cond.instanceMethod y).before args s = true) (hy : y.cls ≠ "java/lang/invoke/MethodHandle" ∧ y.cls ≠ "java/lang/invoke/VarHandle") : (Jvm.Cond.selects y.cls y y).before args s = true := by
  obtain ⟨c, k, h1, h2, -, h4, -⟩ := Cond.instantiable_spec wi
  exact selects_self_of_private h1 h2 (Bool.or_eq_false_iff.mp h4).1 hp hi hy
theorem own_cast {a b : State} (q : a = b) (h : own_End p e below s Q K N b E) : own_End p e below s Q K N a E := q ▸ h
theorem own_iadd (X : Stand p l e R s' m args below meth c T locs cells slots) (hx : p.tables.exec = Jvm.exec) {pc q : Nat} {Ls : Array Slot} {rest : List Value} (hd : decode c.code pc = .ok (.iadd, 1)) {x y : Int32} (hq : pc + 1 = q) (h : own_End p e below s Q K N (T.setTop (mkF m q Ls (.int (x + y) :: rest))) E) : own_End p e below s Q K N (T.setTop (mkF m pc Ls (.int y :: .int x :: rest))) E := by
  subst hq; exact own_back (fun _ k => XS.iadd X.here hx rfl hd rfl k) h
theorem own_isub (X : Stand p l e R s' m args below meth c T locs cells slots) (hx : p.tables.exec = Jvm.exec) {pc q : Nat} {Ls : Array Slot} {rest : List Value} (hd : decode c.code pc = .ok (.isub, 1)) {x y : Int32} (hq : pc + 1 = q) (h : own_End p e below s Q K N (T.setTop (mkF m q Ls (.int (x - y) :: rest))) E) : own_End p e below s Q K N (T.setTop (mkF m pc Ls (.int y :: .int x :: rest))) E := by
  subst hq; exact own_back (fun _ k => XS.isub X.here hx rfl hd rfl k) h
theorem own_imul (X : Stand p l e R s' m args below meth c T locs cells slots) (hx : p.tables.exec = Jvm.exec) {pc q : Nat} {Ls : Array Slot} {rest : List Value} (hd : decode c.code pc = .ok (.imul, 1)) {x y : Int32} (hq : pc + 1 = q) (h : own_End p e below s Q K N (T.setTop (mkF m q Ls (.int (x * y) :: rest))) E) : own_End p e below s Q K N (T.setTop (mkF m pc Ls (.int y :: .int x :: rest))) E := by
  subst hq; exact own_back (fun _ k => XS.imul X.here hx rfl hd rfl k) h
theorem own_iand (X : Stand p l e R s' m args below meth c T locs cells slots) (hx : p.tables.exec = Jvm.exec) {pc q : Nat} {Ls : Array Slot} {rest : List Value} (hd : decode c.code pc = .ok (.iand, 1)) {x y : Int32} (hq : pc + 1 = q) (h : own_End p e below s Q K N (T.setTop (mkF m q Ls (.int (x &&& y) :: rest))) E) : own_End p e below s Q K N (T.setTop (mkF m pc Ls (.int y :: .int x :: rest))) E := by
  subst hq; exact own_back (fun _ k => XS.iand X.here hx rfl hd rfl k) h
theorem own_ior (X : Stand p l e R s' m args below meth c T locs cells slots) (hx : p.tables.exec = Jvm.exec) {pc q : Nat} {Ls : Array Slot} {rest : List Value} (hd : decode c.code pc = .ok (.ior, 1)) {x y : Int32} (hq : pc + 1 = q) (h : own_End p e below s Q K N (T.setTop (mkF m q Ls (.int (x ||| y) :: rest))) E) : own_End p e below s Q K N (T.setTop (mkF m pc Ls (.int y :: .int x :: rest))) E := by
  subst hq; exact own_back (fun _ k => XS.ior X.here hx rfl hd rfl k) h
theorem own_ixor (X : Stand p l e R s' m args below meth c T locs cells slots) (hx : p.tables.exec = Jvm.exec) {pc q : Nat} {Ls : Array Slot} {rest : List Value} (hd : decode c.code pc = .ok (.ixor, 1)) {x y : Int32} (hq : pc + 1 = q) (h : own_End p e below s Q K N (T.setTop (mkF m q Ls (.int (x ^^^ y) :: rest))) E) : own_End p e below s Q K N (T.setTop (mkF m pc Ls (.int y :: .int x :: rest))) E := by
  subst hq; exact own_back (fun _ k => XS.ixor X.here hx rfl hd rfl k) h
theorem own_ishl (X : Stand p l e R s' m args below meth c T locs cells slots) (hx : p.tables.exec = Jvm.exec) {pc q : Nat} {Ls : Array Slot} {rest : List Value} (hd : decode c.code pc = .ok (.ishl, 1)) {x y : Int32} (hq : pc + 1 = q) (h : own_End p e below s Q K N (T.setTop (mkF m q Ls (.int (x <<< (y &&& 31)) :: rest))) E) : own_End p e below s Q K N (T.setTop (mkF m pc Ls (.int y :: .int x :: rest))) E := by
  subst hq; exact own_back (fun _ k => XS.ishl X.here hx rfl hd rfl k) h
theorem own_ishr (X : Stand p l e R s' m args below meth c T locs cells slots) (hx : p.tables.exec = Jvm.exec) {pc q : Nat} {Ls : Array Slot} {rest : List Value} (hd : decode c.code pc = .ok (.ishr, 1)) {x y : Int32} (hq : pc + 1 = q) (h : own_End p e below s Q K N (T.setTop (mkF m q Ls (.int (x >>> (y &&& 31)) :: rest))) E) : own_End p e below s Q K N (T.setTop (mkF m pc Ls (.int y :: .int x :: rest))) E := by
  subst hq; exact own_back (fun _ k => XS.ishr X.here hx rfl hd rfl k) h
theorem own_iushr (X : Stand p l e R s' m args below meth c T locs cells slots) (hx : p.tables.exec = Jvm.exec) {pc q : Nat} {Ls : Array Slot} {rest : List Value} (hd : decode c.code pc = .ok (.iushr, 1)) {x y : Int32} (hq : pc + 1 = q) (h : own_End p e below s Q K N (T.setTop (mkF m q Ls (.int ((x.toUInt32 >>> (y &&& 31).toUInt32).toInt32) :: rest))) E) : own_End p e below s Q K N (T.setTop (mkF m pc Ls (.int y :: .int x :: rest))) E := by
  subst hq; exact own_back (fun _ k => XS.iushr X.here hx rfl hd rfl k) h
theorem own_ladd (X : Stand p l e R s' m args below meth c T locs cells slots) (hx : p.tables.exec = Jvm.exec) {pc q : Nat} {Ls : Array Slot} {rest : List Value} (hd : decode c.code pc = .ok (.ladd, 1)) {x y : Int64} (hq : pc + 1 = q) (h : own_End p e below s Q K N (T.setTop (mkF m q Ls (.long (x + y) :: rest))) E) : own_End p e below s Q K N (T.setTop (mkF m pc Ls (.long y :: .long x :: rest))) E := by
  subst hq; exact own_back (fun _ k => XS.ladd X.here hx rfl hd rfl k) h
theorem own_lsub (X : Stand p l e R s' m args below meth c T locs cells slots) (hx : p.tables.exec = Jvm.exec) {pc q : Nat} {Ls : Array Slot} {rest : List Value} (hd : decode c.code pc = .ok (.lsub, 1)) {x y : Int64} (hq : pc + 1 = q) (h : own_End p e below s Q K N (T.setTop (mkF m q Ls (.long (x - y) :: rest))) E) : own_End p e below s Q K N (T.setTop (mkF m pc Ls (.long y :: .long x :: rest))) E := by
  subst hq; exact own_back (fun _ k => XS.lsub X.here hx rfl hd rfl k) h
theorem own_lmul (X : Stand p l e R s' m args below meth c T locs cells slots) (hx : p.tables.exec = Jvm.exec) {pc q : Nat} {Ls : Array Slot} {rest : List Value} (hd : decode c.code pc = .ok (.lmul, 1)) {x y : Int64} (hq : pc + 1 = q) (h : own_End p e below s Q K N (T.setTop (mkF m q Ls (.long (x * y) :: rest))) E) : own_End p e below s Q K N (T.setTop (mkF m pc Ls (.long y :: .long x :: rest))) E := by
  subst hq; exact own_back (fun _ k => XS.lmul X.here hx rfl hd rfl k) h
theorem own_land (X : Stand p l e R s' m args below meth c T locs cells slots) (hx : p.tables.exec = Jvm.exec) {pc q : Nat} {Ls : Array Slot} {rest : List Value} (hd : decode c.code pc = .ok (.land, 1)) {x y : Int64} (hq : pc + 1 = q) (h : own_End p e below s Q K N (T.setTop (mkF m q Ls (.long (x &&& y) :: rest))) E) : own_End p e below s Q K N (T.setTop (mkF m pc Ls (.long y :: .long x :: rest))) E := by
  subst hq; exact own_back (fun _ k => XS.land X.here hx rfl hd rfl k) h
theorem own_lor (X : Stand p l e R s' m args below meth c T locs cells slots) (hx : p.tables.exec = Jvm.exec) {pc q : Nat} {Ls : Array Slot} {rest : List Value} (hd : decode c.code pc = .ok (.lor, 1)) {x y : Int64} (hq : pc + 1 = q) (h : own_End p e below s Q K N (T.setTop (mkF m q Ls (.long (x ||| y) :: rest))) E) : own_End p e below s Q K N (T.setTop (mkF m pc Ls (.long y :: .long x :: rest))) E := by
  subst hq; exact own_back (fun _ k => XS.lor X.here hx rfl hd rfl k) h
theorem own_lxor (X : Stand p l e R s' m args below meth c T locs cells slots) (hx : p.tables.exec = Jvm.exec) {pc q : Nat} {Ls : Array Slot} {rest : List Value} (hd : decode c.code pc = .ok (.lxor, 1)) {x y : Int64} (hq : pc + 1 = q) (h : own_End p e below s Q K N (T.setTop (mkF m q Ls (.long (x ^^^ y) :: rest))) E) : own_End p e below s Q K N (T.setTop (mkF m pc Ls (.long y :: .long x :: rest))) E := by
  subst hq; exact own_back (fun _ k => XS.lxor X.here hx rfl hd rfl k) h
theorem own_lshl (X : Stand p l e R s' m args below meth c T locs cells slots) (hx : p.tables.exec = Jvm.exec) {pc q : Nat} {Ls : Array Slot} {rest : List Value} (hd : decode c.code pc = .ok (.lshl, 1)) {x : Int64} {y : Int32} (hq : pc + 1 = q) (h : own_End p e below s Q K N (T.setTop (mkF m q Ls (.long (x <<< (y &&& 0x3f).toInt64) :: rest))) E) : own_End p e below s Q K N (T.setTop (mkF m pc Ls (.int y :: .long x :: rest))) E := by
  subst hq; exact own_back (fun _ k => XS.lshl X.here hx rfl hd rfl k) h
theorem own_lshr (X : Stand p l e R s' m args below meth c T locs cells slots) (hx : p.tables.exec = Jvm.exec) {pc q : Nat} {Ls : Array Slot} {rest : List Value} (hd : decode c.code pc = .ok (.lshr, 1)) {x : Int64} {y : Int32} (hq : pc + 1 = q) (h : own_End p e below s Q K N (T.setTop (mkF m q Ls (.long (x >>> (y &&& 0x3f).toInt64) :: rest))) E) : own_End p e below s Q K N (T.setTop (mkF m pc Ls (.int y :: .long x :: rest))) E := by
  subst hq; exact own_back (fun _ k => XS.lshr X.here hx rfl hd rfl k) h
theorem own_lushr (X : Stand p l e R s' m args below meth c T locs cells slots) (hx : p.tables.exec = Jvm.exec) {pc q : Nat} {Ls : Array Slot} {rest : List Value} (hd : decode c.code pc = .ok (.lushr, 1)) {x : Int64} {y : Int32} (hq : pc + 1 = q) (h : own_End p e below s Q K N (T.setTop (mkF m q Ls (.long ((x.toUInt64 >>> (y &&& 0x3f).toInt64.toUInt64).toInt64) :: rest))) E) : own_End p e below s Q K N (T.setTop (mkF m pc Ls (.int y :: .long x :: rest))) E := by
  subst hq; exact own_back (fun _ k => XS.lushr X.here hx rfl hd rfl k) h
theorem own_idiv (X : Stand p l e R s' m args below meth c T locs cells slots) (hx : p.tables.exec = Jvm.exec) {pc q : Nat} {Ls : Array Slot} {rest : List Value} (hd : decode c.code pc = .ok (.idiv, 1)) {x y : Int32} (hy : y ≠ 0) (hq : pc + 1 = q) (h : own_End p e below s Q K N (T.setTop (mkF m q Ls (.int (x / y) :: rest))) E) : own_End p e below s Q K N (T.setTop (mkF m pc Ls (.int y :: .int x :: rest))) E := by
  subst hq; exact own_back (fun _ k => XS.idiv X.here hx rfl hd rfl hy k) h
theorem own_irem (X : Stand p l e R s' m args below meth c T locs cells slots) (hx : p.tables.exec = Jvm.exec) {pc q : Nat} {Ls : Array Slot} {rest : List Value} (hd : decode c.code pc = .ok (.irem, 1)) {x y : Int32} (hy : y ≠ 0) (hq : pc + 1 = q) (h : own_End p e below s Q K N (T.setTop (mkF m q Ls (.int (x % y) :: rest))) E) : own_End p e below s Q K N (T.setTop (mkF m pc Ls (.int y :: .int x :: rest))) E := by
  subst hq; exact own_back (fun _ k => iremM X hx rfl hd rfl hy k) h
theorem own_ldiv (X : Stand p l e R s' m args below meth c T locs cells slots) (hx : p.tables.exec = Jvm.exec) {pc q : Nat} {Ls : Array Slot} {rest : List Value} (hd : decode c.code pc = .ok (.ldiv, 1)) {x y : Int64} (hy : y ≠ 0) (hq : pc + 1 = q) (h : own_End p e below s Q K N (T.setTop (mkF m q Ls (.long (x / y) :: rest))) E) : own_End p e below s Q K N (T.setTop (mkF m pc Ls (.long y :: .long x :: rest))) E := by
  subst hq; exact own_back (fun _ k => XS.ldiv X.here hx rfl hd rfl hy k) h
theorem own_lrem (X : Stand p l e R s' m args below meth c T locs cells slots) (hx : p.tables.exec = Jvm.exec) {pc q : Nat} {Ls : Array Slot} {rest : List Value} (hd : decode c.code pc = .ok (.lrem, 1)) {x y : Int64} (hy : y ≠ 0) (hq : pc + 1 = q) (h : own_End p e below s Q K N (T.setTop (mkF m q Ls (.long (x - (x / y) * y) :: rest))) E) : own_End p e below s Q K N (T.setTop (mkF m pc Ls (.long y :: .long x :: rest))) E := by
  subst hq; exact own_back (fun _ k => XS.lrem X.here hx rfl hd rfl hy k) h
theorem own_ineg (X : Stand p l e R s' m args below meth c T locs cells slots) (hx : p.tables.exec = Jvm.exec) {pc q : Nat} {Ls : Array Slot} {rest : List Value} (hd : decode c.code pc = .ok (.ineg, 1)) {x : Int32} (hq : pc + 1 = q) (h : own_End p e below s Q K N (T.setTop (mkF m q Ls (.int (-x) :: rest))) E) : own_End p e below s Q K N (T.setTop (mkF m pc Ls (.int x :: rest))) E := by
  subst hq; exact own_back (fun _ k => XS.ineg X.here hx rfl hd rfl k) h
theorem own_lneg (X : Stand p l e R s' m args below meth c T locs cells slots) (hx : p.tables.exec = Jvm.exec) {pc q : Nat} {Ls : Array Slot} {rest : List Value} (hd : decode c.code pc = .ok (.lneg, 1)) {x : Int64} (hq : pc + 1 = q) (h : own_End p e below s Q K N (T.setTop (mkF m q Ls (.long (-x) :: rest))) E) : own_End p e below s Q K N (T.setTop (mkF m pc Ls (.long x :: rest))) E := by
  subst hq; exact own_back (fun _ k => XS.lneg X.here hx rfl hd rfl k) h
theorem own_i2l (X : Stand p l e R s' m args below meth c T locs cells slots) (hx : p.tables.exec = Jvm.exec) {pc q : Nat} {Ls : Array Slot} {rest : List Value} (hd : decode c.code pc = .ok (.i2l, 1)) {x : Int32} (hq : pc + 1 = q) (h : own_End p e below s Q K N (T.setTop (mkF m q Ls (.long (x.toInt64) :: rest))) E) : own_End p e below s Q K N (T.setTop (mkF m pc Ls (.int x :: rest))) E := by
  subst hq; exact own_back (fun _ k => XS.i2l X.here hx rfl hd rfl k) h
theorem own_l2i (X : Stand p l e R s' m args below meth c T locs cells slots) (hx : p.tables.exec = Jvm.exec) {pc q : Nat} {Ls : Array Slot} {rest : List Value} (hd : decode c.code pc = .ok (.l2i, 1)) {x : Int64} (hq : pc + 1 = q) (h : own_End p e below s Q K N (T.setTop (mkF m q Ls (.int (x.toInt32) :: rest))) E) : own_End p e below s Q K N (T.setTop (mkF m pc Ls (.long x :: rest))) E := by
  subst hq; exact own_back (fun _ k => XS.l2i X.here hx rfl hd rfl k) h
theorem own_i2c (X : Stand p l e R s' m args below meth c T locs cells slots) (hx : p.tables.exec = Jvm.exec) {pc q : Nat} {Ls : Array Slot} {rest : List Value} (hd : decode c.code pc = .ok (.i2c, 1)) {x : Int32} (hq : pc + 1 = q) (h : own_End p e below s Q K N (T.setTop (mkF m q Ls (.int (x.toUInt32.toUInt16.toUInt32.toInt32) :: rest))) E) : own_End p e below s Q K N (T.setTop (mkF m pc Ls (.int x :: rest))) E := by
  subst hq; exact own_back (fun _ k => XS.i2c X.here hx rfl hd rfl k) h
theorem own_i2b (X : Stand p l e R s' m args below meth c T locs cells slots) (hx : p.tables.exec = Jvm.exec) {pc q : Nat} {Ls : Array Slot} {rest : List Value} (hd : decode c.code pc = .ok (.i2b, 1)) {x : Int32} (hq : pc + 1 = q) (h : own_End p e below s Q K N (T.setTop (mkF m q Ls (.int (x.toInt8.toInt32) :: rest))) E) : own_End p e below s Q K N (T.setTop (mkF m pc Ls (.int x :: rest))) E := by
  subst hq; exact own_back (fun _ k => XS.i2b X.here hx rfl hd rfl k) h
theorem own_i2s (X : Stand p l e R s' m args below meth c T locs cells slots) (hx : p.tables.exec = Jvm.exec) {pc q : Nat} {Ls : Array Slot} {rest : List Value} (hd : decode c.code pc = .ok (.i2s, 1)) {x : Int32} (hq : pc + 1 = q) (h : own_End p e below s Q K N (T.setTop (mkF m q Ls (.int (x.toInt16.toInt32) :: rest))) E) : own_End p e below s Q K N (T.setTop (mkF m pc Ls (.int x :: rest))) E := by
  subst hq; exact own_back (fun _ k => XS.i2s X.here hx rfl hd rfl k) h
theorem own_lcmp (X : Stand p l e R s' m args below meth c T locs cells slots) (hx : p.tables.exec = Jvm.exec) {pc q : Nat} {Ls : Array Slot} {rest : List Value} (hd : decode c.code pc = .ok (.lcmp, 1)) {x y : Int64} (hq : pc + 1 = q) (h : own_End p e below s Q K N (T.setTop (mkF m q Ls (.int (lcmpW x y) :: rest))) E) : own_End p e below s Q K N (T.setTop (mkF m pc Ls (.long y :: .long x :: rest))) E := by
  subst hq; exact own_back (fun _ k => XS.lcmp X.here hx rfl hd rfl k) h
theorem own_dup (X : Stand p l e R s' m args below meth c T locs cells slots) (hx : p.tables.exec = Jvm.exec) {pc q : Nat} {Ls : Array Slot} {rest : List Value} (hd : decode c.code pc = .ok (.dup, 1)) {v : Value} (hv : v.category = 1) (hq : pc + 1 = q) (h : own_End p e below s Q K N (T.setTop (mkF m q Ls (v :: v :: rest))) E) : own_End p e below s Q K N (T.setTop (mkF m pc Ls (v :: rest))) E := by
  subst hq; exact own_back (fun _ k => XS.dup X.here hx rfl hd rfl hv k) h
theorem own_dupx1 (X : Stand p l e R s' m args below meth c T locs cells slots) (hx : p.tables.exec = Jvm.exec) {pc q : Nat} {Ls : Array Slot} {rest : List Value} (hd : decode c.code pc = .ok (.dup_x1, 1)) {v w : Value} (hv : v.category = 1) (hw : w.category = 1) (hq : pc + 1 = q) (h : own_End p e below s Q K N (T.setTop (mkF m q Ls (v :: w :: v :: rest))) E) : own_End p e below s Q K N (T.setTop (mkF m pc Ls (v :: w :: rest))) E := by
  subst hq; exact own_back (fun _ k => XS.dupX1 X.here hx rfl hd rfl hv hw k) h
theorem own_pop (X : Stand p l e R s' m args below meth c T locs cells slots) (hx : p.tables.exec = Jvm.exec) {pc q : Nat} {Ls : Array Slot} {rest : List Value} (hd : decode c.code pc = .ok (.pop, 1)) {v : Value} (hv : v.category = 1) (hq : pc + 1 = q) (h : own_End p e below s Q K N (T.setTop (mkF m q Ls (rest))) E) : own_End p e below s Q K N (T.setTop (mkF m pc Ls (v :: rest))) E := by
  subst hq; exact own_back (fun _ k => XS.pop X.here hx rfl hd rfl hv k) h
theorem own_anull (X : Stand p l e R s' m args below meth c T locs cells slots) (hx : p.tables.exec = Jvm.exec) {pc q : Nat} {Ls : Array Slot} {rest : List Value} (hd : decode c.code pc = .ok (.aconst_null, 1))  (hq : pc + 1 = q) (h : own_End p e below s Q K N (T.setTop (mkF m q Ls (.null :: rest))) E) : own_End p e below s Q K N (T.setTop (mkF m pc Ls (rest))) E := by
  subst hq; exact own_back (fun _ k => XS.aconstNull X.here hx rfl hd k) h
theorem own_iload (X : Stand p l e R s' m args below meth c T locs cells slots) (hx : p.tables.exec = Jvm.exec) {pc q : Nat} {Ls : Array Slot} {rest : List Value} {k : Nat} {v : Int32} (hd : decode c.code pc = .ok (.iload k, 2)) (hl : Ls[k]? = some (.val (.int v))) (hq : pc + 2 = q) (h : own_End p e below s Q K N (T.setTop (mkF m q Ls (.int v :: rest))) E) : own_End p e below s Q K N (T.setTop (mkF m pc Ls (rest))) E := by
  subst hq; exact own_back (fun _ k => XS.iload X.here hx rfl hd hl k) h
theorem own_iloadN (X : Stand p l e R s' m args below meth c T locs cells slots) (hx : p.tables.exec = Jvm.exec) {pc q : Nat} {Ls : Array Slot} {rest : List Value} {k : Fin 4} {v : Int32} (hd : decode c.code pc = .ok (.iload_n k, 1)) (hl : Ls[k.val]? = some (.val (.int v))) (hq : pc + 1 = q) (h : own_End p e below s Q K N (T.setTop (mkF m q Ls (.int v :: rest))) E) : own_End p e below s Q K N (T.setTop (mkF m pc Ls (rest))) E := by
  subst hq; exact own_back (fun _ k => XS.iloadN X.here hx rfl hd hl k) h
theorem own_istore (X : Stand p l e R s' m args below meth c T locs cells slots) (hx : p.tables.exec = Jvm.exec) {pc q : Nat} {Ls : Array Slot} {rest : List Value} {k : Nat} {v : Int32} {l' : Array Slot} (hd : decode c.code pc = .ok (.istore k, 2)) (hl : storeLocals Ls k (.int v) = some l') (hq : pc + 2 = q) (h : own_End p e below s Q K N (T.setTop (mkF m q l' (rest))) E) : own_End p e below s Q K N (T.setTop (mkF m pc Ls (.int v :: rest))) E := by
  subst hq; exact own_back (fun _ k => XS.istore X.here hx rfl hd rfl hl k) h
theorem own_istoreN (X : Stand p l e R s' m args below meth c T locs cells slots) (hx : p.tables.exec = Jvm.exec) {pc q : Nat} {Ls : Array Slot} {rest : List Value} {k : Fin 4} {v : Int32} {l' : Array Slot} (hd : decode c.code pc = .ok (.istore_n k, 1)) (hl : storeLocals Ls k.val (.int v) = some l') (hq : pc + 1 = q) (h : own_End p e below s Q K N (T.setTop (mkF m q l' (rest))) E) : own_End p e below s Q K N (T.setTop (mkF m pc Ls (.int v :: rest))) E := by
  subst hq; exact own_back (fun _ k => XS.istoreN X.here hx rfl hd rfl hl k) h
theorem own_lload (X : Stand p l e R s' m args below meth c T locs cells slots) (hx : p.tables.exec = Jvm.exec) {pc q : Nat} {Ls : Array Slot} {rest : List Value} {k : Nat} {v : Int64} (hd : decode c.code pc = .ok (.lload k, 2)) (hl : Ls[k]? = some (.val (.long v))) (hq : pc + 2 = q) (h : own_End p e below s Q K N (T.setTop (mkF m q Ls (.long v :: rest))) E) : own_End p e below s Q K N (T.setTop (mkF m pc Ls (rest))) E := by
  subst hq; exact own_back (fun _ k => XS.lload X.here hx rfl hd hl k) h
theorem own_lloadN (X : Stand p l e R s' m args below meth c T locs cells slots) (hx : p.tables.exec = Jvm.exec) {pc q : Nat} {Ls : Array Slot} {rest : List Value} {k : Fin 4} {v : Int64} (hd : decode c.code pc = .ok (.lload_n k, 1)) (hl : Ls[k.val]? = some (.val (.long v))) (hq : pc + 1 = q) (h : own_End p e below s Q K N (T.setTop (mkF m q Ls (.long v :: rest))) E) : own_End p e below s Q K N (T.setTop (mkF m pc Ls (rest))) E := by
  subst hq; exact own_back (fun _ k => XS.lloadN X.here hx rfl hd hl k) h
theorem own_lstore (X : Stand p l e R s' m args below meth c T locs cells slots) (hx : p.tables.exec = Jvm.exec) {pc q : Nat} {Ls : Array Slot} {rest : List Value} {k : Nat} {v : Int64} {l' : Array Slot} (hd : decode c.code pc = .ok (.lstore k, 2)) (hl : storeLocals Ls k (.long v) = some l') (hq : pc + 2 = q) (h : own_End p e below s Q K N (T.setTop (mkF m q l' (rest))) E) : own_End p e below s Q K N (T.setTop (mkF m pc Ls (.long v :: rest))) E := by
  subst hq; exact own_back (fun _ k => XS.lstore X.here hx rfl hd rfl hl k) h
theorem own_lstoreN (X : Stand p l e R s' m args below meth c T locs cells slots) (hx : p.tables.exec = Jvm.exec) {pc q : Nat} {Ls : Array Slot} {rest : List Value} {k : Fin 4} {v : Int64} {l' : Array Slot} (hd : decode c.code pc = .ok (.lstore_n k, 1)) (hl : storeLocals Ls k.val (.long v) = some l') (hq : pc + 1 = q) (h : own_End p e below s Q K N (T.setTop (mkF m q l' (rest))) E) : own_End p e below s Q K N (T.setTop (mkF m pc Ls (.long v :: rest))) E := by
  subst hq; exact own_back (fun _ k => XS.lstoreN X.here hx rfl hd rfl hl k) h
theorem own_aload (X : Stand p l e R s' m args below meth c T locs cells slots) (hx : p.tables.exec = Jvm.exec) {pc q : Nat} {Ls : Array Slot} {rest : List Value} {k : Nat} {v : Value} (hd : decode c.code pc = .ok (.aload k, 2)) (hl : Ls[k]? = some (.val v)) (hv : v.isRef = true) (hq : pc + 2 = q) (h : own_End p e below s Q K N (T.setTop (mkF m q Ls (v :: rest))) E) : own_End p e below s Q K N (T.setTop (mkF m pc Ls (rest))) E := by
  subst hq; exact own_back (fun _ k => XS.aload X.here hx rfl hd hl hv k) h
theorem own_aloadN (X : Stand p l e R s' m args below meth c T locs cells slots) (hx : p.tables.exec = Jvm.exec) {pc q : Nat} {Ls : Array Slot} {rest : List Value} {k : Fin 4} {v : Value} (hd : decode c.code pc = .ok (.aload_n k, 1)) (hl : Ls[k.val]? = some (.val v)) (hv : v.isRef = true) (hq : pc + 1 = q) (h : own_End p e below s Q K N (T.setTop (mkF m q Ls (v :: rest))) E) : own_End p e below s Q K N (T.setTop (mkF m pc Ls (rest))) E := by
  subst hq; exact own_back (fun _ k => XS.aloadN X.here hx rfl hd hl hv k) h
theorem own_astore (X : Stand p l e R s' m args below meth c T locs cells slots) (hx : p.tables.exec = Jvm.exec) {pc q : Nat} {Ls : Array Slot} {rest : List Value} {k : Nat} {v : Value} {l' : Array Slot} (hd : decode c.code pc = .ok (.astore k, 2)) (hv : v.isRef = true) (hl : storeLocals Ls k v = some l') (hq : pc + 2 = q) (h : own_End p e below s Q K N (T.setTop (mkF m q l' (rest))) E) : own_End p e below s Q K N (T.setTop (mkF m pc Ls (v :: rest))) E := by
  subst hq; exact own_back (fun _ k => XS.astore X.here hx rfl hd rfl hv hl k) h
theorem own_astoreN (X : Stand p l e R s' m args below meth c T locs cells slots) (hx : p.tables.exec = Jvm.exec) {pc q : Nat} {Ls : Array Slot} {rest : List Value} {k : Fin 4} {v : Value} {l' : Array Slot} (hd : decode c.code pc = .ok (.astore_n k, 1)) (hv : v.isRef = true) (hl : storeLocals Ls k.val v = some l') (hq : pc + 1 = q) (h : own_End p e below s Q K N (T.setTop (mkF m q l' (rest))) E) : own_End p e below s Q K N (T.setTop (mkF m pc Ls (v :: rest))) E := by
  subst hq; exact own_back (fun _ k => XS.astoreN X.here hx rfl hd rfl hv hl k) h
theorem own_iinc (X : Stand p l e R s' m args below meth c T locs cells slots) (hx : p.tables.exec = Jvm.exec) {pc q : Nat} {Ls : Array Slot} {rest : List Value} {k : Nat} {cst : Int} {x z : Int32} {l' : Array Slot} (hd : decode c.code pc = .ok (.iinc k cst, 3)) (hl : Ls[k]? = some (.val (.int x))) (hz : Int32.ofInt cst = z) (hl' : storeLocals Ls k (.int (x + z)) = some l') (hq : pc + 3 = q) (h : own_End p e below s Q K N (T.setTop (mkF m q l' (rest))) E) : own_End p e below s Q K N (T.setTop (mkF m pc Ls (rest))) E := by
  subst hq hz; exact own_back (fun _ k => XS.iinc X.here hx rfl hd hl hl' k) h
theorem own_iconst (X : Stand p l e R s' m args below meth c T locs cells slots) (hx : p.tables.exec = Jvm.exec) {pc q : Nat} {Ls : Array Slot} {rest : List Value} {i : Int} {z : Int32} (hd : decode c.code pc = .ok (.iconst i, 1)) (hz : Int32.ofInt i = z) (hq : pc + 1 = q) (h : own_End p e below s Q K N (T.setTop (mkF m q Ls (.int z :: rest))) E) : own_End p e below s Q K N (T.setTop (mkF m pc Ls (rest))) E := by
  subst hq hz; exact own_back (fun _ k => XS.iconst X.here hx rfl hd k) h
theorem own_bipush (X : Stand p l e R s' m args below meth c T locs cells slots) (hx : p.tables.exec = Jvm.exec) {pc q : Nat} {Ls : Array Slot} {rest : List Value} {i : Int} {z : Int32} (hd : decode c.code pc = .ok (.bipush i, 2)) (hz : (Int8.ofInt i).toInt32 = z) (hq : pc + 2 = q) (h : own_End p e below s Q K N (T.setTop (mkF m q Ls (.int z :: rest))) E) : own_End p e below s Q K N (T.setTop (mkF m pc Ls (rest))) E := by
  subst hq hz; exact own_back (fun _ k => XS.bipush X.here hx rfl hd k) h
theorem own_sipush (X : Stand p l e R s' m args below meth c T locs cells slots) (hx : p.tables.exec = Jvm.exec) {pc q : Nat} {Ls : Array Slot} {rest : List Value} {i : Int} {z : Int32} (hd : decode c.code pc = .ok (.sipush i, 3)) (hz : (Int16.ofInt i).toInt32 = z) (hq : pc + 3 = q) (h : own_End p e below s Q K N (T.setTop (mkF m q Ls (.int z :: rest))) E) : own_End p e below s Q K N (T.setTop (mkF m pc Ls (rest))) E := by
  subst hq hz; exact own_back (fun _ k => XS.sipush X.here hx rfl hd k) h
theorem own_lconst (X : Stand p l e R s' m args below meth c T locs cells slots) (hx : p.tables.exec = Jvm.exec) {pc q : Nat} {Ls : Array Slot} {rest : List Value} {i : Fin 2} {z : Int64} (hd : decode c.code pc = .ok (.lconst i, 1)) (hz : Int64.ofNat i = z) (hq : pc + 1 = q) (h : own_End p e below s Q K N (T.setTop (mkF m q Ls (.long z :: rest))) E) : own_End p e below s Q K N (T.setTop (mkF m pc Ls (rest))) E := by
  subst hq hz; exact own_back (fun _ k => XS.lconst X.here hx rfl hd k) h
theorem own_goto (X : Stand p l e R s' m args below meth c T locs cells slots) (hx : p.tables.exec = Jvm.exec) {pc q : Nat} {Ls : Array Slot} {rest : List Value} {o : Int} (hd : decode c.code pc = .ok (.goto o, 3)) (ho : 0 ≤ (pc : Int) + o) (hp : ((pc : Int) + o).toNat = q) (h : own_End p e below s Q K N (T.setTop (mkF m q Ls (rest))) E) : own_End p e below s Q K N (T.setTop (mkF m pc Ls (rest))) E := by
  exact own_back (fun _ k => XS.goto X.here hx rfl (pc0 := pc) (pc' := q) rfl hd ho hp k) h
theorem own_ifY (X : Stand p l e R s' m args below meth c T locs cells slots) (hx : p.tables.exec = Jvm.exec) {pc q : Nat} {Ls : Array Slot} {rest : List Value} {cd : ClassFile.Cond} {x : Int32} {o : Int} (hd : decode c.code pc = .ok (.ifCond cd o, 3)) (hc : if_icmp.holds cd x 0 = true) (ho : 0 ≤ (pc : Int) + o) (hp : ((pc : Int) + o).toNat = q) (h : own_End p e below s Q K N (T.setTop (mkF m q Ls (rest))) E) : own_End p e below s Q K N (T.setTop (mkF m pc Ls (.int x :: rest))) E := by
  exact own_back (fun _ k => XS.ifYes X.here hx rfl (pc0 := pc) (pc' := q) rfl hd rfl ((if0 _ _).trans hc) ho hp k) h
theorem own_ifN (X : Stand p l e R s' m args below meth c T locs cells slots) (hx : p.tables.exec = Jvm.exec) {pc q : Nat} {Ls : Array Slot} {rest : List Value} {cd : ClassFile.Cond} {x : Int32} {o : Int} (hd : decode c.code pc = .ok (.ifCond cd o, 3)) (hc : if_icmp.holds cd x 0 = false) (hq : pc + 3 = q) (h : own_End p e below s Q K N (T.setTop (mkF m q Ls (rest))) E) : own_End p e below s Q K N (T.setTop (mkF m pc Ls (.int x :: rest))) E := by
  subst hq; exact own_back (fun _ k => XS.ifNo X.here hx rfl hd rfl ((if0 _ _).trans hc) k) h
theorem own_icY (X : Stand p l e R s' m args below meth c T locs cells slots) (hx : p.tables.exec = Jvm.exec) {pc q : Nat} {Ls : Array Slot} {rest : List Value} {cd : ClassFile.Cond} {x y : Int32} {o : Int} (hd : decode c.code pc = .ok (.if_icmp cd o, 3)) (hc : if_icmp.holds cd x y = true) (ho : 0 ≤ (pc : Int) + o) (hp : ((pc : Int) + o).toNat = q) (h : own_End p e below s Q K N (T.setTop (mkF m q Ls (rest))) E) : own_End p e below s Q K N (T.setTop (mkF m pc Ls (.int y :: .int x :: rest))) E := by
  exact own_back (fun _ k => XS.icmpYes X.here hx rfl (pc0 := pc) (pc' := q) rfl hd rfl hc ho hp k) h
theorem own_icN (X : Stand p l e R s' m args below meth c T locs cells slots) (hx : p.tables.exec = Jvm.exec) {pc q : Nat} {Ls : Array Slot} {rest : List Value} {cd : ClassFile.Cond} {x y : Int32} {o : Int} (hd : decode c.code pc = .ok (.if_icmp cd o, 3)) (hc : if_icmp.holds cd x y = false) (hq : pc + 3 = q) (h : own_End p e below s Q K N (T.setTop (mkF m q Ls (rest))) E) : own_End p e below s Q K N (T.setTop (mkF m pc Ls (.int y :: .int x :: rest))) E := by
  subst hq; exact own_back (fun _ k => XS.icmpNo X.here hx rfl hd rfl hc k) h
theorem own_lcY (X : Stand p l e R s' m args below meth c T locs cells slots) (hx : p.tables.exec = Jvm.exec) {pc r q : Nat} {Ls : Array Slot} {rest : List Value} {cd : ClassFile.Cond} {x y : Int64} {o : Int} (hd : decode c.code pc = .ok (.lcmp, 1)) (hr : pc + 1 = r) (hd' : decode c.code r = .ok (.ifCond cd o, 3)) (hc : if_icmp.holds cd (lcmpW x y) 0 = true) (ho : 0 ≤ (r : Int) + o) (hp : ((r : Int) + o).toNat = q) (h : own_End p e below s Q K N (T.setTop (mkF m q Ls (rest))) E) : own_End p e below s Q K N (T.setTop (mkF m pc Ls (.long y :: .long x :: rest))) E := own_lcmp X hx hd hr (own_ifY X hx hd' hc ho hp h)
theorem own_lcN (X : Stand p l e R s' m args below meth c T locs cells slots) (hx : p.tables.exec = Jvm.exec) {pc r q : Nat} {Ls : Array Slot} {rest : List Value} {cd : ClassFile.Cond} {x y : Int64} {o : Int} (hd : decode c.code pc = .ok (.lcmp, 1)) (hr : pc + 1 = r) (hd' : decode c.code r = .ok (.ifCond cd o, 3)) (hc : if_icmp.holds cd (lcmpW x y) 0 = false) (hq : r + 3 = q) (h : own_End p e below s Q K N (T.setTop (mkF m q Ls (rest))) E) : own_End p e below s Q K N (T.setTop (mkF m pc Ls (.long y :: .long x :: rest))) E := own_lcmp X hx hd hr (own_ifN X hx hd' hc hq h)
theorem own_tlt {x y : Int64} (h : x < y) : if_icmp.holds .lt (lcmpW x y) 0 = true ∧ if_icmp.holds .ge (lcmpW x y) 0 = false ∧ if_icmp.holds .gt (lcmpW y x) 0 = true ∧ if_icmp.holds .le (lcmpW y x) 0 = false :=
  ⟨(tlt ((lw_lt x y).mpr h)).1, (tlt ((lw_lt x y).mpr h)).2.1, (tlt ((lw_gt y x).mpr h)).2.2.1, (tlt ((lw_gt y x).mpr h)).2.2.2⟩
theorem own_flt {x y : Int64} (h : ¬ x < y) : if_icmp.holds .lt (lcmpW x y) 0 = false ∧ if_icmp.holds .ge (lcmpW x y) 0 = true ∧ if_icmp.holds .gt (lcmpW y x) 0 = false ∧ if_icmp.holds .le (lcmpW y x) 0 = true :=
  ⟨(flt (fun q => h ((lw_lt x y).mp q))).1, (flt (fun q => h ((lw_lt x y).mp q))).2.1, (flt (fun q => h ((lw_gt y x).mp q))).2.2.1, (flt (fun q => h ((lw_gt y x).mp q))).2.2.2⟩
theorem own_teq {x y : Int64} (h : x = y) : if_icmp.holds .eq (lcmpW x y) 0 = true ∧ if_icmp.holds .ne (lcmpW x y) 0 = false := teq ((lw_eq x y).mpr h)
theorem own_feq {x y : Int64} (h : ¬ x = y) : if_icmp.holds .eq (lcmpW x y) 0 = false ∧ if_icmp.holds .ne (lcmpW x y) 0 = true := feq (fun q => h ((lw_eq x y).mp q))
theorem own_retV (X : Stand p l e R s m args below meth c T locs cells slots) (hx : p.tables.exec = Jvm.exec) {pc : Nat} {Ls : Array Slot}  (hret : meth.sig.returnType = none) (hlk : meth.locks = false) (hc : cells ≤ K) (hs : slots ≤ N) (hd : decode c.code pc = .ok (.return_, 1)) (hQ : Q none T.heap locs) : own_End p e below s Q K N (T.setTop (mkF m pc Ls [])) := by
  obtain ⟨fs, hr, hrun, hended, hW, hsame⟩ := X.leave (v := none) (fun _ => rfl) hlk
  refine ⟨_, _, ?_, hrun, hended, _, _, rfl, hQ, ⟨_, rfl⟩, hW, hsame.mono hc hs⟩
  exact X.returnOut hx hret hd hr
theorem own_retI (X : Stand p l e R s m args below meth c T locs cells slots) (hx : p.tables.exec = Jvm.exec) {pc : Nat} {Ls : Array Slot} {rest : List Value} {z : Int32} (hret : meth.sig.returnType = some .int) (hlk : meth.locks = false) (hc : cells ≤ K) (hs : slots ≤ N) (hd : decode c.code pc = .ok (.ireturn, 1)) (hQ : Q (some (.int z)) T.heap locs) : own_End p e below s Q K N (T.setTop (mkF m pc Ls (.int z :: rest))) := by
  obtain ⟨fs, hr, hrun, hended, hW, hsame⟩ := X.leave (v := (some (.int z))) (fun h => by rw [hret] at h; cases h) hlk
  refine ⟨_, _, ?_, hrun, hended, _, _, rfl, hQ, ⟨_, rfl⟩, hW, hsame.mono hc hs⟩
  have hm' : T.vm.method? m = some meth := X.method'
  have hn : narrow .int (.int z) = .int z := rfl
  show Steps p.tables e below (T.setTop { method := m, pc := pc, locals := Ls, stack := _ :: rest, locked := none }) _
  jvm_step X.here [X.here.top, hx, hd, hm', hret, hn]
  first | (intro acts; rw [hr _ acts rfl rfl rfl]) | rw [hr _ _ rfl rfl rfl]
  exact Steps.refl _
theorem own_retJ (X : Stand p l e R s m args below meth c T locs cells slots) (hx : p.tables.exec = Jvm.exec) {pc : Nat} {Ls : Array Slot} {rest : List Value} {z : Int64} (hret : meth.sig.returnType = some .long) (hlk : meth.locks = false) (hc : cells ≤ K) (hs : slots ≤ N) (hd : decode c.code pc = .ok (.lreturn, 1)) (hQ : Q (some (.long z)) T.heap locs) : own_End p e below s Q K N (T.setTop (mkF m pc Ls (.long z :: rest))) := by
  obtain ⟨fs, hr, hrun, hended, hW, hsame⟩ := X.leave (v := (some (.long z))) (fun h => by rw [hret] at h; cases h) hlk
  refine ⟨_, _, ?_, hrun, hended, _, _, rfl, hQ, ⟨_, rfl⟩, hW, hsame.mono hc hs⟩
  have hm' : T.vm.method? m = some meth := X.method'
  have hn : narrow .long (.long z) = .long z := rfl
  show Steps p.tables e below (T.setTop { method := m, pc := pc, locals := Ls, stack := _ :: rest, locked := none }) _
  jvm_step X.here [X.here.top, hx, hd, hm', hret, hn]
  first | (intro acts; rw [hr _ acts rfl rfl rfl]) | rw [hr _ _ rfl rfl rfl]
  exact Steps.refl _
theorem own_retN (X : Stand p l e R s m args below meth c T locs cells slots) (hx : p.tables.exec = Jvm.exec) {pc : Nat} {Ls : Array Slot} {rest : List Value} {z : Int32} {t : FieldType} (ht : t = .boolean ∨ t = .byte ∨ t = .char ∨ t = .short) (hret : meth.sig.returnType = some t) (hlk : meth.locks = false) (hc : cells ≤ K) (hs : slots ≤ N) (hd : decode c.code pc = .ok (.ireturn, 1)) (hQ : Q (some (.int (nar t z))) T.heap locs) : own_End p e below s Q K N (T.setTop (mkF m pc Ls (.int z :: rest))) := by
  obtain ⟨fs, hr, hrun, hended, hW, hsame⟩ := X.leave (v := (some (.int (nar t z)))) (fun h => by rw [hret] at h; cases h) hlk
  refine ⟨_, _, ?_, hrun, hended, _, _, rfl, hQ, ⟨_, rfl⟩, hW, hsame.mono hc hs⟩
  exact retN X hx hret ht hd hr
theorem own_b (P : Prop) [Decidable P] : nar .boolean (if P then (1 : Int32) else 0) = if P then (1 : Int32) else 0 := by
  split <;> rfl
end Own
theorem own_d1_0 : decode method_3_code 0 = .ok (.iload_n 0, 1) := by decide +kernel
theorem own_d1_1 : decode method_3_code 1 = .ok (.iconst 3, 1) := by decide +kernel
theorem own_d1_2 : decode method_3_code 2 = .ok (.iand, 1) := by decide +kernel
theorem own_d1_3 : decode method_3_code 3 = .ok (.istore_n 1, 1) := by decide +kernel
theorem own_d1_4 : decode method_3_code 4 = .ok (.iload_n 1, 1) := by decide +kernel
theorem own_d1_5 : decode method_3_code 5 = .ok (.ifCond .ne 6, 3) := by decide +kernel
theorem own_d1_8 : decode method_3_code 8 = .ok (.bipush 27, 2) := by decide +kernel
theorem own_d1_10 : decode method_3_code 10 = .ok (.ireturn, 1) := by decide +kernel
theorem own_d1_11 : decode method_3_code 11 = .ok (.iload_n 1, 1) := by decide +kernel
theorem own_d1_12 : decode method_3_code 12 = .ok (.iconst 1, 1) := by decide +kernel
theorem own_d1_13 : decode method_3_code 13 = .ok (.if_icmp .ne 6, 3) := by decide +kernel
theorem own_d1_16 : decode method_3_code 16 = .ok (.bipush 36, 2) := by decide +kernel
theorem own_d1_18 : decode method_3_code 18 = .ok (.ireturn, 1) := by decide +kernel
theorem own_d1_19 : decode method_3_code 19 = .ok (.iload_n 1, 1) := by decide +kernel
theorem own_d1_20 : decode method_3_code 20 = .ok (.iconst 2, 1) := by decide +kernel
theorem own_d1_21 : decode method_3_code 21 = .ok (.if_icmp .ne 6, 3) := by decide +kernel
theorem own_d1_24 : decode method_3_code 24 = .ok (.bipush 40, 2) := by decide +kernel
theorem own_d1_26 : decode method_3_code 26 = .ok (.ireturn, 1) := by decide +kernel
theorem own_d1_27 : decode method_3_code 27 = .ok (.iload_n 0, 1) := by decide +kernel
theorem own_d1_28 : decode method_3_code 28 = .ok (.iconst 2, 1) := by decide +kernel
theorem own_d1_29 : decode method_3_code 29 = .ok (.ishr, 1) := by decide +kernel
theorem own_d1_30 : decode method_3_code 30 = .ok (.ireturn, 1) := by decide +kernel
def own_F1 (p0 : Int32) : Int32 := (if (p0 &&& (3 : Int32)) = (0 : Int32) then (27 : Int32) else (if (p0 &&& (3 : Int32)) = (1 : Int32) then (36 : Int32) else (if (p0 &&& (3 : Int32)) = (2 : Int32) then (40 : Int32) else (p0 >>> ((2 : Int32) &&& 31)))))
def own_Q1 (Z : State) (p0 : Int32) (h0 : Heap) (n0 : Nat) (v : Option Value) (h : Heap) (L : List Loc) : Prop := v = some (.int (own_F1 p0)) ∧ Fr n0 L ∧ h = h0
theorem own_pn_rm1 : plainName "com/example/renkei/renkei/codec/TwoByteRunsNextPinLaw" = true := by first | (simp [plainName, overriddenIn]; done) | decide +kernel
theorem own_ef_rm1 (m : MethodId) (p0 : Int32) : entryFrame m #[(.int p0)] 2 = mkF m 0 #[.val (.int p0), .unset] [] := by first | (simp [entryFrame, mkF, argsToLocals, Value.category]; done) | rfl
set_option maxRecDepth 65536 in
set_option maxHeartbeats 40000000 in
theorem own_rm1 (l : Launch) (Z : State) (a0 : Array Value) (hw : ∀ d ∈ tables_1, d.before a0 Z = true) (ws : List Jvm.Cond) (p0 : Int32) (h0 : Heap) (n0 : Nat) (Z0 : n0 ≤ h0.size) :
    MetFree l (⟨"com/example/renkei/renkei/codec/TwoByteRunsNextPinLaw", "unit", "(I)I"⟩ : MethodName) (head1 (Jvm.Cond.code (⟨"com/example/renkei/renkei/codec/TwoByteRunsNextPinLaw", "unit", "(I)I"⟩ : MethodName) method_3_code 2 (some .int) :: ws) ({ frames := 0, cells := 0, slots := 0, locals := 0 } : Room)) (fun a U => a = #[(.int p0)] ∧ Z.Warmed39 U.vm ∧ U.heap = h0) (fun _ _ _ _ _ => True) (fun _ U o U' => ∃ v L, o = .returned v ∧ own_Q1 Z p0 h0 n0 v U'.heap L ∧ FrameEnd U o U' L ({ frames := 0, cells := 0, slots := 0, locals := 0 } : Room).cells ({ frames := 0, cells := 0, slots := 0, locals := 0 } : Room).slots) := by
  refine MetFree.of_bodySF (plainFor_of_name own_pn_rm1) hisR ?_
  intro p e s m args below meth c s₁ Bd hml0 hP hK
  obtain ⟨rfl, hZ, hh⟩ := hP
  have hx := Bd.exec
  have hby := Bd.bytes
  have hml : c.maxLocals = 2 := hml0
  have hown : s.vm.findClass "com/example/renkei/renkei/codec/TwoByteRunsNextPinLaw" = some m.cls := findClass_of_methodNamed Bd.named
  have hnm := (name_of_methodNamed Bd.named Bd.method).1
  have X0 : Stand p l e ({ frames := 0, cells := 0, slots := 0, locals := 0 } : Room) s m #[(.int p0)] below meth c s₁ [] 0 0 := Stand.of_body Bd
  have e0 : s₁.heap = h0 := by rw [← hh, Bd.state]; rfl
  have N0 := Fr.nil n0
  show own_End p e below s (own_Q1 Z p0 h0 n0) ({ frames := 0, cells := 0, slots := 0, locals := 0 } : Room).cells ({ frames := 0, cells := 0, slots := 0, locals := 0 } : Room).slots (s₁.setTop (entryFrame m #[(.int p0)] 2))
  rw [own_ef_rm1]
  refine own_iloadN X0 hx (hb hby own_d1_0) rfl (q := 1) rfl ?_
  refine own_iconst X0 hx (hb hby own_d1_1) (z := 3) rfl (q := 2) rfl ?_
  refine own_iand X0 hx (hb hby own_d1_2) (q := 3) rfl ?_
  refine own_istoreN X0 hx (hb hby own_d1_3) (l' := #[.val (.int p0), .val (.int (p0 &&& (3 : Int32)))]) rfl (q := 4) rfl ?_
  refine own_iloadN X0 hx (hb hby own_d1_4) rfl (q := 5) rfl ?_
  by_cases hc5_1 : (p0 &&& (3 : Int32)) = (0 : Int32)
  · refine own_ifN X0 hx (hb hby own_d1_5) (teq hc5_1).2 (q := 8) rfl ?_
    refine own_bipush X0 hx (hb hby own_d1_8) (z := 27) rfl (q := 10) rfl ?_
    refine own_retI X0 hx Bd.returns Bd.notSynchronized (by decide) (by decide) (hb hby own_d1_10) ?_
    show own_Q1 Z p0 h0 n0 _ s₁.heap _
    exact ⟨(by simp only [own_F1, if_pos hc5_1]), N0, e0⟩
  · refine own_ifY X0 hx (hb hby own_d1_5) (feq hc5_1).2 (q := 11) (by decide) (by decide) ?_
    refine own_iloadN X0 hx (hb hby own_d1_11) rfl (q := 12) rfl ?_
    refine own_iconst X0 hx (hb hby own_d1_12) (z := 1) rfl (q := 13) rfl ?_
    by_cases hc13_3 : (p0 &&& (3 : Int32)) = (1 : Int32)
    · refine own_icN X0 hx (hb hby own_d1_13) (teq hc13_3).2 (q := 16) rfl ?_
      refine own_bipush X0 hx (hb hby own_d1_16) (z := 36) rfl (q := 18) rfl ?_
      refine own_retI X0 hx Bd.returns Bd.notSynchronized (by decide) (by decide) (hb hby own_d1_18) ?_
      show own_Q1 Z p0 h0 n0 _ s₁.heap _
      exact ⟨(by simp only [own_F1, if_neg hc5_1, if_pos hc13_3]), N0, e0⟩
    · refine own_icY X0 hx (hb hby own_d1_13) (feq hc13_3).2 (q := 19) (by decide) (by decide) ?_
      refine own_iloadN X0 hx (hb hby own_d1_19) rfl (q := 20) rfl ?_
      refine own_iconst X0 hx (hb hby own_d1_20) (z := 2) rfl (q := 21) rfl ?_
      by_cases hc21_5 : (p0 &&& (3 : Int32)) = (2 : Int32)
      · refine own_icN X0 hx (hb hby own_d1_21) (teq hc21_5).2 (q := 24) rfl ?_
        refine own_bipush X0 hx (hb hby own_d1_24) (z := 40) rfl (q := 26) rfl ?_
        refine own_retI X0 hx Bd.returns Bd.notSynchronized (by decide) (by decide) (hb hby own_d1_26) ?_
        show own_Q1 Z p0 h0 n0 _ s₁.heap _
        exact ⟨(by simp only [own_F1, if_neg hc5_1, if_neg hc13_3, if_pos hc21_5]), N0, e0⟩
      · refine own_icY X0 hx (hb hby own_d1_21) (feq hc21_5).2 (q := 27) (by decide) (by decide) ?_
        refine own_iloadN X0 hx (hb hby own_d1_27) rfl (q := 28) rfl ?_
        refine own_iconst X0 hx (hb hby own_d1_28) (z := 2) rfl (q := 29) rfl ?_
        refine own_ishr X0 hx (hb hby own_d1_29) (q := 30) rfl ?_
        refine own_retI X0 hx Bd.returns Bd.notSynchronized (by decide) (by decide) (hb hby own_d1_30) ?_
        show own_Q1 Z p0 h0 n0 _ s₁.heap _
        exact ⟨(by simp only [own_F1, if_neg hc5_1, if_neg hc13_3, if_neg hc21_5]), N0, e0⟩
theorem own_d2_0 : decode prog_26_method_1_code 0 = .ok (.aload_n 0, 1) := by decide +kernel
theorem own_d2_1 : decode prog_26_method_1_code 1 = .ok (.invokespecial 1, 3) := by decide +kernel
theorem own_d2_4 : decode prog_26_method_1_code 4 = .ok (.return_, 1) := by decide +kernel
def own_Q2 (Z : State) (o0 : Addr) (w_o0_escaped : Int32) (w_o0_twoByte : Int32) (h0 : Heap) (n0 : Nat) (v : Option Value) (h : Heap) (L : List Loc) : Prop := v = none ∧ Fr n0 L ∧ Keep h0 h [o0] ∧ Exa Z h o0 "com/example/renkei/renkei/codec/TwoByteRuns" ∧ Fld Z h o0 "com/example/renkei/renkei/codec/TwoByteRuns" "escaped" "Z" (.int w_o0_escaped) ∧ Fld Z h o0 "com/example/renkei/renkei/codec/TwoByteRuns" "twoByte" "Z" (.int w_o0_twoByte)
theorem own_pn_rm2 : plainName "com/example/renkei/renkei/codec/TwoByteRuns" = true := by first | (simp [plainName, overriddenIn]; done) | decide +kernel
theorem own_ef_rm2 (m : MethodId) (o0 : Addr) : entryFrame m #[(.ref o0)] 1 = mkF m 0 #[.val (.ref o0)] [] := by first | (simp [entryFrame, mkF, argsToLocals, Value.category]; done) | rfl
set_option maxRecDepth 65536 in
set_option maxHeartbeats 40000000 in
theorem own_rm2 (l : Launch) (Z : State) (a0 : Array Value) (hw : ∀ d ∈ tables_1, d.before a0 Z = true) (ws : List Jvm.Cond) (o0 : Addr) (w_o0_escaped : Int32) (w_o0_twoByte : Int32) (h0 : Heap) (n0 : Nat) (Z0 : n0 ≤ h0.size) (E_o0 : Exa Z h0 o0 "com/example/renkei/renkei/codec/TwoByteRuns") (F_o0_escaped : Fld Z h0 o0 "com/example/renkei/renkei/codec/TwoByteRuns" "escaped" "Z" (.int w_o0_escaped)) (F_o0_twoByte : Fld Z h0 o0 "com/example/renkei/renkei/codec/TwoByteRuns" "twoByte" "Z" (.int w_o0_twoByte)) (g_o0 : n0 ≤ o0) :
    MetFree l (⟨"com/example/renkei/renkei/codec/TwoByteRuns", "<init>", "()V"⟩ : MethodName) (head1 (Jvm.Cond.code (⟨"com/example/renkei/renkei/codec/TwoByteRuns", "<init>", "()V"⟩ : MethodName) prog_26_method_1_code 1 none :: ws) ({ frames := 1, cells := 0, slots := 0, locals := 12 } : Room)) (fun a U => a = #[(.ref o0)] ∧ Z.Warmed39 U.vm ∧ U.heap = h0) (fun _ _ _ _ _ => True) (fun _ U o U' => ∃ v L, o = .returned v ∧ own_Q2 Z o0 w_o0_escaped w_o0_twoByte h0 n0 v U'.heap L ∧ FrameEnd U o U' L ({ frames := 1, cells := 0, slots := 0, locals := 12 } : Room).cells ({ frames := 1, cells := 0, slots := 0, locals := 12 } : Room).slots) := by
  refine MetFree.of_bodySF (plainFor_of_name own_pn_rm2) hisR ?_
  intro p e s m args below meth c s₁ Bd hml0 hP hK
  obtain ⟨rfl, hZ, hh⟩ := hP
  have hx := Bd.exec
  have hby := Bd.bytes
  have hml : c.maxLocals = 1 := hml0
  have hown : s.vm.findClass "com/example/renkei/renkei/codec/TwoByteRuns" = some m.cls := findClass_of_methodNamed Bd.named
  have hnm := (name_of_methodNamed Bd.named Bd.method).1
  have X0 : Stand p l e ({ frames := 1, cells := 0, slots := 0, locals := 12 } : Room) s m #[(.ref o0)] below meth c s₁ [] 0 0 := Stand.of_body Bd
  have e0 : s₁.heap = h0 := by rw [← hh, Bd.state]; rfl
  have N0 := Fr.nil n0
  show own_End p e below s (own_Q2 Z o0 w_o0_escaped w_o0_twoByte h0 n0) ({ frames := 1, cells := 0, slots := 0, locals := 12 } : Room).cells ({ frames := 1, cells := 0, slots := 0, locals := 12 } : Room).slots (s₁.setTop (entryFrame m #[(.ref o0)] 1))
  rw [own_ef_rm2]
  refine own_aloadN X0 hx (hb hby own_d2_0) rfl rfl (q := 1) rfl ?_
  obtain ⟨T8, X8, e8, st8⟩ := initO X0 hx hZ hown (hw _ (List.mem_of_getElem? (i := 11) rfl)) (hw _ (List.mem_of_getElem? (i := 12) rfl)) (hw _ (List.mem_of_getElem? (i := 13) rfl)) e0 (g := (mkF m 1 #[.val (.ref o0)] [(.ref o0)])) rfl (by rw [hml]; rfl) rfl (hb hby own_d2_1) (by decide) (W := 0) (by show 2 * 0 + _ ≤ _; exact Nat.le_of_eq rfl) (by decide)
  refine own_back st8 ?_
  show own_End p e below s _ _ _ (T8.setTop (mkF m 4 #[.val (.ref o0)] []))
  refine own_retV X8 hx Bd.returns Bd.notSynchronized (by decide) (by decide) (hb hby own_d2_4) ?_
  show own_Q2 Z o0 w_o0_escaped w_o0_twoByte h0 n0 _ T8.heap _
  rw [e8]
  exact ⟨rfl, N0, (Keep.refl h0 [o0]), E_o0, F_o0_escaped, F_o0_twoByte⟩
theorem own_d4_0 : decode prog_26_method_2_code 0 = .ok (.aload_n 0, 1) := by decide +kernel
theorem own_d4_1 : decode prog_26_method_2_code 1 = .ok (.getfield 7, 3) := by decide +kernel
theorem own_d4_4 : decode prog_26_method_2_code 4 = .ok (.ifCond .eq 30, 3) := by decide +kernel
theorem own_d4_34 : decode prog_26_method_2_code 34 = .ok (.aload_n 0, 1) := by decide +kernel
theorem own_d4_35 : decode prog_26_method_2_code 35 = .ok (.iload_n 1, 1) := by decide +kernel
theorem own_d4_36 : decode prog_26_method_2_code 36 = .ok (.bipush 27, 2) := by decide +kernel
theorem own_d4_38 : decode prog_26_method_2_code 38 = .ok (.if_icmp .ne 7, 3) := by decide +kernel
theorem own_d4_41 : decode prog_26_method_2_code 41 = .ok (.iconst 1, 1) := by decide +kernel
theorem own_d4_42 : decode prog_26_method_2_code 42 = .ok (.goto 4, 3) := by decide +kernel
theorem own_d4_46 : decode prog_26_method_2_code 46 = .ok (.putfield 7, 3) := by decide +kernel
theorem own_d4_49 : decode prog_26_method_2_code 49 = .ok (.aload_n 0, 1) := by decide +kernel
theorem own_d4_50 : decode prog_26_method_2_code 50 = .ok (.getfield 13, 3) := by decide +kernel
theorem own_d4_53 : decode prog_26_method_2_code 53 = .ok (.ireturn, 1) := by decide +kernel
theorem own_d4_45 : decode prog_26_method_2_code 45 = .ok (.iconst 0, 1) := by decide +kernel
theorem own_d4_7 : decode prog_26_method_2_code 7 = .ok (.iload_n 1, 1) := by decide +kernel
theorem own_d4_8 : decode prog_26_method_2_code 8 = .ok (.bipush 36, 2) := by decide +kernel
theorem own_d4_10 : decode prog_26_method_2_code 10 = .ok (.if_icmp .eq 9, 3) := by decide +kernel
theorem own_d4_19 : decode prog_26_method_2_code 19 = .ok (.aload_n 0, 1) := by decide +kernel
theorem own_d4_20 : decode prog_26_method_2_code 20 = .ok (.iload_n 1, 1) := by decide +kernel
theorem own_d4_21 : decode prog_26_method_2_code 21 = .ok (.bipush 36, 2) := by decide +kernel
theorem own_d4_23 : decode prog_26_method_2_code 23 = .ok (.if_icmp .ne 7, 3) := by decide +kernel
theorem own_d4_26 : decode prog_26_method_2_code 26 = .ok (.iconst 1, 1) := by decide +kernel
theorem own_d4_27 : decode prog_26_method_2_code 27 = .ok (.goto 4, 3) := by decide +kernel
theorem own_d4_31 : decode prog_26_method_2_code 31 = .ok (.putfield 13, 3) := by decide +kernel
theorem own_d4_13 : decode prog_26_method_2_code 13 = .ok (.iload_n 1, 1) := by decide +kernel
theorem own_d4_14 : decode prog_26_method_2_code 14 = .ok (.bipush 40, 2) := by decide +kernel
theorem own_d4_16 : decode prog_26_method_2_code 16 = .ok (.if_icmp .ne 18, 3) := by decide +kernel
theorem own_d4_30 : decode prog_26_method_2_code 30 = .ok (.iconst 0, 1) := by decide +kernel
def own_F4 (p1 : Int32) (w_o0_escaped : Int32) (w_o0_twoByte : Int32) : Int32 := (if w_o0_escaped = (0 : Int32) then (w_o0_twoByte &&& 1) else (if p1 = (36 : Int32) then (1 : Int32) else (if p1 = (40 : Int32) then (0 : Int32) else (w_o0_twoByte &&& 1))))
def own_G4_escaped (p1 : Int32) (w_o0_escaped : Int32) (w_o0_twoByte : Int32) : Int32 := (if p1 = (27 : Int32) then (1 : Int32) else (0 : Int32))
def own_G4_twoByte (p1 : Int32) (w_o0_escaped : Int32) (w_o0_twoByte : Int32) : Int32 := (if w_o0_escaped = (0 : Int32) then w_o0_twoByte else (if p1 = (36 : Int32) then (1 : Int32) else (if p1 = (40 : Int32) then (0 : Int32) else w_o0_twoByte)))
def own_Q4 (Z : State) (o0 : Addr) (p1 : Int32) (w_o0_escaped : Int32) (w_o0_twoByte : Int32) (h0 : Heap) (n0 : Nat) (v : Option Value) (h : Heap) (L : List Loc) : Prop := v = some (.int (own_F4 p1 w_o0_escaped w_o0_twoByte)) ∧ Fr n0 L ∧ Keep h0 h [o0] ∧ Exa Z h o0 "com/example/renkei/renkei/codec/TwoByteRuns" ∧ Fld Z h o0 "com/example/renkei/renkei/codec/TwoByteRuns" "escaped" "Z" (.int (own_G4_escaped p1 w_o0_escaped w_o0_twoByte)) ∧ Fld Z h o0 "com/example/renkei/renkei/codec/TwoByteRuns" "twoByte" "Z" (.int (own_G4_twoByte p1 w_o0_escaped w_o0_twoByte))
theorem own_pn_rm4 : plainName "com/example/renkei/renkei/codec/TwoByteRuns" = true := by first | (simp [plainName, overriddenIn]; done) | decide +kernel
theorem own_ef_rm4 (m : MethodId) (o0 : Addr) (p1 : Int32) : entryFrame m #[(.ref o0), (.int p1)] 2 = mkF m 0 #[.val (.ref o0), .val (.int p1)] [] := by first | (simp [entryFrame, mkF, argsToLocals, Value.category]; done) | rfl
set_option maxRecDepth 65536 in
set_option maxHeartbeats 40000000 in
theorem own_rm4 (l : Launch) (Z : State) (a0 : Array Value) (hw : ∀ d ∈ tables_1, d.before a0 Z = true) (ws : List Jvm.Cond) (o0 : Addr) (p1 : Int32) (w_o0_escaped : Int32) (w_o0_twoByte : Int32) (h0 : Heap) (n0 : Nat) (Z0 : n0 ≤ h0.size) (E_o0 : Exa Z h0 o0 "com/example/renkei/renkei/codec/TwoByteRuns") (F_o0_escaped : Fld Z h0 o0 "com/example/renkei/renkei/codec/TwoByteRuns" "escaped" "Z" (.int w_o0_escaped)) (F_o0_twoByte : Fld Z h0 o0 "com/example/renkei/renkei/codec/TwoByteRuns" "twoByte" "Z" (.int w_o0_twoByte)) (g_o0 : n0 ≤ o0) :
    MetFree l (⟨"com/example/renkei/renkei/codec/TwoByteRuns", "next", "(I)Z"⟩ : MethodName) (head1 (Jvm.Cond.code (⟨"com/example/renkei/renkei/codec/TwoByteRuns", "next", "(I)Z"⟩ : MethodName) prog_26_method_2_code 2 (some .boolean) :: ws) ({ frames := 0, cells := 0, slots := 0, locals := 0 } : Room)) (fun a U => a = #[(.ref o0), (.int p1)] ∧ Z.Warmed39 U.vm ∧ U.heap = h0) (fun _ _ _ _ _ => True) (fun _ U o U' => ∃ v L, o = .returned v ∧ own_Q4 Z o0 p1 w_o0_escaped w_o0_twoByte h0 n0 v U'.heap L ∧ FrameEnd U o U' L ({ frames := 0, cells := 0, slots := 0, locals := 0 } : Room).cells ({ frames := 0, cells := 0, slots := 0, locals := 0 } : Room).slots) := by
  refine MetFree.of_bodySF (plainFor_of_name own_pn_rm4) hisR ?_
  intro p e s m args below meth c s₁ Bd hml0 hP hK
  obtain ⟨rfl, hZ, hh⟩ := hP
  have hx := Bd.exec
  have hby := Bd.bytes
  have hml : c.maxLocals = 2 := hml0
  have hown : s.vm.findClass "com/example/renkei/renkei/codec/TwoByteRuns" = some m.cls := findClass_of_methodNamed Bd.named
  have hnm := (name_of_methodNamed Bd.named Bd.method).1
  have X0 : Stand p l e ({ frames := 0, cells := 0, slots := 0, locals := 0 } : Room) s m #[(.ref o0), (.int p1)] below meth c s₁ [] 0 0 := Stand.of_body Bd
  have e0 : s₁.heap = h0 := by rw [← hh, Bd.state]; rfl
  have N0 := Fr.nil n0
  show own_End p e below s (own_Q4 Z o0 p1 w_o0_escaped w_o0_twoByte h0 n0) ({ frames := 0, cells := 0, slots := 0, locals := 0 } : Room).cells ({ frames := 0, cells := 0, slots := 0, locals := 0 } : Room).slots (s₁.setTop (entryFrame m #[(.ref o0), (.int p1)] 2))
  rw [own_ef_rm4]
  refine own_aloadN X0 hx (hb hby own_d4_0) rfl rfl (q := 1) rfl ?_
  obtain ⟨T10, X10, e10, st10⟩ := getF X0 hx hZ hown (host := "") (Or.inl (hw _ (List.mem_of_getElem? (i := 19) rfl))) Via.refl e0 F_o0_escaped (g := (mkF m 1 #[.val (.ref o0), .val (.int p1)] [(.ref o0)])) rfl rfl (hb hby own_d4_1)
  refine own_back st10 ?_
  show own_End p e below s _ _ _ (T10.setTop (mkF m 4 #[.val (.ref o0), .val (.int p1)] [(.int w_o0_escaped)]))
  by_cases hc4_11 : w_o0_escaped = (0 : Int32)
  · refine own_ifY X10 hx (hb hby own_d4_4) (teq hc4_11).1 (q := 34) (by decide) (by decide) ?_
    refine own_aloadN X10 hx (hb hby own_d4_34) rfl rfl (q := 35) rfl ?_
    refine own_iloadN X10 hx (hb hby own_d4_35) rfl (q := 36) rfl ?_
    refine own_bipush X10 hx (hb hby own_d4_36) (z := 27) rfl (q := 38) rfl ?_
    by_cases hc38_12 : p1 = (27 : Int32)
    · refine own_icN X10 hx (hb hby own_d4_38) (teq hc38_12).2 (q := 41) rfl ?_
      refine own_iconst X10 hx (hb hby own_d4_41) (z := 1) rfl (q := 42) rfl ?_
      refine own_goto X10 hx (hb hby own_d4_42) (q := 46) (by decide) (by decide) ?_
      obtain ⟨T13, h13, X13, e13, W13, st13⟩ := putFN X10 hx hZ hown (hw _ (List.mem_of_getElem? (i := 19) rfl)) Via.refl e10 F_o0_escaped E_o0 (Or.inl (hw _ (List.mem_of_getElem? (i := 20) rfl))) (hw _ (List.mem_of_getElem? (i := 6) rfl)) (ty := .boolean) (v' := (.int (1 : Int32))) (by decide) rfl (by decide) (g := (mkF m 46 #[.val (.ref o0), .val (.int p1)] [(.int (1 : Int32)), (.ref o0)])) rfl rfl (hb hby own_d4_46)
      have F_o0_escaped_13 := F_o0_escaped.same W13
      have E_o0_14 := E_o0.wr W13
      have F_o0_twoByte_15 := F_o0_twoByte.other W13 (Or.inr (slot_ne (Or.inl (hw _ (List.mem_of_getElem? (i := 22) rfl))) (Or.inl (hw _ (List.mem_of_getElem? (i := 20) rfl))) (by decide) (t := .boolean) (t' := .boolean) (by decide) (by decide)))
      have Kp16 : Keep h0 _ [o0] := (Keep.refl h0 [o0]).wr W13 (Or.inl (List.mem_of_getElem? (i := 0) rfl))
      have Z17 := Nat.le_trans Z0 (Keep.of_wr W13).1
      obtain ⟨L13, X13, N13⟩ := own_gl X13 (Fr.snoc X13 N0 g_o0)
      refine own_back st13 ?_
      show own_End p e below s _ _ _ (T13.setTop (mkF m 49 #[.val (.ref o0), .val (.int p1)] []))
      refine own_aloadN X13 hx (hb hby own_d4_49) rfl rfl (q := 50) rfl ?_
      obtain ⟨T18, X18, e18, st18⟩ := getF X13 hx hZ hown (host := "") (Or.inl (hw _ (List.mem_of_getElem? (i := 21) rfl))) Via.refl e13 F_o0_twoByte_15 (g := (mkF m 50 #[.val (.ref o0), .val (.int p1)] [(.ref o0)])) rfl rfl (hb hby own_d4_50)
      refine own_back st18 ?_
      show own_End p e below s _ _ _ (T18.setTop (mkF m 53 #[.val (.ref o0), .val (.int p1)] [(.int w_o0_twoByte)]))
      refine own_retN X18 hx (t := .boolean) (by simp) Bd.returns Bd.notSynchronized (by decide) (by decide) (hb hby own_d4_53) ?_
      show own_Q4 Z o0 p1 w_o0_escaped w_o0_twoByte h0 n0 _ T18.heap _
      rw [e18]
      exact ⟨(by rw [show own_F4 p1 w_o0_escaped w_o0_twoByte = _ from (by simp only [own_F4, if_pos hc4_11, if_pos hc38_12] : _ = (w_o0_twoByte &&& 1))]; rfl), N13, Kp16, E_o0_14, (by have q := F_o0_escaped_13; simp only [own_G4_escaped, if_pos hc4_11, if_pos hc38_12]; exact q), (by have q := F_o0_twoByte_15; simp only [own_G4_twoByte, if_pos hc4_11, if_pos hc38_12]; exact q)⟩
    · refine own_icY X10 hx (hb hby own_d4_38) (feq hc38_12).2 (q := 45) (by decide) (by decide) ?_
      refine own_iconst X10 hx (hb hby own_d4_45) (z := 0) rfl (q := 46) rfl ?_
      obtain ⟨T20, h20, X20, e20, W20, st20⟩ := putFN X10 hx hZ hown (hw _ (List.mem_of_getElem? (i := 19) rfl)) Via.refl e10 F_o0_escaped E_o0 (Or.inl (hw _ (List.mem_of_getElem? (i := 20) rfl))) (hw _ (List.mem_of_getElem? (i := 6) rfl)) (ty := .boolean) (v' := (.int (0 : Int32))) (by decide) rfl (by decide) (g := (mkF m 46 #[.val (.ref o0), .val (.int p1)] [(.int (0 : Int32)), (.ref o0)])) rfl rfl (hb hby own_d4_46)
      have F_o0_escaped_20 := F_o0_escaped.same W20
      have E_o0_21 := E_o0.wr W20
      have F_o0_twoByte_22 := F_o0_twoByte.other W20 (Or.inr (slot_ne (Or.inl (hw _ (List.mem_of_getElem? (i := 22) rfl))) (Or.inl (hw _ (List.mem_of_getElem? (i := 20) rfl))) (by decide) (t := .boolean) (t' := .boolean) (by decide) (by decide)))
      have Kp23 : Keep h0 _ [o0] := (Keep.refl h0 [o0]).wr W20 (Or.inl (List.mem_of_getElem? (i := 0) rfl))
      have Z24 := Nat.le_trans Z0 (Keep.of_wr W20).1
      obtain ⟨L20, X20, N20⟩ := own_gl X20 (Fr.snoc X20 N0 g_o0)
      refine own_back st20 ?_
      show own_End p e below s _ _ _ (T20.setTop (mkF m 49 #[.val (.ref o0), .val (.int p1)] []))
      refine own_aloadN X20 hx (hb hby own_d4_49) rfl rfl (q := 50) rfl ?_
      obtain ⟨T25, X25, e25, st25⟩ := getF X20 hx hZ hown (host := "") (Or.inl (hw _ (List.mem_of_getElem? (i := 21) rfl))) Via.refl e20 F_o0_twoByte_22 (g := (mkF m 50 #[.val (.ref o0), .val (.int p1)] [(.ref o0)])) rfl rfl (hb hby own_d4_50)
      refine own_back st25 ?_
      show own_End p e below s _ _ _ (T25.setTop (mkF m 53 #[.val (.ref o0), .val (.int p1)] [(.int w_o0_twoByte)]))
      refine own_retN X25 hx (t := .boolean) (by simp) Bd.returns Bd.notSynchronized (by decide) (by decide) (hb hby own_d4_53) ?_
      show own_Q4 Z o0 p1 w_o0_escaped w_o0_twoByte h0 n0 _ T25.heap _
      rw [e25]
      exact ⟨(by rw [show own_F4 p1 w_o0_escaped w_o0_twoByte = _ from (by simp only [own_F4, if_pos hc4_11, if_neg hc38_12] : _ = (w_o0_twoByte &&& 1))]; rfl), N20, Kp23, E_o0_21, (by have q := F_o0_escaped_20; simp only [own_G4_escaped, if_pos hc4_11, if_neg hc38_12]; exact q), (by have q := F_o0_twoByte_22; simp only [own_G4_twoByte, if_pos hc4_11, if_neg hc38_12]; exact q)⟩
  · refine own_ifN X10 hx (hb hby own_d4_4) (feq hc4_11).1 (q := 7) rfl ?_
    refine own_iloadN X10 hx (hb hby own_d4_7) rfl (q := 8) rfl ?_
    refine own_bipush X10 hx (hb hby own_d4_8) (z := 36) rfl (q := 10) rfl ?_
    by_cases hc10_27 : p1 = (36 : Int32)
    · refine own_icY X10 hx (hb hby own_d4_10) (teq hc10_27).1 (q := 19) (by decide) (by decide) ?_
      refine own_aloadN X10 hx (hb hby own_d4_19) rfl rfl (q := 20) rfl ?_
      refine own_iloadN X10 hx (hb hby own_d4_20) rfl (q := 21) rfl ?_
      refine own_bipush X10 hx (hb hby own_d4_21) (z := 36) rfl (q := 23) rfl ?_
      refine own_icN X10 hx (hb hby own_d4_23) (teq hc10_27).2 (q := 26) rfl ?_
      refine own_iconst X10 hx (hb hby own_d4_26) (z := 1) rfl (q := 27) rfl ?_
      refine own_goto X10 hx (hb hby own_d4_27) (q := 31) (by decide) (by decide) ?_
      obtain ⟨T28, h28, X28, e28, W28, st28⟩ := putFN X10 hx hZ hown (hw _ (List.mem_of_getElem? (i := 21) rfl)) Via.refl e10 F_o0_twoByte E_o0 (Or.inl (hw _ (List.mem_of_getElem? (i := 22) rfl))) (hw _ (List.mem_of_getElem? (i := 6) rfl)) (ty := .boolean) (v' := (.int (1 : Int32))) (by decide) rfl (by decide) (g := (mkF m 31 #[.val (.ref o0), .val (.int p1)] [(.int (1 : Int32)), (.ref o0)])) rfl rfl (hb hby own_d4_31)
      have F_o0_twoByte_28 := F_o0_twoByte.same W28
      have E_o0_29 := E_o0.wr W28
      have F_o0_escaped_30 := F_o0_escaped.other W28 (Or.inr (slot_ne (Or.inl (hw _ (List.mem_of_getElem? (i := 20) rfl))) (Or.inl (hw _ (List.mem_of_getElem? (i := 22) rfl))) (by decide) (t := .boolean) (t' := .boolean) (by decide) (by decide)))
      have Kp31 : Keep h0 _ [o0] := (Keep.refl h0 [o0]).wr W28 (Or.inl (List.mem_of_getElem? (i := 0) rfl))
      have Z32 := Nat.le_trans Z0 (Keep.of_wr W28).1
      obtain ⟨L28, X28, N28⟩ := own_gl X28 (Fr.snoc X28 N0 g_o0)
      refine own_back st28 ?_
      show own_End p e below s _ _ _ (T28.setTop (mkF m 34 #[.val (.ref o0), .val (.int p1)] []))
      refine own_aloadN X28 hx (hb hby own_d4_34) rfl rfl (q := 35) rfl ?_
      refine own_iloadN X28 hx (hb hby own_d4_35) rfl (q := 36) rfl ?_
      refine own_bipush X28 hx (hb hby own_d4_36) (z := 27) rfl (q := 38) rfl ?_
      by_cases hc38_33 : p1 = (27 : Int32)
      · refine own_icN X28 hx (hb hby own_d4_38) (teq hc38_33).2 (q := 41) rfl ?_
        refine own_iconst X28 hx (hb hby own_d4_41) (z := 1) rfl (q := 42) rfl ?_
        refine own_goto X28 hx (hb hby own_d4_42) (q := 46) (by decide) (by decide) ?_
        obtain ⟨T34, h34, X34, e34, W34, st34⟩ := putFN X28 hx hZ hown (hw _ (List.mem_of_getElem? (i := 19) rfl)) Via.refl e28 F_o0_escaped_30 E_o0_29 (Or.inl (hw _ (List.mem_of_getElem? (i := 20) rfl))) (hw _ (List.mem_of_getElem? (i := 6) rfl)) (ty := .boolean) (v' := (.int (1 : Int32))) (by decide) rfl (by decide) (g := (mkF m 46 #[.val (.ref o0), .val (.int p1)] [(.int (1 : Int32)), (.ref o0)])) rfl rfl (hb hby own_d4_46)
        have F_o0_escaped_34 := F_o0_escaped_30.same W34
        have E_o0_35 := E_o0_29.wr W34
        have F_o0_twoByte_36 := F_o0_twoByte_28.other W34 (Or.inr (slot_ne (Or.inl (hw _ (List.mem_of_getElem? (i := 22) rfl))) (Or.inl (hw _ (List.mem_of_getElem? (i := 20) rfl))) (by decide) (t := .boolean) (t' := .boolean) (by decide) (by decide)))
        have Kp37 : Keep h0 _ [o0] := Kp31.wr W34 (Or.inl (List.mem_of_getElem? (i := 0) rfl))
        have Z38 := Nat.le_trans Z32 (Keep.of_wr W34).1
        obtain ⟨L34, X34, N34⟩ := own_gl X34 (Fr.snoc X34 N28 g_o0)
        refine own_back st34 ?_
        show own_End p e below s _ _ _ (T34.setTop (mkF m 49 #[.val (.ref o0), .val (.int p1)] []))
        refine own_aloadN X34 hx (hb hby own_d4_49) rfl rfl (q := 50) rfl ?_
        obtain ⟨T39, X39, e39, st39⟩ := getF X34 hx hZ hown (host := "") (Or.inl (hw _ (List.mem_of_getElem? (i := 21) rfl))) Via.refl e34 F_o0_twoByte_36 (g := (mkF m 50 #[.val (.ref o0), .val (.int p1)] [(.ref o0)])) rfl rfl (hb hby own_d4_50)
        refine own_back st39 ?_
        show own_End p e below s _ _ _ (T39.setTop (mkF m 53 #[.val (.ref o0), .val (.int p1)] [(.int (1 : Int32))]))
        refine own_retN X39 hx (t := .boolean) (by simp) Bd.returns Bd.notSynchronized (by decide) (by decide) (hb hby own_d4_53) ?_
        show own_Q4 Z o0 p1 w_o0_escaped w_o0_twoByte h0 n0 _ T39.heap _
        rw [e39]
        exact ⟨(by rw [show own_F4 p1 w_o0_escaped w_o0_twoByte = _ from (by simp only [own_F4, if_neg hc4_11, if_pos hc10_27, if_pos hc38_33] : _ = (1 : Int32))]; rfl), N34, Kp37, E_o0_35, (by have q := F_o0_escaped_34; simp only [own_G4_escaped, if_neg hc4_11, if_pos hc10_27, if_pos hc38_33]; exact q), (by have q := F_o0_twoByte_36; simp only [own_G4_twoByte, if_neg hc4_11, if_pos hc10_27, if_pos hc38_33]; exact q)⟩
      · refine own_icY X28 hx (hb hby own_d4_38) (feq hc38_33).2 (q := 45) (by decide) (by decide) ?_
        refine own_iconst X28 hx (hb hby own_d4_45) (z := 0) rfl (q := 46) rfl ?_
        obtain ⟨T41, h41, X41, e41, W41, st41⟩ := putFN X28 hx hZ hown (hw _ (List.mem_of_getElem? (i := 19) rfl)) Via.refl e28 F_o0_escaped_30 E_o0_29 (Or.inl (hw _ (List.mem_of_getElem? (i := 20) rfl))) (hw _ (List.mem_of_getElem? (i := 6) rfl)) (ty := .boolean) (v' := (.int (0 : Int32))) (by decide) rfl (by decide) (g := (mkF m 46 #[.val (.ref o0), .val (.int p1)] [(.int (0 : Int32)), (.ref o0)])) rfl rfl (hb hby own_d4_46)
        have F_o0_escaped_41 := F_o0_escaped_30.same W41
        have E_o0_42 := E_o0_29.wr W41
        have F_o0_twoByte_43 := F_o0_twoByte_28.other W41 (Or.inr (slot_ne (Or.inl (hw _ (List.mem_of_getElem? (i := 22) rfl))) (Or.inl (hw _ (List.mem_of_getElem? (i := 20) rfl))) (by decide) (t := .boolean) (t' := .boolean) (by decide) (by decide)))
        have Kp44 : Keep h0 _ [o0] := Kp31.wr W41 (Or.inl (List.mem_of_getElem? (i := 0) rfl))
        have Z45 := Nat.le_trans Z32 (Keep.of_wr W41).1
        obtain ⟨L41, X41, N41⟩ := own_gl X41 (Fr.snoc X41 N28 g_o0)
        refine own_back st41 ?_
        show own_End p e below s _ _ _ (T41.setTop (mkF m 49 #[.val (.ref o0), .val (.int p1)] []))
        refine own_aloadN X41 hx (hb hby own_d4_49) rfl rfl (q := 50) rfl ?_
        obtain ⟨T46, X46, e46, st46⟩ := getF X41 hx hZ hown (host := "") (Or.inl (hw _ (List.mem_of_getElem? (i := 21) rfl))) Via.refl e41 F_o0_twoByte_43 (g := (mkF m 50 #[.val (.ref o0), .val (.int p1)] [(.ref o0)])) rfl rfl (hb hby own_d4_50)
        refine own_back st46 ?_
        show own_End p e below s _ _ _ (T46.setTop (mkF m 53 #[.val (.ref o0), .val (.int p1)] [(.int (1 : Int32))]))
        refine own_retN X46 hx (t := .boolean) (by simp) Bd.returns Bd.notSynchronized (by decide) (by decide) (hb hby own_d4_53) ?_
        show own_Q4 Z o0 p1 w_o0_escaped w_o0_twoByte h0 n0 _ T46.heap _
        rw [e46]
        exact ⟨(by rw [show own_F4 p1 w_o0_escaped w_o0_twoByte = _ from (by simp only [own_F4, if_neg hc4_11, if_pos hc10_27, if_neg hc38_33] : _ = (1 : Int32))]; rfl), N41, Kp44, E_o0_42, (by have q := F_o0_escaped_41; simp only [own_G4_escaped, if_neg hc4_11, if_pos hc10_27, if_neg hc38_33]; exact q), (by have q := F_o0_twoByte_43; simp only [own_G4_twoByte, if_neg hc4_11, if_pos hc10_27, if_neg hc38_33]; exact q)⟩
    · refine own_icN X10 hx (hb hby own_d4_10) (feq hc10_27).1 (q := 13) rfl ?_
      refine own_iloadN X10 hx (hb hby own_d4_13) rfl (q := 14) rfl ?_
      refine own_bipush X10 hx (hb hby own_d4_14) (z := 40) rfl (q := 16) rfl ?_
      by_cases hc16_48 : p1 = (40 : Int32)
      · refine own_icN X10 hx (hb hby own_d4_16) (teq hc16_48).2 (q := 19) rfl ?_
        refine own_aloadN X10 hx (hb hby own_d4_19) rfl rfl (q := 20) rfl ?_
        refine own_iloadN X10 hx (hb hby own_d4_20) rfl (q := 21) rfl ?_
        refine own_bipush X10 hx (hb hby own_d4_21) (z := 36) rfl (q := 23) rfl ?_
        refine own_icY X10 hx (hb hby own_d4_23) (feq hc10_27).2 (q := 30) (by decide) (by decide) ?_
        refine own_iconst X10 hx (hb hby own_d4_30) (z := 0) rfl (q := 31) rfl ?_
        obtain ⟨T49, h49, X49, e49, W49, st49⟩ := putFN X10 hx hZ hown (hw _ (List.mem_of_getElem? (i := 21) rfl)) Via.refl e10 F_o0_twoByte E_o0 (Or.inl (hw _ (List.mem_of_getElem? (i := 22) rfl))) (hw _ (List.mem_of_getElem? (i := 6) rfl)) (ty := .boolean) (v' := (.int (0 : Int32))) (by decide) rfl (by decide) (g := (mkF m 31 #[.val (.ref o0), .val (.int p1)] [(.int (0 : Int32)), (.ref o0)])) rfl rfl (hb hby own_d4_31)
        have F_o0_twoByte_49 := F_o0_twoByte.same W49
        have E_o0_50 := E_o0.wr W49
        have F_o0_escaped_51 := F_o0_escaped.other W49 (Or.inr (slot_ne (Or.inl (hw _ (List.mem_of_getElem? (i := 20) rfl))) (Or.inl (hw _ (List.mem_of_getElem? (i := 22) rfl))) (by decide) (t := .boolean) (t' := .boolean) (by decide) (by decide)))
        have Kp52 : Keep h0 _ [o0] := (Keep.refl h0 [o0]).wr W49 (Or.inl (List.mem_of_getElem? (i := 0) rfl))
        have Z53 := Nat.le_trans Z0 (Keep.of_wr W49).1
        obtain ⟨L49, X49, N49⟩ := own_gl X49 (Fr.snoc X49 N0 g_o0)
        refine own_back st49 ?_
        show own_End p e below s _ _ _ (T49.setTop (mkF m 34 #[.val (.ref o0), .val (.int p1)] []))
        refine own_aloadN X49 hx (hb hby own_d4_34) rfl rfl (q := 35) rfl ?_
        refine own_iloadN X49 hx (hb hby own_d4_35) rfl (q := 36) rfl ?_
        refine own_bipush X49 hx (hb hby own_d4_36) (z := 27) rfl (q := 38) rfl ?_
        by_cases hc38_54 : p1 = (27 : Int32)
        · refine own_icN X49 hx (hb hby own_d4_38) (teq hc38_54).2 (q := 41) rfl ?_
          refine own_iconst X49 hx (hb hby own_d4_41) (z := 1) rfl (q := 42) rfl ?_
          refine own_goto X49 hx (hb hby own_d4_42) (q := 46) (by decide) (by decide) ?_
          obtain ⟨T55, h55, X55, e55, W55, st55⟩ := putFN X49 hx hZ hown (hw _ (List.mem_of_getElem? (i := 19) rfl)) Via.refl e49 F_o0_escaped_51 E_o0_50 (Or.inl (hw _ (List.mem_of_getElem? (i := 20) rfl))) (hw _ (List.mem_of_getElem? (i := 6) rfl)) (ty := .boolean) (v' := (.int (1 : Int32))) (by decide) rfl (by decide) (g := (mkF m 46 #[.val (.ref o0), .val (.int p1)] [(.int (1 : Int32)), (.ref o0)])) rfl rfl (hb hby own_d4_46)
          have F_o0_escaped_55 := F_o0_escaped_51.same W55
          have E_o0_56 := E_o0_50.wr W55
          have F_o0_twoByte_57 := F_o0_twoByte_49.other W55 (Or.inr (slot_ne (Or.inl (hw _ (List.mem_of_getElem? (i := 22) rfl))) (Or.inl (hw _ (List.mem_of_getElem? (i := 20) rfl))) (by decide) (t := .boolean) (t' := .boolean) (by decide) (by decide)))
          have Kp58 : Keep h0 _ [o0] := Kp52.wr W55 (Or.inl (List.mem_of_getElem? (i := 0) rfl))
          have Z59 := Nat.le_trans Z53 (Keep.of_wr W55).1
          obtain ⟨L55, X55, N55⟩ := own_gl X55 (Fr.snoc X55 N49 g_o0)
          refine own_back st55 ?_
          show own_End p e below s _ _ _ (T55.setTop (mkF m 49 #[.val (.ref o0), .val (.int p1)] []))
          refine own_aloadN X55 hx (hb hby own_d4_49) rfl rfl (q := 50) rfl ?_
          obtain ⟨T60, X60, e60, st60⟩ := getF X55 hx hZ hown (host := "") (Or.inl (hw _ (List.mem_of_getElem? (i := 21) rfl))) Via.refl e55 F_o0_twoByte_57 (g := (mkF m 50 #[.val (.ref o0), .val (.int p1)] [(.ref o0)])) rfl rfl (hb hby own_d4_50)
          refine own_back st60 ?_
          show own_End p e below s _ _ _ (T60.setTop (mkF m 53 #[.val (.ref o0), .val (.int p1)] [(.int (0 : Int32))]))
          refine own_retN X60 hx (t := .boolean) (by simp) Bd.returns Bd.notSynchronized (by decide) (by decide) (hb hby own_d4_53) ?_
          show own_Q4 Z o0 p1 w_o0_escaped w_o0_twoByte h0 n0 _ T60.heap _
          rw [e60]
          exact ⟨(by rw [show own_F4 p1 w_o0_escaped w_o0_twoByte = _ from (by simp only [own_F4, if_neg hc4_11, if_neg hc10_27, if_pos hc16_48, if_pos hc38_54] : _ = (0 : Int32))]; rfl), N55, Kp58, E_o0_56, (by have q := F_o0_escaped_55; simp only [own_G4_escaped, if_neg hc4_11, if_neg hc10_27, if_pos hc16_48, if_pos hc38_54]; exact q), (by have q := F_o0_twoByte_57; simp only [own_G4_twoByte, if_neg hc4_11, if_neg hc10_27, if_pos hc16_48, if_pos hc38_54]; exact q)⟩
        · refine own_icY X49 hx (hb hby own_d4_38) (feq hc38_54).2 (q := 45) (by decide) (by decide) ?_
          refine own_iconst X49 hx (hb hby own_d4_45) (z := 0) rfl (q := 46) rfl ?_
          obtain ⟨T62, h62, X62, e62, W62, st62⟩ := putFN X49 hx hZ hown (hw _ (List.mem_of_getElem? (i := 19) rfl)) Via.refl e49 F_o0_escaped_51 E_o0_50 (Or.inl (hw _ (List.mem_of_getElem? (i := 20) rfl))) (hw _ (List.mem_of_getElem? (i := 6) rfl)) (ty := .boolean) (v' := (.int (0 : Int32))) (by decide) rfl (by decide) (g := (mkF m 46 #[.val (.ref o0), .val (.int p1)] [(.int (0 : Int32)), (.ref o0)])) rfl rfl (hb hby own_d4_46)
          have F_o0_escaped_62 := F_o0_escaped_51.same W62
          have E_o0_63 := E_o0_50.wr W62
          have F_o0_twoByte_64 := F_o0_twoByte_49.other W62 (Or.inr (slot_ne (Or.inl (hw _ (List.mem_of_getElem? (i := 22) rfl))) (Or.inl (hw _ (List.mem_of_getElem? (i := 20) rfl))) (by decide) (t := .boolean) (t' := .boolean) (by decide) (by decide)))
          have Kp65 : Keep h0 _ [o0] := Kp52.wr W62 (Or.inl (List.mem_of_getElem? (i := 0) rfl))
          have Z66 := Nat.le_trans Z53 (Keep.of_wr W62).1
          obtain ⟨L62, X62, N62⟩ := own_gl X62 (Fr.snoc X62 N49 g_o0)
          refine own_back st62 ?_
          show own_End p e below s _ _ _ (T62.setTop (mkF m 49 #[.val (.ref o0), .val (.int p1)] []))
          refine own_aloadN X62 hx (hb hby own_d4_49) rfl rfl (q := 50) rfl ?_
          obtain ⟨T67, X67, e67, st67⟩ := getF X62 hx hZ hown (host := "") (Or.inl (hw _ (List.mem_of_getElem? (i := 21) rfl))) Via.refl e62 F_o0_twoByte_64 (g := (mkF m 50 #[.val (.ref o0), .val (.int p1)] [(.ref o0)])) rfl rfl (hb hby own_d4_50)
          refine own_back st67 ?_
          show own_End p e below s _ _ _ (T67.setTop (mkF m 53 #[.val (.ref o0), .val (.int p1)] [(.int (0 : Int32))]))
          refine own_retN X67 hx (t := .boolean) (by simp) Bd.returns Bd.notSynchronized (by decide) (by decide) (hb hby own_d4_53) ?_
          show own_Q4 Z o0 p1 w_o0_escaped w_o0_twoByte h0 n0 _ T67.heap _
          rw [e67]
          exact ⟨(by rw [show own_F4 p1 w_o0_escaped w_o0_twoByte = _ from (by simp only [own_F4, if_neg hc4_11, if_neg hc10_27, if_pos hc16_48, if_neg hc38_54] : _ = (0 : Int32))]; rfl), N62, Kp65, E_o0_63, (by have q := F_o0_escaped_62; simp only [own_G4_escaped, if_neg hc4_11, if_neg hc10_27, if_pos hc16_48, if_neg hc38_54]; exact q), (by have q := F_o0_twoByte_64; simp only [own_G4_twoByte, if_neg hc4_11, if_neg hc10_27, if_pos hc16_48, if_neg hc38_54]; exact q)⟩
      · refine own_icY X10 hx (hb hby own_d4_16) (feq hc16_48).2 (q := 34) (by decide) (by decide) ?_
        refine own_aloadN X10 hx (hb hby own_d4_34) rfl rfl (q := 35) rfl ?_
        refine own_iloadN X10 hx (hb hby own_d4_35) rfl (q := 36) rfl ?_
        refine own_bipush X10 hx (hb hby own_d4_36) (z := 27) rfl (q := 38) rfl ?_
        by_cases hc38_69 : p1 = (27 : Int32)
        · refine own_icN X10 hx (hb hby own_d4_38) (teq hc38_69).2 (q := 41) rfl ?_
          refine own_iconst X10 hx (hb hby own_d4_41) (z := 1) rfl (q := 42) rfl ?_
          refine own_goto X10 hx (hb hby own_d4_42) (q := 46) (by decide) (by decide) ?_
          obtain ⟨T70, h70, X70, e70, W70, st70⟩ := putFN X10 hx hZ hown (hw _ (List.mem_of_getElem? (i := 19) rfl)) Via.refl e10 F_o0_escaped E_o0 (Or.inl (hw _ (List.mem_of_getElem? (i := 20) rfl))) (hw _ (List.mem_of_getElem? (i := 6) rfl)) (ty := .boolean) (v' := (.int (1 : Int32))) (by decide) rfl (by decide) (g := (mkF m 46 #[.val (.ref o0), .val (.int p1)] [(.int (1 : Int32)), (.ref o0)])) rfl rfl (hb hby own_d4_46)
          have F_o0_escaped_70 := F_o0_escaped.same W70
          have E_o0_71 := E_o0.wr W70
          have F_o0_twoByte_72 := F_o0_twoByte.other W70 (Or.inr (slot_ne (Or.inl (hw _ (List.mem_of_getElem? (i := 22) rfl))) (Or.inl (hw _ (List.mem_of_getElem? (i := 20) rfl))) (by decide) (t := .boolean) (t' := .boolean) (by decide) (by decide)))
          have Kp73 : Keep h0 _ [o0] := (Keep.refl h0 [o0]).wr W70 (Or.inl (List.mem_of_getElem? (i := 0) rfl))
          have Z74 := Nat.le_trans Z0 (Keep.of_wr W70).1
          obtain ⟨L70, X70, N70⟩ := own_gl X70 (Fr.snoc X70 N0 g_o0)
          refine own_back st70 ?_
          show own_End p e below s _ _ _ (T70.setTop (mkF m 49 #[.val (.ref o0), .val (.int p1)] []))
          refine own_aloadN X70 hx (hb hby own_d4_49) rfl rfl (q := 50) rfl ?_
          obtain ⟨T75, X75, e75, st75⟩ := getF X70 hx hZ hown (host := "") (Or.inl (hw _ (List.mem_of_getElem? (i := 21) rfl))) Via.refl e70 F_o0_twoByte_72 (g := (mkF m 50 #[.val (.ref o0), .val (.int p1)] [(.ref o0)])) rfl rfl (hb hby own_d4_50)
          refine own_back st75 ?_
          show own_End p e below s _ _ _ (T75.setTop (mkF m 53 #[.val (.ref o0), .val (.int p1)] [(.int w_o0_twoByte)]))
          refine own_retN X75 hx (t := .boolean) (by simp) Bd.returns Bd.notSynchronized (by decide) (by decide) (hb hby own_d4_53) ?_
          show own_Q4 Z o0 p1 w_o0_escaped w_o0_twoByte h0 n0 _ T75.heap _
          rw [e75]
          exact ⟨(by rw [show own_F4 p1 w_o0_escaped w_o0_twoByte = _ from (by simp only [own_F4, if_neg hc4_11, if_neg hc10_27, if_neg hc16_48, if_pos hc38_69] : _ = (w_o0_twoByte &&& 1))]; rfl), N70, Kp73, E_o0_71, (by have q := F_o0_escaped_70; simp only [own_G4_escaped, if_neg hc4_11, if_neg hc10_27, if_neg hc16_48, if_pos hc38_69]; exact q), (by have q := F_o0_twoByte_72; simp only [own_G4_twoByte, if_neg hc4_11, if_neg hc10_27, if_neg hc16_48, if_pos hc38_69]; exact q)⟩
        · refine own_icY X10 hx (hb hby own_d4_38) (feq hc38_69).2 (q := 45) (by decide) (by decide) ?_
          refine own_iconst X10 hx (hb hby own_d4_45) (z := 0) rfl (q := 46) rfl ?_
          obtain ⟨T77, h77, X77, e77, W77, st77⟩ := putFN X10 hx hZ hown (hw _ (List.mem_of_getElem? (i := 19) rfl)) Via.refl e10 F_o0_escaped E_o0 (Or.inl (hw _ (List.mem_of_getElem? (i := 20) rfl))) (hw _ (List.mem_of_getElem? (i := 6) rfl)) (ty := .boolean) (v' := (.int (0 : Int32))) (by decide) rfl (by decide) (g := (mkF m 46 #[.val (.ref o0), .val (.int p1)] [(.int (0 : Int32)), (.ref o0)])) rfl rfl (hb hby own_d4_46)
          have F_o0_escaped_77 := F_o0_escaped.same W77
          have E_o0_78 := E_o0.wr W77
          have F_o0_twoByte_79 := F_o0_twoByte.other W77 (Or.inr (slot_ne (Or.inl (hw _ (List.mem_of_getElem? (i := 22) rfl))) (Or.inl (hw _ (List.mem_of_getElem? (i := 20) rfl))) (by decide) (t := .boolean) (t' := .boolean) (by decide) (by decide)))
          have Kp80 : Keep h0 _ [o0] := (Keep.refl h0 [o0]).wr W77 (Or.inl (List.mem_of_getElem? (i := 0) rfl))
          have Z81 := Nat.le_trans Z0 (Keep.of_wr W77).1
          obtain ⟨L77, X77, N77⟩ := own_gl X77 (Fr.snoc X77 N0 g_o0)
          refine own_back st77 ?_
          show own_End p e below s _ _ _ (T77.setTop (mkF m 49 #[.val (.ref o0), .val (.int p1)] []))
          refine own_aloadN X77 hx (hb hby own_d4_49) rfl rfl (q := 50) rfl ?_
          obtain ⟨T82, X82, e82, st82⟩ := getF X77 hx hZ hown (host := "") (Or.inl (hw _ (List.mem_of_getElem? (i := 21) rfl))) Via.refl e77 F_o0_twoByte_79 (g := (mkF m 50 #[.val (.ref o0), .val (.int p1)] [(.ref o0)])) rfl rfl (hb hby own_d4_50)
          refine own_back st82 ?_
          show own_End p e below s _ _ _ (T82.setTop (mkF m 53 #[.val (.ref o0), .val (.int p1)] [(.int w_o0_twoByte)]))
          refine own_retN X82 hx (t := .boolean) (by simp) Bd.returns Bd.notSynchronized (by decide) (by decide) (hb hby own_d4_53) ?_
          show own_Q4 Z o0 p1 w_o0_escaped w_o0_twoByte h0 n0 _ T82.heap _
          rw [e82]
          exact ⟨(by rw [show own_F4 p1 w_o0_escaped w_o0_twoByte = _ from (by simp only [own_F4, if_neg hc4_11, if_neg hc10_27, if_neg hc16_48, if_neg hc38_69] : _ = (w_o0_twoByte &&& 1))]; rfl), N77, Kp80, E_o0_78, (by have q := F_o0_escaped_77; simp only [own_G4_escaped, if_neg hc4_11, if_neg hc10_27, if_neg hc16_48, if_neg hc38_69]; exact q), (by have q := F_o0_twoByte_79; simp only [own_G4_twoByte, if_neg hc4_11, if_neg hc10_27, if_neg hc16_48, if_neg hc38_69]; exact q)⟩
theorem own_d7_0 : decode prog_26_method_3_code 0 = .ok (.aload_n 0, 1) := by decide +kernel
theorem own_d7_1 : decode prog_26_method_3_code 1 = .ok (.getfield 13, 3) := by decide +kernel
theorem own_d7_4 : decode prog_26_method_3_code 4 = .ok (.ifCond .ne 14, 3) := by decide +kernel
theorem own_d7_7 : decode prog_26_method_3_code 7 = .ok (.aload_n 0, 1) := by decide +kernel
theorem own_d7_8 : decode prog_26_method_3_code 8 = .ok (.getfield 7, 3) := by decide +kernel
theorem own_d7_11 : decode prog_26_method_3_code 11 = .ok (.ifCond .ne 7, 3) := by decide +kernel
theorem own_d7_14 : decode prog_26_method_3_code 14 = .ok (.iconst 1, 1) := by decide +kernel
theorem own_d7_15 : decode prog_26_method_3_code 15 = .ok (.goto 4, 3) := by decide +kernel
theorem own_d7_19 : decode prog_26_method_3_code 19 = .ok (.ireturn, 1) := by decide +kernel
theorem own_d7_18 : decode prog_26_method_3_code 18 = .ok (.iconst 0, 1) := by decide +kernel
def own_F7 (w_o0_escaped : Int32) (w_o0_twoByte : Int32) : Int32 := (if w_o0_twoByte = (0 : Int32) then (if w_o0_escaped = (0 : Int32) then (1 : Int32) else (0 : Int32)) else (0 : Int32))
def own_Q7 (Z : State) (o0 : Addr) (w_o0_escaped : Int32) (w_o0_twoByte : Int32) (h0 : Heap) (n0 : Nat) (v : Option Value) (h : Heap) (L : List Loc) : Prop := v = some (.int (own_F7 w_o0_escaped w_o0_twoByte)) ∧ Fr n0 L ∧ h = h0
theorem own_pn_rm7 : plainName "com/example/renkei/renkei/codec/TwoByteRuns" = true := by first | (simp [plainName, overriddenIn]; done) | decide +kernel
theorem own_ef_rm7 (m : MethodId) (o0 : Addr) : entryFrame m #[(.ref o0)] 1 = mkF m 0 #[.val (.ref o0)] [] := by first | (simp [entryFrame, mkF, argsToLocals, Value.category]; done) | rfl
set_option maxRecDepth 65536 in
set_option maxHeartbeats 40000000 in
theorem own_rm7 (l : Launch) (Z : State) (a0 : Array Value) (hw : ∀ d ∈ tables_1, d.before a0 Z = true) (ws : List Jvm.Cond) (o0 : Addr) (w_o0_escaped : Int32) (w_o0_twoByte : Int32) (h0 : Heap) (n0 : Nat) (Z0 : n0 ≤ h0.size) (E_o0 : Exa Z h0 o0 "com/example/renkei/renkei/codec/TwoByteRuns") (F_o0_escaped : Fld Z h0 o0 "com/example/renkei/renkei/codec/TwoByteRuns" "escaped" "Z" (.int w_o0_escaped)) (F_o0_twoByte : Fld Z h0 o0 "com/example/renkei/renkei/codec/TwoByteRuns" "twoByte" "Z" (.int w_o0_twoByte)) :
    MetFree l (⟨"com/example/renkei/renkei/codec/TwoByteRuns", "settled", "()Z"⟩ : MethodName) (head1 (Jvm.Cond.code (⟨"com/example/renkei/renkei/codec/TwoByteRuns", "settled", "()Z"⟩ : MethodName) prog_26_method_3_code 1 (some .boolean) :: ws) ({ frames := 0, cells := 0, slots := 0, locals := 0 } : Room)) (fun a U => a = #[(.ref o0)] ∧ Z.Warmed39 U.vm ∧ U.heap = h0) (fun _ _ _ _ _ => True) (fun _ U o U' => ∃ v L, o = .returned v ∧ own_Q7 Z o0 w_o0_escaped w_o0_twoByte h0 n0 v U'.heap L ∧ FrameEnd U o U' L ({ frames := 0, cells := 0, slots := 0, locals := 0 } : Room).cells ({ frames := 0, cells := 0, slots := 0, locals := 0 } : Room).slots) := by
  refine MetFree.of_bodySF (plainFor_of_name own_pn_rm7) hisR ?_
  intro p e s m args below meth c s₁ Bd hml0 hP hK
  obtain ⟨rfl, hZ, hh⟩ := hP
  have hx := Bd.exec
  have hby := Bd.bytes
  have hml : c.maxLocals = 1 := hml0
  have hown : s.vm.findClass "com/example/renkei/renkei/codec/TwoByteRuns" = some m.cls := findClass_of_methodNamed Bd.named
  have hnm := (name_of_methodNamed Bd.named Bd.method).1
  have X0 : Stand p l e ({ frames := 0, cells := 0, slots := 0, locals := 0 } : Room) s m #[(.ref o0)] below meth c s₁ [] 0 0 := Stand.of_body Bd
  have e0 : s₁.heap = h0 := by rw [← hh, Bd.state]; rfl
  have N0 := Fr.nil n0
  show own_End p e below s (own_Q7 Z o0 w_o0_escaped w_o0_twoByte h0 n0) ({ frames := 0, cells := 0, slots := 0, locals := 0 } : Room).cells ({ frames := 0, cells := 0, slots := 0, locals := 0 } : Room).slots (s₁.setTop (entryFrame m #[(.ref o0)] 1))
  rw [own_ef_rm7]
  refine own_aloadN X0 hx (hb hby own_d7_0) rfl rfl (q := 1) rfl ?_
  obtain ⟨T84, X84, e84, st84⟩ := getF X0 hx hZ hown (host := "") (Or.inl (hw _ (List.mem_of_getElem? (i := 21) rfl))) Via.refl e0 F_o0_twoByte (g := (mkF m 1 #[.val (.ref o0)] [(.ref o0)])) rfl rfl (hb hby own_d7_1)
  refine own_back st84 ?_
  show own_End p e below s _ _ _ (T84.setTop (mkF m 4 #[.val (.ref o0)] [(.int w_o0_twoByte)]))
  by_cases hc4_85 : w_o0_twoByte = (0 : Int32)
  · refine own_ifN X84 hx (hb hby own_d7_4) (teq hc4_85).2 (q := 7) rfl ?_
    refine own_aloadN X84 hx (hb hby own_d7_7) rfl rfl (q := 8) rfl ?_
    obtain ⟨T86, X86, e86, st86⟩ := getF X84 hx hZ hown (host := "") (Or.inl (hw _ (List.mem_of_getElem? (i := 19) rfl))) Via.refl e84 F_o0_escaped (g := (mkF m 8 #[.val (.ref o0)] [(.ref o0)])) rfl rfl (hb hby own_d7_8)
    refine own_back st86 ?_
    show own_End p e below s _ _ _ (T86.setTop (mkF m 11 #[.val (.ref o0)] [(.int w_o0_escaped)]))
    by_cases hc11_87 : w_o0_escaped = (0 : Int32)
    · refine own_ifN X86 hx (hb hby own_d7_11) (teq hc11_87).2 (q := 14) rfl ?_
      refine own_iconst X86 hx (hb hby own_d7_14) (z := 1) rfl (q := 15) rfl ?_
      refine own_goto X86 hx (hb hby own_d7_15) (q := 19) (by decide) (by decide) ?_
      refine own_retN X86 hx (t := .boolean) (by simp) Bd.returns Bd.notSynchronized (by decide) (by decide) (hb hby own_d7_19) ?_
      show own_Q7 Z o0 w_o0_escaped w_o0_twoByte h0 n0 _ T86.heap _
      exact ⟨(by rw [show own_F7 w_o0_escaped w_o0_twoByte = _ from (by simp only [own_F7, if_pos hc4_85, if_pos hc11_87] : _ = (1 : Int32))]; rfl), N0, e86⟩
    · refine own_ifY X86 hx (hb hby own_d7_11) (feq hc11_87).2 (q := 18) (by decide) (by decide) ?_
      refine own_iconst X86 hx (hb hby own_d7_18) (z := 0) rfl (q := 19) rfl ?_
      refine own_retN X86 hx (t := .boolean) (by simp) Bd.returns Bd.notSynchronized (by decide) (by decide) (hb hby own_d7_19) ?_
      show own_Q7 Z o0 w_o0_escaped w_o0_twoByte h0 n0 _ T86.heap _
      exact ⟨(by rw [show own_F7 w_o0_escaped w_o0_twoByte = _ from (by simp only [own_F7, if_pos hc4_85, if_neg hc11_87] : _ = (0 : Int32))]; rfl), N0, e86⟩
  · refine own_ifY X84 hx (hb hby own_d7_4) (feq hc4_85).2 (q := 18) (by decide) (by decide) ?_
    refine own_iconst X84 hx (hb hby own_d7_18) (z := 0) rfl (q := 19) rfl ?_
    refine own_retN X84 hx (t := .boolean) (by simp) Bd.returns Bd.notSynchronized (by decide) (by decide) (hb hby own_d7_19) ?_
    show own_Q7 Z o0 w_o0_escaped w_o0_twoByte h0 n0 _ T84.heap _
    exact ⟨(by rw [show own_F7 w_o0_escaped w_o0_twoByte = _ from (by simp only [own_F7, if_neg hc4_85] : _ = (0 : Int32))]; rfl), N0, e84⟩
theorem own_d6_0 : decode method_4_code 0 = .ok (.aload_n 0, 1) := by decide +kernel
theorem own_d6_1 : decode method_4_code 1 = .ok (.iload_n 1, 1) := by decide +kernel
theorem own_d6_2 : decode method_4_code 2 = .ok (.iconst 1, 1) := by decide +kernel
theorem own_d6_3 : decode method_4_code 3 = .ok (.isub, 1) := by decide +kernel
theorem own_d6_4 : decode method_4_code 4 = .ok (.iaload, 1) := by decide +kernel
theorem own_d6_5 : decode method_4_code 5 = .ok (.bipush 27, 2) := by decide +kernel
theorem own_d6_7 : decode method_4_code 7 = .ok (.if_icmp .ne 23, 3) := by decide +kernel
theorem own_d6_10 : decode method_4_code 10 = .ok (.aload_n 0, 1) := by decide +kernel
theorem own_d6_11 : decode method_4_code 11 = .ok (.iload_n 1, 1) := by decide +kernel
theorem own_d6_12 : decode method_4_code 12 = .ok (.iaload, 1) := by decide +kernel
theorem own_d6_13 : decode method_4_code 13 = .ok (.bipush 36, 2) := by decide +kernel
theorem own_d6_15 : decode method_4_code 15 = .ok (.if_icmp .eq 11, 3) := by decide +kernel
theorem own_d6_26 : decode method_4_code 26 = .ok (.iconst 1, 1) := by decide +kernel
theorem own_d6_27 : decode method_4_code 27 = .ok (.goto 4, 3) := by decide +kernel
theorem own_d6_31 : decode method_4_code 31 = .ok (.ireturn, 1) := by decide +kernel
theorem own_d6_18 : decode method_4_code 18 = .ok (.aload_n 0, 1) := by decide +kernel
theorem own_d6_19 : decode method_4_code 19 = .ok (.iload_n 1, 1) := by decide +kernel
theorem own_d6_20 : decode method_4_code 20 = .ok (.iaload, 1) := by decide +kernel
theorem own_d6_21 : decode method_4_code 21 = .ok (.bipush 40, 2) := by decide +kernel
theorem own_d6_23 : decode method_4_code 23 = .ok (.if_icmp .ne 7, 3) := by decide +kernel
theorem own_d6_30 : decode method_4_code 30 = .ok (.iconst 0, 1) := by decide +kernel
def own_F6_1 (w_o0_0 : Int32) (w_o0_1 : Int32) (w_o0_2 : Int32) (w_o0_3 : Int32) (w_o0_4 : Int32) (w_o0_5 : Int32) : Int32 := (if w_o0_0 = (27 : Int32) then (if w_o0_1 = (36 : Int32) then (1 : Int32) else (if w_o0_1 = (40 : Int32) then (1 : Int32) else (0 : Int32))) else (0 : Int32))
def own_Q6_1 (Z : State) (o0 : Addr) (k_o0 : ClassId) (w_o0_0 : Int32) (w_o0_1 : Int32) (w_o0_2 : Int32) (w_o0_3 : Int32) (w_o0_4 : Int32) (w_o0_5 : Int32) (h0 : Heap) (n0 : Nat) (v : Option Value) (h : Heap) (L : List Loc) : Prop := v = some (.int (own_F6_1 w_o0_0 w_o0_1 w_o0_2 w_o0_3 w_o0_4 w_o0_5)) ∧ Fr n0 L ∧ h = h0
theorem own_pn_rm6_1 : plainName "com/example/renkei/renkei/codec/TwoByteRunsNextPinLaw" = true := by first | (simp [plainName, overriddenIn]; done) | decide +kernel
theorem own_ef_rm6_1 (m : MethodId) (o0 : Addr) : entryFrame m #[(.ref o0), (.int (1 : Int32))] 2 = mkF m 0 #[.val (.ref o0), .val (.int (1 : Int32))] [] := by first | (simp [entryFrame, mkF, argsToLocals, Value.category]; done) | rfl
set_option maxRecDepth 65536 in
set_option maxHeartbeats 40000000 in
theorem own_rm6_1 (l : Launch) (Z : State) (a0 : Array Value) (hw : ∀ d ∈ tables_1, d.before a0 Z = true) (ws : List Jvm.Cond) (o0 : Addr) (k_o0 : ClassId) (w_o0_0 : Int32) (w_o0_1 : Int32) (w_o0_2 : Int32) (w_o0_3 : Int32) (w_o0_4 : Int32) (w_o0_5 : Int32) (h0 : Heap) (n0 : Nat) (Z0 : n0 ≤ h0.size) (V_o0 : Arv Z h0 o0 k_o0 .int (6 : Int32) [(.int w_o0_0), (.int w_o0_1), (.int w_o0_2), (.int w_o0_3), (.int w_o0_4), (.int w_o0_5)] (.int (0 : Int32))) :
    MetFree l (⟨"com/example/renkei/renkei/codec/TwoByteRunsNextPinLaw", "isSwitch", "([II)Z"⟩ : MethodName) (head1 (Jvm.Cond.code (⟨"com/example/renkei/renkei/codec/TwoByteRunsNextPinLaw", "isSwitch", "([II)Z"⟩ : MethodName) method_4_code 2 (some .boolean) :: ws) ({ frames := 0, cells := 0, slots := 0, locals := 0 } : Room)) (fun a U => a = #[(.ref o0), (.int (1 : Int32))] ∧ Z.Warmed39 U.vm ∧ U.heap = h0) (fun _ _ _ _ _ => True) (fun _ U o U' => ∃ v L, o = .returned v ∧ own_Q6_1 Z o0 k_o0 w_o0_0 w_o0_1 w_o0_2 w_o0_3 w_o0_4 w_o0_5 h0 n0 v U'.heap L ∧ FrameEnd U o U' L ({ frames := 0, cells := 0, slots := 0, locals := 0 } : Room).cells ({ frames := 0, cells := 0, slots := 0, locals := 0 } : Room).slots) := by
  refine MetFree.of_bodySF (plainFor_of_name own_pn_rm6_1) hisR ?_
  intro p e s m args below meth c s₁ Bd hml0 hP hK
  obtain ⟨rfl, hZ, hh⟩ := hP
  have hx := Bd.exec
  have hby := Bd.bytes
  have hml : c.maxLocals = 2 := hml0
  have hown : s.vm.findClass "com/example/renkei/renkei/codec/TwoByteRunsNextPinLaw" = some m.cls := findClass_of_methodNamed Bd.named
  have hnm := (name_of_methodNamed Bd.named Bd.method).1
  have X0 : Stand p l e ({ frames := 0, cells := 0, slots := 0, locals := 0 } : Room) s m #[(.ref o0), (.int (1 : Int32))] below meth c s₁ [] 0 0 := Stand.of_body Bd
  have e0 : s₁.heap = h0 := by rw [← hh, Bd.state]; rfl
  have N0 := Fr.nil n0
  show own_End p e below s (own_Q6_1 Z o0 k_o0 w_o0_0 w_o0_1 w_o0_2 w_o0_3 w_o0_4 w_o0_5 h0 n0) ({ frames := 0, cells := 0, slots := 0, locals := 0 } : Room).cells ({ frames := 0, cells := 0, slots := 0, locals := 0 } : Room).slots (s₁.setTop (entryFrame m #[(.ref o0), (.int (1 : Int32))] 2))
  rw [own_ef_rm6_1]
  refine own_aloadN X0 hx (hb hby own_d6_0) rfl rfl (q := 1) rfl ?_
  refine own_iloadN X0 hx (hb hby own_d6_1) rfl (q := 2) rfl ?_
  refine own_iconst X0 hx (hb hby own_d6_2) (z := 1) rfl (q := 3) rfl ?_
  refine own_isub X0 hx (hb hby own_d6_3) (q := 4) rfl ?_
  show own_End p e below s _ _ _ (s₁.setTop (mkF m 4 #[.val (.ref o0), .val (.int (1 : Int32))] [(.int (0 : Int32)), (.ref o0)]))
  obtain ⟨cl91, Ar91, q91, S91, N91v, H91, G91⟩ := id V_o0
  have hin91 : ¬ ((0 : Int32) < 0 ∨ cl91.slots.size ≤ ((0 : Int32)).toNatClampNeg) := inb_of S91 ⟨by decide, by decide⟩
  refine own_back (X0.iaload hx (j := (0 : Int32)) (v := (.int w_o0_0)) (by rw [e0]; exact Ar91.1) (State.isArrayOf_alike hZ.alike Ar91.2.1) Ar91.2.2 hin91 (Has.at H91 hin91 rfl) (g := (mkF m 4 #[.val (.ref o0), .val (.int (1 : Int32))] [(.int (0 : Int32)), (.ref o0)])) rfl rfl (hb hby own_d6_4)) ?_
  show own_End p e below s _ _ _ (s₁.setTop (mkF m 5 #[.val (.ref o0), .val (.int (1 : Int32))] [(.int w_o0_0)]))
  refine own_bipush X0 hx (hb hby own_d6_5) (z := 27) rfl (q := 7) rfl ?_
  by_cases hc7_92 : w_o0_0 = (27 : Int32)
  · refine own_icN X0 hx (hb hby own_d6_7) (teq hc7_92).2 (q := 10) rfl ?_
    refine own_aloadN X0 hx (hb hby own_d6_10) rfl rfl (q := 11) rfl ?_
    refine own_iloadN X0 hx (hb hby own_d6_11) rfl (q := 12) rfl ?_
    obtain ⟨cl93, Ar93, q93, S93, N93v, H93, G93⟩ := id V_o0
    have hin93 : ¬ ((1 : Int32) < 0 ∨ cl93.slots.size ≤ ((1 : Int32)).toNatClampNeg) := inb_of S93 ⟨by decide, by decide⟩
    refine own_back (X0.iaload hx (j := (1 : Int32)) (v := (.int w_o0_1)) (by rw [e0]; exact Ar93.1) (State.isArrayOf_alike hZ.alike Ar93.2.1) Ar93.2.2 hin93 (Has.at H93 hin93 rfl) (g := (mkF m 12 #[.val (.ref o0), .val (.int (1 : Int32))] [(.int (1 : Int32)), (.ref o0)])) rfl rfl (hb hby own_d6_12)) ?_
    show own_End p e below s _ _ _ (s₁.setTop (mkF m 13 #[.val (.ref o0), .val (.int (1 : Int32))] [(.int w_o0_1)]))
    refine own_bipush X0 hx (hb hby own_d6_13) (z := 36) rfl (q := 15) rfl ?_
    by_cases hc15_94 : w_o0_1 = (36 : Int32)
    · refine own_icY X0 hx (hb hby own_d6_15) (teq hc15_94).1 (q := 26) (by decide) (by decide) ?_
      refine own_iconst X0 hx (hb hby own_d6_26) (z := 1) rfl (q := 27) rfl ?_
      refine own_goto X0 hx (hb hby own_d6_27) (q := 31) (by decide) (by decide) ?_
      refine own_retN X0 hx (t := .boolean) (by simp) Bd.returns Bd.notSynchronized (by decide) (by decide) (hb hby own_d6_31) ?_
      show own_Q6_1 Z o0 k_o0 w_o0_0 w_o0_1 w_o0_2 w_o0_3 w_o0_4 w_o0_5 h0 n0 _ s₁.heap _
      exact ⟨(by rw [show own_F6_1 w_o0_0 w_o0_1 w_o0_2 w_o0_3 w_o0_4 w_o0_5 = _ from (by simp only [own_F6_1, if_pos hc7_92, if_pos hc15_94] : _ = (1 : Int32))]; rfl), N0, e0⟩
    · refine own_icN X0 hx (hb hby own_d6_15) (feq hc15_94).1 (q := 18) rfl ?_
      refine own_aloadN X0 hx (hb hby own_d6_18) rfl rfl (q := 19) rfl ?_
      refine own_iloadN X0 hx (hb hby own_d6_19) rfl (q := 20) rfl ?_
      obtain ⟨cl96, Ar96, q96, S96, N96v, H96, G96⟩ := id V_o0
      have hin96 : ¬ ((1 : Int32) < 0 ∨ cl96.slots.size ≤ ((1 : Int32)).toNatClampNeg) := inb_of S96 ⟨by decide, by decide⟩
      refine own_back (X0.iaload hx (j := (1 : Int32)) (v := (.int w_o0_1)) (by rw [e0]; exact Ar96.1) (State.isArrayOf_alike hZ.alike Ar96.2.1) Ar96.2.2 hin96 (Has.at H96 hin96 rfl) (g := (mkF m 20 #[.val (.ref o0), .val (.int (1 : Int32))] [(.int (1 : Int32)), (.ref o0)])) rfl rfl (hb hby own_d6_20)) ?_
      show own_End p e below s _ _ _ (s₁.setTop (mkF m 21 #[.val (.ref o0), .val (.int (1 : Int32))] [(.int w_o0_1)]))
      refine own_bipush X0 hx (hb hby own_d6_21) (z := 40) rfl (q := 23) rfl ?_
      by_cases hc23_97 : w_o0_1 = (40 : Int32)
      · refine own_icN X0 hx (hb hby own_d6_23) (teq hc23_97).2 (q := 26) rfl ?_
        refine own_iconst X0 hx (hb hby own_d6_26) (z := 1) rfl (q := 27) rfl ?_
        refine own_goto X0 hx (hb hby own_d6_27) (q := 31) (by decide) (by decide) ?_
        refine own_retN X0 hx (t := .boolean) (by simp) Bd.returns Bd.notSynchronized (by decide) (by decide) (hb hby own_d6_31) ?_
        show own_Q6_1 Z o0 k_o0 w_o0_0 w_o0_1 w_o0_2 w_o0_3 w_o0_4 w_o0_5 h0 n0 _ s₁.heap _
        exact ⟨(by rw [show own_F6_1 w_o0_0 w_o0_1 w_o0_2 w_o0_3 w_o0_4 w_o0_5 = _ from (by simp only [own_F6_1, if_pos hc7_92, if_neg hc15_94, if_pos hc23_97] : _ = (1 : Int32))]; rfl), N0, e0⟩
      · refine own_icY X0 hx (hb hby own_d6_23) (feq hc23_97).2 (q := 30) (by decide) (by decide) ?_
        refine own_iconst X0 hx (hb hby own_d6_30) (z := 0) rfl (q := 31) rfl ?_
        refine own_retN X0 hx (t := .boolean) (by simp) Bd.returns Bd.notSynchronized (by decide) (by decide) (hb hby own_d6_31) ?_
        show own_Q6_1 Z o0 k_o0 w_o0_0 w_o0_1 w_o0_2 w_o0_3 w_o0_4 w_o0_5 h0 n0 _ s₁.heap _
        exact ⟨(by rw [show own_F6_1 w_o0_0 w_o0_1 w_o0_2 w_o0_3 w_o0_4 w_o0_5 = _ from (by simp only [own_F6_1, if_pos hc7_92, if_neg hc15_94, if_neg hc23_97] : _ = (0 : Int32))]; rfl), N0, e0⟩
  · refine own_icY X0 hx (hb hby own_d6_7) (feq hc7_92).2 (q := 30) (by decide) (by decide) ?_
    refine own_iconst X0 hx (hb hby own_d6_30) (z := 0) rfl (q := 31) rfl ?_
    refine own_retN X0 hx (t := .boolean) (by simp) Bd.returns Bd.notSynchronized (by decide) (by decide) (hb hby own_d6_31) ?_
    show own_Q6_1 Z o0 k_o0 w_o0_0 w_o0_1 w_o0_2 w_o0_3 w_o0_4 w_o0_5 h0 n0 _ s₁.heap _
    exact ⟨(by rw [show own_F6_1 w_o0_0 w_o0_1 w_o0_2 w_o0_3 w_o0_4 w_o0_5 = _ from (by simp only [own_F6_1, if_neg hc7_92] : _ = (0 : Int32))]; rfl), N0, e0⟩
def own_F6_2 (w_o0_0 : Int32) (w_o0_1 : Int32) (w_o0_2 : Int32) (w_o0_3 : Int32) (w_o0_4 : Int32) (w_o0_5 : Int32) : Int32 := (if w_o0_1 = (27 : Int32) then (if w_o0_2 = (36 : Int32) then (1 : Int32) else (if w_o0_2 = (40 : Int32) then (1 : Int32) else (0 : Int32))) else (0 : Int32))
def own_Q6_2 (Z : State) (o0 : Addr) (k_o0 : ClassId) (w_o0_0 : Int32) (w_o0_1 : Int32) (w_o0_2 : Int32) (w_o0_3 : Int32) (w_o0_4 : Int32) (w_o0_5 : Int32) (h0 : Heap) (n0 : Nat) (v : Option Value) (h : Heap) (L : List Loc) : Prop := v = some (.int (own_F6_2 w_o0_0 w_o0_1 w_o0_2 w_o0_3 w_o0_4 w_o0_5)) ∧ Fr n0 L ∧ h = h0
theorem own_pn_rm6_2 : plainName "com/example/renkei/renkei/codec/TwoByteRunsNextPinLaw" = true := by first | (simp [plainName, overriddenIn]; done) | decide +kernel
theorem own_ef_rm6_2 (m : MethodId) (o0 : Addr) : entryFrame m #[(.ref o0), (.int (2 : Int32))] 2 = mkF m 0 #[.val (.ref o0), .val (.int (2 : Int32))] [] := by first | (simp [entryFrame, mkF, argsToLocals, Value.category]; done) | rfl
set_option maxRecDepth 65536 in
set_option maxHeartbeats 40000000 in
theorem own_rm6_2 (l : Launch) (Z : State) (a0 : Array Value) (hw : ∀ d ∈ tables_1, d.before a0 Z = true) (ws : List Jvm.Cond) (o0 : Addr) (k_o0 : ClassId) (w_o0_0 : Int32) (w_o0_1 : Int32) (w_o0_2 : Int32) (w_o0_3 : Int32) (w_o0_4 : Int32) (w_o0_5 : Int32) (h0 : Heap) (n0 : Nat) (Z0 : n0 ≤ h0.size) (V_o0 : Arv Z h0 o0 k_o0 .int (6 : Int32) [(.int w_o0_0), (.int w_o0_1), (.int w_o0_2), (.int w_o0_3), (.int w_o0_4), (.int w_o0_5)] (.int (0 : Int32))) :
    MetFree l (⟨"com/example/renkei/renkei/codec/TwoByteRunsNextPinLaw", "isSwitch", "([II)Z"⟩ : MethodName) (head1 (Jvm.Cond.code (⟨"com/example/renkei/renkei/codec/TwoByteRunsNextPinLaw", "isSwitch", "([II)Z"⟩ : MethodName) method_4_code 2 (some .boolean) :: ws) ({ frames := 0, cells := 0, slots := 0, locals := 0 } : Room)) (fun a U => a = #[(.ref o0), (.int (2 : Int32))] ∧ Z.Warmed39 U.vm ∧ U.heap = h0) (fun _ _ _ _ _ => True) (fun _ U o U' => ∃ v L, o = .returned v ∧ own_Q6_2 Z o0 k_o0 w_o0_0 w_o0_1 w_o0_2 w_o0_3 w_o0_4 w_o0_5 h0 n0 v U'.heap L ∧ FrameEnd U o U' L ({ frames := 0, cells := 0, slots := 0, locals := 0 } : Room).cells ({ frames := 0, cells := 0, slots := 0, locals := 0 } : Room).slots) := by
  refine MetFree.of_bodySF (plainFor_of_name own_pn_rm6_2) hisR ?_
  intro p e s m args below meth c s₁ Bd hml0 hP hK
  obtain ⟨rfl, hZ, hh⟩ := hP
  have hx := Bd.exec
  have hby := Bd.bytes
  have hml : c.maxLocals = 2 := hml0
  have hown : s.vm.findClass "com/example/renkei/renkei/codec/TwoByteRunsNextPinLaw" = some m.cls := findClass_of_methodNamed Bd.named
  have hnm := (name_of_methodNamed Bd.named Bd.method).1
  have X0 : Stand p l e ({ frames := 0, cells := 0, slots := 0, locals := 0 } : Room) s m #[(.ref o0), (.int (2 : Int32))] below meth c s₁ [] 0 0 := Stand.of_body Bd
  have e0 : s₁.heap = h0 := by rw [← hh, Bd.state]; rfl
  have N0 := Fr.nil n0
  show own_End p e below s (own_Q6_2 Z o0 k_o0 w_o0_0 w_o0_1 w_o0_2 w_o0_3 w_o0_4 w_o0_5 h0 n0) ({ frames := 0, cells := 0, slots := 0, locals := 0 } : Room).cells ({ frames := 0, cells := 0, slots := 0, locals := 0 } : Room).slots (s₁.setTop (entryFrame m #[(.ref o0), (.int (2 : Int32))] 2))
  rw [own_ef_rm6_2]
  refine own_aloadN X0 hx (hb hby own_d6_0) rfl rfl (q := 1) rfl ?_
  refine own_iloadN X0 hx (hb hby own_d6_1) rfl (q := 2) rfl ?_
  refine own_iconst X0 hx (hb hby own_d6_2) (z := 1) rfl (q := 3) rfl ?_
  refine own_isub X0 hx (hb hby own_d6_3) (q := 4) rfl ?_
  show own_End p e below s _ _ _ (s₁.setTop (mkF m 4 #[.val (.ref o0), .val (.int (2 : Int32))] [(.int (1 : Int32)), (.ref o0)]))
  obtain ⟨cl101, Ar101, q101, S101, N101v, H101, G101⟩ := id V_o0
  have hin101 : ¬ ((1 : Int32) < 0 ∨ cl101.slots.size ≤ ((1 : Int32)).toNatClampNeg) := inb_of S101 ⟨by decide, by decide⟩
  refine own_back (X0.iaload hx (j := (1 : Int32)) (v := (.int w_o0_1)) (by rw [e0]; exact Ar101.1) (State.isArrayOf_alike hZ.alike Ar101.2.1) Ar101.2.2 hin101 (Has.at H101 hin101 rfl) (g := (mkF m 4 #[.val (.ref o0), .val (.int (2 : Int32))] [(.int (1 : Int32)), (.ref o0)])) rfl rfl (hb hby own_d6_4)) ?_
  show own_End p e below s _ _ _ (s₁.setTop (mkF m 5 #[.val (.ref o0), .val (.int (2 : Int32))] [(.int w_o0_1)]))
  refine own_bipush X0 hx (hb hby own_d6_5) (z := 27) rfl (q := 7) rfl ?_
  by_cases hc7_102 : w_o0_1 = (27 : Int32)
  · refine own_icN X0 hx (hb hby own_d6_7) (teq hc7_102).2 (q := 10) rfl ?_
    refine own_aloadN X0 hx (hb hby own_d6_10) rfl rfl (q := 11) rfl ?_
    refine own_iloadN X0 hx (hb hby own_d6_11) rfl (q := 12) rfl ?_
    obtain ⟨cl103, Ar103, q103, S103, N103v, H103, G103⟩ := id V_o0
    have hin103 : ¬ ((2 : Int32) < 0 ∨ cl103.slots.size ≤ ((2 : Int32)).toNatClampNeg) := inb_of S103 ⟨by decide, by decide⟩
    refine own_back (X0.iaload hx (j := (2 : Int32)) (v := (.int w_o0_2)) (by rw [e0]; exact Ar103.1) (State.isArrayOf_alike hZ.alike Ar103.2.1) Ar103.2.2 hin103 (Has.at H103 hin103 rfl) (g := (mkF m 12 #[.val (.ref o0), .val (.int (2 : Int32))] [(.int (2 : Int32)), (.ref o0)])) rfl rfl (hb hby own_d6_12)) ?_
    show own_End p e below s _ _ _ (s₁.setTop (mkF m 13 #[.val (.ref o0), .val (.int (2 : Int32))] [(.int w_o0_2)]))
    refine own_bipush X0 hx (hb hby own_d6_13) (z := 36) rfl (q := 15) rfl ?_
    by_cases hc15_104 : w_o0_2 = (36 : Int32)
    · refine own_icY X0 hx (hb hby own_d6_15) (teq hc15_104).1 (q := 26) (by decide) (by decide) ?_
      refine own_iconst X0 hx (hb hby own_d6_26) (z := 1) rfl (q := 27) rfl ?_
      refine own_goto X0 hx (hb hby own_d6_27) (q := 31) (by decide) (by decide) ?_
      refine own_retN X0 hx (t := .boolean) (by simp) Bd.returns Bd.notSynchronized (by decide) (by decide) (hb hby own_d6_31) ?_
      show own_Q6_2 Z o0 k_o0 w_o0_0 w_o0_1 w_o0_2 w_o0_3 w_o0_4 w_o0_5 h0 n0 _ s₁.heap _
      exact ⟨(by rw [show own_F6_2 w_o0_0 w_o0_1 w_o0_2 w_o0_3 w_o0_4 w_o0_5 = _ from (by simp only [own_F6_2, if_pos hc7_102, if_pos hc15_104] : _ = (1 : Int32))]; rfl), N0, e0⟩
    · refine own_icN X0 hx (hb hby own_d6_15) (feq hc15_104).1 (q := 18) rfl ?_
      refine own_aloadN X0 hx (hb hby own_d6_18) rfl rfl (q := 19) rfl ?_
      refine own_iloadN X0 hx (hb hby own_d6_19) rfl (q := 20) rfl ?_
      obtain ⟨cl106, Ar106, q106, S106, N106v, H106, G106⟩ := id V_o0
      have hin106 : ¬ ((2 : Int32) < 0 ∨ cl106.slots.size ≤ ((2 : Int32)).toNatClampNeg) := inb_of S106 ⟨by decide, by decide⟩
      refine own_back (X0.iaload hx (j := (2 : Int32)) (v := (.int w_o0_2)) (by rw [e0]; exact Ar106.1) (State.isArrayOf_alike hZ.alike Ar106.2.1) Ar106.2.2 hin106 (Has.at H106 hin106 rfl) (g := (mkF m 20 #[.val (.ref o0), .val (.int (2 : Int32))] [(.int (2 : Int32)), (.ref o0)])) rfl rfl (hb hby own_d6_20)) ?_
      show own_End p e below s _ _ _ (s₁.setTop (mkF m 21 #[.val (.ref o0), .val (.int (2 : Int32))] [(.int w_o0_2)]))
      refine own_bipush X0 hx (hb hby own_d6_21) (z := 40) rfl (q := 23) rfl ?_
      by_cases hc23_107 : w_o0_2 = (40 : Int32)
      · refine own_icN X0 hx (hb hby own_d6_23) (teq hc23_107).2 (q := 26) rfl ?_
        refine own_iconst X0 hx (hb hby own_d6_26) (z := 1) rfl (q := 27) rfl ?_
        refine own_goto X0 hx (hb hby own_d6_27) (q := 31) (by decide) (by decide) ?_
        refine own_retN X0 hx (t := .boolean) (by simp) Bd.returns Bd.notSynchronized (by decide) (by decide) (hb hby own_d6_31) ?_
        show own_Q6_2 Z o0 k_o0 w_o0_0 w_o0_1 w_o0_2 w_o0_3 w_o0_4 w_o0_5 h0 n0 _ s₁.heap _
        exact ⟨(by rw [show own_F6_2 w_o0_0 w_o0_1 w_o0_2 w_o0_3 w_o0_4 w_o0_5 = _ from (by simp only [own_F6_2, if_pos hc7_102, if_neg hc15_104, if_pos hc23_107] : _ = (1 : Int32))]; rfl), N0, e0⟩
      · refine own_icY X0 hx (hb hby own_d6_23) (feq hc23_107).2 (q := 30) (by decide) (by decide) ?_
        refine own_iconst X0 hx (hb hby own_d6_30) (z := 0) rfl (q := 31) rfl ?_
        refine own_retN X0 hx (t := .boolean) (by simp) Bd.returns Bd.notSynchronized (by decide) (by decide) (hb hby own_d6_31) ?_
        show own_Q6_2 Z o0 k_o0 w_o0_0 w_o0_1 w_o0_2 w_o0_3 w_o0_4 w_o0_5 h0 n0 _ s₁.heap _
        exact ⟨(by rw [show own_F6_2 w_o0_0 w_o0_1 w_o0_2 w_o0_3 w_o0_4 w_o0_5 = _ from (by simp only [own_F6_2, if_pos hc7_102, if_neg hc15_104, if_neg hc23_107] : _ = (0 : Int32))]; rfl), N0, e0⟩
  · refine own_icY X0 hx (hb hby own_d6_7) (feq hc7_102).2 (q := 30) (by decide) (by decide) ?_
    refine own_iconst X0 hx (hb hby own_d6_30) (z := 0) rfl (q := 31) rfl ?_
    refine own_retN X0 hx (t := .boolean) (by simp) Bd.returns Bd.notSynchronized (by decide) (by decide) (hb hby own_d6_31) ?_
    show own_Q6_2 Z o0 k_o0 w_o0_0 w_o0_1 w_o0_2 w_o0_3 w_o0_4 w_o0_5 h0 n0 _ s₁.heap _
    exact ⟨(by rw [show own_F6_2 w_o0_0 w_o0_1 w_o0_2 w_o0_3 w_o0_4 w_o0_5 = _ from (by simp only [own_F6_2, if_neg hc7_102] : _ = (0 : Int32))]; rfl), N0, e0⟩
def own_F6_3 (w_o0_0 : Int32) (w_o0_1 : Int32) (w_o0_2 : Int32) (w_o0_3 : Int32) (w_o0_4 : Int32) (w_o0_5 : Int32) : Int32 := (if w_o0_2 = (27 : Int32) then (if w_o0_3 = (36 : Int32) then (1 : Int32) else (if w_o0_3 = (40 : Int32) then (1 : Int32) else (0 : Int32))) else (0 : Int32))
def own_Q6_3 (Z : State) (o0 : Addr) (k_o0 : ClassId) (w_o0_0 : Int32) (w_o0_1 : Int32) (w_o0_2 : Int32) (w_o0_3 : Int32) (w_o0_4 : Int32) (w_o0_5 : Int32) (h0 : Heap) (n0 : Nat) (v : Option Value) (h : Heap) (L : List Loc) : Prop := v = some (.int (own_F6_3 w_o0_0 w_o0_1 w_o0_2 w_o0_3 w_o0_4 w_o0_5)) ∧ Fr n0 L ∧ h = h0
theorem own_pn_rm6_3 : plainName "com/example/renkei/renkei/codec/TwoByteRunsNextPinLaw" = true := by first | (simp [plainName, overriddenIn]; done) | decide +kernel
theorem own_ef_rm6_3 (m : MethodId) (o0 : Addr) : entryFrame m #[(.ref o0), (.int (3 : Int32))] 2 = mkF m 0 #[.val (.ref o0), .val (.int (3 : Int32))] [] := by first | (simp [entryFrame, mkF, argsToLocals, Value.category]; done) | rfl
set_option maxRecDepth 65536 in
set_option maxHeartbeats 40000000 in
theorem own_rm6_3 (l : Launch) (Z : State) (a0 : Array Value) (hw : ∀ d ∈ tables_1, d.before a0 Z = true) (ws : List Jvm.Cond) (o0 : Addr) (k_o0 : ClassId) (w_o0_0 : Int32) (w_o0_1 : Int32) (w_o0_2 : Int32) (w_o0_3 : Int32) (w_o0_4 : Int32) (w_o0_5 : Int32) (h0 : Heap) (n0 : Nat) (Z0 : n0 ≤ h0.size) (V_o0 : Arv Z h0 o0 k_o0 .int (6 : Int32) [(.int w_o0_0), (.int w_o0_1), (.int w_o0_2), (.int w_o0_3), (.int w_o0_4), (.int w_o0_5)] (.int (0 : Int32))) :
    MetFree l (⟨"com/example/renkei/renkei/codec/TwoByteRunsNextPinLaw", "isSwitch", "([II)Z"⟩ : MethodName) (head1 (Jvm.Cond.code (⟨"com/example/renkei/renkei/codec/TwoByteRunsNextPinLaw", "isSwitch", "([II)Z"⟩ : MethodName) method_4_code 2 (some .boolean) :: ws) ({ frames := 0, cells := 0, slots := 0, locals := 0 } : Room)) (fun a U => a = #[(.ref o0), (.int (3 : Int32))] ∧ Z.Warmed39 U.vm ∧ U.heap = h0) (fun _ _ _ _ _ => True) (fun _ U o U' => ∃ v L, o = .returned v ∧ own_Q6_3 Z o0 k_o0 w_o0_0 w_o0_1 w_o0_2 w_o0_3 w_o0_4 w_o0_5 h0 n0 v U'.heap L ∧ FrameEnd U o U' L ({ frames := 0, cells := 0, slots := 0, locals := 0 } : Room).cells ({ frames := 0, cells := 0, slots := 0, locals := 0 } : Room).slots) := by
  refine MetFree.of_bodySF (plainFor_of_name own_pn_rm6_3) hisR ?_
  intro p e s m args below meth c s₁ Bd hml0 hP hK
  obtain ⟨rfl, hZ, hh⟩ := hP
  have hx := Bd.exec
  have hby := Bd.bytes
  have hml : c.maxLocals = 2 := hml0
  have hown : s.vm.findClass "com/example/renkei/renkei/codec/TwoByteRunsNextPinLaw" = some m.cls := findClass_of_methodNamed Bd.named
  have hnm := (name_of_methodNamed Bd.named Bd.method).1
  have X0 : Stand p l e ({ frames := 0, cells := 0, slots := 0, locals := 0 } : Room) s m #[(.ref o0), (.int (3 : Int32))] below meth c s₁ [] 0 0 := Stand.of_body Bd
  have e0 : s₁.heap = h0 := by rw [← hh, Bd.state]; rfl
  have N0 := Fr.nil n0
  show own_End p e below s (own_Q6_3 Z o0 k_o0 w_o0_0 w_o0_1 w_o0_2 w_o0_3 w_o0_4 w_o0_5 h0 n0) ({ frames := 0, cells := 0, slots := 0, locals := 0 } : Room).cells ({ frames := 0, cells := 0, slots := 0, locals := 0 } : Room).slots (s₁.setTop (entryFrame m #[(.ref o0), (.int (3 : Int32))] 2))
  rw [own_ef_rm6_3]
  refine own_aloadN X0 hx (hb hby own_d6_0) rfl rfl (q := 1) rfl ?_
  refine own_iloadN X0 hx (hb hby own_d6_1) rfl (q := 2) rfl ?_
  refine own_iconst X0 hx (hb hby own_d6_2) (z := 1) rfl (q := 3) rfl ?_
  refine own_isub X0 hx (hb hby own_d6_3) (q := 4) rfl ?_
  show own_End p e below s _ _ _ (s₁.setTop (mkF m 4 #[.val (.ref o0), .val (.int (3 : Int32))] [(.int (2 : Int32)), (.ref o0)]))
  obtain ⟨cl111, Ar111, q111, S111, N111v, H111, G111⟩ := id V_o0
  have hin111 : ¬ ((2 : Int32) < 0 ∨ cl111.slots.size ≤ ((2 : Int32)).toNatClampNeg) := inb_of S111 ⟨by decide, by decide⟩
  refine own_back (X0.iaload hx (j := (2 : Int32)) (v := (.int w_o0_2)) (by rw [e0]; exact Ar111.1) (State.isArrayOf_alike hZ.alike Ar111.2.1) Ar111.2.2 hin111 (Has.at H111 hin111 rfl) (g := (mkF m 4 #[.val (.ref o0), .val (.int (3 : Int32))] [(.int (2 : Int32)), (.ref o0)])) rfl rfl (hb hby own_d6_4)) ?_
  show own_End p e below s _ _ _ (s₁.setTop (mkF m 5 #[.val (.ref o0), .val (.int (3 : Int32))] [(.int w_o0_2)]))
  refine own_bipush X0 hx (hb hby own_d6_5) (z := 27) rfl (q := 7) rfl ?_
  by_cases hc7_112 : w_o0_2 = (27 : Int32)
  · refine own_icN X0 hx (hb hby own_d6_7) (teq hc7_112).2 (q := 10) rfl ?_
    refine own_aloadN X0 hx (hb hby own_d6_10) rfl rfl (q := 11) rfl ?_
    refine own_iloadN X0 hx (hb hby own_d6_11) rfl (q := 12) rfl ?_
    obtain ⟨cl113, Ar113, q113, S113, N113v, H113, G113⟩ := id V_o0
    have hin113 : ¬ ((3 : Int32) < 0 ∨ cl113.slots.size ≤ ((3 : Int32)).toNatClampNeg) := inb_of S113 ⟨by decide, by decide⟩
    refine own_back (X0.iaload hx (j := (3 : Int32)) (v := (.int w_o0_3)) (by rw [e0]; exact Ar113.1) (State.isArrayOf_alike hZ.alike Ar113.2.1) Ar113.2.2 hin113 (Has.at H113 hin113 rfl) (g := (mkF m 12 #[.val (.ref o0), .val (.int (3 : Int32))] [(.int (3 : Int32)), (.ref o0)])) rfl rfl (hb hby own_d6_12)) ?_
    show own_End p e below s _ _ _ (s₁.setTop (mkF m 13 #[.val (.ref o0), .val (.int (3 : Int32))] [(.int w_o0_3)]))
    refine own_bipush X0 hx (hb hby own_d6_13) (z := 36) rfl (q := 15) rfl ?_
    by_cases hc15_114 : w_o0_3 = (36 : Int32)
    · refine own_icY X0 hx (hb hby own_d6_15) (teq hc15_114).1 (q := 26) (by decide) (by decide) ?_
      refine own_iconst X0 hx (hb hby own_d6_26) (z := 1) rfl (q := 27) rfl ?_
      refine own_goto X0 hx (hb hby own_d6_27) (q := 31) (by decide) (by decide) ?_
      refine own_retN X0 hx (t := .boolean) (by simp) Bd.returns Bd.notSynchronized (by decide) (by decide) (hb hby own_d6_31) ?_
      show own_Q6_3 Z o0 k_o0 w_o0_0 w_o0_1 w_o0_2 w_o0_3 w_o0_4 w_o0_5 h0 n0 _ s₁.heap _
      exact ⟨(by rw [show own_F6_3 w_o0_0 w_o0_1 w_o0_2 w_o0_3 w_o0_4 w_o0_5 = _ from (by simp only [own_F6_3, if_pos hc7_112, if_pos hc15_114] : _ = (1 : Int32))]; rfl), N0, e0⟩
    · refine own_icN X0 hx (hb hby own_d6_15) (feq hc15_114).1 (q := 18) rfl ?_
      refine own_aloadN X0 hx (hb hby own_d6_18) rfl rfl (q := 19) rfl ?_
      refine own_iloadN X0 hx (hb hby own_d6_19) rfl (q := 20) rfl ?_
      obtain ⟨cl116, Ar116, q116, S116, N116v, H116, G116⟩ := id V_o0
      have hin116 : ¬ ((3 : Int32) < 0 ∨ cl116.slots.size ≤ ((3 : Int32)).toNatClampNeg) := inb_of S116 ⟨by decide, by decide⟩
      refine own_back (X0.iaload hx (j := (3 : Int32)) (v := (.int w_o0_3)) (by rw [e0]; exact Ar116.1) (State.isArrayOf_alike hZ.alike Ar116.2.1) Ar116.2.2 hin116 (Has.at H116 hin116 rfl) (g := (mkF m 20 #[.val (.ref o0), .val (.int (3 : Int32))] [(.int (3 : Int32)), (.ref o0)])) rfl rfl (hb hby own_d6_20)) ?_
      show own_End p e below s _ _ _ (s₁.setTop (mkF m 21 #[.val (.ref o0), .val (.int (3 : Int32))] [(.int w_o0_3)]))
      refine own_bipush X0 hx (hb hby own_d6_21) (z := 40) rfl (q := 23) rfl ?_
      by_cases hc23_117 : w_o0_3 = (40 : Int32)
      · refine own_icN X0 hx (hb hby own_d6_23) (teq hc23_117).2 (q := 26) rfl ?_
        refine own_iconst X0 hx (hb hby own_d6_26) (z := 1) rfl (q := 27) rfl ?_
        refine own_goto X0 hx (hb hby own_d6_27) (q := 31) (by decide) (by decide) ?_
        refine own_retN X0 hx (t := .boolean) (by simp) Bd.returns Bd.notSynchronized (by decide) (by decide) (hb hby own_d6_31) ?_
        show own_Q6_3 Z o0 k_o0 w_o0_0 w_o0_1 w_o0_2 w_o0_3 w_o0_4 w_o0_5 h0 n0 _ s₁.heap _
        exact ⟨(by rw [show own_F6_3 w_o0_0 w_o0_1 w_o0_2 w_o0_3 w_o0_4 w_o0_5 = _ from (by simp only [own_F6_3, if_pos hc7_112, if_neg hc15_114, if_pos hc23_117] : _ = (1 : Int32))]; rfl), N0, e0⟩
      · refine own_icY X0 hx (hb hby own_d6_23) (feq hc23_117).2 (q := 30) (by decide) (by decide) ?_
        refine own_iconst X0 hx (hb hby own_d6_30) (z := 0) rfl (q := 31) rfl ?_
        refine own_retN X0 hx (t := .boolean) (by simp) Bd.returns Bd.notSynchronized (by decide) (by decide) (hb hby own_d6_31) ?_
        show own_Q6_3 Z o0 k_o0 w_o0_0 w_o0_1 w_o0_2 w_o0_3 w_o0_4 w_o0_5 h0 n0 _ s₁.heap _
        exact ⟨(by rw [show own_F6_3 w_o0_0 w_o0_1 w_o0_2 w_o0_3 w_o0_4 w_o0_5 = _ from (by simp only [own_F6_3, if_pos hc7_112, if_neg hc15_114, if_neg hc23_117] : _ = (0 : Int32))]; rfl), N0, e0⟩
  · refine own_icY X0 hx (hb hby own_d6_7) (feq hc7_112).2 (q := 30) (by decide) (by decide) ?_
    refine own_iconst X0 hx (hb hby own_d6_30) (z := 0) rfl (q := 31) rfl ?_
    refine own_retN X0 hx (t := .boolean) (by simp) Bd.returns Bd.notSynchronized (by decide) (by decide) (hb hby own_d6_31) ?_
    show own_Q6_3 Z o0 k_o0 w_o0_0 w_o0_1 w_o0_2 w_o0_3 w_o0_4 w_o0_5 h0 n0 _ s₁.heap _
    exact ⟨(by rw [show own_F6_3 w_o0_0 w_o0_1 w_o0_2 w_o0_3 w_o0_4 w_o0_5 = _ from (by simp only [own_F6_3, if_neg hc7_112] : _ = (0 : Int32))]; rfl), N0, e0⟩
def own_F6_4 (w_o0_0 : Int32) (w_o0_1 : Int32) (w_o0_2 : Int32) (w_o0_3 : Int32) (w_o0_4 : Int32) (w_o0_5 : Int32) : Int32 := (if w_o0_3 = (27 : Int32) then (if w_o0_4 = (36 : Int32) then (1 : Int32) else (if w_o0_4 = (40 : Int32) then (1 : Int32) else (0 : Int32))) else (0 : Int32))
def own_Q6_4 (Z : State) (o0 : Addr) (k_o0 : ClassId) (w_o0_0 : Int32) (w_o0_1 : Int32) (w_o0_2 : Int32) (w_o0_3 : Int32) (w_o0_4 : Int32) (w_o0_5 : Int32) (h0 : Heap) (n0 : Nat) (v : Option Value) (h : Heap) (L : List Loc) : Prop := v = some (.int (own_F6_4 w_o0_0 w_o0_1 w_o0_2 w_o0_3 w_o0_4 w_o0_5)) ∧ Fr n0 L ∧ h = h0
theorem own_pn_rm6_4 : plainName "com/example/renkei/renkei/codec/TwoByteRunsNextPinLaw" = true := by first | (simp [plainName, overriddenIn]; done) | decide +kernel
theorem own_ef_rm6_4 (m : MethodId) (o0 : Addr) : entryFrame m #[(.ref o0), (.int (4 : Int32))] 2 = mkF m 0 #[.val (.ref o0), .val (.int (4 : Int32))] [] := by first | (simp [entryFrame, mkF, argsToLocals, Value.category]; done) | rfl
set_option maxRecDepth 65536 in
set_option maxHeartbeats 40000000 in
theorem own_rm6_4 (l : Launch) (Z : State) (a0 : Array Value) (hw : ∀ d ∈ tables_1, d.before a0 Z = true) (ws : List Jvm.Cond) (o0 : Addr) (k_o0 : ClassId) (w_o0_0 : Int32) (w_o0_1 : Int32) (w_o0_2 : Int32) (w_o0_3 : Int32) (w_o0_4 : Int32) (w_o0_5 : Int32) (h0 : Heap) (n0 : Nat) (Z0 : n0 ≤ h0.size) (V_o0 : Arv Z h0 o0 k_o0 .int (6 : Int32) [(.int w_o0_0), (.int w_o0_1), (.int w_o0_2), (.int w_o0_3), (.int w_o0_4), (.int w_o0_5)] (.int (0 : Int32))) :
    MetFree l (⟨"com/example/renkei/renkei/codec/TwoByteRunsNextPinLaw", "isSwitch", "([II)Z"⟩ : MethodName) (head1 (Jvm.Cond.code (⟨"com/example/renkei/renkei/codec/TwoByteRunsNextPinLaw", "isSwitch", "([II)Z"⟩ : MethodName) method_4_code 2 (some .boolean) :: ws) ({ frames := 0, cells := 0, slots := 0, locals := 0 } : Room)) (fun a U => a = #[(.ref o0), (.int (4 : Int32))] ∧ Z.Warmed39 U.vm ∧ U.heap = h0) (fun _ _ _ _ _ => True) (fun _ U o U' => ∃ v L, o = .returned v ∧ own_Q6_4 Z o0 k_o0 w_o0_0 w_o0_1 w_o0_2 w_o0_3 w_o0_4 w_o0_5 h0 n0 v U'.heap L ∧ FrameEnd U o U' L ({ frames := 0, cells := 0, slots := 0, locals := 0 } : Room).cells ({ frames := 0, cells := 0, slots := 0, locals := 0 } : Room).slots) := by
  refine MetFree.of_bodySF (plainFor_of_name own_pn_rm6_4) hisR ?_
  intro p e s m args below meth c s₁ Bd hml0 hP hK
  obtain ⟨rfl, hZ, hh⟩ := hP
  have hx := Bd.exec
  have hby := Bd.bytes
  have hml : c.maxLocals = 2 := hml0
  have hown : s.vm.findClass "com/example/renkei/renkei/codec/TwoByteRunsNextPinLaw" = some m.cls := findClass_of_methodNamed Bd.named
  have hnm := (name_of_methodNamed Bd.named Bd.method).1
  have X0 : Stand p l e ({ frames := 0, cells := 0, slots := 0, locals := 0 } : Room) s m #[(.ref o0), (.int (4 : Int32))] below meth c s₁ [] 0 0 := Stand.of_body Bd
  have e0 : s₁.heap = h0 := by rw [← hh, Bd.state]; rfl
  have N0 := Fr.nil n0
  show own_End p e below s (own_Q6_4 Z o0 k_o0 w_o0_0 w_o0_1 w_o0_2 w_o0_3 w_o0_4 w_o0_5 h0 n0) ({ frames := 0, cells := 0, slots := 0, locals := 0 } : Room).cells ({ frames := 0, cells := 0, slots := 0, locals := 0 } : Room).slots (s₁.setTop (entryFrame m #[(.ref o0), (.int (4 : Int32))] 2))
  rw [own_ef_rm6_4]
  refine own_aloadN X0 hx (hb hby own_d6_0) rfl rfl (q := 1) rfl ?_
  refine own_iloadN X0 hx (hb hby own_d6_1) rfl (q := 2) rfl ?_
  refine own_iconst X0 hx (hb hby own_d6_2) (z := 1) rfl (q := 3) rfl ?_
  refine own_isub X0 hx (hb hby own_d6_3) (q := 4) rfl ?_
  show own_End p e below s _ _ _ (s₁.setTop (mkF m 4 #[.val (.ref o0), .val (.int (4 : Int32))] [(.int (3 : Int32)), (.ref o0)]))
  obtain ⟨cl121, Ar121, q121, S121, N121v, H121, G121⟩ := id V_o0
  have hin121 : ¬ ((3 : Int32) < 0 ∨ cl121.slots.size ≤ ((3 : Int32)).toNatClampNeg) := inb_of S121 ⟨by decide, by decide⟩
  refine own_back (X0.iaload hx (j := (3 : Int32)) (v := (.int w_o0_3)) (by rw [e0]; exact Ar121.1) (State.isArrayOf_alike hZ.alike Ar121.2.1) Ar121.2.2 hin121 (Has.at H121 hin121 rfl) (g := (mkF m 4 #[.val (.ref o0), .val (.int (4 : Int32))] [(.int (3 : Int32)), (.ref o0)])) rfl rfl (hb hby own_d6_4)) ?_
  show own_End p e below s _ _ _ (s₁.setTop (mkF m 5 #[.val (.ref o0), .val (.int (4 : Int32))] [(.int w_o0_3)]))
  refine own_bipush X0 hx (hb hby own_d6_5) (z := 27) rfl (q := 7) rfl ?_
  by_cases hc7_122 : w_o0_3 = (27 : Int32)
  · refine own_icN X0 hx (hb hby own_d6_7) (teq hc7_122).2 (q := 10) rfl ?_
    refine own_aloadN X0 hx (hb hby own_d6_10) rfl rfl (q := 11) rfl ?_
    refine own_iloadN X0 hx (hb hby own_d6_11) rfl (q := 12) rfl ?_
    obtain ⟨cl123, Ar123, q123, S123, N123v, H123, G123⟩ := id V_o0
    have hin123 : ¬ ((4 : Int32) < 0 ∨ cl123.slots.size ≤ ((4 : Int32)).toNatClampNeg) := inb_of S123 ⟨by decide, by decide⟩
    refine own_back (X0.iaload hx (j := (4 : Int32)) (v := (.int w_o0_4)) (by rw [e0]; exact Ar123.1) (State.isArrayOf_alike hZ.alike Ar123.2.1) Ar123.2.2 hin123 (Has.at H123 hin123 rfl) (g := (mkF m 12 #[.val (.ref o0), .val (.int (4 : Int32))] [(.int (4 : Int32)), (.ref o0)])) rfl rfl (hb hby own_d6_12)) ?_
    show own_End p e below s _ _ _ (s₁.setTop (mkF m 13 #[.val (.ref o0), .val (.int (4 : Int32))] [(.int w_o0_4)]))
    refine own_bipush X0 hx (hb hby own_d6_13) (z := 36) rfl (q := 15) rfl ?_
    by_cases hc15_124 : w_o0_4 = (36 : Int32)
    · refine own_icY X0 hx (hb hby own_d6_15) (teq hc15_124).1 (q := 26) (by decide) (by decide) ?_
      refine own_iconst X0 hx (hb hby own_d6_26) (z := 1) rfl (q := 27) rfl ?_
      refine own_goto X0 hx (hb hby own_d6_27) (q := 31) (by decide) (by decide) ?_
      refine own_retN X0 hx (t := .boolean) (by simp) Bd.returns Bd.notSynchronized (by decide) (by decide) (hb hby own_d6_31) ?_
      show own_Q6_4 Z o0 k_o0 w_o0_0 w_o0_1 w_o0_2 w_o0_3 w_o0_4 w_o0_5 h0 n0 _ s₁.heap _
      exact ⟨(by rw [show own_F6_4 w_o0_0 w_o0_1 w_o0_2 w_o0_3 w_o0_4 w_o0_5 = _ from (by simp only [own_F6_4, if_pos hc7_122, if_pos hc15_124] : _ = (1 : Int32))]; rfl), N0, e0⟩
    · refine own_icN X0 hx (hb hby own_d6_15) (feq hc15_124).1 (q := 18) rfl ?_
      refine own_aloadN X0 hx (hb hby own_d6_18) rfl rfl (q := 19) rfl ?_
      refine own_iloadN X0 hx (hb hby own_d6_19) rfl (q := 20) rfl ?_
      obtain ⟨cl126, Ar126, q126, S126, N126v, H126, G126⟩ := id V_o0
      have hin126 : ¬ ((4 : Int32) < 0 ∨ cl126.slots.size ≤ ((4 : Int32)).toNatClampNeg) := inb_of S126 ⟨by decide, by decide⟩
      refine own_back (X0.iaload hx (j := (4 : Int32)) (v := (.int w_o0_4)) (by rw [e0]; exact Ar126.1) (State.isArrayOf_alike hZ.alike Ar126.2.1) Ar126.2.2 hin126 (Has.at H126 hin126 rfl) (g := (mkF m 20 #[.val (.ref o0), .val (.int (4 : Int32))] [(.int (4 : Int32)), (.ref o0)])) rfl rfl (hb hby own_d6_20)) ?_
      show own_End p e below s _ _ _ (s₁.setTop (mkF m 21 #[.val (.ref o0), .val (.int (4 : Int32))] [(.int w_o0_4)]))
      refine own_bipush X0 hx (hb hby own_d6_21) (z := 40) rfl (q := 23) rfl ?_
      by_cases hc23_127 : w_o0_4 = (40 : Int32)
      · refine own_icN X0 hx (hb hby own_d6_23) (teq hc23_127).2 (q := 26) rfl ?_
        refine own_iconst X0 hx (hb hby own_d6_26) (z := 1) rfl (q := 27) rfl ?_
        refine own_goto X0 hx (hb hby own_d6_27) (q := 31) (by decide) (by decide) ?_
        refine own_retN X0 hx (t := .boolean) (by simp) Bd.returns Bd.notSynchronized (by decide) (by decide) (hb hby own_d6_31) ?_
        show own_Q6_4 Z o0 k_o0 w_o0_0 w_o0_1 w_o0_2 w_o0_3 w_o0_4 w_o0_5 h0 n0 _ s₁.heap _
        exact ⟨(by rw [show own_F6_4 w_o0_0 w_o0_1 w_o0_2 w_o0_3 w_o0_4 w_o0_5 = _ from (by simp only [own_F6_4, if_pos hc7_122, if_neg hc15_124, if_pos hc23_127] : _ = (1 : Int32))]; rfl), N0, e0⟩
      · refine own_icY X0 hx (hb hby own_d6_23) (feq hc23_127).2 (q := 30) (by decide) (by decide) ?_
        refine own_iconst X0 hx (hb hby own_d6_30) (z := 0) rfl (q := 31) rfl ?_
        refine own_retN X0 hx (t := .boolean) (by simp) Bd.returns Bd.notSynchronized (by decide) (by decide) (hb hby own_d6_31) ?_
        show own_Q6_4 Z o0 k_o0 w_o0_0 w_o0_1 w_o0_2 w_o0_3 w_o0_4 w_o0_5 h0 n0 _ s₁.heap _
        exact ⟨(by rw [show own_F6_4 w_o0_0 w_o0_1 w_o0_2 w_o0_3 w_o0_4 w_o0_5 = _ from (by simp only [own_F6_4, if_pos hc7_122, if_neg hc15_124, if_neg hc23_127] : _ = (0 : Int32))]; rfl), N0, e0⟩
  · refine own_icY X0 hx (hb hby own_d6_7) (feq hc7_122).2 (q := 30) (by decide) (by decide) ?_
    refine own_iconst X0 hx (hb hby own_d6_30) (z := 0) rfl (q := 31) rfl ?_
    refine own_retN X0 hx (t := .boolean) (by simp) Bd.returns Bd.notSynchronized (by decide) (by decide) (hb hby own_d6_31) ?_
    show own_Q6_4 Z o0 k_o0 w_o0_0 w_o0_1 w_o0_2 w_o0_3 w_o0_4 w_o0_5 h0 n0 _ s₁.heap _
    exact ⟨(by rw [show own_F6_4 w_o0_0 w_o0_1 w_o0_2 w_o0_3 w_o0_4 w_o0_5 = _ from (by simp only [own_F6_4, if_neg hc7_122] : _ = (0 : Int32))]; rfl), N0, e0⟩
def own_F6_5 (w_o0_0 : Int32) (w_o0_1 : Int32) (w_o0_2 : Int32) (w_o0_3 : Int32) (w_o0_4 : Int32) (w_o0_5 : Int32) : Int32 := (if w_o0_4 = (27 : Int32) then (if w_o0_5 = (36 : Int32) then (1 : Int32) else (if w_o0_5 = (40 : Int32) then (1 : Int32) else (0 : Int32))) else (0 : Int32))
def own_Q6_5 (Z : State) (o0 : Addr) (k_o0 : ClassId) (w_o0_0 : Int32) (w_o0_1 : Int32) (w_o0_2 : Int32) (w_o0_3 : Int32) (w_o0_4 : Int32) (w_o0_5 : Int32) (h0 : Heap) (n0 : Nat) (v : Option Value) (h : Heap) (L : List Loc) : Prop := v = some (.int (own_F6_5 w_o0_0 w_o0_1 w_o0_2 w_o0_3 w_o0_4 w_o0_5)) ∧ Fr n0 L ∧ h = h0
theorem own_pn_rm6_5 : plainName "com/example/renkei/renkei/codec/TwoByteRunsNextPinLaw" = true := by first | (simp [plainName, overriddenIn]; done) | decide +kernel
theorem own_ef_rm6_5 (m : MethodId) (o0 : Addr) : entryFrame m #[(.ref o0), (.int (5 : Int32))] 2 = mkF m 0 #[.val (.ref o0), .val (.int (5 : Int32))] [] := by first | (simp [entryFrame, mkF, argsToLocals, Value.category]; done) | rfl
set_option maxRecDepth 65536 in
set_option maxHeartbeats 40000000 in
theorem own_rm6_5 (l : Launch) (Z : State) (a0 : Array Value) (hw : ∀ d ∈ tables_1, d.before a0 Z = true) (ws : List Jvm.Cond) (o0 : Addr) (k_o0 : ClassId) (w_o0_0 : Int32) (w_o0_1 : Int32) (w_o0_2 : Int32) (w_o0_3 : Int32) (w_o0_4 : Int32) (w_o0_5 : Int32) (h0 : Heap) (n0 : Nat) (Z0 : n0 ≤ h0.size) (V_o0 : Arv Z h0 o0 k_o0 .int (6 : Int32) [(.int w_o0_0), (.int w_o0_1), (.int w_o0_2), (.int w_o0_3), (.int w_o0_4), (.int w_o0_5)] (.int (0 : Int32))) :
    MetFree l (⟨"com/example/renkei/renkei/codec/TwoByteRunsNextPinLaw", "isSwitch", "([II)Z"⟩ : MethodName) (head1 (Jvm.Cond.code (⟨"com/example/renkei/renkei/codec/TwoByteRunsNextPinLaw", "isSwitch", "([II)Z"⟩ : MethodName) method_4_code 2 (some .boolean) :: ws) ({ frames := 0, cells := 0, slots := 0, locals := 0 } : Room)) (fun a U => a = #[(.ref o0), (.int (5 : Int32))] ∧ Z.Warmed39 U.vm ∧ U.heap = h0) (fun _ _ _ _ _ => True) (fun _ U o U' => ∃ v L, o = .returned v ∧ own_Q6_5 Z o0 k_o0 w_o0_0 w_o0_1 w_o0_2 w_o0_3 w_o0_4 w_o0_5 h0 n0 v U'.heap L ∧ FrameEnd U o U' L ({ frames := 0, cells := 0, slots := 0, locals := 0 } : Room).cells ({ frames := 0, cells := 0, slots := 0, locals := 0 } : Room).slots) := by
  refine MetFree.of_bodySF (plainFor_of_name own_pn_rm6_5) hisR ?_
  intro p e s m args below meth c s₁ Bd hml0 hP hK
  obtain ⟨rfl, hZ, hh⟩ := hP
  have hx := Bd.exec
  have hby := Bd.bytes
  have hml : c.maxLocals = 2 := hml0
  have hown : s.vm.findClass "com/example/renkei/renkei/codec/TwoByteRunsNextPinLaw" = some m.cls := findClass_of_methodNamed Bd.named
  have hnm := (name_of_methodNamed Bd.named Bd.method).1
  have X0 : Stand p l e ({ frames := 0, cells := 0, slots := 0, locals := 0 } : Room) s m #[(.ref o0), (.int (5 : Int32))] below meth c s₁ [] 0 0 := Stand.of_body Bd
  have e0 : s₁.heap = h0 := by rw [← hh, Bd.state]; rfl
  have N0 := Fr.nil n0
  show own_End p e below s (own_Q6_5 Z o0 k_o0 w_o0_0 w_o0_1 w_o0_2 w_o0_3 w_o0_4 w_o0_5 h0 n0) ({ frames := 0, cells := 0, slots := 0, locals := 0 } : Room).cells ({ frames := 0, cells := 0, slots := 0, locals := 0 } : Room).slots (s₁.setTop (entryFrame m #[(.ref o0), (.int (5 : Int32))] 2))
  rw [own_ef_rm6_5]
  refine own_aloadN X0 hx (hb hby own_d6_0) rfl rfl (q := 1) rfl ?_
  refine own_iloadN X0 hx (hb hby own_d6_1) rfl (q := 2) rfl ?_
  refine own_iconst X0 hx (hb hby own_d6_2) (z := 1) rfl (q := 3) rfl ?_
  refine own_isub X0 hx (hb hby own_d6_3) (q := 4) rfl ?_
  show own_End p e below s _ _ _ (s₁.setTop (mkF m 4 #[.val (.ref o0), .val (.int (5 : Int32))] [(.int (4 : Int32)), (.ref o0)]))
  obtain ⟨cl131, Ar131, q131, S131, N131v, H131, G131⟩ := id V_o0
  have hin131 : ¬ ((4 : Int32) < 0 ∨ cl131.slots.size ≤ ((4 : Int32)).toNatClampNeg) := inb_of S131 ⟨by decide, by decide⟩
  refine own_back (X0.iaload hx (j := (4 : Int32)) (v := (.int w_o0_4)) (by rw [e0]; exact Ar131.1) (State.isArrayOf_alike hZ.alike Ar131.2.1) Ar131.2.2 hin131 (Has.at H131 hin131 rfl) (g := (mkF m 4 #[.val (.ref o0), .val (.int (5 : Int32))] [(.int (4 : Int32)), (.ref o0)])) rfl rfl (hb hby own_d6_4)) ?_
  show own_End p e below s _ _ _ (s₁.setTop (mkF m 5 #[.val (.ref o0), .val (.int (5 : Int32))] [(.int w_o0_4)]))
  refine own_bipush X0 hx (hb hby own_d6_5) (z := 27) rfl (q := 7) rfl ?_
  by_cases hc7_132 : w_o0_4 = (27 : Int32)
  · refine own_icN X0 hx (hb hby own_d6_7) (teq hc7_132).2 (q := 10) rfl ?_
    refine own_aloadN X0 hx (hb hby own_d6_10) rfl rfl (q := 11) rfl ?_
    refine own_iloadN X0 hx (hb hby own_d6_11) rfl (q := 12) rfl ?_
    obtain ⟨cl133, Ar133, q133, S133, N133v, H133, G133⟩ := id V_o0
    have hin133 : ¬ ((5 : Int32) < 0 ∨ cl133.slots.size ≤ ((5 : Int32)).toNatClampNeg) := inb_of S133 ⟨by decide, by decide⟩
    refine own_back (X0.iaload hx (j := (5 : Int32)) (v := (.int w_o0_5)) (by rw [e0]; exact Ar133.1) (State.isArrayOf_alike hZ.alike Ar133.2.1) Ar133.2.2 hin133 (Has.at H133 hin133 rfl) (g := (mkF m 12 #[.val (.ref o0), .val (.int (5 : Int32))] [(.int (5 : Int32)), (.ref o0)])) rfl rfl (hb hby own_d6_12)) ?_
    show own_End p e below s _ _ _ (s₁.setTop (mkF m 13 #[.val (.ref o0), .val (.int (5 : Int32))] [(.int w_o0_5)]))
    refine own_bipush X0 hx (hb hby own_d6_13) (z := 36) rfl (q := 15) rfl ?_
    by_cases hc15_134 : w_o0_5 = (36 : Int32)
    · refine own_icY X0 hx (hb hby own_d6_15) (teq hc15_134).1 (q := 26) (by decide) (by decide) ?_
      refine own_iconst X0 hx (hb hby own_d6_26) (z := 1) rfl (q := 27) rfl ?_
      refine own_goto X0 hx (hb hby own_d6_27) (q := 31) (by decide) (by decide) ?_
      refine own_retN X0 hx (t := .boolean) (by simp) Bd.returns Bd.notSynchronized (by decide) (by decide) (hb hby own_d6_31) ?_
      show own_Q6_5 Z o0 k_o0 w_o0_0 w_o0_1 w_o0_2 w_o0_3 w_o0_4 w_o0_5 h0 n0 _ s₁.heap _
      exact ⟨(by rw [show own_F6_5 w_o0_0 w_o0_1 w_o0_2 w_o0_3 w_o0_4 w_o0_5 = _ from (by simp only [own_F6_5, if_pos hc7_132, if_pos hc15_134] : _ = (1 : Int32))]; rfl), N0, e0⟩
    · refine own_icN X0 hx (hb hby own_d6_15) (feq hc15_134).1 (q := 18) rfl ?_
      refine own_aloadN X0 hx (hb hby own_d6_18) rfl rfl (q := 19) rfl ?_
      refine own_iloadN X0 hx (hb hby own_d6_19) rfl (q := 20) rfl ?_
      obtain ⟨cl136, Ar136, q136, S136, N136v, H136, G136⟩ := id V_o0
      have hin136 : ¬ ((5 : Int32) < 0 ∨ cl136.slots.size ≤ ((5 : Int32)).toNatClampNeg) := inb_of S136 ⟨by decide, by decide⟩
      refine own_back (X0.iaload hx (j := (5 : Int32)) (v := (.int w_o0_5)) (by rw [e0]; exact Ar136.1) (State.isArrayOf_alike hZ.alike Ar136.2.1) Ar136.2.2 hin136 (Has.at H136 hin136 rfl) (g := (mkF m 20 #[.val (.ref o0), .val (.int (5 : Int32))] [(.int (5 : Int32)), (.ref o0)])) rfl rfl (hb hby own_d6_20)) ?_
      show own_End p e below s _ _ _ (s₁.setTop (mkF m 21 #[.val (.ref o0), .val (.int (5 : Int32))] [(.int w_o0_5)]))
      refine own_bipush X0 hx (hb hby own_d6_21) (z := 40) rfl (q := 23) rfl ?_
      by_cases hc23_137 : w_o0_5 = (40 : Int32)
      · refine own_icN X0 hx (hb hby own_d6_23) (teq hc23_137).2 (q := 26) rfl ?_
        refine own_iconst X0 hx (hb hby own_d6_26) (z := 1) rfl (q := 27) rfl ?_
        refine own_goto X0 hx (hb hby own_d6_27) (q := 31) (by decide) (by decide) ?_
        refine own_retN X0 hx (t := .boolean) (by simp) Bd.returns Bd.notSynchronized (by decide) (by decide) (hb hby own_d6_31) ?_
        show own_Q6_5 Z o0 k_o0 w_o0_0 w_o0_1 w_o0_2 w_o0_3 w_o0_4 w_o0_5 h0 n0 _ s₁.heap _
        exact ⟨(by rw [show own_F6_5 w_o0_0 w_o0_1 w_o0_2 w_o0_3 w_o0_4 w_o0_5 = _ from (by simp only [own_F6_5, if_pos hc7_132, if_neg hc15_134, if_pos hc23_137] : _ = (1 : Int32))]; rfl), N0, e0⟩
      · refine own_icY X0 hx (hb hby own_d6_23) (feq hc23_137).2 (q := 30) (by decide) (by decide) ?_
        refine own_iconst X0 hx (hb hby own_d6_30) (z := 0) rfl (q := 31) rfl ?_
        refine own_retN X0 hx (t := .boolean) (by simp) Bd.returns Bd.notSynchronized (by decide) (by decide) (hb hby own_d6_31) ?_
        show own_Q6_5 Z o0 k_o0 w_o0_0 w_o0_1 w_o0_2 w_o0_3 w_o0_4 w_o0_5 h0 n0 _ s₁.heap _
        exact ⟨(by rw [show own_F6_5 w_o0_0 w_o0_1 w_o0_2 w_o0_3 w_o0_4 w_o0_5 = _ from (by simp only [own_F6_5, if_pos hc7_132, if_neg hc15_134, if_neg hc23_137] : _ = (0 : Int32))]; rfl), N0, e0⟩
  · refine own_icY X0 hx (hb hby own_d6_7) (feq hc7_132).2 (q := 30) (by decide) (by decide) ?_
    refine own_iconst X0 hx (hb hby own_d6_30) (z := 0) rfl (q := 31) rfl ?_
    refine own_retN X0 hx (t := .boolean) (by simp) Bd.returns Bd.notSynchronized (by decide) (by decide) (hb hby own_d6_31) ?_
    show own_Q6_5 Z o0 k_o0 w_o0_0 w_o0_1 w_o0_2 w_o0_3 w_o0_4 w_o0_5 h0 n0 _ s₁.heap _
    exact ⟨(by rw [show own_F6_5 w_o0_0 w_o0_1 w_o0_2 w_o0_3 w_o0_4 w_o0_5 = _ from (by simp only [own_F6_5, if_neg hc7_132] : _ = (0 : Int32))]; rfl), N0, e0⟩
theorem own_d5_0 : decode method_5_code 0 = .ok (.iload_n 1, 1) := by decide +kernel
theorem own_d5_1 : decode method_5_code 1 = .ok (.iconst 5, 1) := by decide +kernel
theorem own_d5_2 : decode method_5_code 2 = .ok (.if_icmp .lt 25, 3) := by decide +kernel
theorem own_d5_27 : decode method_5_code 27 = .ok (.iload_n 1, 1) := by decide +kernel
theorem own_d5_28 : decode method_5_code 28 = .ok (.iconst 4, 1) := by decide +kernel
theorem own_d5_29 : decode method_5_code 29 = .ok (.if_icmp .lt 25, 3) := by decide +kernel
theorem own_d5_54 : decode method_5_code 54 = .ok (.iload_n 1, 1) := by decide +kernel
theorem own_d5_55 : decode method_5_code 55 = .ok (.iconst 3, 1) := by decide +kernel
theorem own_d5_56 : decode method_5_code 56 = .ok (.if_icmp .lt 25, 3) := by decide +kernel
theorem own_d5_81 : decode method_5_code 81 = .ok (.iload_n 1, 1) := by decide +kernel
theorem own_d5_82 : decode method_5_code 82 = .ok (.iconst 2, 1) := by decide +kernel
theorem own_d5_83 : decode method_5_code 83 = .ok (.if_icmp .lt 25, 3) := by decide +kernel
theorem own_d5_108 : decode method_5_code 108 = .ok (.iload_n 1, 1) := by decide +kernel
theorem own_d5_109 : decode method_5_code 109 = .ok (.iconst 1, 1) := by decide +kernel
theorem own_d5_110 : decode method_5_code 110 = .ok (.if_icmp .lt 25, 3) := by decide +kernel
theorem own_d5_135 : decode method_5_code 135 = .ok (.iconst 0, 1) := by decide +kernel
theorem own_d5_136 : decode method_5_code 136 = .ok (.ireturn, 1) := by decide +kernel
def own_Q5_0 (Z : State) (o0 : Addr) (k_o0 : ClassId) (w_o0_0 : Int32) (w_o0_1 : Int32) (w_o0_2 : Int32) (w_o0_3 : Int32) (w_o0_4 : Int32) (w_o0_5 : Int32) (h0 : Heap) (n0 : Nat) (v : Option Value) (h : Heap) (L : List Loc) : Prop := v = some (.int (0 : Int32)) ∧ Fr n0 L ∧ h = h0
theorem own_pn_rm5_0 : plainName "com/example/renkei/renkei/codec/TwoByteRunsNextPinLaw" = true := by first | (simp [plainName, overriddenIn]; done) | decide +kernel
theorem own_ef_rm5_0 (m : MethodId) (o0 : Addr) : entryFrame m #[(.ref o0), (.int (0 : Int32))] 2 = mkF m 0 #[.val (.ref o0), .val (.int (0 : Int32))] [] := by first | (simp [entryFrame, mkF, argsToLocals, Value.category]; done) | rfl
set_option maxRecDepth 65536 in
set_option maxHeartbeats 40000000 in
theorem own_rm5_0 (l : Launch) (Z : State) (a0 : Array Value) (hw : ∀ d ∈ tables_1, d.before a0 Z = true) (ws : List Jvm.Cond) (o0 : Addr) (k_o0 : ClassId) (w_o0_0 : Int32) (w_o0_1 : Int32) (w_o0_2 : Int32) (w_o0_3 : Int32) (w_o0_4 : Int32) (w_o0_5 : Int32) (h0 : Heap) (n0 : Nat) (Z0 : n0 ≤ h0.size) (V_o0 : Arv Z h0 o0 k_o0 .int (6 : Int32) [(.int w_o0_0), (.int w_o0_1), (.int w_o0_2), (.int w_o0_3), (.int w_o0_4), (.int w_o0_5)] (.int (0 : Int32))) :
    MetFree l (⟨"com/example/renkei/renkei/codec/TwoByteRunsNextPinLaw", "expected", "([II)Z"⟩ : MethodName) (head1 (Jvm.Cond.code (⟨"com/example/renkei/renkei/codec/TwoByteRunsNextPinLaw", "expected", "([II)Z"⟩ : MethodName) method_5_code 2 (some .boolean) :: ws) ({ frames := 0, cells := 0, slots := 0, locals := 0 } : Room)) (fun a U => a = #[(.ref o0), (.int (0 : Int32))] ∧ Z.Warmed39 U.vm ∧ U.heap = h0) (fun _ _ _ _ _ => True) (fun _ U o U' => ∃ v L, o = .returned v ∧ own_Q5_0 Z o0 k_o0 w_o0_0 w_o0_1 w_o0_2 w_o0_3 w_o0_4 w_o0_5 h0 n0 v U'.heap L ∧ FrameEnd U o U' L ({ frames := 0, cells := 0, slots := 0, locals := 0 } : Room).cells ({ frames := 0, cells := 0, slots := 0, locals := 0 } : Room).slots) := by
  refine MetFree.of_bodySF (plainFor_of_name own_pn_rm5_0) hisR ?_
  intro p e s m args below meth c s₁ Bd hml0 hP hK
  obtain ⟨rfl, hZ, hh⟩ := hP
  have hx := Bd.exec
  have hby := Bd.bytes
  have hml : c.maxLocals = 2 := hml0
  have hown : s.vm.findClass "com/example/renkei/renkei/codec/TwoByteRunsNextPinLaw" = some m.cls := findClass_of_methodNamed Bd.named
  have hnm := (name_of_methodNamed Bd.named Bd.method).1
  have X0 : Stand p l e ({ frames := 0, cells := 0, slots := 0, locals := 0 } : Room) s m #[(.ref o0), (.int (0 : Int32))] below meth c s₁ [] 0 0 := Stand.of_body Bd
  have e0 : s₁.heap = h0 := by rw [← hh, Bd.state]; rfl
  have N0 := Fr.nil n0
  show own_End p e below s (own_Q5_0 Z o0 k_o0 w_o0_0 w_o0_1 w_o0_2 w_o0_3 w_o0_4 w_o0_5 h0 n0) ({ frames := 0, cells := 0, slots := 0, locals := 0 } : Room).cells ({ frames := 0, cells := 0, slots := 0, locals := 0 } : Room).slots (s₁.setTop (entryFrame m #[(.ref o0), (.int (0 : Int32))] 2))
  rw [own_ef_rm5_0]
  refine own_iloadN X0 hx (hb hby own_d5_0) rfl (q := 1) rfl ?_
  refine own_iconst X0 hx (hb hby own_d5_1) (z := 5) rfl (q := 2) rfl ?_
  refine own_icY X0 hx (hb hby own_d5_2) (tlt (by decide : ((0 : Int32) < (5 : Int32)))).1 (q := 27) (by decide) (by decide) ?_
  refine own_iloadN X0 hx (hb hby own_d5_27) rfl (q := 28) rfl ?_
  refine own_iconst X0 hx (hb hby own_d5_28) (z := 4) rfl (q := 29) rfl ?_
  refine own_icY X0 hx (hb hby own_d5_29) (tlt (by decide : ((0 : Int32) < (4 : Int32)))).1 (q := 54) (by decide) (by decide) ?_
  refine own_iloadN X0 hx (hb hby own_d5_54) rfl (q := 55) rfl ?_
  refine own_iconst X0 hx (hb hby own_d5_55) (z := 3) rfl (q := 56) rfl ?_
  refine own_icY X0 hx (hb hby own_d5_56) (tlt (by decide : ((0 : Int32) < (3 : Int32)))).1 (q := 81) (by decide) (by decide) ?_
  refine own_iloadN X0 hx (hb hby own_d5_81) rfl (q := 82) rfl ?_
  refine own_iconst X0 hx (hb hby own_d5_82) (z := 2) rfl (q := 83) rfl ?_
  refine own_icY X0 hx (hb hby own_d5_83) (tlt (by decide : ((0 : Int32) < (2 : Int32)))).1 (q := 108) (by decide) (by decide) ?_
  refine own_iloadN X0 hx (hb hby own_d5_108) rfl (q := 109) rfl ?_
  refine own_iconst X0 hx (hb hby own_d5_109) (z := 1) rfl (q := 110) rfl ?_
  refine own_icY X0 hx (hb hby own_d5_110) (tlt (by decide : ((0 : Int32) < (1 : Int32)))).1 (q := 135) (by decide) (by decide) ?_
  refine own_iconst X0 hx (hb hby own_d5_135) (z := 0) rfl (q := 136) rfl ?_
  refine own_retN X0 hx (t := .boolean) (by simp) Bd.returns Bd.notSynchronized (by decide) (by decide) (hb hby own_d5_136) ?_
  show own_Q5_0 Z o0 k_o0 w_o0_0 w_o0_1 w_o0_2 w_o0_3 w_o0_4 w_o0_5 h0 n0 _ s₁.heap _
  exact ⟨rfl, N0, e0⟩
theorem own_d5_113 : decode method_5_code 113 = .ok (.aload_n 0, 1) := by decide +kernel
theorem own_d5_114 : decode method_5_code 114 = .ok (.iconst 1, 1) := by decide +kernel
theorem own_d5_115 : decode method_5_code 115 = .ok (.invokestatic 28, 3) := by decide +kernel
theorem own_pd0 : parseMethodDescriptor "([II)Z" = some ⟨[(.array .int), .int], some .boolean⟩ := by decide +kernel
theorem own_d5_118 : decode method_5_code 118 = .ok (.ifCond .eq 17, 3) := by decide +kernel
theorem own_d5_121 : decode method_5_code 121 = .ok (.aload_n 0, 1) := by decide +kernel
theorem own_d5_122 : decode method_5_code 122 = .ok (.iconst 1, 1) := by decide +kernel
theorem own_d5_123 : decode method_5_code 123 = .ok (.iaload, 1) := by decide +kernel
theorem own_d5_124 : decode method_5_code 124 = .ok (.bipush 36, 2) := by decide +kernel
theorem own_d5_126 : decode method_5_code 126 = .ok (.if_icmp .ne 7, 3) := by decide +kernel
theorem own_d5_129 : decode method_5_code 129 = .ok (.iconst 1, 1) := by decide +kernel
theorem own_d5_130 : decode method_5_code 130 = .ok (.goto 4, 3) := by decide +kernel
theorem own_d5_134 : decode method_5_code 134 = .ok (.ireturn, 1) := by decide +kernel
theorem own_d5_133 : decode method_5_code 133 = .ok (.iconst 0, 1) := by decide +kernel
def own_F5_1 (w_o0_0 : Int32) (w_o0_1 : Int32) (w_o0_2 : Int32) (w_o0_3 : Int32) (w_o0_4 : Int32) (w_o0_5 : Int32) : Int32 := (if (own_F6_1 w_o0_0 w_o0_1 w_o0_2 w_o0_3 w_o0_4 w_o0_5) = (0 : Int32) then (0 : Int32) else (if w_o0_1 = (36 : Int32) then (1 : Int32) else (0 : Int32)))
def own_Q5_1 (Z : State) (o0 : Addr) (k_o0 : ClassId) (w_o0_0 : Int32) (w_o0_1 : Int32) (w_o0_2 : Int32) (w_o0_3 : Int32) (w_o0_4 : Int32) (w_o0_5 : Int32) (h0 : Heap) (n0 : Nat) (v : Option Value) (h : Heap) (L : List Loc) : Prop := v = some (.int (own_F5_1 w_o0_0 w_o0_1 w_o0_2 w_o0_3 w_o0_4 w_o0_5)) ∧ Fr n0 L ∧ h = h0
theorem own_pn_rm5_1 : plainName "com/example/renkei/renkei/codec/TwoByteRunsNextPinLaw" = true := by first | (simp [plainName, overriddenIn]; done) | decide +kernel
theorem own_ef_rm5_1 (m : MethodId) (o0 : Addr) : entryFrame m #[(.ref o0), (.int (1 : Int32))] 2 = mkF m 0 #[.val (.ref o0), .val (.int (1 : Int32))] [] := by first | (simp [entryFrame, mkF, argsToLocals, Value.category]; done) | rfl
set_option maxRecDepth 65536 in
set_option maxHeartbeats 40000000 in
theorem own_rm5_1 (l : Launch) (Z : State) (a0 : Array Value) (hw : ∀ d ∈ tables_1, d.before a0 Z = true) (ws : List Jvm.Cond) (o0 : Addr) (k_o0 : ClassId) (w_o0_0 : Int32) (w_o0_1 : Int32) (w_o0_2 : Int32) (w_o0_3 : Int32) (w_o0_4 : Int32) (w_o0_5 : Int32) (h0 : Heap) (n0 : Nat) (Z0 : n0 ≤ h0.size) (V_o0 : Arv Z h0 o0 k_o0 .int (6 : Int32) [(.int w_o0_0), (.int w_o0_1), (.int w_o0_2), (.int w_o0_3), (.int w_o0_4), (.int w_o0_5)] (.int (0 : Int32))) :
    MetFree l (⟨"com/example/renkei/renkei/codec/TwoByteRunsNextPinLaw", "expected", "([II)Z"⟩ : MethodName) (head1 (Jvm.Cond.code (⟨"com/example/renkei/renkei/codec/TwoByteRunsNextPinLaw", "expected", "([II)Z"⟩ : MethodName) method_5_code 2 (some .boolean) :: ws) ({ frames := 1, cells := 0, slots := 0, locals := 13 } : Room)) (fun a U => a = #[(.ref o0), (.int (1 : Int32))] ∧ Z.Warmed39 U.vm ∧ U.heap = h0) (fun _ _ _ _ _ => True) (fun _ U o U' => ∃ v L, o = .returned v ∧ own_Q5_1 Z o0 k_o0 w_o0_0 w_o0_1 w_o0_2 w_o0_3 w_o0_4 w_o0_5 h0 n0 v U'.heap L ∧ FrameEnd U o U' L ({ frames := 1, cells := 0, slots := 0, locals := 13 } : Room).cells ({ frames := 1, cells := 0, slots := 0, locals := 13 } : Room).slots) := by
  refine MetFree.of_bodySF (plainFor_of_name own_pn_rm5_1) hisR ?_
  intro p e s m args below meth c s₁ Bd hml0 hP hK
  obtain ⟨rfl, hZ, hh⟩ := hP
  have hx := Bd.exec
  have hby := Bd.bytes
  have hml : c.maxLocals = 2 := hml0
  have hown : s.vm.findClass "com/example/renkei/renkei/codec/TwoByteRunsNextPinLaw" = some m.cls := findClass_of_methodNamed Bd.named
  have hnm := (name_of_methodNamed Bd.named Bd.method).1
  have X0 : Stand p l e ({ frames := 1, cells := 0, slots := 0, locals := 13 } : Room) s m #[(.ref o0), (.int (1 : Int32))] below meth c s₁ [] 0 0 := Stand.of_body Bd
  have e0 : s₁.heap = h0 := by rw [← hh, Bd.state]; rfl
  have N0 := Fr.nil n0
  show own_End p e below s (own_Q5_1 Z o0 k_o0 w_o0_0 w_o0_1 w_o0_2 w_o0_3 w_o0_4 w_o0_5 h0 n0) ({ frames := 1, cells := 0, slots := 0, locals := 13 } : Room).cells ({ frames := 1, cells := 0, slots := 0, locals := 13 } : Room).slots (s₁.setTop (entryFrame m #[(.ref o0), (.int (1 : Int32))] 2))
  rw [own_ef_rm5_1]
  refine own_iloadN X0 hx (hb hby own_d5_0) rfl (q := 1) rfl ?_
  refine own_iconst X0 hx (hb hby own_d5_1) (z := 5) rfl (q := 2) rfl ?_
  refine own_icY X0 hx (hb hby own_d5_2) (tlt (by decide : ((1 : Int32) < (5 : Int32)))).1 (q := 27) (by decide) (by decide) ?_
  refine own_iloadN X0 hx (hb hby own_d5_27) rfl (q := 28) rfl ?_
  refine own_iconst X0 hx (hb hby own_d5_28) (z := 4) rfl (q := 29) rfl ?_
  refine own_icY X0 hx (hb hby own_d5_29) (tlt (by decide : ((1 : Int32) < (4 : Int32)))).1 (q := 54) (by decide) (by decide) ?_
  refine own_iloadN X0 hx (hb hby own_d5_54) rfl (q := 55) rfl ?_
  refine own_iconst X0 hx (hb hby own_d5_55) (z := 3) rfl (q := 56) rfl ?_
  refine own_icY X0 hx (hb hby own_d5_56) (tlt (by decide : ((1 : Int32) < (3 : Int32)))).1 (q := 81) (by decide) (by decide) ?_
  refine own_iloadN X0 hx (hb hby own_d5_81) rfl (q := 82) rfl ?_
  refine own_iconst X0 hx (hb hby own_d5_82) (z := 2) rfl (q := 83) rfl ?_
  refine own_icY X0 hx (hb hby own_d5_83) (tlt (by decide : ((1 : Int32) < (2 : Int32)))).1 (q := 108) (by decide) (by decide) ?_
  refine own_iloadN X0 hx (hb hby own_d5_108) rfl (q := 109) rfl ?_
  refine own_iconst X0 hx (hb hby own_d5_109) (z := 1) rfl (q := 110) rfl ?_
  refine own_icN X0 hx (hb hby own_d5_110) (flt (by decide : ¬ ((1 : Int32) < (1 : Int32)))).1 (q := 113) rfl ?_
  refine own_aloadN X0 hx (hb hby own_d5_113) rfl rfl (q := 114) rfl ?_
  refine own_iconst X0 hx (hb hby own_d5_114) (z := 1) rfl (q := 115) rfl ?_
  obtain ⟨T142, Lc142, L142, X142, N142, hQ142, st142⟩ := own_shutS (val := some (.int (own_F6_1 w_o0_0 w_o0_1 w_o0_2 w_o0_3 w_o0_4 w_o0_5))) (Q := own_Q6_1 Z o0 k_o0 w_o0_0 w_o0_1 w_o0_2 w_o0_3 w_o0_4 w_o0_5 h0 n0) (rc := 0) (rs := 0) N0 (fun _ _ _ q => ⟨q.1, q.2.1⟩) (Jvm.LawKit.callS X0 hx (y := (⟨"com/example/renkei/renkei/codec/TwoByteRunsNextPinLaw", "isSwitch", "([II)Z"⟩ : MethodName)) hown (mvT hZ (hw _ (List.mem_of_getElem? (i := 26) rfl))) (mvT hZ (hw _ (List.mem_of_getElem? (i := 27) rfl))) (mvT hZ (hw _ (List.mem_of_getElem? (i := 3) rfl))) (mvT hZ (hw _ (List.mem_of_getElem? (i := 28) rfl))) (by decide) (backOf (W := 0) (own_rm6_1 l Z a0 hw [] o0 k_o0 w_o0_0 w_o0_1 w_o0_2 w_o0_3 w_o0_4 w_o0_5 h0 n0 Z0 V_o0) hZ (hw _ (List.mem_of_getElem? (i := 28) rfl)) (hw _ (List.mem_of_getElem? (i := 3) rfl)) (by decide) (by decide)) (g := (mkF m 115 #[.val (.ref o0), .val (.int (1 : Int32))] [(.int (1 : Int32)), (.ref o0)])) rfl (by rw [hml]; rfl) (argsL := [(.ref o0), (.int (1 : Int32))]) (rest := []) (lenOf own_pd0 rfl) rfl (by show 2 * 0 + _ ≤ _; exact Nat.le_of_eq rfl) (hb hby own_d5_115) (fun _ _ => ⟨rfl, e0, (by decide : 0 + 0 ≤ _), (by decide : 0 + 0 ≤ _)⟩))
  obtain ⟨-, -, e142⟩ := hQ142
  refine own_back st142 ?_
  show own_End p e below s _ _ _ (T142.setTop (mkF m 118 #[.val (.ref o0), .val (.int (1 : Int32))] [(.int (own_F6_1 w_o0_0 w_o0_1 w_o0_2 w_o0_3 w_o0_4 w_o0_5))]))
  by_cases hc118_143 : (own_F6_1 w_o0_0 w_o0_1 w_o0_2 w_o0_3 w_o0_4 w_o0_5) = (0 : Int32)
  · refine own_ifY X142 hx (hb hby own_d5_118) (teq hc118_143).1 (q := 135) (by decide) (by decide) ?_
    refine own_iconst X142 hx (hb hby own_d5_135) (z := 0) rfl (q := 136) rfl ?_
    refine own_retN X142 hx (t := .boolean) (by simp) Bd.returns Bd.notSynchronized (by decide) (by decide) (hb hby own_d5_136) ?_
    show own_Q5_1 Z o0 k_o0 w_o0_0 w_o0_1 w_o0_2 w_o0_3 w_o0_4 w_o0_5 h0 n0 _ T142.heap _
    exact ⟨(by rw [show own_F5_1 w_o0_0 w_o0_1 w_o0_2 w_o0_3 w_o0_4 w_o0_5 = _ from (by simp only [own_F5_1, if_pos hc118_143] : _ = (0 : Int32))]; rfl), N142, e142⟩
  · refine own_ifN X142 hx (hb hby own_d5_118) (feq hc118_143).1 (q := 121) rfl ?_
    refine own_aloadN X142 hx (hb hby own_d5_121) rfl rfl (q := 122) rfl ?_
    refine own_iconst X142 hx (hb hby own_d5_122) (z := 1) rfl (q := 123) rfl ?_
    obtain ⟨cl145, Ar145, q145, S145, N145v, H145, G145⟩ := id V_o0
    have hin145 : ¬ ((1 : Int32) < 0 ∨ cl145.slots.size ≤ ((1 : Int32)).toNatClampNeg) := inb_of S145 ⟨by decide, by decide⟩
    refine own_back (X142.iaload hx (j := (1 : Int32)) (v := (.int w_o0_1)) (by rw [e142]; exact Ar145.1) (State.isArrayOf_alike hZ.alike Ar145.2.1) Ar145.2.2 hin145 (Has.at H145 hin145 rfl) (g := (mkF m 123 #[.val (.ref o0), .val (.int (1 : Int32))] [(.int (1 : Int32)), (.ref o0)])) rfl rfl (hb hby own_d5_123)) ?_
    show own_End p e below s _ _ _ (T142.setTop (mkF m 124 #[.val (.ref o0), .val (.int (1 : Int32))] [(.int w_o0_1)]))
    refine own_bipush X142 hx (hb hby own_d5_124) (z := 36) rfl (q := 126) rfl ?_
    by_cases hc126_146 : w_o0_1 = (36 : Int32)
    · refine own_icN X142 hx (hb hby own_d5_126) (teq hc126_146).2 (q := 129) rfl ?_
      refine own_iconst X142 hx (hb hby own_d5_129) (z := 1) rfl (q := 130) rfl ?_
      refine own_goto X142 hx (hb hby own_d5_130) (q := 134) (by decide) (by decide) ?_
      refine own_retN X142 hx (t := .boolean) (by simp) Bd.returns Bd.notSynchronized (by decide) (by decide) (hb hby own_d5_134) ?_
      show own_Q5_1 Z o0 k_o0 w_o0_0 w_o0_1 w_o0_2 w_o0_3 w_o0_4 w_o0_5 h0 n0 _ T142.heap _
      exact ⟨(by rw [show own_F5_1 w_o0_0 w_o0_1 w_o0_2 w_o0_3 w_o0_4 w_o0_5 = _ from (by simp only [own_F5_1, if_neg hc118_143, if_pos hc126_146] : _ = (1 : Int32))]; rfl), N142, e142⟩
    · refine own_icY X142 hx (hb hby own_d5_126) (feq hc126_146).2 (q := 133) (by decide) (by decide) ?_
      refine own_iconst X142 hx (hb hby own_d5_133) (z := 0) rfl (q := 134) rfl ?_
      refine own_retN X142 hx (t := .boolean) (by simp) Bd.returns Bd.notSynchronized (by decide) (by decide) (hb hby own_d5_134) ?_
      show own_Q5_1 Z o0 k_o0 w_o0_0 w_o0_1 w_o0_2 w_o0_3 w_o0_4 w_o0_5 h0 n0 _ T142.heap _
      exact ⟨(by rw [show own_F5_1 w_o0_0 w_o0_1 w_o0_2 w_o0_3 w_o0_4 w_o0_5 = _ from (by simp only [own_F5_1, if_neg hc118_143, if_neg hc126_146] : _ = (0 : Int32))]; rfl), N142, e142⟩
theorem own_d5_86 : decode method_5_code 86 = .ok (.aload_n 0, 1) := by decide +kernel
theorem own_d5_87 : decode method_5_code 87 = .ok (.iconst 2, 1) := by decide +kernel
theorem own_d5_88 : decode method_5_code 88 = .ok (.invokestatic 28, 3) := by decide +kernel
theorem own_d5_91 : decode method_5_code 91 = .ok (.ifCond .eq 17, 3) := by decide +kernel
theorem own_d5_94 : decode method_5_code 94 = .ok (.aload_n 0, 1) := by decide +kernel
theorem own_d5_95 : decode method_5_code 95 = .ok (.iconst 2, 1) := by decide +kernel
theorem own_d5_96 : decode method_5_code 96 = .ok (.iaload, 1) := by decide +kernel
theorem own_d5_97 : decode method_5_code 97 = .ok (.bipush 36, 2) := by decide +kernel
theorem own_d5_99 : decode method_5_code 99 = .ok (.if_icmp .ne 7, 3) := by decide +kernel
theorem own_d5_102 : decode method_5_code 102 = .ok (.iconst 1, 1) := by decide +kernel
theorem own_d5_103 : decode method_5_code 103 = .ok (.goto 4, 3) := by decide +kernel
theorem own_d5_107 : decode method_5_code 107 = .ok (.ireturn, 1) := by decide +kernel
theorem own_d5_106 : decode method_5_code 106 = .ok (.iconst 0, 1) := by decide +kernel
def own_F5_2 (w_o0_0 : Int32) (w_o0_1 : Int32) (w_o0_2 : Int32) (w_o0_3 : Int32) (w_o0_4 : Int32) (w_o0_5 : Int32) : Int32 := (if (own_F6_2 w_o0_0 w_o0_1 w_o0_2 w_o0_3 w_o0_4 w_o0_5) = (0 : Int32) then (if (own_F6_1 w_o0_0 w_o0_1 w_o0_2 w_o0_3 w_o0_4 w_o0_5) = (0 : Int32) then (0 : Int32) else (if w_o0_1 = (36 : Int32) then (1 : Int32) else (0 : Int32))) else (if w_o0_2 = (36 : Int32) then (1 : Int32) else (0 : Int32)))
def own_Q5_2 (Z : State) (o0 : Addr) (k_o0 : ClassId) (w_o0_0 : Int32) (w_o0_1 : Int32) (w_o0_2 : Int32) (w_o0_3 : Int32) (w_o0_4 : Int32) (w_o0_5 : Int32) (h0 : Heap) (n0 : Nat) (v : Option Value) (h : Heap) (L : List Loc) : Prop := v = some (.int (own_F5_2 w_o0_0 w_o0_1 w_o0_2 w_o0_3 w_o0_4 w_o0_5)) ∧ Fr n0 L ∧ h = h0
theorem own_pn_rm5_2 : plainName "com/example/renkei/renkei/codec/TwoByteRunsNextPinLaw" = true := by first | (simp [plainName, overriddenIn]; done) | decide +kernel
theorem own_ef_rm5_2 (m : MethodId) (o0 : Addr) : entryFrame m #[(.ref o0), (.int (2 : Int32))] 2 = mkF m 0 #[.val (.ref o0), .val (.int (2 : Int32))] [] := by first | (simp [entryFrame, mkF, argsToLocals, Value.category]; done) | rfl
set_option maxRecDepth 65536 in
set_option maxHeartbeats 40000000 in
theorem own_rm5_2 (l : Launch) (Z : State) (a0 : Array Value) (hw : ∀ d ∈ tables_1, d.before a0 Z = true) (ws : List Jvm.Cond) (o0 : Addr) (k_o0 : ClassId) (w_o0_0 : Int32) (w_o0_1 : Int32) (w_o0_2 : Int32) (w_o0_3 : Int32) (w_o0_4 : Int32) (w_o0_5 : Int32) (h0 : Heap) (n0 : Nat) (Z0 : n0 ≤ h0.size) (V_o0 : Arv Z h0 o0 k_o0 .int (6 : Int32) [(.int w_o0_0), (.int w_o0_1), (.int w_o0_2), (.int w_o0_3), (.int w_o0_4), (.int w_o0_5)] (.int (0 : Int32))) :
    MetFree l (⟨"com/example/renkei/renkei/codec/TwoByteRunsNextPinLaw", "expected", "([II)Z"⟩ : MethodName) (head1 (Jvm.Cond.code (⟨"com/example/renkei/renkei/codec/TwoByteRunsNextPinLaw", "expected", "([II)Z"⟩ : MethodName) method_5_code 2 (some .boolean) :: ws) ({ frames := 1, cells := 0, slots := 0, locals := 13 } : Room)) (fun a U => a = #[(.ref o0), (.int (2 : Int32))] ∧ Z.Warmed39 U.vm ∧ U.heap = h0) (fun _ _ _ _ _ => True) (fun _ U o U' => ∃ v L, o = .returned v ∧ own_Q5_2 Z o0 k_o0 w_o0_0 w_o0_1 w_o0_2 w_o0_3 w_o0_4 w_o0_5 h0 n0 v U'.heap L ∧ FrameEnd U o U' L ({ frames := 1, cells := 0, slots := 0, locals := 13 } : Room).cells ({ frames := 1, cells := 0, slots := 0, locals := 13 } : Room).slots) := by
  refine MetFree.of_bodySF (plainFor_of_name own_pn_rm5_2) hisR ?_
  intro p e s m args below meth c s₁ Bd hml0 hP hK
  obtain ⟨rfl, hZ, hh⟩ := hP
  have hx := Bd.exec
  have hby := Bd.bytes
  have hml : c.maxLocals = 2 := hml0
  have hown : s.vm.findClass "com/example/renkei/renkei/codec/TwoByteRunsNextPinLaw" = some m.cls := findClass_of_methodNamed Bd.named
  have hnm := (name_of_methodNamed Bd.named Bd.method).1
  have X0 : Stand p l e ({ frames := 1, cells := 0, slots := 0, locals := 13 } : Room) s m #[(.ref o0), (.int (2 : Int32))] below meth c s₁ [] 0 0 := Stand.of_body Bd
  have e0 : s₁.heap = h0 := by rw [← hh, Bd.state]; rfl
  have N0 := Fr.nil n0
  show own_End p e below s (own_Q5_2 Z o0 k_o0 w_o0_0 w_o0_1 w_o0_2 w_o0_3 w_o0_4 w_o0_5 h0 n0) ({ frames := 1, cells := 0, slots := 0, locals := 13 } : Room).cells ({ frames := 1, cells := 0, slots := 0, locals := 13 } : Room).slots (s₁.setTop (entryFrame m #[(.ref o0), (.int (2 : Int32))] 2))
  rw [own_ef_rm5_2]
  refine own_iloadN X0 hx (hb hby own_d5_0) rfl (q := 1) rfl ?_
  refine own_iconst X0 hx (hb hby own_d5_1) (z := 5) rfl (q := 2) rfl ?_
  refine own_icY X0 hx (hb hby own_d5_2) (tlt (by decide : ((2 : Int32) < (5 : Int32)))).1 (q := 27) (by decide) (by decide) ?_
  refine own_iloadN X0 hx (hb hby own_d5_27) rfl (q := 28) rfl ?_
  refine own_iconst X0 hx (hb hby own_d5_28) (z := 4) rfl (q := 29) rfl ?_
  refine own_icY X0 hx (hb hby own_d5_29) (tlt (by decide : ((2 : Int32) < (4 : Int32)))).1 (q := 54) (by decide) (by decide) ?_
  refine own_iloadN X0 hx (hb hby own_d5_54) rfl (q := 55) rfl ?_
  refine own_iconst X0 hx (hb hby own_d5_55) (z := 3) rfl (q := 56) rfl ?_
  refine own_icY X0 hx (hb hby own_d5_56) (tlt (by decide : ((2 : Int32) < (3 : Int32)))).1 (q := 81) (by decide) (by decide) ?_
  refine own_iloadN X0 hx (hb hby own_d5_81) rfl (q := 82) rfl ?_
  refine own_iconst X0 hx (hb hby own_d5_82) (z := 2) rfl (q := 83) rfl ?_
  refine own_icN X0 hx (hb hby own_d5_83) (flt (by decide : ¬ ((2 : Int32) < (2 : Int32)))).1 (q := 86) rfl ?_
  refine own_aloadN X0 hx (hb hby own_d5_86) rfl rfl (q := 87) rfl ?_
  refine own_iconst X0 hx (hb hby own_d5_87) (z := 2) rfl (q := 88) rfl ?_
  obtain ⟨T149, Lc149, L149, X149, N149, hQ149, st149⟩ := own_shutS (val := some (.int (own_F6_2 w_o0_0 w_o0_1 w_o0_2 w_o0_3 w_o0_4 w_o0_5))) (Q := own_Q6_2 Z o0 k_o0 w_o0_0 w_o0_1 w_o0_2 w_o0_3 w_o0_4 w_o0_5 h0 n0) (rc := 0) (rs := 0) N0 (fun _ _ _ q => ⟨q.1, q.2.1⟩) (Jvm.LawKit.callS X0 hx (y := (⟨"com/example/renkei/renkei/codec/TwoByteRunsNextPinLaw", "isSwitch", "([II)Z"⟩ : MethodName)) hown (mvT hZ (hw _ (List.mem_of_getElem? (i := 26) rfl))) (mvT hZ (hw _ (List.mem_of_getElem? (i := 27) rfl))) (mvT hZ (hw _ (List.mem_of_getElem? (i := 3) rfl))) (mvT hZ (hw _ (List.mem_of_getElem? (i := 28) rfl))) (by decide) (backOf (W := 0) (own_rm6_2 l Z a0 hw [] o0 k_o0 w_o0_0 w_o0_1 w_o0_2 w_o0_3 w_o0_4 w_o0_5 h0 n0 Z0 V_o0) hZ (hw _ (List.mem_of_getElem? (i := 28) rfl)) (hw _ (List.mem_of_getElem? (i := 3) rfl)) (by decide) (by decide)) (g := (mkF m 88 #[.val (.ref o0), .val (.int (2 : Int32))] [(.int (2 : Int32)), (.ref o0)])) rfl (by rw [hml]; rfl) (argsL := [(.ref o0), (.int (2 : Int32))]) (rest := []) (lenOf own_pd0 rfl) rfl (by show 2 * 0 + _ ≤ _; exact Nat.le_of_eq rfl) (hb hby own_d5_88) (fun _ _ => ⟨rfl, e0, (by decide : 0 + 0 ≤ _), (by decide : 0 + 0 ≤ _)⟩))
  obtain ⟨-, -, e149⟩ := hQ149
  refine own_back st149 ?_
  show own_End p e below s _ _ _ (T149.setTop (mkF m 91 #[.val (.ref o0), .val (.int (2 : Int32))] [(.int (own_F6_2 w_o0_0 w_o0_1 w_o0_2 w_o0_3 w_o0_4 w_o0_5))]))
  by_cases hc91_150 : (own_F6_2 w_o0_0 w_o0_1 w_o0_2 w_o0_3 w_o0_4 w_o0_5) = (0 : Int32)
  · refine own_ifY X149 hx (hb hby own_d5_91) (teq hc91_150).1 (q := 108) (by decide) (by decide) ?_
    refine own_iloadN X149 hx (hb hby own_d5_108) rfl (q := 109) rfl ?_
    refine own_iconst X149 hx (hb hby own_d5_109) (z := 1) rfl (q := 110) rfl ?_
    refine own_icN X149 hx (hb hby own_d5_110) (flt (by decide : ¬ ((2 : Int32) < (1 : Int32)))).1 (q := 113) rfl ?_
    refine own_aloadN X149 hx (hb hby own_d5_113) rfl rfl (q := 114) rfl ?_
    refine own_iconst X149 hx (hb hby own_d5_114) (z := 1) rfl (q := 115) rfl ?_
    obtain ⟨T151, Lc151, L151, X151, N151, hQ151, st151⟩ := own_shutS (val := some (.int (own_F6_1 w_o0_0 w_o0_1 w_o0_2 w_o0_3 w_o0_4 w_o0_5))) (Q := own_Q6_1 Z o0 k_o0 w_o0_0 w_o0_1 w_o0_2 w_o0_3 w_o0_4 w_o0_5 h0 n0) (rc := 0) (rs := 0) N149 (fun _ _ _ q => ⟨q.1, q.2.1⟩) (Jvm.LawKit.callS X149 hx (y := (⟨"com/example/renkei/renkei/codec/TwoByteRunsNextPinLaw", "isSwitch", "([II)Z"⟩ : MethodName)) hown (mvT hZ (hw _ (List.mem_of_getElem? (i := 26) rfl))) (mvT hZ (hw _ (List.mem_of_getElem? (i := 27) rfl))) (mvT hZ (hw _ (List.mem_of_getElem? (i := 3) rfl))) (mvT hZ (hw _ (List.mem_of_getElem? (i := 28) rfl))) (by decide) (backOf (W := 0) (own_rm6_1 l Z a0 hw [] o0 k_o0 w_o0_0 w_o0_1 w_o0_2 w_o0_3 w_o0_4 w_o0_5 h0 n0 Z0 V_o0) hZ (hw _ (List.mem_of_getElem? (i := 28) rfl)) (hw _ (List.mem_of_getElem? (i := 3) rfl)) (by decide) (by decide)) (g := (mkF m 115 #[.val (.ref o0), .val (.int (2 : Int32))] [(.int (1 : Int32)), (.ref o0)])) rfl (by rw [hml]; rfl) (argsL := [(.ref o0), (.int (1 : Int32))]) (rest := []) (lenOf own_pd0 rfl) rfl (by show 2 * 0 + _ ≤ _; exact Nat.le_of_eq rfl) (hb hby own_d5_115) (fun _ _ => ⟨rfl, e149, (by decide : 0 + 0 ≤ _), (by decide : 0 + 0 ≤ _)⟩))
    obtain ⟨-, -, e151⟩ := hQ151
    refine own_back st151 ?_
    show own_End p e below s _ _ _ (T151.setTop (mkF m 118 #[.val (.ref o0), .val (.int (2 : Int32))] [(.int (own_F6_1 w_o0_0 w_o0_1 w_o0_2 w_o0_3 w_o0_4 w_o0_5))]))
    by_cases hc118_152 : (own_F6_1 w_o0_0 w_o0_1 w_o0_2 w_o0_3 w_o0_4 w_o0_5) = (0 : Int32)
    · refine own_ifY X151 hx (hb hby own_d5_118) (teq hc118_152).1 (q := 135) (by decide) (by decide) ?_
      refine own_iconst X151 hx (hb hby own_d5_135) (z := 0) rfl (q := 136) rfl ?_
      refine own_retN X151 hx (t := .boolean) (by simp) Bd.returns Bd.notSynchronized (by decide) (by decide) (hb hby own_d5_136) ?_
      show own_Q5_2 Z o0 k_o0 w_o0_0 w_o0_1 w_o0_2 w_o0_3 w_o0_4 w_o0_5 h0 n0 _ T151.heap _
      exact ⟨(by rw [show own_F5_2 w_o0_0 w_o0_1 w_o0_2 w_o0_3 w_o0_4 w_o0_5 = _ from (by simp only [own_F5_2, if_pos hc91_150, if_pos hc118_152] : _ = (0 : Int32))]; rfl), N151, e151⟩
    · refine own_ifN X151 hx (hb hby own_d5_118) (feq hc118_152).1 (q := 121) rfl ?_
      refine own_aloadN X151 hx (hb hby own_d5_121) rfl rfl (q := 122) rfl ?_
      refine own_iconst X151 hx (hb hby own_d5_122) (z := 1) rfl (q := 123) rfl ?_
      obtain ⟨cl154, Ar154, q154, S154, N154v, H154, G154⟩ := id V_o0
      have hin154 : ¬ ((1 : Int32) < 0 ∨ cl154.slots.size ≤ ((1 : Int32)).toNatClampNeg) := inb_of S154 ⟨by decide, by decide⟩
      refine own_back (X151.iaload hx (j := (1 : Int32)) (v := (.int w_o0_1)) (by rw [e151]; exact Ar154.1) (State.isArrayOf_alike hZ.alike Ar154.2.1) Ar154.2.2 hin154 (Has.at H154 hin154 rfl) (g := (mkF m 123 #[.val (.ref o0), .val (.int (2 : Int32))] [(.int (1 : Int32)), (.ref o0)])) rfl rfl (hb hby own_d5_123)) ?_
      show own_End p e below s _ _ _ (T151.setTop (mkF m 124 #[.val (.ref o0), .val (.int (2 : Int32))] [(.int w_o0_1)]))
      refine own_bipush X151 hx (hb hby own_d5_124) (z := 36) rfl (q := 126) rfl ?_
      by_cases hc126_155 : w_o0_1 = (36 : Int32)
      · refine own_icN X151 hx (hb hby own_d5_126) (teq hc126_155).2 (q := 129) rfl ?_
        refine own_iconst X151 hx (hb hby own_d5_129) (z := 1) rfl (q := 130) rfl ?_
        refine own_goto X151 hx (hb hby own_d5_130) (q := 134) (by decide) (by decide) ?_
        refine own_retN X151 hx (t := .boolean) (by simp) Bd.returns Bd.notSynchronized (by decide) (by decide) (hb hby own_d5_134) ?_
        show own_Q5_2 Z o0 k_o0 w_o0_0 w_o0_1 w_o0_2 w_o0_3 w_o0_4 w_o0_5 h0 n0 _ T151.heap _
        exact ⟨(by rw [show own_F5_2 w_o0_0 w_o0_1 w_o0_2 w_o0_3 w_o0_4 w_o0_5 = _ from (by simp only [own_F5_2, if_pos hc91_150, if_neg hc118_152, if_pos hc126_155] : _ = (1 : Int32))]; rfl), N151, e151⟩
      · refine own_icY X151 hx (hb hby own_d5_126) (feq hc126_155).2 (q := 133) (by decide) (by decide) ?_
        refine own_iconst X151 hx (hb hby own_d5_133) (z := 0) rfl (q := 134) rfl ?_
        refine own_retN X151 hx (t := .boolean) (by simp) Bd.returns Bd.notSynchronized (by decide) (by decide) (hb hby own_d5_134) ?_
        show own_Q5_2 Z o0 k_o0 w_o0_0 w_o0_1 w_o0_2 w_o0_3 w_o0_4 w_o0_5 h0 n0 _ T151.heap _
        exact ⟨(by rw [show own_F5_2 w_o0_0 w_o0_1 w_o0_2 w_o0_3 w_o0_4 w_o0_5 = _ from (by simp only [own_F5_2, if_pos hc91_150, if_neg hc118_152, if_neg hc126_155] : _ = (0 : Int32))]; rfl), N151, e151⟩
  · refine own_ifN X149 hx (hb hby own_d5_91) (feq hc91_150).1 (q := 94) rfl ?_
    refine own_aloadN X149 hx (hb hby own_d5_94) rfl rfl (q := 95) rfl ?_
    refine own_iconst X149 hx (hb hby own_d5_95) (z := 2) rfl (q := 96) rfl ?_
    obtain ⟨cl158, Ar158, q158, S158, N158v, H158, G158⟩ := id V_o0
    have hin158 : ¬ ((2 : Int32) < 0 ∨ cl158.slots.size ≤ ((2 : Int32)).toNatClampNeg) := inb_of S158 ⟨by decide, by decide⟩
    refine own_back (X149.iaload hx (j := (2 : Int32)) (v := (.int w_o0_2)) (by rw [e149]; exact Ar158.1) (State.isArrayOf_alike hZ.alike Ar158.2.1) Ar158.2.2 hin158 (Has.at H158 hin158 rfl) (g := (mkF m 96 #[.val (.ref o0), .val (.int (2 : Int32))] [(.int (2 : Int32)), (.ref o0)])) rfl rfl (hb hby own_d5_96)) ?_
    show own_End p e below s _ _ _ (T149.setTop (mkF m 97 #[.val (.ref o0), .val (.int (2 : Int32))] [(.int w_o0_2)]))
    refine own_bipush X149 hx (hb hby own_d5_97) (z := 36) rfl (q := 99) rfl ?_
    by_cases hc99_159 : w_o0_2 = (36 : Int32)
    · refine own_icN X149 hx (hb hby own_d5_99) (teq hc99_159).2 (q := 102) rfl ?_
      refine own_iconst X149 hx (hb hby own_d5_102) (z := 1) rfl (q := 103) rfl ?_
      refine own_goto X149 hx (hb hby own_d5_103) (q := 107) (by decide) (by decide) ?_
      refine own_retN X149 hx (t := .boolean) (by simp) Bd.returns Bd.notSynchronized (by decide) (by decide) (hb hby own_d5_107) ?_
      show own_Q5_2 Z o0 k_o0 w_o0_0 w_o0_1 w_o0_2 w_o0_3 w_o0_4 w_o0_5 h0 n0 _ T149.heap _
      exact ⟨(by rw [show own_F5_2 w_o0_0 w_o0_1 w_o0_2 w_o0_3 w_o0_4 w_o0_5 = _ from (by simp only [own_F5_2, if_neg hc91_150, if_pos hc99_159] : _ = (1 : Int32))]; rfl), N149, e149⟩
    · refine own_icY X149 hx (hb hby own_d5_99) (feq hc99_159).2 (q := 106) (by decide) (by decide) ?_
      refine own_iconst X149 hx (hb hby own_d5_106) (z := 0) rfl (q := 107) rfl ?_
      refine own_retN X149 hx (t := .boolean) (by simp) Bd.returns Bd.notSynchronized (by decide) (by decide) (hb hby own_d5_107) ?_
      show own_Q5_2 Z o0 k_o0 w_o0_0 w_o0_1 w_o0_2 w_o0_3 w_o0_4 w_o0_5 h0 n0 _ T149.heap _
      exact ⟨(by rw [show own_F5_2 w_o0_0 w_o0_1 w_o0_2 w_o0_3 w_o0_4 w_o0_5 = _ from (by simp only [own_F5_2, if_neg hc91_150, if_neg hc99_159] : _ = (0 : Int32))]; rfl), N149, e149⟩
theorem own_d5_59 : decode method_5_code 59 = .ok (.aload_n 0, 1) := by decide +kernel
theorem own_d5_60 : decode method_5_code 60 = .ok (.iconst 3, 1) := by decide +kernel
theorem own_d5_61 : decode method_5_code 61 = .ok (.invokestatic 28, 3) := by decide +kernel
theorem own_d5_64 : decode method_5_code 64 = .ok (.ifCond .eq 17, 3) := by decide +kernel
theorem own_d5_67 : decode method_5_code 67 = .ok (.aload_n 0, 1) := by decide +kernel
theorem own_d5_68 : decode method_5_code 68 = .ok (.iconst 3, 1) := by decide +kernel
theorem own_d5_69 : decode method_5_code 69 = .ok (.iaload, 1) := by decide +kernel
theorem own_d5_70 : decode method_5_code 70 = .ok (.bipush 36, 2) := by decide +kernel
theorem own_d5_72 : decode method_5_code 72 = .ok (.if_icmp .ne 7, 3) := by decide +kernel
theorem own_d5_75 : decode method_5_code 75 = .ok (.iconst 1, 1) := by decide +kernel
theorem own_d5_76 : decode method_5_code 76 = .ok (.goto 4, 3) := by decide +kernel
theorem own_d5_80 : decode method_5_code 80 = .ok (.ireturn, 1) := by decide +kernel
theorem own_d5_79 : decode method_5_code 79 = .ok (.iconst 0, 1) := by decide +kernel
def own_F5_3 (w_o0_0 : Int32) (w_o0_1 : Int32) (w_o0_2 : Int32) (w_o0_3 : Int32) (w_o0_4 : Int32) (w_o0_5 : Int32) : Int32 := (if (own_F6_3 w_o0_0 w_o0_1 w_o0_2 w_o0_3 w_o0_4 w_o0_5) = (0 : Int32) then (if (own_F6_2 w_o0_0 w_o0_1 w_o0_2 w_o0_3 w_o0_4 w_o0_5) = (0 : Int32) then (if (own_F6_1 w_o0_0 w_o0_1 w_o0_2 w_o0_3 w_o0_4 w_o0_5) = (0 : Int32) then (0 : Int32) else (if w_o0_1 = (36 : Int32) then (1 : Int32) else (0 : Int32))) else (if w_o0_2 = (36 : Int32) then (1 : Int32) else (0 : Int32))) else (if w_o0_3 = (36 : Int32) then (1 : Int32) else (0 : Int32)))
def own_Q5_3 (Z : State) (o0 : Addr) (k_o0 : ClassId) (w_o0_0 : Int32) (w_o0_1 : Int32) (w_o0_2 : Int32) (w_o0_3 : Int32) (w_o0_4 : Int32) (w_o0_5 : Int32) (h0 : Heap) (n0 : Nat) (v : Option Value) (h : Heap) (L : List Loc) : Prop := v = some (.int (own_F5_3 w_o0_0 w_o0_1 w_o0_2 w_o0_3 w_o0_4 w_o0_5)) ∧ Fr n0 L ∧ h = h0
theorem own_pn_rm5_3 : plainName "com/example/renkei/renkei/codec/TwoByteRunsNextPinLaw" = true := by first | (simp [plainName, overriddenIn]; done) | decide +kernel
theorem own_ef_rm5_3 (m : MethodId) (o0 : Addr) : entryFrame m #[(.ref o0), (.int (3 : Int32))] 2 = mkF m 0 #[.val (.ref o0), .val (.int (3 : Int32))] [] := by first | (simp [entryFrame, mkF, argsToLocals, Value.category]; done) | rfl
set_option maxRecDepth 65536 in
set_option maxHeartbeats 40000000 in
theorem own_rm5_3 (l : Launch) (Z : State) (a0 : Array Value) (hw : ∀ d ∈ tables_1, d.before a0 Z = true) (ws : List Jvm.Cond) (o0 : Addr) (k_o0 : ClassId) (w_o0_0 : Int32) (w_o0_1 : Int32) (w_o0_2 : Int32) (w_o0_3 : Int32) (w_o0_4 : Int32) (w_o0_5 : Int32) (h0 : Heap) (n0 : Nat) (Z0 : n0 ≤ h0.size) (V_o0 : Arv Z h0 o0 k_o0 .int (6 : Int32) [(.int w_o0_0), (.int w_o0_1), (.int w_o0_2), (.int w_o0_3), (.int w_o0_4), (.int w_o0_5)] (.int (0 : Int32))) :
    MetFree l (⟨"com/example/renkei/renkei/codec/TwoByteRunsNextPinLaw", "expected", "([II)Z"⟩ : MethodName) (head1 (Jvm.Cond.code (⟨"com/example/renkei/renkei/codec/TwoByteRunsNextPinLaw", "expected", "([II)Z"⟩ : MethodName) method_5_code 2 (some .boolean) :: ws) ({ frames := 1, cells := 0, slots := 0, locals := 13 } : Room)) (fun a U => a = #[(.ref o0), (.int (3 : Int32))] ∧ Z.Warmed39 U.vm ∧ U.heap = h0) (fun _ _ _ _ _ => True) (fun _ U o U' => ∃ v L, o = .returned v ∧ own_Q5_3 Z o0 k_o0 w_o0_0 w_o0_1 w_o0_2 w_o0_3 w_o0_4 w_o0_5 h0 n0 v U'.heap L ∧ FrameEnd U o U' L ({ frames := 1, cells := 0, slots := 0, locals := 13 } : Room).cells ({ frames := 1, cells := 0, slots := 0, locals := 13 } : Room).slots) := by
  refine MetFree.of_bodySF (plainFor_of_name own_pn_rm5_3) hisR ?_
  intro p e s m args below meth c s₁ Bd hml0 hP hK
  obtain ⟨rfl, hZ, hh⟩ := hP
  have hx := Bd.exec
  have hby := Bd.bytes
  have hml : c.maxLocals = 2 := hml0
  have hown : s.vm.findClass "com/example/renkei/renkei/codec/TwoByteRunsNextPinLaw" = some m.cls := findClass_of_methodNamed Bd.named
  have hnm := (name_of_methodNamed Bd.named Bd.method).1
  have X0 : Stand p l e ({ frames := 1, cells := 0, slots := 0, locals := 13 } : Room) s m #[(.ref o0), (.int (3 : Int32))] below meth c s₁ [] 0 0 := Stand.of_body Bd
  have e0 : s₁.heap = h0 := by rw [← hh, Bd.state]; rfl
  have N0 := Fr.nil n0
  show own_End p e below s (own_Q5_3 Z o0 k_o0 w_o0_0 w_o0_1 w_o0_2 w_o0_3 w_o0_4 w_o0_5 h0 n0) ({ frames := 1, cells := 0, slots := 0, locals := 13 } : Room).cells ({ frames := 1, cells := 0, slots := 0, locals := 13 } : Room).slots (s₁.setTop (entryFrame m #[(.ref o0), (.int (3 : Int32))] 2))
  rw [own_ef_rm5_3]
  refine own_iloadN X0 hx (hb hby own_d5_0) rfl (q := 1) rfl ?_
  refine own_iconst X0 hx (hb hby own_d5_1) (z := 5) rfl (q := 2) rfl ?_
  refine own_icY X0 hx (hb hby own_d5_2) (tlt (by decide : ((3 : Int32) < (5 : Int32)))).1 (q := 27) (by decide) (by decide) ?_
  refine own_iloadN X0 hx (hb hby own_d5_27) rfl (q := 28) rfl ?_
  refine own_iconst X0 hx (hb hby own_d5_28) (z := 4) rfl (q := 29) rfl ?_
  refine own_icY X0 hx (hb hby own_d5_29) (tlt (by decide : ((3 : Int32) < (4 : Int32)))).1 (q := 54) (by decide) (by decide) ?_
  refine own_iloadN X0 hx (hb hby own_d5_54) rfl (q := 55) rfl ?_
  refine own_iconst X0 hx (hb hby own_d5_55) (z := 3) rfl (q := 56) rfl ?_
  refine own_icN X0 hx (hb hby own_d5_56) (flt (by decide : ¬ ((3 : Int32) < (3 : Int32)))).1 (q := 59) rfl ?_
  refine own_aloadN X0 hx (hb hby own_d5_59) rfl rfl (q := 60) rfl ?_
  refine own_iconst X0 hx (hb hby own_d5_60) (z := 3) rfl (q := 61) rfl ?_
  obtain ⟨T162, Lc162, L162, X162, N162, hQ162, st162⟩ := own_shutS (val := some (.int (own_F6_3 w_o0_0 w_o0_1 w_o0_2 w_o0_3 w_o0_4 w_o0_5))) (Q := own_Q6_3 Z o0 k_o0 w_o0_0 w_o0_1 w_o0_2 w_o0_3 w_o0_4 w_o0_5 h0 n0) (rc := 0) (rs := 0) N0 (fun _ _ _ q => ⟨q.1, q.2.1⟩) (Jvm.LawKit.callS X0 hx (y := (⟨"com/example/renkei/renkei/codec/TwoByteRunsNextPinLaw", "isSwitch", "([II)Z"⟩ : MethodName)) hown (mvT hZ (hw _ (List.mem_of_getElem? (i := 26) rfl))) (mvT hZ (hw _ (List.mem_of_getElem? (i := 27) rfl))) (mvT hZ (hw _ (List.mem_of_getElem? (i := 3) rfl))) (mvT hZ (hw _ (List.mem_of_getElem? (i := 28) rfl))) (by decide) (backOf (W := 0) (own_rm6_3 l Z a0 hw [] o0 k_o0 w_o0_0 w_o0_1 w_o0_2 w_o0_3 w_o0_4 w_o0_5 h0 n0 Z0 V_o0) hZ (hw _ (List.mem_of_getElem? (i := 28) rfl)) (hw _ (List.mem_of_getElem? (i := 3) rfl)) (by decide) (by decide)) (g := (mkF m 61 #[.val (.ref o0), .val (.int (3 : Int32))] [(.int (3 : Int32)), (.ref o0)])) rfl (by rw [hml]; rfl) (argsL := [(.ref o0), (.int (3 : Int32))]) (rest := []) (lenOf own_pd0 rfl) rfl (by show 2 * 0 + _ ≤ _; exact Nat.le_of_eq rfl) (hb hby own_d5_61) (fun _ _ => ⟨rfl, e0, (by decide : 0 + 0 ≤ _), (by decide : 0 + 0 ≤ _)⟩))
  obtain ⟨-, -, e162⟩ := hQ162
  refine own_back st162 ?_
  show own_End p e below s _ _ _ (T162.setTop (mkF m 64 #[.val (.ref o0), .val (.int (3 : Int32))] [(.int (own_F6_3 w_o0_0 w_o0_1 w_o0_2 w_o0_3 w_o0_4 w_o0_5))]))
  by_cases hc64_163 : (own_F6_3 w_o0_0 w_o0_1 w_o0_2 w_o0_3 w_o0_4 w_o0_5) = (0 : Int32)
  · refine own_ifY X162 hx (hb hby own_d5_64) (teq hc64_163).1 (q := 81) (by decide) (by decide) ?_
    refine own_iloadN X162 hx (hb hby own_d5_81) rfl (q := 82) rfl ?_
    refine own_iconst X162 hx (hb hby own_d5_82) (z := 2) rfl (q := 83) rfl ?_
    refine own_icN X162 hx (hb hby own_d5_83) (flt (by decide : ¬ ((3 : Int32) < (2 : Int32)))).1 (q := 86) rfl ?_
    refine own_aloadN X162 hx (hb hby own_d5_86) rfl rfl (q := 87) rfl ?_
    refine own_iconst X162 hx (hb hby own_d5_87) (z := 2) rfl (q := 88) rfl ?_
    obtain ⟨T164, Lc164, L164, X164, N164, hQ164, st164⟩ := own_shutS (val := some (.int (own_F6_2 w_o0_0 w_o0_1 w_o0_2 w_o0_3 w_o0_4 w_o0_5))) (Q := own_Q6_2 Z o0 k_o0 w_o0_0 w_o0_1 w_o0_2 w_o0_3 w_o0_4 w_o0_5 h0 n0) (rc := 0) (rs := 0) N162 (fun _ _ _ q => ⟨q.1, q.2.1⟩) (Jvm.LawKit.callS X162 hx (y := (⟨"com/example/renkei/renkei/codec/TwoByteRunsNextPinLaw", "isSwitch", "([II)Z"⟩ : MethodName)) hown (mvT hZ (hw _ (List.mem_of_getElem? (i := 26) rfl))) (mvT hZ (hw _ (List.mem_of_getElem? (i := 27) rfl))) (mvT hZ (hw _ (List.mem_of_getElem? (i := 3) rfl))) (mvT hZ (hw _ (List.mem_of_getElem? (i := 28) rfl))) (by decide) (backOf (W := 0) (own_rm6_2 l Z a0 hw [] o0 k_o0 w_o0_0 w_o0_1 w_o0_2 w_o0_3 w_o0_4 w_o0_5 h0 n0 Z0 V_o0) hZ (hw _ (List.mem_of_getElem? (i := 28) rfl)) (hw _ (List.mem_of_getElem? (i := 3) rfl)) (by decide) (by decide)) (g := (mkF m 88 #[.val (.ref o0), .val (.int (3 : Int32))] [(.int (2 : Int32)), (.ref o0)])) rfl (by rw [hml]; rfl) (argsL := [(.ref o0), (.int (2 : Int32))]) (rest := []) (lenOf own_pd0 rfl) rfl (by show 2 * 0 + _ ≤ _; exact Nat.le_of_eq rfl) (hb hby own_d5_88) (fun _ _ => ⟨rfl, e162, (by decide : 0 + 0 ≤ _), (by decide : 0 + 0 ≤ _)⟩))
    obtain ⟨-, -, e164⟩ := hQ164
    refine own_back st164 ?_
    show own_End p e below s _ _ _ (T164.setTop (mkF m 91 #[.val (.ref o0), .val (.int (3 : Int32))] [(.int (own_F6_2 w_o0_0 w_o0_1 w_o0_2 w_o0_3 w_o0_4 w_o0_5))]))
    by_cases hc91_165 : (own_F6_2 w_o0_0 w_o0_1 w_o0_2 w_o0_3 w_o0_4 w_o0_5) = (0 : Int32)
    · refine own_ifY X164 hx (hb hby own_d5_91) (teq hc91_165).1 (q := 108) (by decide) (by decide) ?_
      refine own_iloadN X164 hx (hb hby own_d5_108) rfl (q := 109) rfl ?_
      refine own_iconst X164 hx (hb hby own_d5_109) (z := 1) rfl (q := 110) rfl ?_
      refine own_icN X164 hx (hb hby own_d5_110) (flt (by decide : ¬ ((3 : Int32) < (1 : Int32)))).1 (q := 113) rfl ?_
      refine own_aloadN X164 hx (hb hby own_d5_113) rfl rfl (q := 114) rfl ?_
      refine own_iconst X164 hx (hb hby own_d5_114) (z := 1) rfl (q := 115) rfl ?_
      obtain ⟨T166, Lc166, L166, X166, N166, hQ166, st166⟩ := own_shutS (val := some (.int (own_F6_1 w_o0_0 w_o0_1 w_o0_2 w_o0_3 w_o0_4 w_o0_5))) (Q := own_Q6_1 Z o0 k_o0 w_o0_0 w_o0_1 w_o0_2 w_o0_3 w_o0_4 w_o0_5 h0 n0) (rc := 0) (rs := 0) N164 (fun _ _ _ q => ⟨q.1, q.2.1⟩) (Jvm.LawKit.callS X164 hx (y := (⟨"com/example/renkei/renkei/codec/TwoByteRunsNextPinLaw", "isSwitch", "([II)Z"⟩ : MethodName)) hown (mvT hZ (hw _ (List.mem_of_getElem? (i := 26) rfl))) (mvT hZ (hw _ (List.mem_of_getElem? (i := 27) rfl))) (mvT hZ (hw _ (List.mem_of_getElem? (i := 3) rfl))) (mvT hZ (hw _ (List.mem_of_getElem? (i := 28) rfl))) (by decide) (backOf (W := 0) (own_rm6_1 l Z a0 hw [] o0 k_o0 w_o0_0 w_o0_1 w_o0_2 w_o0_3 w_o0_4 w_o0_5 h0 n0 Z0 V_o0) hZ (hw _ (List.mem_of_getElem? (i := 28) rfl)) (hw _ (List.mem_of_getElem? (i := 3) rfl)) (by decide) (by decide)) (g := (mkF m 115 #[.val (.ref o0), .val (.int (3 : Int32))] [(.int (1 : Int32)), (.ref o0)])) rfl (by rw [hml]; rfl) (argsL := [(.ref o0), (.int (1 : Int32))]) (rest := []) (lenOf own_pd0 rfl) rfl (by show 2 * 0 + _ ≤ _; exact Nat.le_of_eq rfl) (hb hby own_d5_115) (fun _ _ => ⟨rfl, e164, (by decide : 0 + 0 ≤ _), (by decide : 0 + 0 ≤ _)⟩))
      obtain ⟨-, -, e166⟩ := hQ166
      refine own_back st166 ?_
      show own_End p e below s _ _ _ (T166.setTop (mkF m 118 #[.val (.ref o0), .val (.int (3 : Int32))] [(.int (own_F6_1 w_o0_0 w_o0_1 w_o0_2 w_o0_3 w_o0_4 w_o0_5))]))
      by_cases hc118_167 : (own_F6_1 w_o0_0 w_o0_1 w_o0_2 w_o0_3 w_o0_4 w_o0_5) = (0 : Int32)
      · refine own_ifY X166 hx (hb hby own_d5_118) (teq hc118_167).1 (q := 135) (by decide) (by decide) ?_
        refine own_iconst X166 hx (hb hby own_d5_135) (z := 0) rfl (q := 136) rfl ?_
        refine own_retN X166 hx (t := .boolean) (by simp) Bd.returns Bd.notSynchronized (by decide) (by decide) (hb hby own_d5_136) ?_
        show own_Q5_3 Z o0 k_o0 w_o0_0 w_o0_1 w_o0_2 w_o0_3 w_o0_4 w_o0_5 h0 n0 _ T166.heap _
        exact ⟨(by rw [show own_F5_3 w_o0_0 w_o0_1 w_o0_2 w_o0_3 w_o0_4 w_o0_5 = _ from (by simp only [own_F5_3, if_pos hc64_163, if_pos hc91_165, if_pos hc118_167] : _ = (0 : Int32))]; rfl), N166, e166⟩
      · refine own_ifN X166 hx (hb hby own_d5_118) (feq hc118_167).1 (q := 121) rfl ?_
        refine own_aloadN X166 hx (hb hby own_d5_121) rfl rfl (q := 122) rfl ?_
        refine own_iconst X166 hx (hb hby own_d5_122) (z := 1) rfl (q := 123) rfl ?_
        obtain ⟨cl169, Ar169, q169, S169, N169v, H169, G169⟩ := id V_o0
        have hin169 : ¬ ((1 : Int32) < 0 ∨ cl169.slots.size ≤ ((1 : Int32)).toNatClampNeg) := inb_of S169 ⟨by decide, by decide⟩
        refine own_back (X166.iaload hx (j := (1 : Int32)) (v := (.int w_o0_1)) (by rw [e166]; exact Ar169.1) (State.isArrayOf_alike hZ.alike Ar169.2.1) Ar169.2.2 hin169 (Has.at H169 hin169 rfl) (g := (mkF m 123 #[.val (.ref o0), .val (.int (3 : Int32))] [(.int (1 : Int32)), (.ref o0)])) rfl rfl (hb hby own_d5_123)) ?_
        show own_End p e below s _ _ _ (T166.setTop (mkF m 124 #[.val (.ref o0), .val (.int (3 : Int32))] [(.int w_o0_1)]))
        refine own_bipush X166 hx (hb hby own_d5_124) (z := 36) rfl (q := 126) rfl ?_
        by_cases hc126_170 : w_o0_1 = (36 : Int32)
        · refine own_icN X166 hx (hb hby own_d5_126) (teq hc126_170).2 (q := 129) rfl ?_
          refine own_iconst X166 hx (hb hby own_d5_129) (z := 1) rfl (q := 130) rfl ?_
          refine own_goto X166 hx (hb hby own_d5_130) (q := 134) (by decide) (by decide) ?_
          refine own_retN X166 hx (t := .boolean) (by simp) Bd.returns Bd.notSynchronized (by decide) (by decide) (hb hby own_d5_134) ?_
          show own_Q5_3 Z o0 k_o0 w_o0_0 w_o0_1 w_o0_2 w_o0_3 w_o0_4 w_o0_5 h0 n0 _ T166.heap _
          exact ⟨(by rw [show own_F5_3 w_o0_0 w_o0_1 w_o0_2 w_o0_3 w_o0_4 w_o0_5 = _ from (by simp only [own_F5_3, if_pos hc64_163, if_pos hc91_165, if_neg hc118_167, if_pos hc126_170] : _ = (1 : Int32))]; rfl), N166, e166⟩
        · refine own_icY X166 hx (hb hby own_d5_126) (feq hc126_170).2 (q := 133) (by decide) (by decide) ?_
          refine own_iconst X166 hx (hb hby own_d5_133) (z := 0) rfl (q := 134) rfl ?_
          refine own_retN X166 hx (t := .boolean) (by simp) Bd.returns Bd.notSynchronized (by decide) (by decide) (hb hby own_d5_134) ?_
          show own_Q5_3 Z o0 k_o0 w_o0_0 w_o0_1 w_o0_2 w_o0_3 w_o0_4 w_o0_5 h0 n0 _ T166.heap _
          exact ⟨(by rw [show own_F5_3 w_o0_0 w_o0_1 w_o0_2 w_o0_3 w_o0_4 w_o0_5 = _ from (by simp only [own_F5_3, if_pos hc64_163, if_pos hc91_165, if_neg hc118_167, if_neg hc126_170] : _ = (0 : Int32))]; rfl), N166, e166⟩
    · refine own_ifN X164 hx (hb hby own_d5_91) (feq hc91_165).1 (q := 94) rfl ?_
      refine own_aloadN X164 hx (hb hby own_d5_94) rfl rfl (q := 95) rfl ?_
      refine own_iconst X164 hx (hb hby own_d5_95) (z := 2) rfl (q := 96) rfl ?_
      obtain ⟨cl173, Ar173, q173, S173, N173v, H173, G173⟩ := id V_o0
      have hin173 : ¬ ((2 : Int32) < 0 ∨ cl173.slots.size ≤ ((2 : Int32)).toNatClampNeg) := inb_of S173 ⟨by decide, by decide⟩
      refine own_back (X164.iaload hx (j := (2 : Int32)) (v := (.int w_o0_2)) (by rw [e164]; exact Ar173.1) (State.isArrayOf_alike hZ.alike Ar173.2.1) Ar173.2.2 hin173 (Has.at H173 hin173 rfl) (g := (mkF m 96 #[.val (.ref o0), .val (.int (3 : Int32))] [(.int (2 : Int32)), (.ref o0)])) rfl rfl (hb hby own_d5_96)) ?_
      show own_End p e below s _ _ _ (T164.setTop (mkF m 97 #[.val (.ref o0), .val (.int (3 : Int32))] [(.int w_o0_2)]))
      refine own_bipush X164 hx (hb hby own_d5_97) (z := 36) rfl (q := 99) rfl ?_
      by_cases hc99_174 : w_o0_2 = (36 : Int32)
      · refine own_icN X164 hx (hb hby own_d5_99) (teq hc99_174).2 (q := 102) rfl ?_
        refine own_iconst X164 hx (hb hby own_d5_102) (z := 1) rfl (q := 103) rfl ?_
        refine own_goto X164 hx (hb hby own_d5_103) (q := 107) (by decide) (by decide) ?_
        refine own_retN X164 hx (t := .boolean) (by simp) Bd.returns Bd.notSynchronized (by decide) (by decide) (hb hby own_d5_107) ?_
        show own_Q5_3 Z o0 k_o0 w_o0_0 w_o0_1 w_o0_2 w_o0_3 w_o0_4 w_o0_5 h0 n0 _ T164.heap _
        exact ⟨(by rw [show own_F5_3 w_o0_0 w_o0_1 w_o0_2 w_o0_3 w_o0_4 w_o0_5 = _ from (by simp only [own_F5_3, if_pos hc64_163, if_neg hc91_165, if_pos hc99_174] : _ = (1 : Int32))]; rfl), N164, e164⟩
      · refine own_icY X164 hx (hb hby own_d5_99) (feq hc99_174).2 (q := 106) (by decide) (by decide) ?_
        refine own_iconst X164 hx (hb hby own_d5_106) (z := 0) rfl (q := 107) rfl ?_
        refine own_retN X164 hx (t := .boolean) (by simp) Bd.returns Bd.notSynchronized (by decide) (by decide) (hb hby own_d5_107) ?_
        show own_Q5_3 Z o0 k_o0 w_o0_0 w_o0_1 w_o0_2 w_o0_3 w_o0_4 w_o0_5 h0 n0 _ T164.heap _
        exact ⟨(by rw [show own_F5_3 w_o0_0 w_o0_1 w_o0_2 w_o0_3 w_o0_4 w_o0_5 = _ from (by simp only [own_F5_3, if_pos hc64_163, if_neg hc91_165, if_neg hc99_174] : _ = (0 : Int32))]; rfl), N164, e164⟩
  · refine own_ifN X162 hx (hb hby own_d5_64) (feq hc64_163).1 (q := 67) rfl ?_
    refine own_aloadN X162 hx (hb hby own_d5_67) rfl rfl (q := 68) rfl ?_
    refine own_iconst X162 hx (hb hby own_d5_68) (z := 3) rfl (q := 69) rfl ?_
    obtain ⟨cl177, Ar177, q177, S177, N177v, H177, G177⟩ := id V_o0
    have hin177 : ¬ ((3 : Int32) < 0 ∨ cl177.slots.size ≤ ((3 : Int32)).toNatClampNeg) := inb_of S177 ⟨by decide, by decide⟩
    refine own_back (X162.iaload hx (j := (3 : Int32)) (v := (.int w_o0_3)) (by rw [e162]; exact Ar177.1) (State.isArrayOf_alike hZ.alike Ar177.2.1) Ar177.2.2 hin177 (Has.at H177 hin177 rfl) (g := (mkF m 69 #[.val (.ref o0), .val (.int (3 : Int32))] [(.int (3 : Int32)), (.ref o0)])) rfl rfl (hb hby own_d5_69)) ?_
    show own_End p e below s _ _ _ (T162.setTop (mkF m 70 #[.val (.ref o0), .val (.int (3 : Int32))] [(.int w_o0_3)]))
    refine own_bipush X162 hx (hb hby own_d5_70) (z := 36) rfl (q := 72) rfl ?_
    by_cases hc72_178 : w_o0_3 = (36 : Int32)
    · refine own_icN X162 hx (hb hby own_d5_72) (teq hc72_178).2 (q := 75) rfl ?_
      refine own_iconst X162 hx (hb hby own_d5_75) (z := 1) rfl (q := 76) rfl ?_
      refine own_goto X162 hx (hb hby own_d5_76) (q := 80) (by decide) (by decide) ?_
      refine own_retN X162 hx (t := .boolean) (by simp) Bd.returns Bd.notSynchronized (by decide) (by decide) (hb hby own_d5_80) ?_
      show own_Q5_3 Z o0 k_o0 w_o0_0 w_o0_1 w_o0_2 w_o0_3 w_o0_4 w_o0_5 h0 n0 _ T162.heap _
      exact ⟨(by rw [show own_F5_3 w_o0_0 w_o0_1 w_o0_2 w_o0_3 w_o0_4 w_o0_5 = _ from (by simp only [own_F5_3, if_neg hc64_163, if_pos hc72_178] : _ = (1 : Int32))]; rfl), N162, e162⟩
    · refine own_icY X162 hx (hb hby own_d5_72) (feq hc72_178).2 (q := 79) (by decide) (by decide) ?_
      refine own_iconst X162 hx (hb hby own_d5_79) (z := 0) rfl (q := 80) rfl ?_
      refine own_retN X162 hx (t := .boolean) (by simp) Bd.returns Bd.notSynchronized (by decide) (by decide) (hb hby own_d5_80) ?_
      show own_Q5_3 Z o0 k_o0 w_o0_0 w_o0_1 w_o0_2 w_o0_3 w_o0_4 w_o0_5 h0 n0 _ T162.heap _
      exact ⟨(by rw [show own_F5_3 w_o0_0 w_o0_1 w_o0_2 w_o0_3 w_o0_4 w_o0_5 = _ from (by simp only [own_F5_3, if_neg hc64_163, if_neg hc72_178] : _ = (0 : Int32))]; rfl), N162, e162⟩
theorem own_d5_32 : decode method_5_code 32 = .ok (.aload_n 0, 1) := by decide +kernel
theorem own_d5_33 : decode method_5_code 33 = .ok (.iconst 4, 1) := by decide +kernel
theorem own_d5_34 : decode method_5_code 34 = .ok (.invokestatic 28, 3) := by decide +kernel
theorem own_d5_37 : decode method_5_code 37 = .ok (.ifCond .eq 17, 3) := by decide +kernel
theorem own_d5_40 : decode method_5_code 40 = .ok (.aload_n 0, 1) := by decide +kernel
theorem own_d5_41 : decode method_5_code 41 = .ok (.iconst 4, 1) := by decide +kernel
theorem own_d5_42 : decode method_5_code 42 = .ok (.iaload, 1) := by decide +kernel
theorem own_d5_43 : decode method_5_code 43 = .ok (.bipush 36, 2) := by decide +kernel
theorem own_d5_45 : decode method_5_code 45 = .ok (.if_icmp .ne 7, 3) := by decide +kernel
theorem own_d5_48 : decode method_5_code 48 = .ok (.iconst 1, 1) := by decide +kernel
theorem own_d5_49 : decode method_5_code 49 = .ok (.goto 4, 3) := by decide +kernel
theorem own_d5_53 : decode method_5_code 53 = .ok (.ireturn, 1) := by decide +kernel
theorem own_d5_52 : decode method_5_code 52 = .ok (.iconst 0, 1) := by decide +kernel
def own_F5_4 (w_o0_0 : Int32) (w_o0_1 : Int32) (w_o0_2 : Int32) (w_o0_3 : Int32) (w_o0_4 : Int32) (w_o0_5 : Int32) : Int32 := (if (own_F6_4 w_o0_0 w_o0_1 w_o0_2 w_o0_3 w_o0_4 w_o0_5) = (0 : Int32) then (if (own_F6_3 w_o0_0 w_o0_1 w_o0_2 w_o0_3 w_o0_4 w_o0_5) = (0 : Int32) then (if (own_F6_2 w_o0_0 w_o0_1 w_o0_2 w_o0_3 w_o0_4 w_o0_5) = (0 : Int32) then (if (own_F6_1 w_o0_0 w_o0_1 w_o0_2 w_o0_3 w_o0_4 w_o0_5) = (0 : Int32) then (0 : Int32) else (if w_o0_1 = (36 : Int32) then (1 : Int32) else (0 : Int32))) else (if w_o0_2 = (36 : Int32) then (1 : Int32) else (0 : Int32))) else (if w_o0_3 = (36 : Int32) then (1 : Int32) else (0 : Int32))) else (if w_o0_4 = (36 : Int32) then (1 : Int32) else (0 : Int32)))
def own_Q5_4 (Z : State) (o0 : Addr) (k_o0 : ClassId) (w_o0_0 : Int32) (w_o0_1 : Int32) (w_o0_2 : Int32) (w_o0_3 : Int32) (w_o0_4 : Int32) (w_o0_5 : Int32) (h0 : Heap) (n0 : Nat) (v : Option Value) (h : Heap) (L : List Loc) : Prop := v = some (.int (own_F5_4 w_o0_0 w_o0_1 w_o0_2 w_o0_3 w_o0_4 w_o0_5)) ∧ Fr n0 L ∧ h = h0
theorem own_pn_rm5_4 : plainName "com/example/renkei/renkei/codec/TwoByteRunsNextPinLaw" = true := by first | (simp [plainName, overriddenIn]; done) | decide +kernel
theorem own_ef_rm5_4 (m : MethodId) (o0 : Addr) : entryFrame m #[(.ref o0), (.int (4 : Int32))] 2 = mkF m 0 #[.val (.ref o0), .val (.int (4 : Int32))] [] := by first | (simp [entryFrame, mkF, argsToLocals, Value.category]; done) | rfl
set_option maxRecDepth 65536 in
set_option maxHeartbeats 40000000 in
theorem own_rm5_4 (l : Launch) (Z : State) (a0 : Array Value) (hw : ∀ d ∈ tables_1, d.before a0 Z = true) (ws : List Jvm.Cond) (o0 : Addr) (k_o0 : ClassId) (w_o0_0 : Int32) (w_o0_1 : Int32) (w_o0_2 : Int32) (w_o0_3 : Int32) (w_o0_4 : Int32) (w_o0_5 : Int32) (h0 : Heap) (n0 : Nat) (Z0 : n0 ≤ h0.size) (V_o0 : Arv Z h0 o0 k_o0 .int (6 : Int32) [(.int w_o0_0), (.int w_o0_1), (.int w_o0_2), (.int w_o0_3), (.int w_o0_4), (.int w_o0_5)] (.int (0 : Int32))) :
    MetFree l (⟨"com/example/renkei/renkei/codec/TwoByteRunsNextPinLaw", "expected", "([II)Z"⟩ : MethodName) (head1 (Jvm.Cond.code (⟨"com/example/renkei/renkei/codec/TwoByteRunsNextPinLaw", "expected", "([II)Z"⟩ : MethodName) method_5_code 2 (some .boolean) :: ws) ({ frames := 1, cells := 0, slots := 0, locals := 13 } : Room)) (fun a U => a = #[(.ref o0), (.int (4 : Int32))] ∧ Z.Warmed39 U.vm ∧ U.heap = h0) (fun _ _ _ _ _ => True) (fun _ U o U' => ∃ v L, o = .returned v ∧ own_Q5_4 Z o0 k_o0 w_o0_0 w_o0_1 w_o0_2 w_o0_3 w_o0_4 w_o0_5 h0 n0 v U'.heap L ∧ FrameEnd U o U' L ({ frames := 1, cells := 0, slots := 0, locals := 13 } : Room).cells ({ frames := 1, cells := 0, slots := 0, locals := 13 } : Room).slots) := by
  refine MetFree.of_bodySF (plainFor_of_name own_pn_rm5_4) hisR ?_
  intro p e s m args below meth c s₁ Bd hml0 hP hK
  obtain ⟨rfl, hZ, hh⟩ := hP
  have hx := Bd.exec
  have hby := Bd.bytes
  have hml : c.maxLocals = 2 := hml0
  have hown : s.vm.findClass "com/example/renkei/renkei/codec/TwoByteRunsNextPinLaw" = some m.cls := findClass_of_methodNamed Bd.named
  have hnm := (name_of_methodNamed Bd.named Bd.method).1
  have X0 : Stand p l e ({ frames := 1, cells := 0, slots := 0, locals := 13 } : Room) s m #[(.ref o0), (.int (4 : Int32))] below meth c s₁ [] 0 0 := Stand.of_body Bd
  have e0 : s₁.heap = h0 := by rw [← hh, Bd.state]; rfl
  have N0 := Fr.nil n0
  show own_End p e below s (own_Q5_4 Z o0 k_o0 w_o0_0 w_o0_1 w_o0_2 w_o0_3 w_o0_4 w_o0_5 h0 n0) ({ frames := 1, cells := 0, slots := 0, locals := 13 } : Room).cells ({ frames := 1, cells := 0, slots := 0, locals := 13 } : Room).slots (s₁.setTop (entryFrame m #[(.ref o0), (.int (4 : Int32))] 2))
  rw [own_ef_rm5_4]
  refine own_iloadN X0 hx (hb hby own_d5_0) rfl (q := 1) rfl ?_
  refine own_iconst X0 hx (hb hby own_d5_1) (z := 5) rfl (q := 2) rfl ?_
  refine own_icY X0 hx (hb hby own_d5_2) (tlt (by decide : ((4 : Int32) < (5 : Int32)))).1 (q := 27) (by decide) (by decide) ?_
  refine own_iloadN X0 hx (hb hby own_d5_27) rfl (q := 28) rfl ?_
  refine own_iconst X0 hx (hb hby own_d5_28) (z := 4) rfl (q := 29) rfl ?_
  refine own_icN X0 hx (hb hby own_d5_29) (flt (by decide : ¬ ((4 : Int32) < (4 : Int32)))).1 (q := 32) rfl ?_
  refine own_aloadN X0 hx (hb hby own_d5_32) rfl rfl (q := 33) rfl ?_
  refine own_iconst X0 hx (hb hby own_d5_33) (z := 4) rfl (q := 34) rfl ?_
  obtain ⟨T181, Lc181, L181, X181, N181, hQ181, st181⟩ := own_shutS (val := some (.int (own_F6_4 w_o0_0 w_o0_1 w_o0_2 w_o0_3 w_o0_4 w_o0_5))) (Q := own_Q6_4 Z o0 k_o0 w_o0_0 w_o0_1 w_o0_2 w_o0_3 w_o0_4 w_o0_5 h0 n0) (rc := 0) (rs := 0) N0 (fun _ _ _ q => ⟨q.1, q.2.1⟩) (Jvm.LawKit.callS X0 hx (y := (⟨"com/example/renkei/renkei/codec/TwoByteRunsNextPinLaw", "isSwitch", "([II)Z"⟩ : MethodName)) hown (mvT hZ (hw _ (List.mem_of_getElem? (i := 26) rfl))) (mvT hZ (hw _ (List.mem_of_getElem? (i := 27) rfl))) (mvT hZ (hw _ (List.mem_of_getElem? (i := 3) rfl))) (mvT hZ (hw _ (List.mem_of_getElem? (i := 28) rfl))) (by decide) (backOf (W := 0) (own_rm6_4 l Z a0 hw [] o0 k_o0 w_o0_0 w_o0_1 w_o0_2 w_o0_3 w_o0_4 w_o0_5 h0 n0 Z0 V_o0) hZ (hw _ (List.mem_of_getElem? (i := 28) rfl)) (hw _ (List.mem_of_getElem? (i := 3) rfl)) (by decide) (by decide)) (g := (mkF m 34 #[.val (.ref o0), .val (.int (4 : Int32))] [(.int (4 : Int32)), (.ref o0)])) rfl (by rw [hml]; rfl) (argsL := [(.ref o0), (.int (4 : Int32))]) (rest := []) (lenOf own_pd0 rfl) rfl (by show 2 * 0 + _ ≤ _; exact Nat.le_of_eq rfl) (hb hby own_d5_34) (fun _ _ => ⟨rfl, e0, (by decide : 0 + 0 ≤ _), (by decide : 0 + 0 ≤ _)⟩))
  obtain ⟨-, -, e181⟩ := hQ181
  refine own_back st181 ?_
  show own_End p e below s _ _ _ (T181.setTop (mkF m 37 #[.val (.ref o0), .val (.int (4 : Int32))] [(.int (own_F6_4 w_o0_0 w_o0_1 w_o0_2 w_o0_3 w_o0_4 w_o0_5))]))
  by_cases hc37_182 : (own_F6_4 w_o0_0 w_o0_1 w_o0_2 w_o0_3 w_o0_4 w_o0_5) = (0 : Int32)
  · refine own_ifY X181 hx (hb hby own_d5_37) (teq hc37_182).1 (q := 54) (by decide) (by decide) ?_
    refine own_iloadN X181 hx (hb hby own_d5_54) rfl (q := 55) rfl ?_
    refine own_iconst X181 hx (hb hby own_d5_55) (z := 3) rfl (q := 56) rfl ?_
    refine own_icN X181 hx (hb hby own_d5_56) (flt (by decide : ¬ ((4 : Int32) < (3 : Int32)))).1 (q := 59) rfl ?_
    refine own_aloadN X181 hx (hb hby own_d5_59) rfl rfl (q := 60) rfl ?_
    refine own_iconst X181 hx (hb hby own_d5_60) (z := 3) rfl (q := 61) rfl ?_
    obtain ⟨T183, Lc183, L183, X183, N183, hQ183, st183⟩ := own_shutS (val := some (.int (own_F6_3 w_o0_0 w_o0_1 w_o0_2 w_o0_3 w_o0_4 w_o0_5))) (Q := own_Q6_3 Z o0 k_o0 w_o0_0 w_o0_1 w_o0_2 w_o0_3 w_o0_4 w_o0_5 h0 n0) (rc := 0) (rs := 0) N181 (fun _ _ _ q => ⟨q.1, q.2.1⟩) (Jvm.LawKit.callS X181 hx (y := (⟨"com/example/renkei/renkei/codec/TwoByteRunsNextPinLaw", "isSwitch", "([II)Z"⟩ : MethodName)) hown (mvT hZ (hw _ (List.mem_of_getElem? (i := 26) rfl))) (mvT hZ (hw _ (List.mem_of_getElem? (i := 27) rfl))) (mvT hZ (hw _ (List.mem_of_getElem? (i := 3) rfl))) (mvT hZ (hw _ (List.mem_of_getElem? (i := 28) rfl))) (by decide) (backOf (W := 0) (own_rm6_3 l Z a0 hw [] o0 k_o0 w_o0_0 w_o0_1 w_o0_2 w_o0_3 w_o0_4 w_o0_5 h0 n0 Z0 V_o0) hZ (hw _ (List.mem_of_getElem? (i := 28) rfl)) (hw _ (List.mem_of_getElem? (i := 3) rfl)) (by decide) (by decide)) (g := (mkF m 61 #[.val (.ref o0), .val (.int (4 : Int32))] [(.int (3 : Int32)), (.ref o0)])) rfl (by rw [hml]; rfl) (argsL := [(.ref o0), (.int (3 : Int32))]) (rest := []) (lenOf own_pd0 rfl) rfl (by show 2 * 0 + _ ≤ _; exact Nat.le_of_eq rfl) (hb hby own_d5_61) (fun _ _ => ⟨rfl, e181, (by decide : 0 + 0 ≤ _), (by decide : 0 + 0 ≤ _)⟩))
    obtain ⟨-, -, e183⟩ := hQ183
    refine own_back st183 ?_
    show own_End p e below s _ _ _ (T183.setTop (mkF m 64 #[.val (.ref o0), .val (.int (4 : Int32))] [(.int (own_F6_3 w_o0_0 w_o0_1 w_o0_2 w_o0_3 w_o0_4 w_o0_5))]))
    by_cases hc64_184 : (own_F6_3 w_o0_0 w_o0_1 w_o0_2 w_o0_3 w_o0_4 w_o0_5) = (0 : Int32)
    · refine own_ifY X183 hx (hb hby own_d5_64) (teq hc64_184).1 (q := 81) (by decide) (by decide) ?_
      refine own_iloadN X183 hx (hb hby own_d5_81) rfl (q := 82) rfl ?_
      refine own_iconst X183 hx (hb hby own_d5_82) (z := 2) rfl (q := 83) rfl ?_
      refine own_icN X183 hx (hb hby own_d5_83) (flt (by decide : ¬ ((4 : Int32) < (2 : Int32)))).1 (q := 86) rfl ?_
      refine own_aloadN X183 hx (hb hby own_d5_86) rfl rfl (q := 87) rfl ?_
      refine own_iconst X183 hx (hb hby own_d5_87) (z := 2) rfl (q := 88) rfl ?_
      obtain ⟨T185, Lc185, L185, X185, N185, hQ185, st185⟩ := own_shutS (val := some (.int (own_F6_2 w_o0_0 w_o0_1 w_o0_2 w_o0_3 w_o0_4 w_o0_5))) (Q := own_Q6_2 Z o0 k_o0 w_o0_0 w_o0_1 w_o0_2 w_o0_3 w_o0_4 w_o0_5 h0 n0) (rc := 0) (rs := 0) N183 (fun _ _ _ q => ⟨q.1, q.2.1⟩) (Jvm.LawKit.callS X183 hx (y := (⟨"com/example/renkei/renkei/codec/TwoByteRunsNextPinLaw", "isSwitch", "([II)Z"⟩ : MethodName)) hown (mvT hZ (hw _ (List.mem_of_getElem? (i := 26) rfl))) (mvT hZ (hw _ (List.mem_of_getElem? (i := 27) rfl))) (mvT hZ (hw _ (List.mem_of_getElem? (i := 3) rfl))) (mvT hZ (hw _ (List.mem_of_getElem? (i := 28) rfl))) (by decide) (backOf (W := 0) (own_rm6_2 l Z a0 hw [] o0 k_o0 w_o0_0 w_o0_1 w_o0_2 w_o0_3 w_o0_4 w_o0_5 h0 n0 Z0 V_o0) hZ (hw _ (List.mem_of_getElem? (i := 28) rfl)) (hw _ (List.mem_of_getElem? (i := 3) rfl)) (by decide) (by decide)) (g := (mkF m 88 #[.val (.ref o0), .val (.int (4 : Int32))] [(.int (2 : Int32)), (.ref o0)])) rfl (by rw [hml]; rfl) (argsL := [(.ref o0), (.int (2 : Int32))]) (rest := []) (lenOf own_pd0 rfl) rfl (by show 2 * 0 + _ ≤ _; exact Nat.le_of_eq rfl) (hb hby own_d5_88) (fun _ _ => ⟨rfl, e183, (by decide : 0 + 0 ≤ _), (by decide : 0 + 0 ≤ _)⟩))
      obtain ⟨-, -, e185⟩ := hQ185
      refine own_back st185 ?_
      show own_End p e below s _ _ _ (T185.setTop (mkF m 91 #[.val (.ref o0), .val (.int (4 : Int32))] [(.int (own_F6_2 w_o0_0 w_o0_1 w_o0_2 w_o0_3 w_o0_4 w_o0_5))]))
      by_cases hc91_186 : (own_F6_2 w_o0_0 w_o0_1 w_o0_2 w_o0_3 w_o0_4 w_o0_5) = (0 : Int32)
      · refine own_ifY X185 hx (hb hby own_d5_91) (teq hc91_186).1 (q := 108) (by decide) (by decide) ?_
        refine own_iloadN X185 hx (hb hby own_d5_108) rfl (q := 109) rfl ?_
        refine own_iconst X185 hx (hb hby own_d5_109) (z := 1) rfl (q := 110) rfl ?_
        refine own_icN X185 hx (hb hby own_d5_110) (flt (by decide : ¬ ((4 : Int32) < (1 : Int32)))).1 (q := 113) rfl ?_
        refine own_aloadN X185 hx (hb hby own_d5_113) rfl rfl (q := 114) rfl ?_
        refine own_iconst X185 hx (hb hby own_d5_114) (z := 1) rfl (q := 115) rfl ?_
        obtain ⟨T187, Lc187, L187, X187, N187, hQ187, st187⟩ := own_shutS (val := some (.int (own_F6_1 w_o0_0 w_o0_1 w_o0_2 w_o0_3 w_o0_4 w_o0_5))) (Q := own_Q6_1 Z o0 k_o0 w_o0_0 w_o0_1 w_o0_2 w_o0_3 w_o0_4 w_o0_5 h0 n0) (rc := 0) (rs := 0) N185 (fun _ _ _ q => ⟨q.1, q.2.1⟩) (Jvm.LawKit.callS X185 hx (y := (⟨"com/example/renkei/renkei/codec/TwoByteRunsNextPinLaw", "isSwitch", "([II)Z"⟩ : MethodName)) hown (mvT hZ (hw _ (List.mem_of_getElem? (i := 26) rfl))) (mvT hZ (hw _ (List.mem_of_getElem? (i := 27) rfl))) (mvT hZ (hw _ (List.mem_of_getElem? (i := 3) rfl))) (mvT hZ (hw _ (List.mem_of_getElem? (i := 28) rfl))) (by decide) (backOf (W := 0) (own_rm6_1 l Z a0 hw [] o0 k_o0 w_o0_0 w_o0_1 w_o0_2 w_o0_3 w_o0_4 w_o0_5 h0 n0 Z0 V_o0) hZ (hw _ (List.mem_of_getElem? (i := 28) rfl)) (hw _ (List.mem_of_getElem? (i := 3) rfl)) (by decide) (by decide)) (g := (mkF m 115 #[.val (.ref o0), .val (.int (4 : Int32))] [(.int (1 : Int32)), (.ref o0)])) rfl (by rw [hml]; rfl) (argsL := [(.ref o0), (.int (1 : Int32))]) (rest := []) (lenOf own_pd0 rfl) rfl (by show 2 * 0 + _ ≤ _; exact Nat.le_of_eq rfl) (hb hby own_d5_115) (fun _ _ => ⟨rfl, e185, (by decide : 0 + 0 ≤ _), (by decide : 0 + 0 ≤ _)⟩))
        obtain ⟨-, -, e187⟩ := hQ187
        refine own_back st187 ?_
        show own_End p e below s _ _ _ (T187.setTop (mkF m 118 #[.val (.ref o0), .val (.int (4 : Int32))] [(.int (own_F6_1 w_o0_0 w_o0_1 w_o0_2 w_o0_3 w_o0_4 w_o0_5))]))
        by_cases hc118_188 : (own_F6_1 w_o0_0 w_o0_1 w_o0_2 w_o0_3 w_o0_4 w_o0_5) = (0 : Int32)
        · refine own_ifY X187 hx (hb hby own_d5_118) (teq hc118_188).1 (q := 135) (by decide) (by decide) ?_
          refine own_iconst X187 hx (hb hby own_d5_135) (z := 0) rfl (q := 136) rfl ?_
          refine own_retN X187 hx (t := .boolean) (by simp) Bd.returns Bd.notSynchronized (by decide) (by decide) (hb hby own_d5_136) ?_
          show own_Q5_4 Z o0 k_o0 w_o0_0 w_o0_1 w_o0_2 w_o0_3 w_o0_4 w_o0_5 h0 n0 _ T187.heap _
          exact ⟨(by rw [show own_F5_4 w_o0_0 w_o0_1 w_o0_2 w_o0_3 w_o0_4 w_o0_5 = _ from (by simp only [own_F5_4, if_pos hc37_182, if_pos hc64_184, if_pos hc91_186, if_pos hc118_188] : _ = (0 : Int32))]; rfl), N187, e187⟩
        · refine own_ifN X187 hx (hb hby own_d5_118) (feq hc118_188).1 (q := 121) rfl ?_
          refine own_aloadN X187 hx (hb hby own_d5_121) rfl rfl (q := 122) rfl ?_
          refine own_iconst X187 hx (hb hby own_d5_122) (z := 1) rfl (q := 123) rfl ?_
          obtain ⟨cl190, Ar190, q190, S190, N190v, H190, G190⟩ := id V_o0
          have hin190 : ¬ ((1 : Int32) < 0 ∨ cl190.slots.size ≤ ((1 : Int32)).toNatClampNeg) := inb_of S190 ⟨by decide, by decide⟩
          refine own_back (X187.iaload hx (j := (1 : Int32)) (v := (.int w_o0_1)) (by rw [e187]; exact Ar190.1) (State.isArrayOf_alike hZ.alike Ar190.2.1) Ar190.2.2 hin190 (Has.at H190 hin190 rfl) (g := (mkF m 123 #[.val (.ref o0), .val (.int (4 : Int32))] [(.int (1 : Int32)), (.ref o0)])) rfl rfl (hb hby own_d5_123)) ?_
          show own_End p e below s _ _ _ (T187.setTop (mkF m 124 #[.val (.ref o0), .val (.int (4 : Int32))] [(.int w_o0_1)]))
          refine own_bipush X187 hx (hb hby own_d5_124) (z := 36) rfl (q := 126) rfl ?_
          by_cases hc126_191 : w_o0_1 = (36 : Int32)
          · refine own_icN X187 hx (hb hby own_d5_126) (teq hc126_191).2 (q := 129) rfl ?_
            refine own_iconst X187 hx (hb hby own_d5_129) (z := 1) rfl (q := 130) rfl ?_
            refine own_goto X187 hx (hb hby own_d5_130) (q := 134) (by decide) (by decide) ?_
            refine own_retN X187 hx (t := .boolean) (by simp) Bd.returns Bd.notSynchronized (by decide) (by decide) (hb hby own_d5_134) ?_
            show own_Q5_4 Z o0 k_o0 w_o0_0 w_o0_1 w_o0_2 w_o0_3 w_o0_4 w_o0_5 h0 n0 _ T187.heap _
            exact ⟨(by rw [show own_F5_4 w_o0_0 w_o0_1 w_o0_2 w_o0_3 w_o0_4 w_o0_5 = _ from (by simp only [own_F5_4, if_pos hc37_182, if_pos hc64_184, if_pos hc91_186, if_neg hc118_188, if_pos hc126_191] : _ = (1 : Int32))]; rfl), N187, e187⟩
          · refine own_icY X187 hx (hb hby own_d5_126) (feq hc126_191).2 (q := 133) (by decide) (by decide) ?_
            refine own_iconst X187 hx (hb hby own_d5_133) (z := 0) rfl (q := 134) rfl ?_
            refine own_retN X187 hx (t := .boolean) (by simp) Bd.returns Bd.notSynchronized (by decide) (by decide) (hb hby own_d5_134) ?_
            show own_Q5_4 Z o0 k_o0 w_o0_0 w_o0_1 w_o0_2 w_o0_3 w_o0_4 w_o0_5 h0 n0 _ T187.heap _
            exact ⟨(by rw [show own_F5_4 w_o0_0 w_o0_1 w_o0_2 w_o0_3 w_o0_4 w_o0_5 = _ from (by simp only [own_F5_4, if_pos hc37_182, if_pos hc64_184, if_pos hc91_186, if_neg hc118_188, if_neg hc126_191] : _ = (0 : Int32))]; rfl), N187, e187⟩
      · refine own_ifN X185 hx (hb hby own_d5_91) (feq hc91_186).1 (q := 94) rfl ?_
        refine own_aloadN X185 hx (hb hby own_d5_94) rfl rfl (q := 95) rfl ?_
        refine own_iconst X185 hx (hb hby own_d5_95) (z := 2) rfl (q := 96) rfl ?_
        obtain ⟨cl194, Ar194, q194, S194, N194v, H194, G194⟩ := id V_o0
        have hin194 : ¬ ((2 : Int32) < 0 ∨ cl194.slots.size ≤ ((2 : Int32)).toNatClampNeg) := inb_of S194 ⟨by decide, by decide⟩
        refine own_back (X185.iaload hx (j := (2 : Int32)) (v := (.int w_o0_2)) (by rw [e185]; exact Ar194.1) (State.isArrayOf_alike hZ.alike Ar194.2.1) Ar194.2.2 hin194 (Has.at H194 hin194 rfl) (g := (mkF m 96 #[.val (.ref o0), .val (.int (4 : Int32))] [(.int (2 : Int32)), (.ref o0)])) rfl rfl (hb hby own_d5_96)) ?_
        show own_End p e below s _ _ _ (T185.setTop (mkF m 97 #[.val (.ref o0), .val (.int (4 : Int32))] [(.int w_o0_2)]))
        refine own_bipush X185 hx (hb hby own_d5_97) (z := 36) rfl (q := 99) rfl ?_
        by_cases hc99_195 : w_o0_2 = (36 : Int32)
        · refine own_icN X185 hx (hb hby own_d5_99) (teq hc99_195).2 (q := 102) rfl ?_
          refine own_iconst X185 hx (hb hby own_d5_102) (z := 1) rfl (q := 103) rfl ?_
          refine own_goto X185 hx (hb hby own_d5_103) (q := 107) (by decide) (by decide) ?_
          refine own_retN X185 hx (t := .boolean) (by simp) Bd.returns Bd.notSynchronized (by decide) (by decide) (hb hby own_d5_107) ?_
          show own_Q5_4 Z o0 k_o0 w_o0_0 w_o0_1 w_o0_2 w_o0_3 w_o0_4 w_o0_5 h0 n0 _ T185.heap _
          exact ⟨(by rw [show own_F5_4 w_o0_0 w_o0_1 w_o0_2 w_o0_3 w_o0_4 w_o0_5 = _ from (by simp only [own_F5_4, if_pos hc37_182, if_pos hc64_184, if_neg hc91_186, if_pos hc99_195] : _ = (1 : Int32))]; rfl), N185, e185⟩
        · refine own_icY X185 hx (hb hby own_d5_99) (feq hc99_195).2 (q := 106) (by decide) (by decide) ?_
          refine own_iconst X185 hx (hb hby own_d5_106) (z := 0) rfl (q := 107) rfl ?_
          refine own_retN X185 hx (t := .boolean) (by simp) Bd.returns Bd.notSynchronized (by decide) (by decide) (hb hby own_d5_107) ?_
          show own_Q5_4 Z o0 k_o0 w_o0_0 w_o0_1 w_o0_2 w_o0_3 w_o0_4 w_o0_5 h0 n0 _ T185.heap _
          exact ⟨(by rw [show own_F5_4 w_o0_0 w_o0_1 w_o0_2 w_o0_3 w_o0_4 w_o0_5 = _ from (by simp only [own_F5_4, if_pos hc37_182, if_pos hc64_184, if_neg hc91_186, if_neg hc99_195] : _ = (0 : Int32))]; rfl), N185, e185⟩
    · refine own_ifN X183 hx (hb hby own_d5_64) (feq hc64_184).1 (q := 67) rfl ?_
      refine own_aloadN X183 hx (hb hby own_d5_67) rfl rfl (q := 68) rfl ?_
      refine own_iconst X183 hx (hb hby own_d5_68) (z := 3) rfl (q := 69) rfl ?_
      obtain ⟨cl198, Ar198, q198, S198, N198v, H198, G198⟩ := id V_o0
      have hin198 : ¬ ((3 : Int32) < 0 ∨ cl198.slots.size ≤ ((3 : Int32)).toNatClampNeg) := inb_of S198 ⟨by decide, by decide⟩
      refine own_back (X183.iaload hx (j := (3 : Int32)) (v := (.int w_o0_3)) (by rw [e183]; exact Ar198.1) (State.isArrayOf_alike hZ.alike Ar198.2.1) Ar198.2.2 hin198 (Has.at H198 hin198 rfl) (g := (mkF m 69 #[.val (.ref o0), .val (.int (4 : Int32))] [(.int (3 : Int32)), (.ref o0)])) rfl rfl (hb hby own_d5_69)) ?_
      show own_End p e below s _ _ _ (T183.setTop (mkF m 70 #[.val (.ref o0), .val (.int (4 : Int32))] [(.int w_o0_3)]))
      refine own_bipush X183 hx (hb hby own_d5_70) (z := 36) rfl (q := 72) rfl ?_
      by_cases hc72_199 : w_o0_3 = (36 : Int32)
      · refine own_icN X183 hx (hb hby own_d5_72) (teq hc72_199).2 (q := 75) rfl ?_
        refine own_iconst X183 hx (hb hby own_d5_75) (z := 1) rfl (q := 76) rfl ?_
        refine own_goto X183 hx (hb hby own_d5_76) (q := 80) (by decide) (by decide) ?_
        refine own_retN X183 hx (t := .boolean) (by simp) Bd.returns Bd.notSynchronized (by decide) (by decide) (hb hby own_d5_80) ?_
        show own_Q5_4 Z o0 k_o0 w_o0_0 w_o0_1 w_o0_2 w_o0_3 w_o0_4 w_o0_5 h0 n0 _ T183.heap _
        exact ⟨(by rw [show own_F5_4 w_o0_0 w_o0_1 w_o0_2 w_o0_3 w_o0_4 w_o0_5 = _ from (by simp only [own_F5_4, if_pos hc37_182, if_neg hc64_184, if_pos hc72_199] : _ = (1 : Int32))]; rfl), N183, e183⟩
      · refine own_icY X183 hx (hb hby own_d5_72) (feq hc72_199).2 (q := 79) (by decide) (by decide) ?_
        refine own_iconst X183 hx (hb hby own_d5_79) (z := 0) rfl (q := 80) rfl ?_
        refine own_retN X183 hx (t := .boolean) (by simp) Bd.returns Bd.notSynchronized (by decide) (by decide) (hb hby own_d5_80) ?_
        show own_Q5_4 Z o0 k_o0 w_o0_0 w_o0_1 w_o0_2 w_o0_3 w_o0_4 w_o0_5 h0 n0 _ T183.heap _
        exact ⟨(by rw [show own_F5_4 w_o0_0 w_o0_1 w_o0_2 w_o0_3 w_o0_4 w_o0_5 = _ from (by simp only [own_F5_4, if_pos hc37_182, if_neg hc64_184, if_neg hc72_199] : _ = (0 : Int32))]; rfl), N183, e183⟩
  · refine own_ifN X181 hx (hb hby own_d5_37) (feq hc37_182).1 (q := 40) rfl ?_
    refine own_aloadN X181 hx (hb hby own_d5_40) rfl rfl (q := 41) rfl ?_
    refine own_iconst X181 hx (hb hby own_d5_41) (z := 4) rfl (q := 42) rfl ?_
    obtain ⟨cl202, Ar202, q202, S202, N202v, H202, G202⟩ := id V_o0
    have hin202 : ¬ ((4 : Int32) < 0 ∨ cl202.slots.size ≤ ((4 : Int32)).toNatClampNeg) := inb_of S202 ⟨by decide, by decide⟩
    refine own_back (X181.iaload hx (j := (4 : Int32)) (v := (.int w_o0_4)) (by rw [e181]; exact Ar202.1) (State.isArrayOf_alike hZ.alike Ar202.2.1) Ar202.2.2 hin202 (Has.at H202 hin202 rfl) (g := (mkF m 42 #[.val (.ref o0), .val (.int (4 : Int32))] [(.int (4 : Int32)), (.ref o0)])) rfl rfl (hb hby own_d5_42)) ?_
    show own_End p e below s _ _ _ (T181.setTop (mkF m 43 #[.val (.ref o0), .val (.int (4 : Int32))] [(.int w_o0_4)]))
    refine own_bipush X181 hx (hb hby own_d5_43) (z := 36) rfl (q := 45) rfl ?_
    by_cases hc45_203 : w_o0_4 = (36 : Int32)
    · refine own_icN X181 hx (hb hby own_d5_45) (teq hc45_203).2 (q := 48) rfl ?_
      refine own_iconst X181 hx (hb hby own_d5_48) (z := 1) rfl (q := 49) rfl ?_
      refine own_goto X181 hx (hb hby own_d5_49) (q := 53) (by decide) (by decide) ?_
      refine own_retN X181 hx (t := .boolean) (by simp) Bd.returns Bd.notSynchronized (by decide) (by decide) (hb hby own_d5_53) ?_
      show own_Q5_4 Z o0 k_o0 w_o0_0 w_o0_1 w_o0_2 w_o0_3 w_o0_4 w_o0_5 h0 n0 _ T181.heap _
      exact ⟨(by rw [show own_F5_4 w_o0_0 w_o0_1 w_o0_2 w_o0_3 w_o0_4 w_o0_5 = _ from (by simp only [own_F5_4, if_neg hc37_182, if_pos hc45_203] : _ = (1 : Int32))]; rfl), N181, e181⟩
    · refine own_icY X181 hx (hb hby own_d5_45) (feq hc45_203).2 (q := 52) (by decide) (by decide) ?_
      refine own_iconst X181 hx (hb hby own_d5_52) (z := 0) rfl (q := 53) rfl ?_
      refine own_retN X181 hx (t := .boolean) (by simp) Bd.returns Bd.notSynchronized (by decide) (by decide) (hb hby own_d5_53) ?_
      show own_Q5_4 Z o0 k_o0 w_o0_0 w_o0_1 w_o0_2 w_o0_3 w_o0_4 w_o0_5 h0 n0 _ T181.heap _
      exact ⟨(by rw [show own_F5_4 w_o0_0 w_o0_1 w_o0_2 w_o0_3 w_o0_4 w_o0_5 = _ from (by simp only [own_F5_4, if_neg hc37_182, if_neg hc45_203] : _ = (0 : Int32))]; rfl), N181, e181⟩
theorem own_d5_5 : decode method_5_code 5 = .ok (.aload_n 0, 1) := by decide +kernel
theorem own_d5_6 : decode method_5_code 6 = .ok (.iconst 5, 1) := by decide +kernel
theorem own_d5_7 : decode method_5_code 7 = .ok (.invokestatic 28, 3) := by decide +kernel
theorem own_d5_10 : decode method_5_code 10 = .ok (.ifCond .eq 17, 3) := by decide +kernel
theorem own_d5_13 : decode method_5_code 13 = .ok (.aload_n 0, 1) := by decide +kernel
theorem own_d5_14 : decode method_5_code 14 = .ok (.iconst 5, 1) := by decide +kernel
theorem own_d5_15 : decode method_5_code 15 = .ok (.iaload, 1) := by decide +kernel
theorem own_d5_16 : decode method_5_code 16 = .ok (.bipush 36, 2) := by decide +kernel
theorem own_d5_18 : decode method_5_code 18 = .ok (.if_icmp .ne 7, 3) := by decide +kernel
theorem own_d5_21 : decode method_5_code 21 = .ok (.iconst 1, 1) := by decide +kernel
theorem own_d5_22 : decode method_5_code 22 = .ok (.goto 4, 3) := by decide +kernel
theorem own_d5_26 : decode method_5_code 26 = .ok (.ireturn, 1) := by decide +kernel
theorem own_d5_25 : decode method_5_code 25 = .ok (.iconst 0, 1) := by decide +kernel
def own_F5_5 (w_o0_0 : Int32) (w_o0_1 : Int32) (w_o0_2 : Int32) (w_o0_3 : Int32) (w_o0_4 : Int32) (w_o0_5 : Int32) : Int32 := (if (own_F6_5 w_o0_0 w_o0_1 w_o0_2 w_o0_3 w_o0_4 w_o0_5) = (0 : Int32) then (if (own_F6_4 w_o0_0 w_o0_1 w_o0_2 w_o0_3 w_o0_4 w_o0_5) = (0 : Int32) then (if (own_F6_3 w_o0_0 w_o0_1 w_o0_2 w_o0_3 w_o0_4 w_o0_5) = (0 : Int32) then (if (own_F6_2 w_o0_0 w_o0_1 w_o0_2 w_o0_3 w_o0_4 w_o0_5) = (0 : Int32) then (if (own_F6_1 w_o0_0 w_o0_1 w_o0_2 w_o0_3 w_o0_4 w_o0_5) = (0 : Int32) then (0 : Int32) else (if w_o0_1 = (36 : Int32) then (1 : Int32) else (0 : Int32))) else (if w_o0_2 = (36 : Int32) then (1 : Int32) else (0 : Int32))) else (if w_o0_3 = (36 : Int32) then (1 : Int32) else (0 : Int32))) else (if w_o0_4 = (36 : Int32) then (1 : Int32) else (0 : Int32))) else (if w_o0_5 = (36 : Int32) then (1 : Int32) else (0 : Int32)))
def own_Q5_5 (Z : State) (o0 : Addr) (k_o0 : ClassId) (w_o0_0 : Int32) (w_o0_1 : Int32) (w_o0_2 : Int32) (w_o0_3 : Int32) (w_o0_4 : Int32) (w_o0_5 : Int32) (h0 : Heap) (n0 : Nat) (v : Option Value) (h : Heap) (L : List Loc) : Prop := v = some (.int (own_F5_5 w_o0_0 w_o0_1 w_o0_2 w_o0_3 w_o0_4 w_o0_5)) ∧ Fr n0 L ∧ h = h0
theorem own_pn_rm5_5 : plainName "com/example/renkei/renkei/codec/TwoByteRunsNextPinLaw" = true := by first | (simp [plainName, overriddenIn]; done) | decide +kernel
theorem own_ef_rm5_5 (m : MethodId) (o0 : Addr) : entryFrame m #[(.ref o0), (.int (5 : Int32))] 2 = mkF m 0 #[.val (.ref o0), .val (.int (5 : Int32))] [] := by first | (simp [entryFrame, mkF, argsToLocals, Value.category]; done) | rfl
set_option maxRecDepth 65536 in
set_option maxHeartbeats 40000000 in
theorem own_rm5_5 (l : Launch) (Z : State) (a0 : Array Value) (hw : ∀ d ∈ tables_1, d.before a0 Z = true) (ws : List Jvm.Cond) (o0 : Addr) (k_o0 : ClassId) (w_o0_0 : Int32) (w_o0_1 : Int32) (w_o0_2 : Int32) (w_o0_3 : Int32) (w_o0_4 : Int32) (w_o0_5 : Int32) (h0 : Heap) (n0 : Nat) (Z0 : n0 ≤ h0.size) (V_o0 : Arv Z h0 o0 k_o0 .int (6 : Int32) [(.int w_o0_0), (.int w_o0_1), (.int w_o0_2), (.int w_o0_3), (.int w_o0_4), (.int w_o0_5)] (.int (0 : Int32))) :
    MetFree l (⟨"com/example/renkei/renkei/codec/TwoByteRunsNextPinLaw", "expected", "([II)Z"⟩ : MethodName) (head1 (Jvm.Cond.code (⟨"com/example/renkei/renkei/codec/TwoByteRunsNextPinLaw", "expected", "([II)Z"⟩ : MethodName) method_5_code 2 (some .boolean) :: ws) ({ frames := 1, cells := 0, slots := 0, locals := 13 } : Room)) (fun a U => a = #[(.ref o0), (.int (5 : Int32))] ∧ Z.Warmed39 U.vm ∧ U.heap = h0) (fun _ _ _ _ _ => True) (fun _ U o U' => ∃ v L, o = .returned v ∧ own_Q5_5 Z o0 k_o0 w_o0_0 w_o0_1 w_o0_2 w_o0_3 w_o0_4 w_o0_5 h0 n0 v U'.heap L ∧ FrameEnd U o U' L ({ frames := 1, cells := 0, slots := 0, locals := 13 } : Room).cells ({ frames := 1, cells := 0, slots := 0, locals := 13 } : Room).slots) := by
  refine MetFree.of_bodySF (plainFor_of_name own_pn_rm5_5) hisR ?_
  intro p e s m args below meth c s₁ Bd hml0 hP hK
  obtain ⟨rfl, hZ, hh⟩ := hP
  have hx := Bd.exec
  have hby := Bd.bytes
  have hml : c.maxLocals = 2 := hml0
  have hown : s.vm.findClass "com/example/renkei/renkei/codec/TwoByteRunsNextPinLaw" = some m.cls := findClass_of_methodNamed Bd.named
  have hnm := (name_of_methodNamed Bd.named Bd.method).1
  have X0 : Stand p l e ({ frames := 1, cells := 0, slots := 0, locals := 13 } : Room) s m #[(.ref o0), (.int (5 : Int32))] below meth c s₁ [] 0 0 := Stand.of_body Bd
  have e0 : s₁.heap = h0 := by rw [← hh, Bd.state]; rfl
  have N0 := Fr.nil n0
  show own_End p e below s (own_Q5_5 Z o0 k_o0 w_o0_0 w_o0_1 w_o0_2 w_o0_3 w_o0_4 w_o0_5 h0 n0) ({ frames := 1, cells := 0, slots := 0, locals := 13 } : Room).cells ({ frames := 1, cells := 0, slots := 0, locals := 13 } : Room).slots (s₁.setTop (entryFrame m #[(.ref o0), (.int (5 : Int32))] 2))
  rw [own_ef_rm5_5]
  refine own_iloadN X0 hx (hb hby own_d5_0) rfl (q := 1) rfl ?_
  refine own_iconst X0 hx (hb hby own_d5_1) (z := 5) rfl (q := 2) rfl ?_
  refine own_icN X0 hx (hb hby own_d5_2) (flt (by decide : ¬ ((5 : Int32) < (5 : Int32)))).1 (q := 5) rfl ?_
  refine own_aloadN X0 hx (hb hby own_d5_5) rfl rfl (q := 6) rfl ?_
  refine own_iconst X0 hx (hb hby own_d5_6) (z := 5) rfl (q := 7) rfl ?_
  obtain ⟨T206, Lc206, L206, X206, N206, hQ206, st206⟩ := own_shutS (val := some (.int (own_F6_5 w_o0_0 w_o0_1 w_o0_2 w_o0_3 w_o0_4 w_o0_5))) (Q := own_Q6_5 Z o0 k_o0 w_o0_0 w_o0_1 w_o0_2 w_o0_3 w_o0_4 w_o0_5 h0 n0) (rc := 0) (rs := 0) N0 (fun _ _ _ q => ⟨q.1, q.2.1⟩) (Jvm.LawKit.callS X0 hx (y := (⟨"com/example/renkei/renkei/codec/TwoByteRunsNextPinLaw", "isSwitch", "([II)Z"⟩ : MethodName)) hown (mvT hZ (hw _ (List.mem_of_getElem? (i := 26) rfl))) (mvT hZ (hw _ (List.mem_of_getElem? (i := 27) rfl))) (mvT hZ (hw _ (List.mem_of_getElem? (i := 3) rfl))) (mvT hZ (hw _ (List.mem_of_getElem? (i := 28) rfl))) (by decide) (backOf (W := 0) (own_rm6_5 l Z a0 hw [] o0 k_o0 w_o0_0 w_o0_1 w_o0_2 w_o0_3 w_o0_4 w_o0_5 h0 n0 Z0 V_o0) hZ (hw _ (List.mem_of_getElem? (i := 28) rfl)) (hw _ (List.mem_of_getElem? (i := 3) rfl)) (by decide) (by decide)) (g := (mkF m 7 #[.val (.ref o0), .val (.int (5 : Int32))] [(.int (5 : Int32)), (.ref o0)])) rfl (by rw [hml]; rfl) (argsL := [(.ref o0), (.int (5 : Int32))]) (rest := []) (lenOf own_pd0 rfl) rfl (by show 2 * 0 + _ ≤ _; exact Nat.le_of_eq rfl) (hb hby own_d5_7) (fun _ _ => ⟨rfl, e0, (by decide : 0 + 0 ≤ _), (by decide : 0 + 0 ≤ _)⟩))
  obtain ⟨-, -, e206⟩ := hQ206
  refine own_back st206 ?_
  show own_End p e below s _ _ _ (T206.setTop (mkF m 10 #[.val (.ref o0), .val (.int (5 : Int32))] [(.int (own_F6_5 w_o0_0 w_o0_1 w_o0_2 w_o0_3 w_o0_4 w_o0_5))]))
  by_cases hc10_207 : (own_F6_5 w_o0_0 w_o0_1 w_o0_2 w_o0_3 w_o0_4 w_o0_5) = (0 : Int32)
  · refine own_ifY X206 hx (hb hby own_d5_10) (teq hc10_207).1 (q := 27) (by decide) (by decide) ?_
    refine own_iloadN X206 hx (hb hby own_d5_27) rfl (q := 28) rfl ?_
    refine own_iconst X206 hx (hb hby own_d5_28) (z := 4) rfl (q := 29) rfl ?_
    refine own_icN X206 hx (hb hby own_d5_29) (flt (by decide : ¬ ((5 : Int32) < (4 : Int32)))).1 (q := 32) rfl ?_
    refine own_aloadN X206 hx (hb hby own_d5_32) rfl rfl (q := 33) rfl ?_
    refine own_iconst X206 hx (hb hby own_d5_33) (z := 4) rfl (q := 34) rfl ?_
    obtain ⟨T208, Lc208, L208, X208, N208, hQ208, st208⟩ := own_shutS (val := some (.int (own_F6_4 w_o0_0 w_o0_1 w_o0_2 w_o0_3 w_o0_4 w_o0_5))) (Q := own_Q6_4 Z o0 k_o0 w_o0_0 w_o0_1 w_o0_2 w_o0_3 w_o0_4 w_o0_5 h0 n0) (rc := 0) (rs := 0) N206 (fun _ _ _ q => ⟨q.1, q.2.1⟩) (Jvm.LawKit.callS X206 hx (y := (⟨"com/example/renkei/renkei/codec/TwoByteRunsNextPinLaw", "isSwitch", "([II)Z"⟩ : MethodName)) hown (mvT hZ (hw _ (List.mem_of_getElem? (i := 26) rfl))) (mvT hZ (hw _ (List.mem_of_getElem? (i := 27) rfl))) (mvT hZ (hw _ (List.mem_of_getElem? (i := 3) rfl))) (mvT hZ (hw _ (List.mem_of_getElem? (i := 28) rfl))) (by decide) (backOf (W := 0) (own_rm6_4 l Z a0 hw [] o0 k_o0 w_o0_0 w_o0_1 w_o0_2 w_o0_3 w_o0_4 w_o0_5 h0 n0 Z0 V_o0) hZ (hw _ (List.mem_of_getElem? (i := 28) rfl)) (hw _ (List.mem_of_getElem? (i := 3) rfl)) (by decide) (by decide)) (g := (mkF m 34 #[.val (.ref o0), .val (.int (5 : Int32))] [(.int (4 : Int32)), (.ref o0)])) rfl (by rw [hml]; rfl) (argsL := [(.ref o0), (.int (4 : Int32))]) (rest := []) (lenOf own_pd0 rfl) rfl (by show 2 * 0 + _ ≤ _; exact Nat.le_of_eq rfl) (hb hby own_d5_34) (fun _ _ => ⟨rfl, e206, (by decide : 0 + 0 ≤ _), (by decide : 0 + 0 ≤ _)⟩))
    obtain ⟨-, -, e208⟩ := hQ208
    refine own_back st208 ?_
    show own_End p e below s _ _ _ (T208.setTop (mkF m 37 #[.val (.ref o0), .val (.int (5 : Int32))] [(.int (own_F6_4 w_o0_0 w_o0_1 w_o0_2 w_o0_3 w_o0_4 w_o0_5))]))
    by_cases hc37_209 : (own_F6_4 w_o0_0 w_o0_1 w_o0_2 w_o0_3 w_o0_4 w_o0_5) = (0 : Int32)
    · refine own_ifY X208 hx (hb hby own_d5_37) (teq hc37_209).1 (q := 54) (by decide) (by decide) ?_
      refine own_iloadN X208 hx (hb hby own_d5_54) rfl (q := 55) rfl ?_
      refine own_iconst X208 hx (hb hby own_d5_55) (z := 3) rfl (q := 56) rfl ?_
      refine own_icN X208 hx (hb hby own_d5_56) (flt (by decide : ¬ ((5 : Int32) < (3 : Int32)))).1 (q := 59) rfl ?_
      refine own_aloadN X208 hx (hb hby own_d5_59) rfl rfl (q := 60) rfl ?_
      refine own_iconst X208 hx (hb hby own_d5_60) (z := 3) rfl (q := 61) rfl ?_
      obtain ⟨T210, Lc210, L210, X210, N210, hQ210, st210⟩ := own_shutS (val := some (.int (own_F6_3 w_o0_0 w_o0_1 w_o0_2 w_o0_3 w_o0_4 w_o0_5))) (Q := own_Q6_3 Z o0 k_o0 w_o0_0 w_o0_1 w_o0_2 w_o0_3 w_o0_4 w_o0_5 h0 n0) (rc := 0) (rs := 0) N208 (fun _ _ _ q => ⟨q.1, q.2.1⟩) (Jvm.LawKit.callS X208 hx (y := (⟨"com/example/renkei/renkei/codec/TwoByteRunsNextPinLaw", "isSwitch", "([II)Z"⟩ : MethodName)) hown (mvT hZ (hw _ (List.mem_of_getElem? (i := 26) rfl))) (mvT hZ (hw _ (List.mem_of_getElem? (i := 27) rfl))) (mvT hZ (hw _ (List.mem_of_getElem? (i := 3) rfl))) (mvT hZ (hw _ (List.mem_of_getElem? (i := 28) rfl))) (by decide) (backOf (W := 0) (own_rm6_3 l Z a0 hw [] o0 k_o0 w_o0_0 w_o0_1 w_o0_2 w_o0_3 w_o0_4 w_o0_5 h0 n0 Z0 V_o0) hZ (hw _ (List.mem_of_getElem? (i := 28) rfl)) (hw _ (List.mem_of_getElem? (i := 3) rfl)) (by decide) (by decide)) (g := (mkF m 61 #[.val (.ref o0), .val (.int (5 : Int32))] [(.int (3 : Int32)), (.ref o0)])) rfl (by rw [hml]; rfl) (argsL := [(.ref o0), (.int (3 : Int32))]) (rest := []) (lenOf own_pd0 rfl) rfl (by show 2 * 0 + _ ≤ _; exact Nat.le_of_eq rfl) (hb hby own_d5_61) (fun _ _ => ⟨rfl, e208, (by decide : 0 + 0 ≤ _), (by decide : 0 + 0 ≤ _)⟩))
      obtain ⟨-, -, e210⟩ := hQ210
      refine own_back st210 ?_
      show own_End p e below s _ _ _ (T210.setTop (mkF m 64 #[.val (.ref o0), .val (.int (5 : Int32))] [(.int (own_F6_3 w_o0_0 w_o0_1 w_o0_2 w_o0_3 w_o0_4 w_o0_5))]))
      by_cases hc64_211 : (own_F6_3 w_o0_0 w_o0_1 w_o0_2 w_o0_3 w_o0_4 w_o0_5) = (0 : Int32)
      · refine own_ifY X210 hx (hb hby own_d5_64) (teq hc64_211).1 (q := 81) (by decide) (by decide) ?_
        refine own_iloadN X210 hx (hb hby own_d5_81) rfl (q := 82) rfl ?_
        refine own_iconst X210 hx (hb hby own_d5_82) (z := 2) rfl (q := 83) rfl ?_
        refine own_icN X210 hx (hb hby own_d5_83) (flt (by decide : ¬ ((5 : Int32) < (2 : Int32)))).1 (q := 86) rfl ?_
        refine own_aloadN X210 hx (hb hby own_d5_86) rfl rfl (q := 87) rfl ?_
        refine own_iconst X210 hx (hb hby own_d5_87) (z := 2) rfl (q := 88) rfl ?_
        obtain ⟨T212, Lc212, L212, X212, N212, hQ212, st212⟩ := own_shutS (val := some (.int (own_F6_2 w_o0_0 w_o0_1 w_o0_2 w_o0_3 w_o0_4 w_o0_5))) (Q := own_Q6_2 Z o0 k_o0 w_o0_0 w_o0_1 w_o0_2 w_o0_3 w_o0_4 w_o0_5 h0 n0) (rc := 0) (rs := 0) N210 (fun _ _ _ q => ⟨q.1, q.2.1⟩) (Jvm.LawKit.callS X210 hx (y := (⟨"com/example/renkei/renkei/codec/TwoByteRunsNextPinLaw", "isSwitch", "([II)Z"⟩ : MethodName)) hown (mvT hZ (hw _ (List.mem_of_getElem? (i := 26) rfl))) (mvT hZ (hw _ (List.mem_of_getElem? (i := 27) rfl))) (mvT hZ (hw _ (List.mem_of_getElem? (i := 3) rfl))) (mvT hZ (hw _ (List.mem_of_getElem? (i := 28) rfl))) (by decide) (backOf (W := 0) (own_rm6_2 l Z a0 hw [] o0 k_o0 w_o0_0 w_o0_1 w_o0_2 w_o0_3 w_o0_4 w_o0_5 h0 n0 Z0 V_o0) hZ (hw _ (List.mem_of_getElem? (i := 28) rfl)) (hw _ (List.mem_of_getElem? (i := 3) rfl)) (by decide) (by decide)) (g := (mkF m 88 #[.val (.ref o0), .val (.int (5 : Int32))] [(.int (2 : Int32)), (.ref o0)])) rfl (by rw [hml]; rfl) (argsL := [(.ref o0), (.int (2 : Int32))]) (rest := []) (lenOf own_pd0 rfl) rfl (by show 2 * 0 + _ ≤ _; exact Nat.le_of_eq rfl) (hb hby own_d5_88) (fun _ _ => ⟨rfl, e210, (by decide : 0 + 0 ≤ _), (by decide : 0 + 0 ≤ _)⟩))
        obtain ⟨-, -, e212⟩ := hQ212
        refine own_back st212 ?_
        show own_End p e below s _ _ _ (T212.setTop (mkF m 91 #[.val (.ref o0), .val (.int (5 : Int32))] [(.int (own_F6_2 w_o0_0 w_o0_1 w_o0_2 w_o0_3 w_o0_4 w_o0_5))]))
        by_cases hc91_213 : (own_F6_2 w_o0_0 w_o0_1 w_o0_2 w_o0_3 w_o0_4 w_o0_5) = (0 : Int32)
        · refine own_ifY X212 hx (hb hby own_d5_91) (teq hc91_213).1 (q := 108) (by decide) (by decide) ?_
          refine own_iloadN X212 hx (hb hby own_d5_108) rfl (q := 109) rfl ?_
          refine own_iconst X212 hx (hb hby own_d5_109) (z := 1) rfl (q := 110) rfl ?_
          refine own_icN X212 hx (hb hby own_d5_110) (flt (by decide : ¬ ((5 : Int32) < (1 : Int32)))).1 (q := 113) rfl ?_
          refine own_aloadN X212 hx (hb hby own_d5_113) rfl rfl (q := 114) rfl ?_
          refine own_iconst X212 hx (hb hby own_d5_114) (z := 1) rfl (q := 115) rfl ?_
          obtain ⟨T214, Lc214, L214, X214, N214, hQ214, st214⟩ := own_shutS (val := some (.int (own_F6_1 w_o0_0 w_o0_1 w_o0_2 w_o0_3 w_o0_4 w_o0_5))) (Q := own_Q6_1 Z o0 k_o0 w_o0_0 w_o0_1 w_o0_2 w_o0_3 w_o0_4 w_o0_5 h0 n0) (rc := 0) (rs := 0) N212 (fun _ _ _ q => ⟨q.1, q.2.1⟩) (Jvm.LawKit.callS X212 hx (y := (⟨"com/example/renkei/renkei/codec/TwoByteRunsNextPinLaw", "isSwitch", "([II)Z"⟩ : MethodName)) hown (mvT hZ (hw _ (List.mem_of_getElem? (i := 26) rfl))) (mvT hZ (hw _ (List.mem_of_getElem? (i := 27) rfl))) (mvT hZ (hw _ (List.mem_of_getElem? (i := 3) rfl))) (mvT hZ (hw _ (List.mem_of_getElem? (i := 28) rfl))) (by decide) (backOf (W := 0) (own_rm6_1 l Z a0 hw [] o0 k_o0 w_o0_0 w_o0_1 w_o0_2 w_o0_3 w_o0_4 w_o0_5 h0 n0 Z0 V_o0) hZ (hw _ (List.mem_of_getElem? (i := 28) rfl)) (hw _ (List.mem_of_getElem? (i := 3) rfl)) (by decide) (by decide)) (g := (mkF m 115 #[.val (.ref o0), .val (.int (5 : Int32))] [(.int (1 : Int32)), (.ref o0)])) rfl (by rw [hml]; rfl) (argsL := [(.ref o0), (.int (1 : Int32))]) (rest := []) (lenOf own_pd0 rfl) rfl (by show 2 * 0 + _ ≤ _; exact Nat.le_of_eq rfl) (hb hby own_d5_115) (fun _ _ => ⟨rfl, e212, (by decide : 0 + 0 ≤ _), (by decide : 0 + 0 ≤ _)⟩))
          obtain ⟨-, -, e214⟩ := hQ214
          refine own_back st214 ?_
          show own_End p e below s _ _ _ (T214.setTop (mkF m 118 #[.val (.ref o0), .val (.int (5 : Int32))] [(.int (own_F6_1 w_o0_0 w_o0_1 w_o0_2 w_o0_3 w_o0_4 w_o0_5))]))
          by_cases hc118_215 : (own_F6_1 w_o0_0 w_o0_1 w_o0_2 w_o0_3 w_o0_4 w_o0_5) = (0 : Int32)
          · refine own_ifY X214 hx (hb hby own_d5_118) (teq hc118_215).1 (q := 135) (by decide) (by decide) ?_
            refine own_iconst X214 hx (hb hby own_d5_135) (z := 0) rfl (q := 136) rfl ?_
            refine own_retN X214 hx (t := .boolean) (by simp) Bd.returns Bd.notSynchronized (by decide) (by decide) (hb hby own_d5_136) ?_
            show own_Q5_5 Z o0 k_o0 w_o0_0 w_o0_1 w_o0_2 w_o0_3 w_o0_4 w_o0_5 h0 n0 _ T214.heap _
            exact ⟨(by rw [show own_F5_5 w_o0_0 w_o0_1 w_o0_2 w_o0_3 w_o0_4 w_o0_5 = _ from (by simp only [own_F5_5, if_pos hc10_207, if_pos hc37_209, if_pos hc64_211, if_pos hc91_213, if_pos hc118_215] : _ = (0 : Int32))]; rfl), N214, e214⟩
          · refine own_ifN X214 hx (hb hby own_d5_118) (feq hc118_215).1 (q := 121) rfl ?_
            refine own_aloadN X214 hx (hb hby own_d5_121) rfl rfl (q := 122) rfl ?_
            refine own_iconst X214 hx (hb hby own_d5_122) (z := 1) rfl (q := 123) rfl ?_
            obtain ⟨cl217, Ar217, q217, S217, N217v, H217, G217⟩ := id V_o0
            have hin217 : ¬ ((1 : Int32) < 0 ∨ cl217.slots.size ≤ ((1 : Int32)).toNatClampNeg) := inb_of S217 ⟨by decide, by decide⟩
            refine own_back (X214.iaload hx (j := (1 : Int32)) (v := (.int w_o0_1)) (by rw [e214]; exact Ar217.1) (State.isArrayOf_alike hZ.alike Ar217.2.1) Ar217.2.2 hin217 (Has.at H217 hin217 rfl) (g := (mkF m 123 #[.val (.ref o0), .val (.int (5 : Int32))] [(.int (1 : Int32)), (.ref o0)])) rfl rfl (hb hby own_d5_123)) ?_
            show own_End p e below s _ _ _ (T214.setTop (mkF m 124 #[.val (.ref o0), .val (.int (5 : Int32))] [(.int w_o0_1)]))
            refine own_bipush X214 hx (hb hby own_d5_124) (z := 36) rfl (q := 126) rfl ?_
            by_cases hc126_218 : w_o0_1 = (36 : Int32)
            · refine own_icN X214 hx (hb hby own_d5_126) (teq hc126_218).2 (q := 129) rfl ?_
              refine own_iconst X214 hx (hb hby own_d5_129) (z := 1) rfl (q := 130) rfl ?_
              refine own_goto X214 hx (hb hby own_d5_130) (q := 134) (by decide) (by decide) ?_
              refine own_retN X214 hx (t := .boolean) (by simp) Bd.returns Bd.notSynchronized (by decide) (by decide) (hb hby own_d5_134) ?_
              show own_Q5_5 Z o0 k_o0 w_o0_0 w_o0_1 w_o0_2 w_o0_3 w_o0_4 w_o0_5 h0 n0 _ T214.heap _
              exact ⟨(by rw [show own_F5_5 w_o0_0 w_o0_1 w_o0_2 w_o0_3 w_o0_4 w_o0_5 = _ from (by simp only [own_F5_5, if_pos hc10_207, if_pos hc37_209, if_pos hc64_211, if_pos hc91_213, if_neg hc118_215, if_pos hc126_218] : _ = (1 : Int32))]; rfl), N214, e214⟩
            · refine own_icY X214 hx (hb hby own_d5_126) (feq hc126_218).2 (q := 133) (by decide) (by decide) ?_
              refine own_iconst X214 hx (hb hby own_d5_133) (z := 0) rfl (q := 134) rfl ?_
              refine own_retN X214 hx (t := .boolean) (by simp) Bd.returns Bd.notSynchronized (by decide) (by decide) (hb hby own_d5_134) ?_
              show own_Q5_5 Z o0 k_o0 w_o0_0 w_o0_1 w_o0_2 w_o0_3 w_o0_4 w_o0_5 h0 n0 _ T214.heap _
              exact ⟨(by rw [show own_F5_5 w_o0_0 w_o0_1 w_o0_2 w_o0_3 w_o0_4 w_o0_5 = _ from (by simp only [own_F5_5, if_pos hc10_207, if_pos hc37_209, if_pos hc64_211, if_pos hc91_213, if_neg hc118_215, if_neg hc126_218] : _ = (0 : Int32))]; rfl), N214, e214⟩
        · refine own_ifN X212 hx (hb hby own_d5_91) (feq hc91_213).1 (q := 94) rfl ?_
          refine own_aloadN X212 hx (hb hby own_d5_94) rfl rfl (q := 95) rfl ?_
          refine own_iconst X212 hx (hb hby own_d5_95) (z := 2) rfl (q := 96) rfl ?_
          obtain ⟨cl221, Ar221, q221, S221, N221v, H221, G221⟩ := id V_o0
          have hin221 : ¬ ((2 : Int32) < 0 ∨ cl221.slots.size ≤ ((2 : Int32)).toNatClampNeg) := inb_of S221 ⟨by decide, by decide⟩
          refine own_back (X212.iaload hx (j := (2 : Int32)) (v := (.int w_o0_2)) (by rw [e212]; exact Ar221.1) (State.isArrayOf_alike hZ.alike Ar221.2.1) Ar221.2.2 hin221 (Has.at H221 hin221 rfl) (g := (mkF m 96 #[.val (.ref o0), .val (.int (5 : Int32))] [(.int (2 : Int32)), (.ref o0)])) rfl rfl (hb hby own_d5_96)) ?_
          show own_End p e below s _ _ _ (T212.setTop (mkF m 97 #[.val (.ref o0), .val (.int (5 : Int32))] [(.int w_o0_2)]))
          refine own_bipush X212 hx (hb hby own_d5_97) (z := 36) rfl (q := 99) rfl ?_
          by_cases hc99_222 : w_o0_2 = (36 : Int32)
          · refine own_icN X212 hx (hb hby own_d5_99) (teq hc99_222).2 (q := 102) rfl ?_
            refine own_iconst X212 hx (hb hby own_d5_102) (z := 1) rfl (q := 103) rfl ?_
            refine own_goto X212 hx (hb hby own_d5_103) (q := 107) (by decide) (by decide) ?_
            refine own_retN X212 hx (t := .boolean) (by simp) Bd.returns Bd.notSynchronized (by decide) (by decide) (hb hby own_d5_107) ?_
            show own_Q5_5 Z o0 k_o0 w_o0_0 w_o0_1 w_o0_2 w_o0_3 w_o0_4 w_o0_5 h0 n0 _ T212.heap _
            exact ⟨(by rw [show own_F5_5 w_o0_0 w_o0_1 w_o0_2 w_o0_3 w_o0_4 w_o0_5 = _ from (by simp only [own_F5_5, if_pos hc10_207, if_pos hc37_209, if_pos hc64_211, if_neg hc91_213, if_pos hc99_222] : _ = (1 : Int32))]; rfl), N212, e212⟩
          · refine own_icY X212 hx (hb hby own_d5_99) (feq hc99_222).2 (q := 106) (by decide) (by decide) ?_
            refine own_iconst X212 hx (hb hby own_d5_106) (z := 0) rfl (q := 107) rfl ?_
            refine own_retN X212 hx (t := .boolean) (by simp) Bd.returns Bd.notSynchronized (by decide) (by decide) (hb hby own_d5_107) ?_
            show own_Q5_5 Z o0 k_o0 w_o0_0 w_o0_1 w_o0_2 w_o0_3 w_o0_4 w_o0_5 h0 n0 _ T212.heap _
            exact ⟨(by rw [show own_F5_5 w_o0_0 w_o0_1 w_o0_2 w_o0_3 w_o0_4 w_o0_5 = _ from (by simp only [own_F5_5, if_pos hc10_207, if_pos hc37_209, if_pos hc64_211, if_neg hc91_213, if_neg hc99_222] : _ = (0 : Int32))]; rfl), N212, e212⟩
      · refine own_ifN X210 hx (hb hby own_d5_64) (feq hc64_211).1 (q := 67) rfl ?_
        refine own_aloadN X210 hx (hb hby own_d5_67) rfl rfl (q := 68) rfl ?_
        refine own_iconst X210 hx (hb hby own_d5_68) (z := 3) rfl (q := 69) rfl ?_
        obtain ⟨cl225, Ar225, q225, S225, N225v, H225, G225⟩ := id V_o0
        have hin225 : ¬ ((3 : Int32) < 0 ∨ cl225.slots.size ≤ ((3 : Int32)).toNatClampNeg) := inb_of S225 ⟨by decide, by decide⟩
        refine own_back (X210.iaload hx (j := (3 : Int32)) (v := (.int w_o0_3)) (by rw [e210]; exact Ar225.1) (State.isArrayOf_alike hZ.alike Ar225.2.1) Ar225.2.2 hin225 (Has.at H225 hin225 rfl) (g := (mkF m 69 #[.val (.ref o0), .val (.int (5 : Int32))] [(.int (3 : Int32)), (.ref o0)])) rfl rfl (hb hby own_d5_69)) ?_
        show own_End p e below s _ _ _ (T210.setTop (mkF m 70 #[.val (.ref o0), .val (.int (5 : Int32))] [(.int w_o0_3)]))
        refine own_bipush X210 hx (hb hby own_d5_70) (z := 36) rfl (q := 72) rfl ?_
        by_cases hc72_226 : w_o0_3 = (36 : Int32)
        · refine own_icN X210 hx (hb hby own_d5_72) (teq hc72_226).2 (q := 75) rfl ?_
          refine own_iconst X210 hx (hb hby own_d5_75) (z := 1) rfl (q := 76) rfl ?_
          refine own_goto X210 hx (hb hby own_d5_76) (q := 80) (by decide) (by decide) ?_
          refine own_retN X210 hx (t := .boolean) (by simp) Bd.returns Bd.notSynchronized (by decide) (by decide) (hb hby own_d5_80) ?_
          show own_Q5_5 Z o0 k_o0 w_o0_0 w_o0_1 w_o0_2 w_o0_3 w_o0_4 w_o0_5 h0 n0 _ T210.heap _
          exact ⟨(by rw [show own_F5_5 w_o0_0 w_o0_1 w_o0_2 w_o0_3 w_o0_4 w_o0_5 = _ from (by simp only [own_F5_5, if_pos hc10_207, if_pos hc37_209, if_neg hc64_211, if_pos hc72_226] : _ = (1 : Int32))]; rfl), N210, e210⟩
        · refine own_icY X210 hx (hb hby own_d5_72) (feq hc72_226).2 (q := 79) (by decide) (by decide) ?_
          refine own_iconst X210 hx (hb hby own_d5_79) (z := 0) rfl (q := 80) rfl ?_
          refine own_retN X210 hx (t := .boolean) (by simp) Bd.returns Bd.notSynchronized (by decide) (by decide) (hb hby own_d5_80) ?_
          show own_Q5_5 Z o0 k_o0 w_o0_0 w_o0_1 w_o0_2 w_o0_3 w_o0_4 w_o0_5 h0 n0 _ T210.heap _
          exact ⟨(by rw [show own_F5_5 w_o0_0 w_o0_1 w_o0_2 w_o0_3 w_o0_4 w_o0_5 = _ from (by simp only [own_F5_5, if_pos hc10_207, if_pos hc37_209, if_neg hc64_211, if_neg hc72_226] : _ = (0 : Int32))]; rfl), N210, e210⟩
    · refine own_ifN X208 hx (hb hby own_d5_37) (feq hc37_209).1 (q := 40) rfl ?_
      refine own_aloadN X208 hx (hb hby own_d5_40) rfl rfl (q := 41) rfl ?_
      refine own_iconst X208 hx (hb hby own_d5_41) (z := 4) rfl (q := 42) rfl ?_
      obtain ⟨cl229, Ar229, q229, S229, N229v, H229, G229⟩ := id V_o0
      have hin229 : ¬ ((4 : Int32) < 0 ∨ cl229.slots.size ≤ ((4 : Int32)).toNatClampNeg) := inb_of S229 ⟨by decide, by decide⟩
      refine own_back (X208.iaload hx (j := (4 : Int32)) (v := (.int w_o0_4)) (by rw [e208]; exact Ar229.1) (State.isArrayOf_alike hZ.alike Ar229.2.1) Ar229.2.2 hin229 (Has.at H229 hin229 rfl) (g := (mkF m 42 #[.val (.ref o0), .val (.int (5 : Int32))] [(.int (4 : Int32)), (.ref o0)])) rfl rfl (hb hby own_d5_42)) ?_
      show own_End p e below s _ _ _ (T208.setTop (mkF m 43 #[.val (.ref o0), .val (.int (5 : Int32))] [(.int w_o0_4)]))
      refine own_bipush X208 hx (hb hby own_d5_43) (z := 36) rfl (q := 45) rfl ?_
      by_cases hc45_230 : w_o0_4 = (36 : Int32)
      · refine own_icN X208 hx (hb hby own_d5_45) (teq hc45_230).2 (q := 48) rfl ?_
        refine own_iconst X208 hx (hb hby own_d5_48) (z := 1) rfl (q := 49) rfl ?_
        refine own_goto X208 hx (hb hby own_d5_49) (q := 53) (by decide) (by decide) ?_
        refine own_retN X208 hx (t := .boolean) (by simp) Bd.returns Bd.notSynchronized (by decide) (by decide) (hb hby own_d5_53) ?_
        show own_Q5_5 Z o0 k_o0 w_o0_0 w_o0_1 w_o0_2 w_o0_3 w_o0_4 w_o0_5 h0 n0 _ T208.heap _
        exact ⟨(by rw [show own_F5_5 w_o0_0 w_o0_1 w_o0_2 w_o0_3 w_o0_4 w_o0_5 = _ from (by simp only [own_F5_5, if_pos hc10_207, if_neg hc37_209, if_pos hc45_230] : _ = (1 : Int32))]; rfl), N208, e208⟩
      · refine own_icY X208 hx (hb hby own_d5_45) (feq hc45_230).2 (q := 52) (by decide) (by decide) ?_
        refine own_iconst X208 hx (hb hby own_d5_52) (z := 0) rfl (q := 53) rfl ?_
        refine own_retN X208 hx (t := .boolean) (by simp) Bd.returns Bd.notSynchronized (by decide) (by decide) (hb hby own_d5_53) ?_
        show own_Q5_5 Z o0 k_o0 w_o0_0 w_o0_1 w_o0_2 w_o0_3 w_o0_4 w_o0_5 h0 n0 _ T208.heap _
        exact ⟨(by rw [show own_F5_5 w_o0_0 w_o0_1 w_o0_2 w_o0_3 w_o0_4 w_o0_5 = _ from (by simp only [own_F5_5, if_pos hc10_207, if_neg hc37_209, if_neg hc45_230] : _ = (0 : Int32))]; rfl), N208, e208⟩
  · refine own_ifN X206 hx (hb hby own_d5_10) (feq hc10_207).1 (q := 13) rfl ?_
    refine own_aloadN X206 hx (hb hby own_d5_13) rfl rfl (q := 14) rfl ?_
    refine own_iconst X206 hx (hb hby own_d5_14) (z := 5) rfl (q := 15) rfl ?_
    obtain ⟨cl233, Ar233, q233, S233, N233v, H233, G233⟩ := id V_o0
    have hin233 : ¬ ((5 : Int32) < 0 ∨ cl233.slots.size ≤ ((5 : Int32)).toNatClampNeg) := inb_of S233 ⟨by decide, by decide⟩
    refine own_back (X206.iaload hx (j := (5 : Int32)) (v := (.int w_o0_5)) (by rw [e206]; exact Ar233.1) (State.isArrayOf_alike hZ.alike Ar233.2.1) Ar233.2.2 hin233 (Has.at H233 hin233 rfl) (g := (mkF m 15 #[.val (.ref o0), .val (.int (5 : Int32))] [(.int (5 : Int32)), (.ref o0)])) rfl rfl (hb hby own_d5_15)) ?_
    show own_End p e below s _ _ _ (T206.setTop (mkF m 16 #[.val (.ref o0), .val (.int (5 : Int32))] [(.int w_o0_5)]))
    refine own_bipush X206 hx (hb hby own_d5_16) (z := 36) rfl (q := 18) rfl ?_
    by_cases hc18_234 : w_o0_5 = (36 : Int32)
    · refine own_icN X206 hx (hb hby own_d5_18) (teq hc18_234).2 (q := 21) rfl ?_
      refine own_iconst X206 hx (hb hby own_d5_21) (z := 1) rfl (q := 22) rfl ?_
      refine own_goto X206 hx (hb hby own_d5_22) (q := 26) (by decide) (by decide) ?_
      refine own_retN X206 hx (t := .boolean) (by simp) Bd.returns Bd.notSynchronized (by decide) (by decide) (hb hby own_d5_26) ?_
      show own_Q5_5 Z o0 k_o0 w_o0_0 w_o0_1 w_o0_2 w_o0_3 w_o0_4 w_o0_5 h0 n0 _ T206.heap _
      exact ⟨(by rw [show own_F5_5 w_o0_0 w_o0_1 w_o0_2 w_o0_3 w_o0_4 w_o0_5 = _ from (by simp only [own_F5_5, if_neg hc10_207, if_pos hc18_234] : _ = (1 : Int32))]; rfl), N206, e206⟩
    · refine own_icY X206 hx (hb hby own_d5_18) (feq hc18_234).2 (q := 25) (by decide) (by decide) ?_
      refine own_iconst X206 hx (hb hby own_d5_25) (z := 0) rfl (q := 26) rfl ?_
      refine own_retN X206 hx (t := .boolean) (by simp) Bd.returns Bd.notSynchronized (by decide) (by decide) (hb hby own_d5_26) ?_
      show own_Q5_5 Z o0 k_o0 w_o0_0 w_o0_1 w_o0_2 w_o0_3 w_o0_4 w_o0_5 h0 n0 _ T206.heap _
      exact ⟨(by rw [show own_F5_5 w_o0_0 w_o0_1 w_o0_2 w_o0_3 w_o0_4 w_o0_5 = _ from (by simp only [own_F5_5, if_neg hc10_207, if_neg hc18_234] : _ = (0 : Int32))]; rfl), N206, e206⟩
def own_E (x : Int32) : Int32 := if x = 27 then 1 else 0
theorem own_esc (x a b : Int32) : own_G4_escaped x a b = own_E x := rfl
theorem own_E01 (x : Int32) : (x = 27 ∧ own_E x = 1) ∨ (¬ x = 27 ∧ own_E x = 0) := by
  by_cases h : x = 27
  · exact Or.inl ⟨h, by rw [own_E, if_pos h]⟩
  · exact Or.inr ⟨h, by rw [own_E, if_neg h]⟩
theorem own_z (x : Int32) : own_G4_twoByte x 0 0 = 0 ∧ own_F4 x 0 0 = 0 := by
  rw [own_G4_twoByte, own_F4, if_pos rfl, if_pos rfl]; exact ⟨rfl, by decide⟩
/-- one unit more, in general -/
theorem own_gen (y x v : Int32) (h : v = 0 ∨ v = 1) : own_G4_twoByte x (own_E y) v = (if (if y = (27 : Int32) then (if x = (36 : Int32) then (1 : Int32) else (if x = (40 : Int32) then (1 : Int32) else (0 : Int32))) else (0 : Int32)) = (0 : Int32) then v else (if x = (36 : Int32) then (1 : Int32) else (0 : Int32))) ∧
    own_F4 x (own_E y) v = own_G4_twoByte x (own_E y) v ∧ (own_G4_twoByte x (own_E y) v = 0 ∨ own_G4_twoByte x (own_E y) v = 1) := by
  have hv : v &&& 1 = v := by rcases h with rfl | rfl <;> decide
  rw [own_G4_twoByte, own_F4, hv]
  have n10 : ¬ (1 : Int32) = 0 := by decide
  rcases own_E01 y with ⟨e1, e2⟩ | ⟨e1, e2⟩
  · rw [e2]
    by_cases a : x = 36
    · simp only [if_neg n10, if_pos a, if_pos e1]
      exact ⟨trivial, trivial, Or.inr trivial⟩
    · by_cases b : x = 40
      · simp only [if_neg n10, if_neg a, if_pos b, if_pos e1]
        exact ⟨trivial, trivial, Or.inl trivial⟩
      · simp only [if_neg n10, if_neg a, if_neg b, if_pos e1, if_true]
        exact ⟨trivial, trivial, h⟩
  · rw [e2]
    simp only [if_neg e1, if_true]
    exact ⟨trivial, trivial, h⟩
theorem own_t1 (x0 x1 x2 x3 x4 x5 : Int32) : own_G4_twoByte x1 (own_E x0) (0) = own_F5_1 x0 x1 x2 x3 x4 x5 ∧ own_F4 x1 (own_E x0) (0) = own_F5_1 x0 x1 x2 x3 x4 x5 ∧ (own_F5_1 x0 x1 x2 x3 x4 x5 = 0 ∨ own_F5_1 x0 x1 x2 x3 x4 x5 = 1) := by
  obtain ⟨g1, g2, g3⟩ := own_gen x0 x1 (0) (Or.inl rfl)
  have e : own_F5_1 x0 x1 x2 x3 x4 x5 = own_G4_twoByte x1 (own_E x0) (0) := by rw [g1, own_F5_1, own_F6_1]
  rw [e]; exact ⟨rfl, g2, g3⟩
theorem own_t2 (x0 x1 x2 x3 x4 x5 : Int32) : own_G4_twoByte x2 (own_E x1) (own_F5_1 x0 x1 x2 x3 x4 x5) = own_F5_2 x0 x1 x2 x3 x4 x5 ∧ own_F4 x2 (own_E x1) (own_F5_1 x0 x1 x2 x3 x4 x5) = own_F5_2 x0 x1 x2 x3 x4 x5 ∧ (own_F5_2 x0 x1 x2 x3 x4 x5 = 0 ∨ own_F5_2 x0 x1 x2 x3 x4 x5 = 1) := by
  obtain ⟨g1, g2, g3⟩ := own_gen x1 x2 (own_F5_1 x0 x1 x2 x3 x4 x5) (own_t1 x0 x1 x2 x3 x4 x5).2.2
  have e : own_F5_2 x0 x1 x2 x3 x4 x5 = own_G4_twoByte x2 (own_E x1) (own_F5_1 x0 x1 x2 x3 x4 x5) := by rw [g1, own_F5_2, own_F6_2, own_F5_1]
  rw [e]; exact ⟨rfl, g2, g3⟩
theorem own_t3 (x0 x1 x2 x3 x4 x5 : Int32) : own_G4_twoByte x3 (own_E x2) (own_F5_2 x0 x1 x2 x3 x4 x5) = own_F5_3 x0 x1 x2 x3 x4 x5 ∧ own_F4 x3 (own_E x2) (own_F5_2 x0 x1 x2 x3 x4 x5) = own_F5_3 x0 x1 x2 x3 x4 x5 ∧ (own_F5_3 x0 x1 x2 x3 x4 x5 = 0 ∨ own_F5_3 x0 x1 x2 x3 x4 x5 = 1) := by
  obtain ⟨g1, g2, g3⟩ := own_gen x2 x3 (own_F5_2 x0 x1 x2 x3 x4 x5) (own_t2 x0 x1 x2 x3 x4 x5).2.2
  have e : own_F5_3 x0 x1 x2 x3 x4 x5 = own_G4_twoByte x3 (own_E x2) (own_F5_2 x0 x1 x2 x3 x4 x5) := by rw [g1, own_F5_3, own_F6_3, own_F5_2]
  rw [e]; exact ⟨rfl, g2, g3⟩
theorem own_t4 (x0 x1 x2 x3 x4 x5 : Int32) : own_G4_twoByte x4 (own_E x3) (own_F5_3 x0 x1 x2 x3 x4 x5) = own_F5_4 x0 x1 x2 x3 x4 x5 ∧ own_F4 x4 (own_E x3) (own_F5_3 x0 x1 x2 x3 x4 x5) = own_F5_4 x0 x1 x2 x3 x4 x5 ∧ (own_F5_4 x0 x1 x2 x3 x4 x5 = 0 ∨ own_F5_4 x0 x1 x2 x3 x4 x5 = 1) := by
  obtain ⟨g1, g2, g3⟩ := own_gen x3 x4 (own_F5_3 x0 x1 x2 x3 x4 x5) (own_t3 x0 x1 x2 x3 x4 x5).2.2
  have e : own_F5_4 x0 x1 x2 x3 x4 x5 = own_G4_twoByte x4 (own_E x3) (own_F5_3 x0 x1 x2 x3 x4 x5) := by rw [g1, own_F5_4, own_F6_4, own_F5_3]
  rw [e]; exact ⟨rfl, g2, g3⟩
theorem own_t5 (x0 x1 x2 x3 x4 x5 : Int32) : own_G4_twoByte x5 (own_E x4) (own_F5_4 x0 x1 x2 x3 x4 x5) = own_F5_5 x0 x1 x2 x3 x4 x5 ∧ own_F4 x5 (own_E x4) (own_F5_4 x0 x1 x2 x3 x4 x5) = own_F5_5 x0 x1 x2 x3 x4 x5 ∧ (own_F5_5 x0 x1 x2 x3 x4 x5 = 0 ∨ own_F5_5 x0 x1 x2 x3 x4 x5 = 1) := by
  obtain ⟨g1, g2, g3⟩ := own_gen x4 x5 (own_F5_4 x0 x1 x2 x3 x4 x5) (own_t4 x0 x1 x2 x3 x4 x5).2.2
  have e : own_F5_5 x0 x1 x2 x3 x4 x5 = own_G4_twoByte x5 (own_E x4) (own_F5_4 x0 x1 x2 x3 x4 x5) := by rw [g1, own_F5_5, own_F6_5, own_F5_4]
  rw [e]; exact ⟨rfl, g2, g3⟩
theorem own_set (x v : Int32) (h : v = 0 ∨ v = 1) : own_F7 (own_E x) v = if v = 0 then (if x = 27 then 0 else 1) else 0 := by
  rw [own_F7]
  rcases own_E01 x with ⟨e1, e2⟩ | ⟨e1, e2⟩
  · rw [e2, if_neg (show ¬ (1 : Int32) = 0 by decide), if_pos e1]
  · rw [e2, if_pos rfl, if_neg e1]
theorem own_pd1 : parseMethodDescriptor "(I)I" = some ⟨[.int], some .int⟩ := by decide +kernel
theorem own_pd2 : parseMethodDescriptor "()V" = some ⟨[], none⟩ := by decide +kernel
theorem own_pd3 : parseMethodDescriptor "(I)Z" = some ⟨[.int], some .boolean⟩ := by decide +kernel
theorem own_pd4 : parseMethodDescriptor "()Z" = some ⟨[], some .boolean⟩ := by decide +kernel
def own_M0_301 (p5 : Int32) : Int32 := (if (own_F1 p5) = (27 : Int32) then (0 : Int32) else (1 : Int32))
def own_M0_292 (p0 : Int32) (p1 : Int32) (p2 : Int32) (p3 : Int32) (p4 : Int32) (p5 : Int32) : Int32 := (if (own_F5_5 (own_F1 p0) (own_F1 p1) (own_F1 p2) (own_F1 p3) (own_F1 p4) (own_F1 p5)) = (0 : Int32) then (own_M0_301 p5) else (0 : Int32))
def own_Q0 (Z : State) (p0 : Int32) (p1 : Int32) (p2 : Int32) (p3 : Int32) (p4 : Int32) (p5 : Int32) (h0 : Heap) (n0 : Nat) (v : Option Value) (h : Heap) (L : List Loc) : Prop := v = some (.int (1 : Int32)) ∧ Fr n0 L
theorem own_pn_rm0 : plainName "com/example/renkei/renkei/codec/TwoByteRunsNextPinLaw" = true := by first | (simp [plainName, overriddenIn]; done) | decide +kernel
theorem own_ef_rm0 (m : MethodId) (p0 : Int32) (p1 : Int32) (p2 : Int32) (p3 : Int32) (p4 : Int32) (p5 : Int32) : entryFrame m #[(.int p0), (.int p1), (.int p2), (.int p3), (.int p4), (.int p5)] maxLocals = mkF m 0 #[.val (.int p0), .val (.int p1), .val (.int p2), .val (.int p3), .val (.int p4), .val (.int p5), .unset, .unset, .unset, .unset, .unset, .unset, .unset, .unset, .unset, .unset] [] := by first | (simp [entryFrame, mkF, argsToLocals, Value.category, maxLocals]; done) | rfl
set_option maxRecDepth 65536 in
set_option maxHeartbeats 40000000 in
theorem own_rm0 (l : Launch) (Z : State) (a0 : Array Value) (hw : ∀ d ∈ tables_1, d.before a0 Z = true) (ws : List Jvm.Cond) (p0 : Int32) (p1 : Int32) (p2 : Int32) (p3 : Int32) (p4 : Int32) (p5 : Int32) (h0 : Heap) (n0 : Nat) (Z0 : n0 ≤ h0.size) :
    MetFree l x (head1 (Jvm.Cond.code x code maxLocals ret :: ws) room_1) (fun a U => a = #[(.int p0), (.int p1), (.int p2), (.int p3), (.int p4), (.int p5)] ∧ Z.Warmed39 U.vm ∧ U.heap = h0) (fun _ _ _ _ _ => True) (fun _ U o U' => ∃ v L, o = .returned v ∧ own_Q0 Z p0 p1 p2 p3 p4 p5 h0 n0 v U'.heap L ∧ FrameEnd U o U' L room_1.cells room_1.slots) := by
  refine MetFree.of_bodySF (plainFor_of_name own_pn_rm0) hisR ?_
  intro p e s m args below meth c s₁ Bd hml0 hP hK
  obtain ⟨rfl, hZ, hh⟩ := hP
  have hx := Bd.exec
  have hby := Bd.bytes
  have hml : c.maxLocals = 16 := hml0
  have hown : s.vm.findClass "com/example/renkei/renkei/codec/TwoByteRunsNextPinLaw" = some m.cls := findClass_of_methodNamed Bd.named
  have hnm := (name_of_methodNamed Bd.named Bd.method).1
  have X0 : Stand p l e room_1 s m #[(.int p0), (.int p1), (.int p2), (.int p3), (.int p4), (.int p5)] below meth c s₁ [] 0 0 := Stand.of_body Bd
  have e0 : s₁.heap = h0 := by rw [← hh, Bd.state]; rfl
  have N0 := Fr.nil n0
  show own_End p e below s (own_Q0 Z p0 p1 p2 p3 p4 p5 h0 n0) room_1.cells room_1.slots (s₁.setTop (entryFrame m #[(.int p0), (.int p1), (.int p2), (.int p3), (.int p4), (.int p5)] maxLocals))
  rw [own_ef_rm0]
  refine own_bipush X0 hx (hb hby at_0) (z := 6) rfl (q := 2) rfl ?_
  obtain ⟨T237, h237, k237, X237, e237, E237, A237, st237⟩ := newP X0 hx hZ (hw _ (List.mem_of_getElem? (i := 0) rfl)) e0 (g := (mkF m 2 #[.val (.int p0), .val (.int p1), .val (.int p2), .val (.int p3), .val (.int p4), .val (.int p5), .unset, .unset, .unset, .unset, .unset, .unset, .unset, .unset, .unset, .unset] [(.int (6 : Int32))])) rfl (hb hby at_2) rfl (by decide) (cap := 6) (by decide) (by decide) (by decide) (by decide)
  obtain ⟨b237, g237⟩ : ∃ z, z = h0.size := ⟨_, rfl⟩
  have g_b237 : n0 ≤ b237 := Nat.le_trans Z0 (Nat.le_of_eq g237.symm)
  have Z238 := Nat.le_trans Z0 E237.1
  rw [← g237] at A237 st237
  have V_b237 : Arv Z h237 b237 k237 .int (6 : Int32) [(.int (0 : Int32)), (.int (0 : Int32)), (.int (0 : Int32)), (.int (0 : Int32)), (.int (0 : Int32)), (.int (0 : Int32))] (.int (0 : Int32)) := (Arv.new A237 (by decide)).pad (pad_rep [] (.int (0 : Int32)) 6)
  refine own_back st237 ?_
  show own_End p e below s _ _ _ (T237.setTop (mkF m 4 #[.val (.int p0), .val (.int p1), .val (.int p2), .val (.int p3), .val (.int p4), .val (.int p5), .unset, .unset, .unset, .unset, .unset, .unset, .unset, .unset, .unset, .unset] [(.ref b237)]))
  refine own_astore X237 hx (hb hby at_4) rfl (l' := #[.val (.int p0), .val (.int p1), .val (.int p2), .val (.int p3), .val (.int p4), .val (.int p5), .val (.ref b237), .unset, .unset, .unset, .unset, .unset, .unset, .unset, .unset, .unset]) rfl (q := 6) rfl ?_
  refine own_aload X237 hx (hb hby at_6) rfl rfl (q := 8) rfl ?_
  refine own_iconst X237 hx (hb hby at_8) (z := 0) rfl (q := 9) rfl ?_
  refine own_iloadN X237 hx (hb hby at_9) rfl (q := 10) rfl ?_
  obtain ⟨T239, Lc239, L239, X239, N239, hQ239, st239⟩ := own_shutS (val := some (.int (own_F1 p0))) (Q := own_Q1 Z p0 h237 n0) (rc := 0) (rs := 0) N0 (fun _ _ _ q => ⟨q.1, q.2.1⟩) (Jvm.LawKit.callS X237 hx (y := (⟨"com/example/renkei/renkei/codec/TwoByteRunsNextPinLaw", "unit", "(I)I"⟩ : MethodName)) hown (mvT hZ (hw _ (List.mem_of_getElem? (i := 1) rfl))) (mvT hZ (hw _ (List.mem_of_getElem? (i := 2) rfl))) (mvT hZ (hw _ (List.mem_of_getElem? (i := 3) rfl))) (mvT hZ (hw _ (List.mem_of_getElem? (i := 4) rfl))) (by decide) (backOf (W := 2) (own_rm1 l Z a0 hw [] p0 h237 n0 Z238 ) hZ (hw _ (List.mem_of_getElem? (i := 4) rfl)) (hw _ (List.mem_of_getElem? (i := 3) rfl)) (by decide) (by decide)) (g := (mkF m 10 #[.val (.int p0), .val (.int p1), .val (.int p2), .val (.int p3), .val (.int p4), .val (.int p5), .val (.ref b237), .unset, .unset, .unset, .unset, .unset, .unset, .unset, .unset, .unset] [(.int p0), (.int (0 : Int32)), (.ref b237)])) rfl (by rw [hml]; rfl) (argsL := [(.int p0)]) (rest := [(.int (0 : Int32)), (.ref b237)]) (lenOf own_pd1 rfl) rfl (by show 2 * 0 + _ ≤ _; exact Nat.le_of_eq rfl) (hb hby at_10) (fun _ _ => ⟨rfl, e237, (by decide : 1 + 0 ≤ _), (by decide : 6 + 0 ≤ _)⟩))
  obtain ⟨-, -, e239⟩ := hQ239
  refine own_back st239 ?_
  show own_End p e below s _ _ _ (T239.setTop (mkF m 13 #[.val (.int p0), .val (.int p1), .val (.int p2), .val (.int p3), .val (.int p4), .val (.int p5), .val (.ref b237), .unset, .unset, .unset, .unset, .unset, .unset, .unset, .unset, .unset] [(.int (own_F1 p0)), (.int (0 : Int32)), (.ref b237)]))
  obtain ⟨cl240, Ar240, q240, S240, N240v, H240, G240⟩ := id V_b237
  have hin240 : ¬ ((0 : Int32) < 0 ∨ cl240.slots.size ≤ ((0 : Int32)).toNatClampNeg) := inb_of S240 ⟨by decide, by decide⟩
  obtain ⟨T240, h240, X240, e240, W240, st240⟩ := stI X239 hx hZ e239 Ar240 (j := (0 : Int32)) hin240 (g := (mkF m 13 #[.val (.int p0), .val (.int p1), .val (.int p2), .val (.int p3), .val (.int p4), .val (.int p5), .val (.ref b237), .unset, .unset, .unset, .unset, .unset, .unset, .unset, .unset, .unset] [(.int (own_F1 p0)), (.int (0 : Int32)), (.ref b237)])) rfl rfl (hb hby at_13)
  have V_b237_240 : Arv Z h240 b237 k237 .int (6 : Int32) [(.int (own_F1 p0)), (.int (0 : Int32)), (.int (0 : Int32)), (.int (0 : Int32)), (.int (0 : Int32)), (.int (0 : Int32))] (.int (0 : Int32)) := Arv.set Ar240 q240 S240 N240v H240 G240 rfl W240 0 rfl (Nat.le_of_ble_eq_true rfl)
  have Z241 := Nat.le_trans Z238 (Keep.of_wr W240).1
  obtain ⟨L240, X240, N240⟩ := own_gl X240 (Fr.snoc X240 N239 g_b237)
  refine own_back st240 ?_
  show own_End p e below s _ _ _ (T240.setTop (mkF m 14 #[.val (.int p0), .val (.int p1), .val (.int p2), .val (.int p3), .val (.int p4), .val (.int p5), .val (.ref b237), .unset, .unset, .unset, .unset, .unset, .unset, .unset, .unset, .unset] []))
  refine own_aload X240 hx (hb hby at_14) rfl rfl (q := 16) rfl ?_
  refine own_iconst X240 hx (hb hby at_16) (z := 1) rfl (q := 17) rfl ?_
  refine own_iloadN X240 hx (hb hby at_17) rfl (q := 18) rfl ?_
  obtain ⟨T242, Lc242, L242, X242, N242, hQ242, st242⟩ := own_shutS (val := some (.int (own_F1 p1))) (Q := own_Q1 Z p1 h240 n0) (rc := 0) (rs := 0) N240 (fun _ _ _ q => ⟨q.1, q.2.1⟩) (Jvm.LawKit.callS X240 hx (y := (⟨"com/example/renkei/renkei/codec/TwoByteRunsNextPinLaw", "unit", "(I)I"⟩ : MethodName)) hown (mvT hZ (hw _ (List.mem_of_getElem? (i := 1) rfl))) (mvT hZ (hw _ (List.mem_of_getElem? (i := 2) rfl))) (mvT hZ (hw _ (List.mem_of_getElem? (i := 3) rfl))) (mvT hZ (hw _ (List.mem_of_getElem? (i := 4) rfl))) (by decide) (backOf (W := 2) (own_rm1 l Z a0 hw [] p1 h240 n0 Z241 ) hZ (hw _ (List.mem_of_getElem? (i := 4) rfl)) (hw _ (List.mem_of_getElem? (i := 3) rfl)) (by decide) (by decide)) (g := (mkF m 18 #[.val (.int p0), .val (.int p1), .val (.int p2), .val (.int p3), .val (.int p4), .val (.int p5), .val (.ref b237), .unset, .unset, .unset, .unset, .unset, .unset, .unset, .unset, .unset] [(.int p1), (.int (1 : Int32)), (.ref b237)])) rfl (by rw [hml]; rfl) (argsL := [(.int p1)]) (rest := [(.int (1 : Int32)), (.ref b237)]) (lenOf own_pd1 rfl) rfl (by show 2 * 0 + _ ≤ _; exact Nat.le_of_eq rfl) (hb hby at_18) (fun _ _ => ⟨rfl, e240, (by decide : 1 + 0 ≤ _), (by decide : 6 + 0 ≤ _)⟩))
  obtain ⟨-, -, e242⟩ := hQ242
  refine own_back st242 ?_
  show own_End p e below s _ _ _ (T242.setTop (mkF m 21 #[.val (.int p0), .val (.int p1), .val (.int p2), .val (.int p3), .val (.int p4), .val (.int p5), .val (.ref b237), .unset, .unset, .unset, .unset, .unset, .unset, .unset, .unset, .unset] [(.int (own_F1 p1)), (.int (1 : Int32)), (.ref b237)]))
  obtain ⟨cl243, Ar243, q243, S243, N243v, H243, G243⟩ := id V_b237_240
  have hin243 : ¬ ((1 : Int32) < 0 ∨ cl243.slots.size ≤ ((1 : Int32)).toNatClampNeg) := inb_of S243 ⟨by decide, by decide⟩
  obtain ⟨T243, h243, X243, e243, W243, st243⟩ := stI X242 hx hZ e242 Ar243 (j := (1 : Int32)) hin243 (g := (mkF m 21 #[.val (.int p0), .val (.int p1), .val (.int p2), .val (.int p3), .val (.int p4), .val (.int p5), .val (.ref b237), .unset, .unset, .unset, .unset, .unset, .unset, .unset, .unset, .unset] [(.int (own_F1 p1)), (.int (1 : Int32)), (.ref b237)])) rfl rfl (hb hby at_21)
  have V_b237_243 : Arv Z h243 b237 k237 .int (6 : Int32) [(.int (own_F1 p0)), (.int (own_F1 p1)), (.int (0 : Int32)), (.int (0 : Int32)), (.int (0 : Int32)), (.int (0 : Int32))] (.int (0 : Int32)) := Arv.set Ar243 q243 S243 N243v H243 G243 rfl W243 1 rfl (Nat.le_of_ble_eq_true rfl)
  have Z244 := Nat.le_trans Z241 (Keep.of_wr W243).1
  obtain ⟨L243, X243, N243⟩ := own_gl X243 (Fr.snoc X243 N242 g_b237)
  refine own_back st243 ?_
  show own_End p e below s _ _ _ (T243.setTop (mkF m 22 #[.val (.int p0), .val (.int p1), .val (.int p2), .val (.int p3), .val (.int p4), .val (.int p5), .val (.ref b237), .unset, .unset, .unset, .unset, .unset, .unset, .unset, .unset, .unset] []))
  refine own_aload X243 hx (hb hby at_22) rfl rfl (q := 24) rfl ?_
  refine own_iconst X243 hx (hb hby at_24) (z := 2) rfl (q := 25) rfl ?_
  refine own_iloadN X243 hx (hb hby at_25) rfl (q := 26) rfl ?_
  obtain ⟨T245, Lc245, L245, X245, N245, hQ245, st245⟩ := own_shutS (val := some (.int (own_F1 p2))) (Q := own_Q1 Z p2 h243 n0) (rc := 0) (rs := 0) N243 (fun _ _ _ q => ⟨q.1, q.2.1⟩) (Jvm.LawKit.callS X243 hx (y := (⟨"com/example/renkei/renkei/codec/TwoByteRunsNextPinLaw", "unit", "(I)I"⟩ : MethodName)) hown (mvT hZ (hw _ (List.mem_of_getElem? (i := 1) rfl))) (mvT hZ (hw _ (List.mem_of_getElem? (i := 2) rfl))) (mvT hZ (hw _ (List.mem_of_getElem? (i := 3) rfl))) (mvT hZ (hw _ (List.mem_of_getElem? (i := 4) rfl))) (by decide) (backOf (W := 2) (own_rm1 l Z a0 hw [] p2 h243 n0 Z244 ) hZ (hw _ (List.mem_of_getElem? (i := 4) rfl)) (hw _ (List.mem_of_getElem? (i := 3) rfl)) (by decide) (by decide)) (g := (mkF m 26 #[.val (.int p0), .val (.int p1), .val (.int p2), .val (.int p3), .val (.int p4), .val (.int p5), .val (.ref b237), .unset, .unset, .unset, .unset, .unset, .unset, .unset, .unset, .unset] [(.int p2), (.int (2 : Int32)), (.ref b237)])) rfl (by rw [hml]; rfl) (argsL := [(.int p2)]) (rest := [(.int (2 : Int32)), (.ref b237)]) (lenOf own_pd1 rfl) rfl (by show 2 * 0 + _ ≤ _; exact Nat.le_of_eq rfl) (hb hby at_26) (fun _ _ => ⟨rfl, e243, (by decide : 1 + 0 ≤ _), (by decide : 6 + 0 ≤ _)⟩))
  obtain ⟨-, -, e245⟩ := hQ245
  refine own_back st245 ?_
  show own_End p e below s _ _ _ (T245.setTop (mkF m 29 #[.val (.int p0), .val (.int p1), .val (.int p2), .val (.int p3), .val (.int p4), .val (.int p5), .val (.ref b237), .unset, .unset, .unset, .unset, .unset, .unset, .unset, .unset, .unset] [(.int (own_F1 p2)), (.int (2 : Int32)), (.ref b237)]))
  obtain ⟨cl246, Ar246, q246, S246, N246v, H246, G246⟩ := id V_b237_243
  have hin246 : ¬ ((2 : Int32) < 0 ∨ cl246.slots.size ≤ ((2 : Int32)).toNatClampNeg) := inb_of S246 ⟨by decide, by decide⟩
  obtain ⟨T246, h246, X246, e246, W246, st246⟩ := stI X245 hx hZ e245 Ar246 (j := (2 : Int32)) hin246 (g := (mkF m 29 #[.val (.int p0), .val (.int p1), .val (.int p2), .val (.int p3), .val (.int p4), .val (.int p5), .val (.ref b237), .unset, .unset, .unset, .unset, .unset, .unset, .unset, .unset, .unset] [(.int (own_F1 p2)), (.int (2 : Int32)), (.ref b237)])) rfl rfl (hb hby at_29)
  have V_b237_246 : Arv Z h246 b237 k237 .int (6 : Int32) [(.int (own_F1 p0)), (.int (own_F1 p1)), (.int (own_F1 p2)), (.int (0 : Int32)), (.int (0 : Int32)), (.int (0 : Int32))] (.int (0 : Int32)) := Arv.set Ar246 q246 S246 N246v H246 G246 rfl W246 2 rfl (Nat.le_of_ble_eq_true rfl)
  have Z247 := Nat.le_trans Z244 (Keep.of_wr W246).1
  obtain ⟨L246, X246, N246⟩ := own_gl X246 (Fr.snoc X246 N245 g_b237)
  refine own_back st246 ?_
  show own_End p e below s _ _ _ (T246.setTop (mkF m 30 #[.val (.int p0), .val (.int p1), .val (.int p2), .val (.int p3), .val (.int p4), .val (.int p5), .val (.ref b237), .unset, .unset, .unset, .unset, .unset, .unset, .unset, .unset, .unset] []))
  refine own_aload X246 hx (hb hby at_30) rfl rfl (q := 32) rfl ?_
  refine own_iconst X246 hx (hb hby at_32) (z := 3) rfl (q := 33) rfl ?_
  refine own_iloadN X246 hx (hb hby at_33) rfl (q := 34) rfl ?_
  obtain ⟨T248, Lc248, L248, X248, N248, hQ248, st248⟩ := own_shutS (val := some (.int (own_F1 p3))) (Q := own_Q1 Z p3 h246 n0) (rc := 0) (rs := 0) N246 (fun _ _ _ q => ⟨q.1, q.2.1⟩) (Jvm.LawKit.callS X246 hx (y := (⟨"com/example/renkei/renkei/codec/TwoByteRunsNextPinLaw", "unit", "(I)I"⟩ : MethodName)) hown (mvT hZ (hw _ (List.mem_of_getElem? (i := 1) rfl))) (mvT hZ (hw _ (List.mem_of_getElem? (i := 2) rfl))) (mvT hZ (hw _ (List.mem_of_getElem? (i := 3) rfl))) (mvT hZ (hw _ (List.mem_of_getElem? (i := 4) rfl))) (by decide) (backOf (W := 2) (own_rm1 l Z a0 hw [] p3 h246 n0 Z247 ) hZ (hw _ (List.mem_of_getElem? (i := 4) rfl)) (hw _ (List.mem_of_getElem? (i := 3) rfl)) (by decide) (by decide)) (g := (mkF m 34 #[.val (.int p0), .val (.int p1), .val (.int p2), .val (.int p3), .val (.int p4), .val (.int p5), .val (.ref b237), .unset, .unset, .unset, .unset, .unset, .unset, .unset, .unset, .unset] [(.int p3), (.int (3 : Int32)), (.ref b237)])) rfl (by rw [hml]; rfl) (argsL := [(.int p3)]) (rest := [(.int (3 : Int32)), (.ref b237)]) (lenOf own_pd1 rfl) rfl (by show 2 * 0 + _ ≤ _; exact Nat.le_of_eq rfl) (hb hby at_34) (fun _ _ => ⟨rfl, e246, (by decide : 1 + 0 ≤ _), (by decide : 6 + 0 ≤ _)⟩))
  obtain ⟨-, -, e248⟩ := hQ248
  refine own_back st248 ?_
  show own_End p e below s _ _ _ (T248.setTop (mkF m 37 #[.val (.int p0), .val (.int p1), .val (.int p2), .val (.int p3), .val (.int p4), .val (.int p5), .val (.ref b237), .unset, .unset, .unset, .unset, .unset, .unset, .unset, .unset, .unset] [(.int (own_F1 p3)), (.int (3 : Int32)), (.ref b237)]))
  obtain ⟨cl249, Ar249, q249, S249, N249v, H249, G249⟩ := id V_b237_246
  have hin249 : ¬ ((3 : Int32) < 0 ∨ cl249.slots.size ≤ ((3 : Int32)).toNatClampNeg) := inb_of S249 ⟨by decide, by decide⟩
  obtain ⟨T249, h249, X249, e249, W249, st249⟩ := stI X248 hx hZ e248 Ar249 (j := (3 : Int32)) hin249 (g := (mkF m 37 #[.val (.int p0), .val (.int p1), .val (.int p2), .val (.int p3), .val (.int p4), .val (.int p5), .val (.ref b237), .unset, .unset, .unset, .unset, .unset, .unset, .unset, .unset, .unset] [(.int (own_F1 p3)), (.int (3 : Int32)), (.ref b237)])) rfl rfl (hb hby at_37)
  have V_b237_249 : Arv Z h249 b237 k237 .int (6 : Int32) [(.int (own_F1 p0)), (.int (own_F1 p1)), (.int (own_F1 p2)), (.int (own_F1 p3)), (.int (0 : Int32)), (.int (0 : Int32))] (.int (0 : Int32)) := Arv.set Ar249 q249 S249 N249v H249 G249 rfl W249 3 rfl (Nat.le_of_ble_eq_true rfl)
  have Z250 := Nat.le_trans Z247 (Keep.of_wr W249).1
  obtain ⟨L249, X249, N249⟩ := own_gl X249 (Fr.snoc X249 N248 g_b237)
  refine own_back st249 ?_
  show own_End p e below s _ _ _ (T249.setTop (mkF m 38 #[.val (.int p0), .val (.int p1), .val (.int p2), .val (.int p3), .val (.int p4), .val (.int p5), .val (.ref b237), .unset, .unset, .unset, .unset, .unset, .unset, .unset, .unset, .unset] []))
  refine own_aload X249 hx (hb hby at_38) rfl rfl (q := 40) rfl ?_
  refine own_iconst X249 hx (hb hby at_40) (z := 4) rfl (q := 41) rfl ?_
  refine own_iload X249 hx (hb hby at_41) rfl (q := 43) rfl ?_
  obtain ⟨T251, Lc251, L251, X251, N251, hQ251, st251⟩ := own_shutS (val := some (.int (own_F1 p4))) (Q := own_Q1 Z p4 h249 n0) (rc := 0) (rs := 0) N249 (fun _ _ _ q => ⟨q.1, q.2.1⟩) (Jvm.LawKit.callS X249 hx (y := (⟨"com/example/renkei/renkei/codec/TwoByteRunsNextPinLaw", "unit", "(I)I"⟩ : MethodName)) hown (mvT hZ (hw _ (List.mem_of_getElem? (i := 1) rfl))) (mvT hZ (hw _ (List.mem_of_getElem? (i := 2) rfl))) (mvT hZ (hw _ (List.mem_of_getElem? (i := 3) rfl))) (mvT hZ (hw _ (List.mem_of_getElem? (i := 4) rfl))) (by decide) (backOf (W := 2) (own_rm1 l Z a0 hw [] p4 h249 n0 Z250 ) hZ (hw _ (List.mem_of_getElem? (i := 4) rfl)) (hw _ (List.mem_of_getElem? (i := 3) rfl)) (by decide) (by decide)) (g := (mkF m 43 #[.val (.int p0), .val (.int p1), .val (.int p2), .val (.int p3), .val (.int p4), .val (.int p5), .val (.ref b237), .unset, .unset, .unset, .unset, .unset, .unset, .unset, .unset, .unset] [(.int p4), (.int (4 : Int32)), (.ref b237)])) rfl (by rw [hml]; rfl) (argsL := [(.int p4)]) (rest := [(.int (4 : Int32)), (.ref b237)]) (lenOf own_pd1 rfl) rfl (by show 2 * 0 + _ ≤ _; exact Nat.le_of_eq rfl) (hb hby at_43) (fun _ _ => ⟨rfl, e249, (by decide : 1 + 0 ≤ _), (by decide : 6 + 0 ≤ _)⟩))
  obtain ⟨-, -, e251⟩ := hQ251
  refine own_back st251 ?_
  show own_End p e below s _ _ _ (T251.setTop (mkF m 46 #[.val (.int p0), .val (.int p1), .val (.int p2), .val (.int p3), .val (.int p4), .val (.int p5), .val (.ref b237), .unset, .unset, .unset, .unset, .unset, .unset, .unset, .unset, .unset] [(.int (own_F1 p4)), (.int (4 : Int32)), (.ref b237)]))
  obtain ⟨cl252, Ar252, q252, S252, N252v, H252, G252⟩ := id V_b237_249
  have hin252 : ¬ ((4 : Int32) < 0 ∨ cl252.slots.size ≤ ((4 : Int32)).toNatClampNeg) := inb_of S252 ⟨by decide, by decide⟩
  obtain ⟨T252, h252, X252, e252, W252, st252⟩ := stI X251 hx hZ e251 Ar252 (j := (4 : Int32)) hin252 (g := (mkF m 46 #[.val (.int p0), .val (.int p1), .val (.int p2), .val (.int p3), .val (.int p4), .val (.int p5), .val (.ref b237), .unset, .unset, .unset, .unset, .unset, .unset, .unset, .unset, .unset] [(.int (own_F1 p4)), (.int (4 : Int32)), (.ref b237)])) rfl rfl (hb hby at_46)
  have V_b237_252 : Arv Z h252 b237 k237 .int (6 : Int32) [(.int (own_F1 p0)), (.int (own_F1 p1)), (.int (own_F1 p2)), (.int (own_F1 p3)), (.int (own_F1 p4)), (.int (0 : Int32))] (.int (0 : Int32)) := Arv.set Ar252 q252 S252 N252v H252 G252 rfl W252 4 rfl (Nat.le_of_ble_eq_true rfl)
  have Z253 := Nat.le_trans Z250 (Keep.of_wr W252).1
  obtain ⟨L252, X252, N252⟩ := own_gl X252 (Fr.snoc X252 N251 g_b237)
  refine own_back st252 ?_
  show own_End p e below s _ _ _ (T252.setTop (mkF m 47 #[.val (.int p0), .val (.int p1), .val (.int p2), .val (.int p3), .val (.int p4), .val (.int p5), .val (.ref b237), .unset, .unset, .unset, .unset, .unset, .unset, .unset, .unset, .unset] []))
  refine own_aload X252 hx (hb hby at_47) rfl rfl (q := 49) rfl ?_
  refine own_iconst X252 hx (hb hby at_49) (z := 5) rfl (q := 50) rfl ?_
  refine own_iload X252 hx (hb hby at_50) rfl (q := 52) rfl ?_
  obtain ⟨T254, Lc254, L254, X254, N254, hQ254, st254⟩ := own_shutS (val := some (.int (own_F1 p5))) (Q := own_Q1 Z p5 h252 n0) (rc := 0) (rs := 0) N252 (fun _ _ _ q => ⟨q.1, q.2.1⟩) (Jvm.LawKit.callS X252 hx (y := (⟨"com/example/renkei/renkei/codec/TwoByteRunsNextPinLaw", "unit", "(I)I"⟩ : MethodName)) hown (mvT hZ (hw _ (List.mem_of_getElem? (i := 1) rfl))) (mvT hZ (hw _ (List.mem_of_getElem? (i := 2) rfl))) (mvT hZ (hw _ (List.mem_of_getElem? (i := 3) rfl))) (mvT hZ (hw _ (List.mem_of_getElem? (i := 4) rfl))) (by decide) (backOf (W := 2) (own_rm1 l Z a0 hw [] p5 h252 n0 Z253 ) hZ (hw _ (List.mem_of_getElem? (i := 4) rfl)) (hw _ (List.mem_of_getElem? (i := 3) rfl)) (by decide) (by decide)) (g := (mkF m 52 #[.val (.int p0), .val (.int p1), .val (.int p2), .val (.int p3), .val (.int p4), .val (.int p5), .val (.ref b237), .unset, .unset, .unset, .unset, .unset, .unset, .unset, .unset, .unset] [(.int p5), (.int (5 : Int32)), (.ref b237)])) rfl (by rw [hml]; rfl) (argsL := [(.int p5)]) (rest := [(.int (5 : Int32)), (.ref b237)]) (lenOf own_pd1 rfl) rfl (by show 2 * 0 + _ ≤ _; exact Nat.le_of_eq rfl) (hb hby at_52) (fun _ _ => ⟨rfl, e252, (by decide : 1 + 0 ≤ _), (by decide : 6 + 0 ≤ _)⟩))
  obtain ⟨-, -, e254⟩ := hQ254
  refine own_back st254 ?_
  show own_End p e below s _ _ _ (T254.setTop (mkF m 55 #[.val (.int p0), .val (.int p1), .val (.int p2), .val (.int p3), .val (.int p4), .val (.int p5), .val (.ref b237), .unset, .unset, .unset, .unset, .unset, .unset, .unset, .unset, .unset] [(.int (own_F1 p5)), (.int (5 : Int32)), (.ref b237)]))
  obtain ⟨cl255, Ar255, q255, S255, N255v, H255, G255⟩ := id V_b237_252
  have hin255 : ¬ ((5 : Int32) < 0 ∨ cl255.slots.size ≤ ((5 : Int32)).toNatClampNeg) := inb_of S255 ⟨by decide, by decide⟩
  obtain ⟨T255, h255, X255, e255, W255, st255⟩ := stI X254 hx hZ e254 Ar255 (j := (5 : Int32)) hin255 (g := (mkF m 55 #[.val (.int p0), .val (.int p1), .val (.int p2), .val (.int p3), .val (.int p4), .val (.int p5), .val (.ref b237), .unset, .unset, .unset, .unset, .unset, .unset, .unset, .unset, .unset] [(.int (own_F1 p5)), (.int (5 : Int32)), (.ref b237)])) rfl rfl (hb hby at_55)
  have V_b237_255 : Arv Z h255 b237 k237 .int (6 : Int32) [(.int (own_F1 p0)), (.int (own_F1 p1)), (.int (own_F1 p2)), (.int (own_F1 p3)), (.int (own_F1 p4)), (.int (own_F1 p5))] (.int (0 : Int32)) := Arv.set Ar255 q255 S255 N255v H255 G255 rfl W255 5 rfl (Nat.le_of_ble_eq_true rfl)
  have Z256 := Nat.le_trans Z253 (Keep.of_wr W255).1
  obtain ⟨L255, X255, N255⟩ := own_gl X255 (Fr.snoc X255 N254 g_b237)
  refine own_back st255 ?_
  show own_End p e below s _ _ _ (T255.setTop (mkF m 56 #[.val (.int p0), .val (.int p1), .val (.int p2), .val (.int p3), .val (.int p4), .val (.int p5), .val (.ref b237), .unset, .unset, .unset, .unset, .unset, .unset, .unset, .unset, .unset] []))
  obtain ⟨T257, h257, X257, e257, E257, A257, D257, -, st257⟩ := newO X255 hx hZ hown (hw _ (List.mem_of_getElem? (i := 5) rfl)) (hw _ (List.mem_of_getElem? (i := 6) rfl)) (hw _ (List.mem_of_getElem? (i := 7) rfl)) e255 (g := (mkF m 56 #[.val (.int p0), .val (.int p1), .val (.int p2), .val (.int p3), .val (.int p4), .val (.int p5), .val (.ref b237), .unset, .unset, .unset, .unset, .unset, .unset, .unset, .unset, .unset] [])) rfl (hb hby at_56) (by decide) (by decide)
  obtain ⟨b257, g257⟩ : ∃ z, z = h255.size := ⟨_, rfl⟩
  have ne_b237_b257 : b237 ≠ b257 := Nat.ne_of_lt (Nat.lt_of_lt_of_le V_b237_255.lt (Nat.le_of_eq g257.symm))
  have g_b257 : n0 ≤ b257 := Nat.le_trans Z256 (Nat.le_of_eq g257.symm)
  have Z258 := Nat.le_trans Z256 E257.1
  rw [← g257] at A257 D257 st257
  have V_b237_259 := V_b237_255.ext E257
  have F_b257_escaped : Fld Z h257 b257 "com/example/renkei/renkei/codec/TwoByteRuns" "escaped" "Z" (.int (0 : Int32)) := D257 (Or.inl (hw _ (List.mem_of_getElem? (i := 20) rfl))) (ty := .boolean) (by decide)
  have F_b257_twoByte : Fld Z h257 b257 "com/example/renkei/renkei/codec/TwoByteRuns" "twoByte" "Z" (.int (0 : Int32)) := D257 (Or.inl (hw _ (List.mem_of_getElem? (i := 22) rfl))) (ty := .boolean) (by decide)
  refine own_back st257 ?_
  show own_End p e below s _ _ _ (T257.setTop (mkF m 59 #[.val (.int p0), .val (.int p1), .val (.int p2), .val (.int p3), .val (.int p4), .val (.int p5), .val (.ref b237), .unset, .unset, .unset, .unset, .unset, .unset, .unset, .unset, .unset] [(.ref b257)]))
  refine own_dup X257 hx (hb hby at_59) rfl (q := 60) rfl ?_
  obtain ⟨T260, Lc260, L260, X260, N260, hQ260, st260⟩ := own_shutV (val := none) (Q := own_Q2 Z b257 (0 : Int32) (0 : Int32) h257 n0) (rc := 0) (rs := 0) N255 (fun _ _ _ q => ⟨q.1, q.2.1⟩) (X257.specialBack hx (y := (⟨"com/example/renkei/renkei/codec/TwoByteRuns", "<init>", "()V"⟩ : MethodName)) rfl hown (mvT hZ (hw _ (List.mem_of_getElem? (i := 8) rfl))) (mvT hZ (hw _ (List.mem_of_getElem? (i := 9) rfl))) (mvT hZ (hw _ (List.mem_of_getElem? (i := 10) rfl))) (by decide) (backOf (W := 1) (own_rm2 l Z a0 hw [] b257 (0 : Int32) (0 : Int32) h257 n0 Z258 A257 F_b257_escaped F_b257_twoByte g_b257) hZ (hw _ (List.mem_of_getElem? (i := 10) rfl)) (hw _ (List.mem_of_getElem? (i := 7) rfl)) (by decide) (by decide)) (g := (mkF m 60 #[.val (.int p0), .val (.int p1), .val (.int p2), .val (.int p3), .val (.int p4), .val (.int p5), .val (.ref b237), .unset, .unset, .unset, .unset, .unset, .unset, .unset, .unset, .unset] [(.ref b257), (.ref b257)])) rfl (by rw [hml]; rfl) (Steps.refl _) (a := b257) (argsL := []) (rest := [(.ref b257)]) (lenOf own_pd2 rfl) rfl (by show 2 * 0 + _ ≤ _; exact Nat.le_of_eq rfl) (hb hby at_60) (fun _ _ => ⟨rfl, e257, (by decide : 2 + 0 ≤ _), (by decide : 8 + 0 ≤ _)⟩))
  obtain ⟨-, -, K260, Q260_0, Q260_1, Q260_2⟩ := hQ260
  have V_b237_261 := V_b237_259.keep K260 (ninS ne_b237_b257 nin0)
  have A257_262 := A257.keep K260
  have Z263 := Nat.le_trans Z258 K260.1
  refine own_via st260 ?_
  show own_End p e below s _ _ _ (T260.setTop (mkF m 63 #[.val (.int p0), .val (.int p1), .val (.int p2), .val (.int p3), .val (.int p4), .val (.int p5), .val (.ref b237), .unset, .unset, .unset, .unset, .unset, .unset, .unset, .unset, .unset] [(.ref b257)]))
  refine own_astore X260 hx (hb hby at_63) rfl (l' := #[.val (.int p0), .val (.int p1), .val (.int p2), .val (.int p3), .val (.int p4), .val (.int p5), .val (.ref b237), .val (.ref b257), .unset, .unset, .unset, .unset, .unset, .unset, .unset, .unset]) rfl (q := 65) rfl ?_
  refine own_iconst X260 hx (hb hby at_65) (z := 1) rfl (q := 66) rfl ?_
  refine own_istore X260 hx (hb hby at_66) (l' := #[.val (.int p0), .val (.int p1), .val (.int p2), .val (.int p3), .val (.int p4), .val (.int p5), .val (.ref b237), .val (.ref b257), .val (.int (1 : Int32)), .unset, .unset, .unset, .unset, .unset, .unset, .unset]) rfl (q := 68) rfl ?_
  refine own_aload X260 hx (hb hby at_68) rfl rfl (q := 70) rfl ?_
  refine own_aload X260 hx (hb hby at_70) rfl rfl (q := 72) rfl ?_
  refine own_iconst X260 hx (hb hby at_72) (z := 0) rfl (q := 73) rfl ?_
  obtain ⟨cl264, Ar264, q264, S264, N264v, H264, G264⟩ := id V_b237_261
  have hin264 : ¬ ((0 : Int32) < 0 ∨ cl264.slots.size ≤ ((0 : Int32)).toNatClampNeg) := inb_of S264 ⟨by decide, by decide⟩
  refine own_back (X260.iaload hx (j := (0 : Int32)) (v := (.int (own_F1 p0))) Ar264.1 (State.isArrayOf_alike hZ.alike Ar264.2.1) Ar264.2.2 hin264 (Has.at H264 hin264 rfl) (g := (mkF m 73 #[.val (.int p0), .val (.int p1), .val (.int p2), .val (.int p3), .val (.int p4), .val (.int p5), .val (.ref b237), .val (.ref b257), .val (.int (1 : Int32)), .unset, .unset, .unset, .unset, .unset, .unset, .unset] [(.int (0 : Int32)), (.ref b237), (.ref b257)])) rfl rfl (hb hby at_73)) ?_
  show own_End p e below s _ _ _ (T260.setTop (mkF m 74 #[.val (.int p0), .val (.int p1), .val (.int p2), .val (.int p3), .val (.int p4), .val (.int p5), .val (.ref b237), .val (.ref b257), .val (.int (1 : Int32)), .unset, .unset, .unset, .unset, .unset, .unset, .unset] [(.int (own_F1 p0)), (.ref b257)]))
  obtain ⟨cq265, kq265, q265a, q265b, q265c⟩ := isOf hZ rfl Q260_0
  obtain ⟨T265, Lc265, L265, X265, N265, hQ265, st265⟩ := own_shutV (val := some (.int (own_F4 (own_F1 p0) (0 : Int32) (0 : Int32)))) (Q := own_Q4 Z b257 (own_F1 p0) (0 : Int32) (0 : Int32) T260.heap n0) (rc := 0) (rs := 0) N260 (fun _ _ _ q => ⟨q.1, q.2.1⟩) (X260.virtualBack hx (y := (⟨"com/example/renkei/renkei/codec/TwoByteRuns", "next", "(I)Z"⟩ : MethodName)) (z := (⟨"com/example/renkei/renkei/codec/TwoByteRuns", "next", "(I)Z"⟩ : MethodName)) hown (mvT hZ (hw _ (List.mem_of_getElem? (i := 14) rfl))) (mvT hZ (hw _ (List.mem_of_getElem? (i := 15) rfl))) (notFace_of_selects (args := #[]) (mvT hZ (hw _ (List.mem_of_getElem? (i := 17) rfl)))) (mvT hZ (hw _ (List.mem_of_getElem? (i := 17) rfl))) (mvT hZ (hw _ (List.mem_of_getElem? (i := 16) rfl))) (by decide) (backOf (W := 0) (own_rm4 l Z a0 hw [] b257 (own_F1 p0) (0 : Int32) (0 : Int32) T260.heap n0 Z263 Q260_0 Q260_1 Q260_2 g_b257) hZ (hw _ (List.mem_of_getElem? (i := 18) rfl)) (hw _ (List.mem_of_getElem? (i := 7) rfl)) (by decide) (by decide)) q265a q265c (g := (mkF m 74 #[.val (.int p0), .val (.int p1), .val (.int p2), .val (.int p3), .val (.int p4), .val (.int p5), .val (.ref b237), .val (.ref b257), .val (.int (1 : Int32)), .unset, .unset, .unset, .unset, .unset, .unset, .unset] [(.int (own_F1 p0)), (.ref b257)])) rfl (by rw [hml]; rfl) (Steps.refl _) (argsL := [(.int (own_F1 p0))]) (rest := []) (lenOf own_pd3 rfl) rfl (by show 2 * 0 + _ ≤ _; exact Nat.le_of_eq rfl) (hb hby at_74) (fun _ _ => ⟨rfl, rfl, (by decide : 2 + 0 ≤ _), (by decide : 8 + 0 ≤ _)⟩))
  obtain ⟨-, -, K265, Q265_0, Q265_1, Q265_2⟩ := hQ265
  have V_b237_266 := V_b237_261.keep K265 (ninS ne_b237_b257 nin0)
  have Q260_267 := Q260_0.keep K265
  have Z268 := Nat.le_trans Z263 K265.1
  refine own_via st265 ?_
  show own_End p e below s _ _ _ (T265.setTop (mkF m 77 #[.val (.int p0), .val (.int p1), .val (.int p2), .val (.int p3), .val (.int p4), .val (.int p5), .val (.ref b237), .val (.ref b257), .val (.int (1 : Int32)), .unset, .unset, .unset, .unset, .unset, .unset, .unset] [(.int (own_F4 (own_F1 p0) (0 : Int32) (0 : Int32)))]))
  rw [(own_z (own_F1 p0)).2]
  rw [(own_z (own_F1 p0)).1] at Q265_2
  rw [own_esc] at Q265_1
  show own_End p e below s _ _ _ (T265.setTop (mkF m 77 #[.val (.int p0), .val (.int p1), .val (.int p2), .val (.int p3), .val (.int p4), .val (.int p5), .val (.ref b237), .val (.ref b257), .val (.int (1 : Int32)), .unset, .unset, .unset, .unset, .unset, .unset, .unset] [(.int (0 : Int32))]))
  refine own_istore X265 hx (hb hby at_77) (l' := #[.val (.int p0), .val (.int p1), .val (.int p2), .val (.int p3), .val (.int p4), .val (.int p5), .val (.ref b237), .val (.ref b257), .val (.int (1 : Int32)), .val (.int (0 : Int32)), .unset, .unset, .unset, .unset, .unset, .unset]) rfl (q := 79) rfl ?_
  refine own_iload X265 hx (hb hby at_79) rfl (q := 81) rfl ?_
  refine own_ifN X265 hx (hb hby at_81) (feq (by decide : ¬ ((1 : Int32) = (0 : Int32)))).1 (q := 84) rfl ?_
  refine own_iload X265 hx (hb hby at_84) rfl (q := 86) rfl ?_
  refine own_aload X265 hx (hb hby at_86) rfl rfl (q := 88) rfl ?_
  refine own_iconst X265 hx (hb hby at_88) (z := 0) rfl (q := 89) rfl ?_
  obtain ⟨T269, Lc269, L269, X269, N269, hQ269, st269⟩ := own_shutS (val := some (.int (0 : Int32))) (Q := own_Q5_0 Z b237 k237 (own_F1 p0) (own_F1 p1) (own_F1 p2) (own_F1 p3) (own_F1 p4) (own_F1 p5) T265.heap n0) (rc := 0) (rs := 0) N265 (fun _ _ _ q => ⟨q.1, q.2.1⟩) (Jvm.LawKit.callS X265 hx (y := (⟨"com/example/renkei/renkei/codec/TwoByteRunsNextPinLaw", "expected", "([II)Z"⟩ : MethodName)) hown (mvT hZ (hw _ (List.mem_of_getElem? (i := 23) rfl))) (mvT hZ (hw _ (List.mem_of_getElem? (i := 24) rfl))) (mvT hZ (hw _ (List.mem_of_getElem? (i := 3) rfl))) (mvT hZ (hw _ (List.mem_of_getElem? (i := 25) rfl))) (by decide) (backOf (W := 1) (own_rm5_0 l Z a0 hw [] b237 k237 (own_F1 p0) (own_F1 p1) (own_F1 p2) (own_F1 p3) (own_F1 p4) (own_F1 p5) T265.heap n0 Z268 V_b237_266) hZ (hw _ (List.mem_of_getElem? (i := 25) rfl)) (hw _ (List.mem_of_getElem? (i := 3) rfl)) (by decide) (by decide)) (g := (mkF m 89 #[.val (.int p0), .val (.int p1), .val (.int p2), .val (.int p3), .val (.int p4), .val (.int p5), .val (.ref b237), .val (.ref b257), .val (.int (1 : Int32)), .val (.int (0 : Int32)), .unset, .unset, .unset, .unset, .unset, .unset] [(.int (0 : Int32)), (.ref b237), (.int (0 : Int32))])) rfl (by rw [hml]; rfl) (argsL := [(.ref b237), (.int (0 : Int32))]) (rest := [(.int (0 : Int32))]) (lenOf own_pd0 rfl) rfl (by show 2 * 0 + _ ≤ _; exact Nat.le_of_eq rfl) (hb hby at_89) (fun _ _ => ⟨rfl, rfl, (by decide : 2 + 0 ≤ _), (by decide : 8 + 0 ≤ _)⟩))
  obtain ⟨-, -, e269⟩ := hQ269
  refine own_back st269 ?_
  show own_End p e below s _ _ _ (T269.setTop (mkF m 92 #[.val (.int p0), .val (.int p1), .val (.int p2), .val (.int p3), .val (.int p4), .val (.int p5), .val (.ref b237), .val (.ref b257), .val (.int (1 : Int32)), .val (.int (0 : Int32)), .unset, .unset, .unset, .unset, .unset, .unset] [(.int (0 : Int32)), (.int (0 : Int32))]))
  refine own_icN X269 hx (hb hby at_92) (teq (by decide : ((0 : Int32) = (0 : Int32)))).2 (q := 95) rfl ?_
  refine own_iconst X269 hx (hb hby at_95) (z := 1) rfl (q := 96) rfl ?_
  refine own_goto X269 hx (hb hby at_96) (q := 100) (by decide) (by decide) ?_
  refine own_istore X269 hx (hb hby at_100) (l' := #[.val (.int p0), .val (.int p1), .val (.int p2), .val (.int p3), .val (.int p4), .val (.int p5), .val (.ref b237), .val (.ref b257), .val (.int (1 : Int32)), .val (.int (0 : Int32)), .unset, .unset, .unset, .unset, .unset, .unset]) rfl (q := 102) rfl ?_
  refine own_aload X269 hx (hb hby at_102) rfl rfl (q := 104) rfl ?_
  refine own_aload X269 hx (hb hby at_104) rfl rfl (q := 106) rfl ?_
  refine own_iconst X269 hx (hb hby at_106) (z := 1) rfl (q := 107) rfl ?_
  obtain ⟨cl270, Ar270, q270, S270, N270v, H270, G270⟩ := id V_b237_266
  have hin270 : ¬ ((1 : Int32) < 0 ∨ cl270.slots.size ≤ ((1 : Int32)).toNatClampNeg) := inb_of S270 ⟨by decide, by decide⟩
  refine own_back (X269.iaload hx (j := (1 : Int32)) (v := (.int (own_F1 p1))) (by rw [e269]; exact Ar270.1) (State.isArrayOf_alike hZ.alike Ar270.2.1) Ar270.2.2 hin270 (Has.at H270 hin270 rfl) (g := (mkF m 107 #[.val (.int p0), .val (.int p1), .val (.int p2), .val (.int p3), .val (.int p4), .val (.int p5), .val (.ref b237), .val (.ref b257), .val (.int (1 : Int32)), .val (.int (0 : Int32)), .unset, .unset, .unset, .unset, .unset, .unset] [(.int (1 : Int32)), (.ref b237), (.ref b257)])) rfl rfl (hb hby at_107)) ?_
  show own_End p e below s _ _ _ (T269.setTop (mkF m 108 #[.val (.int p0), .val (.int p1), .val (.int p2), .val (.int p3), .val (.int p4), .val (.int p5), .val (.ref b237), .val (.ref b257), .val (.int (1 : Int32)), .val (.int (0 : Int32)), .unset, .unset, .unset, .unset, .unset, .unset] [(.int (own_F1 p1)), (.ref b257)]))
  obtain ⟨cq271, kq271, q271a, q271b, q271c⟩ := isOf hZ e269 Q265_0
  obtain ⟨T271, Lc271, L271, X271, N271, hQ271, st271⟩ := own_shutV (val := some (.int (own_F4 (own_F1 p1) (own_E (own_F1 p0)) (0 : Int32)))) (Q := own_Q4 Z b257 (own_F1 p1) (own_E (own_F1 p0)) (0 : Int32) T265.heap n0) (rc := 0) (rs := 0) N269 (fun _ _ _ q => ⟨q.1, q.2.1⟩) (X269.virtualBack hx (y := (⟨"com/example/renkei/renkei/codec/TwoByteRuns", "next", "(I)Z"⟩ : MethodName)) (z := (⟨"com/example/renkei/renkei/codec/TwoByteRuns", "next", "(I)Z"⟩ : MethodName)) hown (mvT hZ (hw _ (List.mem_of_getElem? (i := 14) rfl))) (mvT hZ (hw _ (List.mem_of_getElem? (i := 15) rfl))) (notFace_of_selects (args := #[]) (mvT hZ (hw _ (List.mem_of_getElem? (i := 17) rfl)))) (mvT hZ (hw _ (List.mem_of_getElem? (i := 17) rfl))) (mvT hZ (hw _ (List.mem_of_getElem? (i := 16) rfl))) (by decide) (backOf (W := 0) (own_rm4 l Z a0 hw [] b257 (own_F1 p1) (own_E (own_F1 p0)) (0 : Int32) T265.heap n0 Z268 Q265_0 Q265_1 Q265_2 g_b257) hZ (hw _ (List.mem_of_getElem? (i := 18) rfl)) (hw _ (List.mem_of_getElem? (i := 7) rfl)) (by decide) (by decide)) q271a q271c (g := (mkF m 108 #[.val (.int p0), .val (.int p1), .val (.int p2), .val (.int p3), .val (.int p4), .val (.int p5), .val (.ref b237), .val (.ref b257), .val (.int (1 : Int32)), .val (.int (0 : Int32)), .unset, .unset, .unset, .unset, .unset, .unset] [(.int (own_F1 p1)), (.ref b257)])) rfl (by rw [hml]; rfl) (Steps.refl _) (argsL := [(.int (own_F1 p1))]) (rest := []) (lenOf own_pd3 rfl) rfl (by show 2 * 0 + _ ≤ _; exact Nat.le_of_eq rfl) (hb hby at_108) (fun _ _ => ⟨rfl, e269, (by decide : 2 + 0 ≤ _), (by decide : 8 + 0 ≤ _)⟩))
  obtain ⟨-, -, K271, Q271_0, Q271_1, Q271_2⟩ := hQ271
  have V_b237_272 := V_b237_266.keep K271 (ninS ne_b237_b257 nin0)
  have Q265_273 := Q265_0.keep K271
  have Z274 := Nat.le_trans Z268 K271.1
  refine own_via st271 ?_
  show own_End p e below s _ _ _ (T271.setTop (mkF m 111 #[.val (.int p0), .val (.int p1), .val (.int p2), .val (.int p3), .val (.int p4), .val (.int p5), .val (.ref b237), .val (.ref b257), .val (.int (1 : Int32)), .val (.int (0 : Int32)), .unset, .unset, .unset, .unset, .unset, .unset] [(.int (own_F4 (own_F1 p1) (own_E (own_F1 p0)) (0 : Int32)))]))
  rw [(own_t1 (own_F1 p0) (own_F1 p1) (own_F1 p2) (own_F1 p3) (own_F1 p4) (own_F1 p5)).2.1]
  rw [(own_t1 (own_F1 p0) (own_F1 p1) (own_F1 p2) (own_F1 p3) (own_F1 p4) (own_F1 p5)).1] at Q271_2
  rw [own_esc] at Q271_1
  show own_End p e below s _ _ _ (T271.setTop (mkF m 111 #[.val (.int p0), .val (.int p1), .val (.int p2), .val (.int p3), .val (.int p4), .val (.int p5), .val (.ref b237), .val (.ref b257), .val (.int (1 : Int32)), .val (.int (0 : Int32)), .unset, .unset, .unset, .unset, .unset, .unset] [(.int (own_F5_1 (own_F1 p0) (own_F1 p1) (own_F1 p2) (own_F1 p3) (own_F1 p4) (own_F1 p5)))]))
  refine own_istore X271 hx (hb hby at_111) (l' := #[.val (.int p0), .val (.int p1), .val (.int p2), .val (.int p3), .val (.int p4), .val (.int p5), .val (.ref b237), .val (.ref b257), .val (.int (1 : Int32)), .val (.int (0 : Int32)), .val (.int (own_F5_1 (own_F1 p0) (own_F1 p1) (own_F1 p2) (own_F1 p3) (own_F1 p4) (own_F1 p5))), .unset, .unset, .unset, .unset, .unset]) rfl (q := 113) rfl ?_
  refine own_iload X271 hx (hb hby at_113) rfl (q := 115) rfl ?_
  refine own_ifN X271 hx (hb hby at_115) (feq (by decide : ¬ ((1 : Int32) = (0 : Int32)))).1 (q := 118) rfl ?_
  refine own_iload X271 hx (hb hby at_118) rfl (q := 120) rfl ?_
  refine own_aload X271 hx (hb hby at_120) rfl rfl (q := 122) rfl ?_
  refine own_iconst X271 hx (hb hby at_122) (z := 1) rfl (q := 123) rfl ?_
  obtain ⟨T275, Lc275, L275, X275, N275, hQ275, st275⟩ := own_shutS (val := some (.int (own_F5_1 (own_F1 p0) (own_F1 p1) (own_F1 p2) (own_F1 p3) (own_F1 p4) (own_F1 p5)))) (Q := own_Q5_1 Z b237 k237 (own_F1 p0) (own_F1 p1) (own_F1 p2) (own_F1 p3) (own_F1 p4) (own_F1 p5) T271.heap n0) (rc := 0) (rs := 0) N271 (fun _ _ _ q => ⟨q.1, q.2.1⟩) (Jvm.LawKit.callS X271 hx (y := (⟨"com/example/renkei/renkei/codec/TwoByteRunsNextPinLaw", "expected", "([II)Z"⟩ : MethodName)) hown (mvT hZ (hw _ (List.mem_of_getElem? (i := 23) rfl))) (mvT hZ (hw _ (List.mem_of_getElem? (i := 24) rfl))) (mvT hZ (hw _ (List.mem_of_getElem? (i := 3) rfl))) (mvT hZ (hw _ (List.mem_of_getElem? (i := 25) rfl))) (by decide) (backOf (W := 1) (own_rm5_1 l Z a0 hw [] b237 k237 (own_F1 p0) (own_F1 p1) (own_F1 p2) (own_F1 p3) (own_F1 p4) (own_F1 p5) T271.heap n0 Z274 V_b237_272) hZ (hw _ (List.mem_of_getElem? (i := 25) rfl)) (hw _ (List.mem_of_getElem? (i := 3) rfl)) (by decide) (by decide)) (g := (mkF m 123 #[.val (.int p0), .val (.int p1), .val (.int p2), .val (.int p3), .val (.int p4), .val (.int p5), .val (.ref b237), .val (.ref b257), .val (.int (1 : Int32)), .val (.int (0 : Int32)), .val (.int (own_F5_1 (own_F1 p0) (own_F1 p1) (own_F1 p2) (own_F1 p3) (own_F1 p4) (own_F1 p5))), .unset, .unset, .unset, .unset, .unset] [(.int (1 : Int32)), (.ref b237), (.int (own_F5_1 (own_F1 p0) (own_F1 p1) (own_F1 p2) (own_F1 p3) (own_F1 p4) (own_F1 p5)))])) rfl (by rw [hml]; rfl) (argsL := [(.ref b237), (.int (1 : Int32))]) (rest := [(.int (own_F5_1 (own_F1 p0) (own_F1 p1) (own_F1 p2) (own_F1 p3) (own_F1 p4) (own_F1 p5)))]) (lenOf own_pd0 rfl) rfl (by show 2 * 0 + _ ≤ _; exact Nat.le_of_eq rfl) (hb hby at_123) (fun _ _ => ⟨rfl, rfl, (by decide : 2 + 0 ≤ _), (by decide : 8 + 0 ≤ _)⟩))
  obtain ⟨-, -, e275⟩ := hQ275
  refine own_back st275 ?_
  show own_End p e below s _ _ _ (T275.setTop (mkF m 126 #[.val (.int p0), .val (.int p1), .val (.int p2), .val (.int p3), .val (.int p4), .val (.int p5), .val (.ref b237), .val (.ref b257), .val (.int (1 : Int32)), .val (.int (0 : Int32)), .val (.int (own_F5_1 (own_F1 p0) (own_F1 p1) (own_F1 p2) (own_F1 p3) (own_F1 p4) (own_F1 p5))), .unset, .unset, .unset, .unset, .unset] [(.int (own_F5_1 (own_F1 p0) (own_F1 p1) (own_F1 p2) (own_F1 p3) (own_F1 p4) (own_F1 p5))), (.int (own_F5_1 (own_F1 p0) (own_F1 p1) (own_F1 p2) (own_F1 p3) (own_F1 p4) (own_F1 p5)))]))
  refine own_icN X275 hx (hb hby at_126) (teq (rfl : (own_F5_1 (own_F1 p0) (own_F1 p1) (own_F1 p2) (own_F1 p3) (own_F1 p4) (own_F1 p5)) = (own_F5_1 (own_F1 p0) (own_F1 p1) (own_F1 p2) (own_F1 p3) (own_F1 p4) (own_F1 p5)))).2 (q := 129) rfl ?_
  refine own_iconst X275 hx (hb hby at_129) (z := 1) rfl (q := 130) rfl ?_
  refine own_goto X275 hx (hb hby at_130) (q := 134) (by decide) (by decide) ?_
  refine own_istore X275 hx (hb hby at_134) (l' := #[.val (.int p0), .val (.int p1), .val (.int p2), .val (.int p3), .val (.int p4), .val (.int p5), .val (.ref b237), .val (.ref b257), .val (.int (1 : Int32)), .val (.int (0 : Int32)), .val (.int (own_F5_1 (own_F1 p0) (own_F1 p1) (own_F1 p2) (own_F1 p3) (own_F1 p4) (own_F1 p5))), .unset, .unset, .unset, .unset, .unset]) rfl (q := 136) rfl ?_
  refine own_aload X275 hx (hb hby at_136) rfl rfl (q := 138) rfl ?_
  refine own_aload X275 hx (hb hby at_138) rfl rfl (q := 140) rfl ?_
  refine own_iconst X275 hx (hb hby at_140) (z := 2) rfl (q := 141) rfl ?_
  obtain ⟨cl276, Ar276, q276, S276, N276v, H276, G276⟩ := id V_b237_272
  have hin276 : ¬ ((2 : Int32) < 0 ∨ cl276.slots.size ≤ ((2 : Int32)).toNatClampNeg) := inb_of S276 ⟨by decide, by decide⟩
  refine own_back (X275.iaload hx (j := (2 : Int32)) (v := (.int (own_F1 p2))) (by rw [e275]; exact Ar276.1) (State.isArrayOf_alike hZ.alike Ar276.2.1) Ar276.2.2 hin276 (Has.at H276 hin276 rfl) (g := (mkF m 141 #[.val (.int p0), .val (.int p1), .val (.int p2), .val (.int p3), .val (.int p4), .val (.int p5), .val (.ref b237), .val (.ref b257), .val (.int (1 : Int32)), .val (.int (0 : Int32)), .val (.int (own_F5_1 (own_F1 p0) (own_F1 p1) (own_F1 p2) (own_F1 p3) (own_F1 p4) (own_F1 p5))), .unset, .unset, .unset, .unset, .unset] [(.int (2 : Int32)), (.ref b237), (.ref b257)])) rfl rfl (hb hby at_141)) ?_
  show own_End p e below s _ _ _ (T275.setTop (mkF m 142 #[.val (.int p0), .val (.int p1), .val (.int p2), .val (.int p3), .val (.int p4), .val (.int p5), .val (.ref b237), .val (.ref b257), .val (.int (1 : Int32)), .val (.int (0 : Int32)), .val (.int (own_F5_1 (own_F1 p0) (own_F1 p1) (own_F1 p2) (own_F1 p3) (own_F1 p4) (own_F1 p5))), .unset, .unset, .unset, .unset, .unset] [(.int (own_F1 p2)), (.ref b257)]))
  obtain ⟨cq277, kq277, q277a, q277b, q277c⟩ := isOf hZ e275 Q271_0
  obtain ⟨T277, Lc277, L277, X277, N277, hQ277, st277⟩ := own_shutV (val := some (.int (own_F4 (own_F1 p2) (own_E (own_F1 p1)) (own_F5_1 (own_F1 p0) (own_F1 p1) (own_F1 p2) (own_F1 p3) (own_F1 p4) (own_F1 p5))))) (Q := own_Q4 Z b257 (own_F1 p2) (own_E (own_F1 p1)) (own_F5_1 (own_F1 p0) (own_F1 p1) (own_F1 p2) (own_F1 p3) (own_F1 p4) (own_F1 p5)) T271.heap n0) (rc := 0) (rs := 0) N275 (fun _ _ _ q => ⟨q.1, q.2.1⟩) (X275.virtualBack hx (y := (⟨"com/example/renkei/renkei/codec/TwoByteRuns", "next", "(I)Z"⟩ : MethodName)) (z := (⟨"com/example/renkei/renkei/codec/TwoByteRuns", "next", "(I)Z"⟩ : MethodName)) hown (mvT hZ (hw _ (List.mem_of_getElem? (i := 14) rfl))) (mvT hZ (hw _ (List.mem_of_getElem? (i := 15) rfl))) (notFace_of_selects (args := #[]) (mvT hZ (hw _ (List.mem_of_getElem? (i := 17) rfl)))) (mvT hZ (hw _ (List.mem_of_getElem? (i := 17) rfl))) (mvT hZ (hw _ (List.mem_of_getElem? (i := 16) rfl))) (by decide) (backOf (W := 0) (own_rm4 l Z a0 hw [] b257 (own_F1 p2) (own_E (own_F1 p1)) (own_F5_1 (own_F1 p0) (own_F1 p1) (own_F1 p2) (own_F1 p3) (own_F1 p4) (own_F1 p5)) T271.heap n0 Z274 Q271_0 Q271_1 Q271_2 g_b257) hZ (hw _ (List.mem_of_getElem? (i := 18) rfl)) (hw _ (List.mem_of_getElem? (i := 7) rfl)) (by decide) (by decide)) q277a q277c (g := (mkF m 142 #[.val (.int p0), .val (.int p1), .val (.int p2), .val (.int p3), .val (.int p4), .val (.int p5), .val (.ref b237), .val (.ref b257), .val (.int (1 : Int32)), .val (.int (0 : Int32)), .val (.int (own_F5_1 (own_F1 p0) (own_F1 p1) (own_F1 p2) (own_F1 p3) (own_F1 p4) (own_F1 p5))), .unset, .unset, .unset, .unset, .unset] [(.int (own_F1 p2)), (.ref b257)])) rfl (by rw [hml]; rfl) (Steps.refl _) (argsL := [(.int (own_F1 p2))]) (rest := []) (lenOf own_pd3 rfl) rfl (by show 2 * 0 + _ ≤ _; exact Nat.le_of_eq rfl) (hb hby at_142) (fun _ _ => ⟨rfl, e275, (by decide : 2 + 0 ≤ _), (by decide : 8 + 0 ≤ _)⟩))
  obtain ⟨-, -, K277, Q277_0, Q277_1, Q277_2⟩ := hQ277
  have V_b237_278 := V_b237_272.keep K277 (ninS ne_b237_b257 nin0)
  have Q271_279 := Q271_0.keep K277
  have Z280 := Nat.le_trans Z274 K277.1
  refine own_via st277 ?_
  show own_End p e below s _ _ _ (T277.setTop (mkF m 145 #[.val (.int p0), .val (.int p1), .val (.int p2), .val (.int p3), .val (.int p4), .val (.int p5), .val (.ref b237), .val (.ref b257), .val (.int (1 : Int32)), .val (.int (0 : Int32)), .val (.int (own_F5_1 (own_F1 p0) (own_F1 p1) (own_F1 p2) (own_F1 p3) (own_F1 p4) (own_F1 p5))), .unset, .unset, .unset, .unset, .unset] [(.int (own_F4 (own_F1 p2) (own_E (own_F1 p1)) (own_F5_1 (own_F1 p0) (own_F1 p1) (own_F1 p2) (own_F1 p3) (own_F1 p4) (own_F1 p5))))]))
  rw [(own_t2 (own_F1 p0) (own_F1 p1) (own_F1 p2) (own_F1 p3) (own_F1 p4) (own_F1 p5)).2.1]
  rw [(own_t2 (own_F1 p0) (own_F1 p1) (own_F1 p2) (own_F1 p3) (own_F1 p4) (own_F1 p5)).1] at Q277_2
  rw [own_esc] at Q277_1
  show own_End p e below s _ _ _ (T277.setTop (mkF m 145 #[.val (.int p0), .val (.int p1), .val (.int p2), .val (.int p3), .val (.int p4), .val (.int p5), .val (.ref b237), .val (.ref b257), .val (.int (1 : Int32)), .val (.int (0 : Int32)), .val (.int (own_F5_1 (own_F1 p0) (own_F1 p1) (own_F1 p2) (own_F1 p3) (own_F1 p4) (own_F1 p5))), .unset, .unset, .unset, .unset, .unset] [(.int (own_F5_2 (own_F1 p0) (own_F1 p1) (own_F1 p2) (own_F1 p3) (own_F1 p4) (own_F1 p5)))]))
  refine own_istore X277 hx (hb hby at_145) (l' := #[.val (.int p0), .val (.int p1), .val (.int p2), .val (.int p3), .val (.int p4), .val (.int p5), .val (.ref b237), .val (.ref b257), .val (.int (1 : Int32)), .val (.int (0 : Int32)), .val (.int (own_F5_1 (own_F1 p0) (own_F1 p1) (own_F1 p2) (own_F1 p3) (own_F1 p4) (own_F1 p5))), .val (.int (own_F5_2 (own_F1 p0) (own_F1 p1) (own_F1 p2) (own_F1 p3) (own_F1 p4) (own_F1 p5))), .unset, .unset, .unset, .unset]) rfl (q := 147) rfl ?_
  refine own_iload X277 hx (hb hby at_147) rfl (q := 149) rfl ?_
  refine own_ifN X277 hx (hb hby at_149) (feq (by decide : ¬ ((1 : Int32) = (0 : Int32)))).1 (q := 152) rfl ?_
  refine own_iload X277 hx (hb hby at_152) rfl (q := 154) rfl ?_
  refine own_aload X277 hx (hb hby at_154) rfl rfl (q := 156) rfl ?_
  refine own_iconst X277 hx (hb hby at_156) (z := 2) rfl (q := 157) rfl ?_
  obtain ⟨T281, Lc281, L281, X281, N281, hQ281, st281⟩ := own_shutS (val := some (.int (own_F5_2 (own_F1 p0) (own_F1 p1) (own_F1 p2) (own_F1 p3) (own_F1 p4) (own_F1 p5)))) (Q := own_Q5_2 Z b237 k237 (own_F1 p0) (own_F1 p1) (own_F1 p2) (own_F1 p3) (own_F1 p4) (own_F1 p5) T277.heap n0) (rc := 0) (rs := 0) N277 (fun _ _ _ q => ⟨q.1, q.2.1⟩) (Jvm.LawKit.callS X277 hx (y := (⟨"com/example/renkei/renkei/codec/TwoByteRunsNextPinLaw", "expected", "([II)Z"⟩ : MethodName)) hown (mvT hZ (hw _ (List.mem_of_getElem? (i := 23) rfl))) (mvT hZ (hw _ (List.mem_of_getElem? (i := 24) rfl))) (mvT hZ (hw _ (List.mem_of_getElem? (i := 3) rfl))) (mvT hZ (hw _ (List.mem_of_getElem? (i := 25) rfl))) (by decide) (backOf (W := 1) (own_rm5_2 l Z a0 hw [] b237 k237 (own_F1 p0) (own_F1 p1) (own_F1 p2) (own_F1 p3) (own_F1 p4) (own_F1 p5) T277.heap n0 Z280 V_b237_278) hZ (hw _ (List.mem_of_getElem? (i := 25) rfl)) (hw _ (List.mem_of_getElem? (i := 3) rfl)) (by decide) (by decide)) (g := (mkF m 157 #[.val (.int p0), .val (.int p1), .val (.int p2), .val (.int p3), .val (.int p4), .val (.int p5), .val (.ref b237), .val (.ref b257), .val (.int (1 : Int32)), .val (.int (0 : Int32)), .val (.int (own_F5_1 (own_F1 p0) (own_F1 p1) (own_F1 p2) (own_F1 p3) (own_F1 p4) (own_F1 p5))), .val (.int (own_F5_2 (own_F1 p0) (own_F1 p1) (own_F1 p2) (own_F1 p3) (own_F1 p4) (own_F1 p5))), .unset, .unset, .unset, .unset] [(.int (2 : Int32)), (.ref b237), (.int (own_F5_2 (own_F1 p0) (own_F1 p1) (own_F1 p2) (own_F1 p3) (own_F1 p4) (own_F1 p5)))])) rfl (by rw [hml]; rfl) (argsL := [(.ref b237), (.int (2 : Int32))]) (rest := [(.int (own_F5_2 (own_F1 p0) (own_F1 p1) (own_F1 p2) (own_F1 p3) (own_F1 p4) (own_F1 p5)))]) (lenOf own_pd0 rfl) rfl (by show 2 * 0 + _ ≤ _; exact Nat.le_of_eq rfl) (hb hby at_157) (fun _ _ => ⟨rfl, rfl, (by decide : 2 + 0 ≤ _), (by decide : 8 + 0 ≤ _)⟩))
  obtain ⟨-, -, e281⟩ := hQ281
  refine own_back st281 ?_
  show own_End p e below s _ _ _ (T281.setTop (mkF m 160 #[.val (.int p0), .val (.int p1), .val (.int p2), .val (.int p3), .val (.int p4), .val (.int p5), .val (.ref b237), .val (.ref b257), .val (.int (1 : Int32)), .val (.int (0 : Int32)), .val (.int (own_F5_1 (own_F1 p0) (own_F1 p1) (own_F1 p2) (own_F1 p3) (own_F1 p4) (own_F1 p5))), .val (.int (own_F5_2 (own_F1 p0) (own_F1 p1) (own_F1 p2) (own_F1 p3) (own_F1 p4) (own_F1 p5))), .unset, .unset, .unset, .unset] [(.int (own_F5_2 (own_F1 p0) (own_F1 p1) (own_F1 p2) (own_F1 p3) (own_F1 p4) (own_F1 p5))), (.int (own_F5_2 (own_F1 p0) (own_F1 p1) (own_F1 p2) (own_F1 p3) (own_F1 p4) (own_F1 p5)))]))
  refine own_icN X281 hx (hb hby at_160) (teq (rfl : (own_F5_2 (own_F1 p0) (own_F1 p1) (own_F1 p2) (own_F1 p3) (own_F1 p4) (own_F1 p5)) = (own_F5_2 (own_F1 p0) (own_F1 p1) (own_F1 p2) (own_F1 p3) (own_F1 p4) (own_F1 p5)))).2 (q := 163) rfl ?_
  refine own_iconst X281 hx (hb hby at_163) (z := 1) rfl (q := 164) rfl ?_
  refine own_goto X281 hx (hb hby at_164) (q := 168) (by decide) (by decide) ?_
  refine own_istore X281 hx (hb hby at_168) (l' := #[.val (.int p0), .val (.int p1), .val (.int p2), .val (.int p3), .val (.int p4), .val (.int p5), .val (.ref b237), .val (.ref b257), .val (.int (1 : Int32)), .val (.int (0 : Int32)), .val (.int (own_F5_1 (own_F1 p0) (own_F1 p1) (own_F1 p2) (own_F1 p3) (own_F1 p4) (own_F1 p5))), .val (.int (own_F5_2 (own_F1 p0) (own_F1 p1) (own_F1 p2) (own_F1 p3) (own_F1 p4) (own_F1 p5))), .unset, .unset, .unset, .unset]) rfl (q := 170) rfl ?_
  refine own_aload X281 hx (hb hby at_170) rfl rfl (q := 172) rfl ?_
  refine own_aload X281 hx (hb hby at_172) rfl rfl (q := 174) rfl ?_
  refine own_iconst X281 hx (hb hby at_174) (z := 3) rfl (q := 175) rfl ?_
  obtain ⟨cl282, Ar282, q282, S282, N282v, H282, G282⟩ := id V_b237_278
  have hin282 : ¬ ((3 : Int32) < 0 ∨ cl282.slots.size ≤ ((3 : Int32)).toNatClampNeg) := inb_of S282 ⟨by decide, by decide⟩
  refine own_back (X281.iaload hx (j := (3 : Int32)) (v := (.int (own_F1 p3))) (by rw [e281]; exact Ar282.1) (State.isArrayOf_alike hZ.alike Ar282.2.1) Ar282.2.2 hin282 (Has.at H282 hin282 rfl) (g := (mkF m 175 #[.val (.int p0), .val (.int p1), .val (.int p2), .val (.int p3), .val (.int p4), .val (.int p5), .val (.ref b237), .val (.ref b257), .val (.int (1 : Int32)), .val (.int (0 : Int32)), .val (.int (own_F5_1 (own_F1 p0) (own_F1 p1) (own_F1 p2) (own_F1 p3) (own_F1 p4) (own_F1 p5))), .val (.int (own_F5_2 (own_F1 p0) (own_F1 p1) (own_F1 p2) (own_F1 p3) (own_F1 p4) (own_F1 p5))), .unset, .unset, .unset, .unset] [(.int (3 : Int32)), (.ref b237), (.ref b257)])) rfl rfl (hb hby at_175)) ?_
  show own_End p e below s _ _ _ (T281.setTop (mkF m 176 #[.val (.int p0), .val (.int p1), .val (.int p2), .val (.int p3), .val (.int p4), .val (.int p5), .val (.ref b237), .val (.ref b257), .val (.int (1 : Int32)), .val (.int (0 : Int32)), .val (.int (own_F5_1 (own_F1 p0) (own_F1 p1) (own_F1 p2) (own_F1 p3) (own_F1 p4) (own_F1 p5))), .val (.int (own_F5_2 (own_F1 p0) (own_F1 p1) (own_F1 p2) (own_F1 p3) (own_F1 p4) (own_F1 p5))), .unset, .unset, .unset, .unset] [(.int (own_F1 p3)), (.ref b257)]))
  obtain ⟨cq283, kq283, q283a, q283b, q283c⟩ := isOf hZ e281 Q277_0
  obtain ⟨T283, Lc283, L283, X283, N283, hQ283, st283⟩ := own_shutV (val := some (.int (own_F4 (own_F1 p3) (own_E (own_F1 p2)) (own_F5_2 (own_F1 p0) (own_F1 p1) (own_F1 p2) (own_F1 p3) (own_F1 p4) (own_F1 p5))))) (Q := own_Q4 Z b257 (own_F1 p3) (own_E (own_F1 p2)) (own_F5_2 (own_F1 p0) (own_F1 p1) (own_F1 p2) (own_F1 p3) (own_F1 p4) (own_F1 p5)) T277.heap n0) (rc := 0) (rs := 0) N281 (fun _ _ _ q => ⟨q.1, q.2.1⟩) (X281.virtualBack hx (y := (⟨"com/example/renkei/renkei/codec/TwoByteRuns", "next", "(I)Z"⟩ : MethodName)) (z := (⟨"com/example/renkei/renkei/codec/TwoByteRuns", "next", "(I)Z"⟩ : MethodName)) hown (mvT hZ (hw _ (List.mem_of_getElem? (i := 14) rfl))) (mvT hZ (hw _ (List.mem_of_getElem? (i := 15) rfl))) (notFace_of_selects (args := #[]) (mvT hZ (hw _ (List.mem_of_getElem? (i := 17) rfl)))) (mvT hZ (hw _ (List.mem_of_getElem? (i := 17) rfl))) (mvT hZ (hw _ (List.mem_of_getElem? (i := 16) rfl))) (by decide) (backOf (W := 0) (own_rm4 l Z a0 hw [] b257 (own_F1 p3) (own_E (own_F1 p2)) (own_F5_2 (own_F1 p0) (own_F1 p1) (own_F1 p2) (own_F1 p3) (own_F1 p4) (own_F1 p5)) T277.heap n0 Z280 Q277_0 Q277_1 Q277_2 g_b257) hZ (hw _ (List.mem_of_getElem? (i := 18) rfl)) (hw _ (List.mem_of_getElem? (i := 7) rfl)) (by decide) (by decide)) q283a q283c (g := (mkF m 176 #[.val (.int p0), .val (.int p1), .val (.int p2), .val (.int p3), .val (.int p4), .val (.int p5), .val (.ref b237), .val (.ref b257), .val (.int (1 : Int32)), .val (.int (0 : Int32)), .val (.int (own_F5_1 (own_F1 p0) (own_F1 p1) (own_F1 p2) (own_F1 p3) (own_F1 p4) (own_F1 p5))), .val (.int (own_F5_2 (own_F1 p0) (own_F1 p1) (own_F1 p2) (own_F1 p3) (own_F1 p4) (own_F1 p5))), .unset, .unset, .unset, .unset] [(.int (own_F1 p3)), (.ref b257)])) rfl (by rw [hml]; rfl) (Steps.refl _) (argsL := [(.int (own_F1 p3))]) (rest := []) (lenOf own_pd3 rfl) rfl (by show 2 * 0 + _ ≤ _; exact Nat.le_of_eq rfl) (hb hby at_176) (fun _ _ => ⟨rfl, e281, (by decide : 2 + 0 ≤ _), (by decide : 8 + 0 ≤ _)⟩))
  obtain ⟨-, -, K283, Q283_0, Q283_1, Q283_2⟩ := hQ283
  have V_b237_284 := V_b237_278.keep K283 (ninS ne_b237_b257 nin0)
  have Q277_285 := Q277_0.keep K283
  have Z286 := Nat.le_trans Z280 K283.1
  refine own_via st283 ?_
  show own_End p e below s _ _ _ (T283.setTop (mkF m 179 #[.val (.int p0), .val (.int p1), .val (.int p2), .val (.int p3), .val (.int p4), .val (.int p5), .val (.ref b237), .val (.ref b257), .val (.int (1 : Int32)), .val (.int (0 : Int32)), .val (.int (own_F5_1 (own_F1 p0) (own_F1 p1) (own_F1 p2) (own_F1 p3) (own_F1 p4) (own_F1 p5))), .val (.int (own_F5_2 (own_F1 p0) (own_F1 p1) (own_F1 p2) (own_F1 p3) (own_F1 p4) (own_F1 p5))), .unset, .unset, .unset, .unset] [(.int (own_F4 (own_F1 p3) (own_E (own_F1 p2)) (own_F5_2 (own_F1 p0) (own_F1 p1) (own_F1 p2) (own_F1 p3) (own_F1 p4) (own_F1 p5))))]))
  rw [(own_t3 (own_F1 p0) (own_F1 p1) (own_F1 p2) (own_F1 p3) (own_F1 p4) (own_F1 p5)).2.1]
  rw [(own_t3 (own_F1 p0) (own_F1 p1) (own_F1 p2) (own_F1 p3) (own_F1 p4) (own_F1 p5)).1] at Q283_2
  rw [own_esc] at Q283_1
  show own_End p e below s _ _ _ (T283.setTop (mkF m 179 #[.val (.int p0), .val (.int p1), .val (.int p2), .val (.int p3), .val (.int p4), .val (.int p5), .val (.ref b237), .val (.ref b257), .val (.int (1 : Int32)), .val (.int (0 : Int32)), .val (.int (own_F5_1 (own_F1 p0) (own_F1 p1) (own_F1 p2) (own_F1 p3) (own_F1 p4) (own_F1 p5))), .val (.int (own_F5_2 (own_F1 p0) (own_F1 p1) (own_F1 p2) (own_F1 p3) (own_F1 p4) (own_F1 p5))), .unset, .unset, .unset, .unset] [(.int (own_F5_3 (own_F1 p0) (own_F1 p1) (own_F1 p2) (own_F1 p3) (own_F1 p4) (own_F1 p5)))]))
  refine own_istore X283 hx (hb hby at_179) (l' := #[.val (.int p0), .val (.int p1), .val (.int p2), .val (.int p3), .val (.int p4), .val (.int p5), .val (.ref b237), .val (.ref b257), .val (.int (1 : Int32)), .val (.int (0 : Int32)), .val (.int (own_F5_1 (own_F1 p0) (own_F1 p1) (own_F1 p2) (own_F1 p3) (own_F1 p4) (own_F1 p5))), .val (.int (own_F5_2 (own_F1 p0) (own_F1 p1) (own_F1 p2) (own_F1 p3) (own_F1 p4) (own_F1 p5))), .val (.int (own_F5_3 (own_F1 p0) (own_F1 p1) (own_F1 p2) (own_F1 p3) (own_F1 p4) (own_F1 p5))), .unset, .unset, .unset]) rfl (q := 181) rfl ?_
  refine own_iload X283 hx (hb hby at_181) rfl (q := 183) rfl ?_
  refine own_ifN X283 hx (hb hby at_183) (feq (by decide : ¬ ((1 : Int32) = (0 : Int32)))).1 (q := 186) rfl ?_
  refine own_iload X283 hx (hb hby at_186) rfl (q := 188) rfl ?_
  refine own_aload X283 hx (hb hby at_188) rfl rfl (q := 190) rfl ?_
  refine own_iconst X283 hx (hb hby at_190) (z := 3) rfl (q := 191) rfl ?_
  obtain ⟨T287, Lc287, L287, X287, N287, hQ287, st287⟩ := own_shutS (val := some (.int (own_F5_3 (own_F1 p0) (own_F1 p1) (own_F1 p2) (own_F1 p3) (own_F1 p4) (own_F1 p5)))) (Q := own_Q5_3 Z b237 k237 (own_F1 p0) (own_F1 p1) (own_F1 p2) (own_F1 p3) (own_F1 p4) (own_F1 p5) T283.heap n0) (rc := 0) (rs := 0) N283 (fun _ _ _ q => ⟨q.1, q.2.1⟩) (Jvm.LawKit.callS X283 hx (y := (⟨"com/example/renkei/renkei/codec/TwoByteRunsNextPinLaw", "expected", "([II)Z"⟩ : MethodName)) hown (mvT hZ (hw _ (List.mem_of_getElem? (i := 23) rfl))) (mvT hZ (hw _ (List.mem_of_getElem? (i := 24) rfl))) (mvT hZ (hw _ (List.mem_of_getElem? (i := 3) rfl))) (mvT hZ (hw _ (List.mem_of_getElem? (i := 25) rfl))) (by decide) (backOf (W := 1) (own_rm5_3 l Z a0 hw [] b237 k237 (own_F1 p0) (own_F1 p1) (own_F1 p2) (own_F1 p3) (own_F1 p4) (own_F1 p5) T283.heap n0 Z286 V_b237_284) hZ (hw _ (List.mem_of_getElem? (i := 25) rfl)) (hw _ (List.mem_of_getElem? (i := 3) rfl)) (by decide) (by decide)) (g := (mkF m 191 #[.val (.int p0), .val (.int p1), .val (.int p2), .val (.int p3), .val (.int p4), .val (.int p5), .val (.ref b237), .val (.ref b257), .val (.int (1 : Int32)), .val (.int (0 : Int32)), .val (.int (own_F5_1 (own_F1 p0) (own_F1 p1) (own_F1 p2) (own_F1 p3) (own_F1 p4) (own_F1 p5))), .val (.int (own_F5_2 (own_F1 p0) (own_F1 p1) (own_F1 p2) (own_F1 p3) (own_F1 p4) (own_F1 p5))), .val (.int (own_F5_3 (own_F1 p0) (own_F1 p1) (own_F1 p2) (own_F1 p3) (own_F1 p4) (own_F1 p5))), .unset, .unset, .unset] [(.int (3 : Int32)), (.ref b237), (.int (own_F5_3 (own_F1 p0) (own_F1 p1) (own_F1 p2) (own_F1 p3) (own_F1 p4) (own_F1 p5)))])) rfl (by rw [hml]; rfl) (argsL := [(.ref b237), (.int (3 : Int32))]) (rest := [(.int (own_F5_3 (own_F1 p0) (own_F1 p1) (own_F1 p2) (own_F1 p3) (own_F1 p4) (own_F1 p5)))]) (lenOf own_pd0 rfl) rfl (by show 2 * 0 + _ ≤ _; exact Nat.le_of_eq rfl) (hb hby at_191) (fun _ _ => ⟨rfl, rfl, (by decide : 2 + 0 ≤ _), (by decide : 8 + 0 ≤ _)⟩))
  obtain ⟨-, -, e287⟩ := hQ287
  refine own_back st287 ?_
  show own_End p e below s _ _ _ (T287.setTop (mkF m 194 #[.val (.int p0), .val (.int p1), .val (.int p2), .val (.int p3), .val (.int p4), .val (.int p5), .val (.ref b237), .val (.ref b257), .val (.int (1 : Int32)), .val (.int (0 : Int32)), .val (.int (own_F5_1 (own_F1 p0) (own_F1 p1) (own_F1 p2) (own_F1 p3) (own_F1 p4) (own_F1 p5))), .val (.int (own_F5_2 (own_F1 p0) (own_F1 p1) (own_F1 p2) (own_F1 p3) (own_F1 p4) (own_F1 p5))), .val (.int (own_F5_3 (own_F1 p0) (own_F1 p1) (own_F1 p2) (own_F1 p3) (own_F1 p4) (own_F1 p5))), .unset, .unset, .unset] [(.int (own_F5_3 (own_F1 p0) (own_F1 p1) (own_F1 p2) (own_F1 p3) (own_F1 p4) (own_F1 p5))), (.int (own_F5_3 (own_F1 p0) (own_F1 p1) (own_F1 p2) (own_F1 p3) (own_F1 p4) (own_F1 p5)))]))
  refine own_icN X287 hx (hb hby at_194) (teq (rfl : (own_F5_3 (own_F1 p0) (own_F1 p1) (own_F1 p2) (own_F1 p3) (own_F1 p4) (own_F1 p5)) = (own_F5_3 (own_F1 p0) (own_F1 p1) (own_F1 p2) (own_F1 p3) (own_F1 p4) (own_F1 p5)))).2 (q := 197) rfl ?_
  refine own_iconst X287 hx (hb hby at_197) (z := 1) rfl (q := 198) rfl ?_
  refine own_goto X287 hx (hb hby at_198) (q := 202) (by decide) (by decide) ?_
  refine own_istore X287 hx (hb hby at_202) (l' := #[.val (.int p0), .val (.int p1), .val (.int p2), .val (.int p3), .val (.int p4), .val (.int p5), .val (.ref b237), .val (.ref b257), .val (.int (1 : Int32)), .val (.int (0 : Int32)), .val (.int (own_F5_1 (own_F1 p0) (own_F1 p1) (own_F1 p2) (own_F1 p3) (own_F1 p4) (own_F1 p5))), .val (.int (own_F5_2 (own_F1 p0) (own_F1 p1) (own_F1 p2) (own_F1 p3) (own_F1 p4) (own_F1 p5))), .val (.int (own_F5_3 (own_F1 p0) (own_F1 p1) (own_F1 p2) (own_F1 p3) (own_F1 p4) (own_F1 p5))), .unset, .unset, .unset]) rfl (q := 204) rfl ?_
  refine own_aload X287 hx (hb hby at_204) rfl rfl (q := 206) rfl ?_
  refine own_aload X287 hx (hb hby at_206) rfl rfl (q := 208) rfl ?_
  refine own_iconst X287 hx (hb hby at_208) (z := 4) rfl (q := 209) rfl ?_
  obtain ⟨cl288, Ar288, q288, S288, N288v, H288, G288⟩ := id V_b237_284
  have hin288 : ¬ ((4 : Int32) < 0 ∨ cl288.slots.size ≤ ((4 : Int32)).toNatClampNeg) := inb_of S288 ⟨by decide, by decide⟩
  refine own_back (X287.iaload hx (j := (4 : Int32)) (v := (.int (own_F1 p4))) (by rw [e287]; exact Ar288.1) (State.isArrayOf_alike hZ.alike Ar288.2.1) Ar288.2.2 hin288 (Has.at H288 hin288 rfl) (g := (mkF m 209 #[.val (.int p0), .val (.int p1), .val (.int p2), .val (.int p3), .val (.int p4), .val (.int p5), .val (.ref b237), .val (.ref b257), .val (.int (1 : Int32)), .val (.int (0 : Int32)), .val (.int (own_F5_1 (own_F1 p0) (own_F1 p1) (own_F1 p2) (own_F1 p3) (own_F1 p4) (own_F1 p5))), .val (.int (own_F5_2 (own_F1 p0) (own_F1 p1) (own_F1 p2) (own_F1 p3) (own_F1 p4) (own_F1 p5))), .val (.int (own_F5_3 (own_F1 p0) (own_F1 p1) (own_F1 p2) (own_F1 p3) (own_F1 p4) (own_F1 p5))), .unset, .unset, .unset] [(.int (4 : Int32)), (.ref b237), (.ref b257)])) rfl rfl (hb hby at_209)) ?_
  show own_End p e below s _ _ _ (T287.setTop (mkF m 210 #[.val (.int p0), .val (.int p1), .val (.int p2), .val (.int p3), .val (.int p4), .val (.int p5), .val (.ref b237), .val (.ref b257), .val (.int (1 : Int32)), .val (.int (0 : Int32)), .val (.int (own_F5_1 (own_F1 p0) (own_F1 p1) (own_F1 p2) (own_F1 p3) (own_F1 p4) (own_F1 p5))), .val (.int (own_F5_2 (own_F1 p0) (own_F1 p1) (own_F1 p2) (own_F1 p3) (own_F1 p4) (own_F1 p5))), .val (.int (own_F5_3 (own_F1 p0) (own_F1 p1) (own_F1 p2) (own_F1 p3) (own_F1 p4) (own_F1 p5))), .unset, .unset, .unset] [(.int (own_F1 p4)), (.ref b257)]))
  obtain ⟨cq289, kq289, q289a, q289b, q289c⟩ := isOf hZ e287 Q283_0
  obtain ⟨T289, Lc289, L289, X289, N289, hQ289, st289⟩ := own_shutV (val := some (.int (own_F4 (own_F1 p4) (own_E (own_F1 p3)) (own_F5_3 (own_F1 p0) (own_F1 p1) (own_F1 p2) (own_F1 p3) (own_F1 p4) (own_F1 p5))))) (Q := own_Q4 Z b257 (own_F1 p4) (own_E (own_F1 p3)) (own_F5_3 (own_F1 p0) (own_F1 p1) (own_F1 p2) (own_F1 p3) (own_F1 p4) (own_F1 p5)) T283.heap n0) (rc := 0) (rs := 0) N287 (fun _ _ _ q => ⟨q.1, q.2.1⟩) (X287.virtualBack hx (y := (⟨"com/example/renkei/renkei/codec/TwoByteRuns", "next", "(I)Z"⟩ : MethodName)) (z := (⟨"com/example/renkei/renkei/codec/TwoByteRuns", "next", "(I)Z"⟩ : MethodName)) hown (mvT hZ (hw _ (List.mem_of_getElem? (i := 14) rfl))) (mvT hZ (hw _ (List.mem_of_getElem? (i := 15) rfl))) (notFace_of_selects (args := #[]) (mvT hZ (hw _ (List.mem_of_getElem? (i := 17) rfl)))) (mvT hZ (hw _ (List.mem_of_getElem? (i := 17) rfl))) (mvT hZ (hw _ (List.mem_of_getElem? (i := 16) rfl))) (by decide) (backOf (W := 0) (own_rm4 l Z a0 hw [] b257 (own_F1 p4) (own_E (own_F1 p3)) (own_F5_3 (own_F1 p0) (own_F1 p1) (own_F1 p2) (own_F1 p3) (own_F1 p4) (own_F1 p5)) T283.heap n0 Z286 Q283_0 Q283_1 Q283_2 g_b257) hZ (hw _ (List.mem_of_getElem? (i := 18) rfl)) (hw _ (List.mem_of_getElem? (i := 7) rfl)) (by decide) (by decide)) q289a q289c (g := (mkF m 210 #[.val (.int p0), .val (.int p1), .val (.int p2), .val (.int p3), .val (.int p4), .val (.int p5), .val (.ref b237), .val (.ref b257), .val (.int (1 : Int32)), .val (.int (0 : Int32)), .val (.int (own_F5_1 (own_F1 p0) (own_F1 p1) (own_F1 p2) (own_F1 p3) (own_F1 p4) (own_F1 p5))), .val (.int (own_F5_2 (own_F1 p0) (own_F1 p1) (own_F1 p2) (own_F1 p3) (own_F1 p4) (own_F1 p5))), .val (.int (own_F5_3 (own_F1 p0) (own_F1 p1) (own_F1 p2) (own_F1 p3) (own_F1 p4) (own_F1 p5))), .unset, .unset, .unset] [(.int (own_F1 p4)), (.ref b257)])) rfl (by rw [hml]; rfl) (Steps.refl _) (argsL := [(.int (own_F1 p4))]) (rest := []) (lenOf own_pd3 rfl) rfl (by show 2 * 0 + _ ≤ _; exact Nat.le_of_eq rfl) (hb hby at_210) (fun _ _ => ⟨rfl, e287, (by decide : 2 + 0 ≤ _), (by decide : 8 + 0 ≤ _)⟩))
  obtain ⟨-, -, K289, Q289_0, Q289_1, Q289_2⟩ := hQ289
  have V_b237_290 := V_b237_284.keep K289 (ninS ne_b237_b257 nin0)
  have Q283_291 := Q283_0.keep K289
  have Z292 := Nat.le_trans Z286 K289.1
  refine own_via st289 ?_
  show own_End p e below s _ _ _ (T289.setTop (mkF m 213 #[.val (.int p0), .val (.int p1), .val (.int p2), .val (.int p3), .val (.int p4), .val (.int p5), .val (.ref b237), .val (.ref b257), .val (.int (1 : Int32)), .val (.int (0 : Int32)), .val (.int (own_F5_1 (own_F1 p0) (own_F1 p1) (own_F1 p2) (own_F1 p3) (own_F1 p4) (own_F1 p5))), .val (.int (own_F5_2 (own_F1 p0) (own_F1 p1) (own_F1 p2) (own_F1 p3) (own_F1 p4) (own_F1 p5))), .val (.int (own_F5_3 (own_F1 p0) (own_F1 p1) (own_F1 p2) (own_F1 p3) (own_F1 p4) (own_F1 p5))), .unset, .unset, .unset] [(.int (own_F4 (own_F1 p4) (own_E (own_F1 p3)) (own_F5_3 (own_F1 p0) (own_F1 p1) (own_F1 p2) (own_F1 p3) (own_F1 p4) (own_F1 p5))))]))
  rw [(own_t4 (own_F1 p0) (own_F1 p1) (own_F1 p2) (own_F1 p3) (own_F1 p4) (own_F1 p5)).2.1]
  rw [(own_t4 (own_F1 p0) (own_F1 p1) (own_F1 p2) (own_F1 p3) (own_F1 p4) (own_F1 p5)).1] at Q289_2
  rw [own_esc] at Q289_1
  show own_End p e below s _ _ _ (T289.setTop (mkF m 213 #[.val (.int p0), .val (.int p1), .val (.int p2), .val (.int p3), .val (.int p4), .val (.int p5), .val (.ref b237), .val (.ref b257), .val (.int (1 : Int32)), .val (.int (0 : Int32)), .val (.int (own_F5_1 (own_F1 p0) (own_F1 p1) (own_F1 p2) (own_F1 p3) (own_F1 p4) (own_F1 p5))), .val (.int (own_F5_2 (own_F1 p0) (own_F1 p1) (own_F1 p2) (own_F1 p3) (own_F1 p4) (own_F1 p5))), .val (.int (own_F5_3 (own_F1 p0) (own_F1 p1) (own_F1 p2) (own_F1 p3) (own_F1 p4) (own_F1 p5))), .unset, .unset, .unset] [(.int (own_F5_4 (own_F1 p0) (own_F1 p1) (own_F1 p2) (own_F1 p3) (own_F1 p4) (own_F1 p5)))]))
  refine own_istore X289 hx (hb hby at_213) (l' := #[.val (.int p0), .val (.int p1), .val (.int p2), .val (.int p3), .val (.int p4), .val (.int p5), .val (.ref b237), .val (.ref b257), .val (.int (1 : Int32)), .val (.int (0 : Int32)), .val (.int (own_F5_1 (own_F1 p0) (own_F1 p1) (own_F1 p2) (own_F1 p3) (own_F1 p4) (own_F1 p5))), .val (.int (own_F5_2 (own_F1 p0) (own_F1 p1) (own_F1 p2) (own_F1 p3) (own_F1 p4) (own_F1 p5))), .val (.int (own_F5_3 (own_F1 p0) (own_F1 p1) (own_F1 p2) (own_F1 p3) (own_F1 p4) (own_F1 p5))), .val (.int (own_F5_4 (own_F1 p0) (own_F1 p1) (own_F1 p2) (own_F1 p3) (own_F1 p4) (own_F1 p5))), .unset, .unset]) rfl (q := 215) rfl ?_
  refine own_iload X289 hx (hb hby at_215) rfl (q := 217) rfl ?_
  refine own_ifN X289 hx (hb hby at_217) (feq (by decide : ¬ ((1 : Int32) = (0 : Int32)))).1 (q := 220) rfl ?_
  refine own_iload X289 hx (hb hby at_220) rfl (q := 222) rfl ?_
  refine own_aload X289 hx (hb hby at_222) rfl rfl (q := 224) rfl ?_
  refine own_iconst X289 hx (hb hby at_224) (z := 4) rfl (q := 225) rfl ?_
  obtain ⟨T293, Lc293, L293, X293, N293, hQ293, st293⟩ := own_shutS (val := some (.int (own_F5_4 (own_F1 p0) (own_F1 p1) (own_F1 p2) (own_F1 p3) (own_F1 p4) (own_F1 p5)))) (Q := own_Q5_4 Z b237 k237 (own_F1 p0) (own_F1 p1) (own_F1 p2) (own_F1 p3) (own_F1 p4) (own_F1 p5) T289.heap n0) (rc := 0) (rs := 0) N289 (fun _ _ _ q => ⟨q.1, q.2.1⟩) (Jvm.LawKit.callS X289 hx (y := (⟨"com/example/renkei/renkei/codec/TwoByteRunsNextPinLaw", "expected", "([II)Z"⟩ : MethodName)) hown (mvT hZ (hw _ (List.mem_of_getElem? (i := 23) rfl))) (mvT hZ (hw _ (List.mem_of_getElem? (i := 24) rfl))) (mvT hZ (hw _ (List.mem_of_getElem? (i := 3) rfl))) (mvT hZ (hw _ (List.mem_of_getElem? (i := 25) rfl))) (by decide) (backOf (W := 1) (own_rm5_4 l Z a0 hw [] b237 k237 (own_F1 p0) (own_F1 p1) (own_F1 p2) (own_F1 p3) (own_F1 p4) (own_F1 p5) T289.heap n0 Z292 V_b237_290) hZ (hw _ (List.mem_of_getElem? (i := 25) rfl)) (hw _ (List.mem_of_getElem? (i := 3) rfl)) (by decide) (by decide)) (g := (mkF m 225 #[.val (.int p0), .val (.int p1), .val (.int p2), .val (.int p3), .val (.int p4), .val (.int p5), .val (.ref b237), .val (.ref b257), .val (.int (1 : Int32)), .val (.int (0 : Int32)), .val (.int (own_F5_1 (own_F1 p0) (own_F1 p1) (own_F1 p2) (own_F1 p3) (own_F1 p4) (own_F1 p5))), .val (.int (own_F5_2 (own_F1 p0) (own_F1 p1) (own_F1 p2) (own_F1 p3) (own_F1 p4) (own_F1 p5))), .val (.int (own_F5_3 (own_F1 p0) (own_F1 p1) (own_F1 p2) (own_F1 p3) (own_F1 p4) (own_F1 p5))), .val (.int (own_F5_4 (own_F1 p0) (own_F1 p1) (own_F1 p2) (own_F1 p3) (own_F1 p4) (own_F1 p5))), .unset, .unset] [(.int (4 : Int32)), (.ref b237), (.int (own_F5_4 (own_F1 p0) (own_F1 p1) (own_F1 p2) (own_F1 p3) (own_F1 p4) (own_F1 p5)))])) rfl (by rw [hml]; rfl) (argsL := [(.ref b237), (.int (4 : Int32))]) (rest := [(.int (own_F5_4 (own_F1 p0) (own_F1 p1) (own_F1 p2) (own_F1 p3) (own_F1 p4) (own_F1 p5)))]) (lenOf own_pd0 rfl) rfl (by show 2 * 0 + _ ≤ _; exact Nat.le_of_eq rfl) (hb hby at_225) (fun _ _ => ⟨rfl, rfl, (by decide : 2 + 0 ≤ _), (by decide : 8 + 0 ≤ _)⟩))
  obtain ⟨-, -, e293⟩ := hQ293
  refine own_back st293 ?_
  show own_End p e below s _ _ _ (T293.setTop (mkF m 228 #[.val (.int p0), .val (.int p1), .val (.int p2), .val (.int p3), .val (.int p4), .val (.int p5), .val (.ref b237), .val (.ref b257), .val (.int (1 : Int32)), .val (.int (0 : Int32)), .val (.int (own_F5_1 (own_F1 p0) (own_F1 p1) (own_F1 p2) (own_F1 p3) (own_F1 p4) (own_F1 p5))), .val (.int (own_F5_2 (own_F1 p0) (own_F1 p1) (own_F1 p2) (own_F1 p3) (own_F1 p4) (own_F1 p5))), .val (.int (own_F5_3 (own_F1 p0) (own_F1 p1) (own_F1 p2) (own_F1 p3) (own_F1 p4) (own_F1 p5))), .val (.int (own_F5_4 (own_F1 p0) (own_F1 p1) (own_F1 p2) (own_F1 p3) (own_F1 p4) (own_F1 p5))), .unset, .unset] [(.int (own_F5_4 (own_F1 p0) (own_F1 p1) (own_F1 p2) (own_F1 p3) (own_F1 p4) (own_F1 p5))), (.int (own_F5_4 (own_F1 p0) (own_F1 p1) (own_F1 p2) (own_F1 p3) (own_F1 p4) (own_F1 p5)))]))
  refine own_icN X293 hx (hb hby at_228) (teq (rfl : (own_F5_4 (own_F1 p0) (own_F1 p1) (own_F1 p2) (own_F1 p3) (own_F1 p4) (own_F1 p5)) = (own_F5_4 (own_F1 p0) (own_F1 p1) (own_F1 p2) (own_F1 p3) (own_F1 p4) (own_F1 p5)))).2 (q := 231) rfl ?_
  refine own_iconst X293 hx (hb hby at_231) (z := 1) rfl (q := 232) rfl ?_
  refine own_goto X293 hx (hb hby at_232) (q := 236) (by decide) (by decide) ?_
  refine own_istore X293 hx (hb hby at_236) (l' := #[.val (.int p0), .val (.int p1), .val (.int p2), .val (.int p3), .val (.int p4), .val (.int p5), .val (.ref b237), .val (.ref b257), .val (.int (1 : Int32)), .val (.int (0 : Int32)), .val (.int (own_F5_1 (own_F1 p0) (own_F1 p1) (own_F1 p2) (own_F1 p3) (own_F1 p4) (own_F1 p5))), .val (.int (own_F5_2 (own_F1 p0) (own_F1 p1) (own_F1 p2) (own_F1 p3) (own_F1 p4) (own_F1 p5))), .val (.int (own_F5_3 (own_F1 p0) (own_F1 p1) (own_F1 p2) (own_F1 p3) (own_F1 p4) (own_F1 p5))), .val (.int (own_F5_4 (own_F1 p0) (own_F1 p1) (own_F1 p2) (own_F1 p3) (own_F1 p4) (own_F1 p5))), .unset, .unset]) rfl (q := 238) rfl ?_
  refine own_aload X293 hx (hb hby at_238) rfl rfl (q := 240) rfl ?_
  refine own_aload X293 hx (hb hby at_240) rfl rfl (q := 242) rfl ?_
  refine own_iconst X293 hx (hb hby at_242) (z := 5) rfl (q := 243) rfl ?_
  obtain ⟨cl294, Ar294, q294, S294, N294v, H294, G294⟩ := id V_b237_290
  have hin294 : ¬ ((5 : Int32) < 0 ∨ cl294.slots.size ≤ ((5 : Int32)).toNatClampNeg) := inb_of S294 ⟨by decide, by decide⟩
  refine own_back (X293.iaload hx (j := (5 : Int32)) (v := (.int (own_F1 p5))) (by rw [e293]; exact Ar294.1) (State.isArrayOf_alike hZ.alike Ar294.2.1) Ar294.2.2 hin294 (Has.at H294 hin294 rfl) (g := (mkF m 243 #[.val (.int p0), .val (.int p1), .val (.int p2), .val (.int p3), .val (.int p4), .val (.int p5), .val (.ref b237), .val (.ref b257), .val (.int (1 : Int32)), .val (.int (0 : Int32)), .val (.int (own_F5_1 (own_F1 p0) (own_F1 p1) (own_F1 p2) (own_F1 p3) (own_F1 p4) (own_F1 p5))), .val (.int (own_F5_2 (own_F1 p0) (own_F1 p1) (own_F1 p2) (own_F1 p3) (own_F1 p4) (own_F1 p5))), .val (.int (own_F5_3 (own_F1 p0) (own_F1 p1) (own_F1 p2) (own_F1 p3) (own_F1 p4) (own_F1 p5))), .val (.int (own_F5_4 (own_F1 p0) (own_F1 p1) (own_F1 p2) (own_F1 p3) (own_F1 p4) (own_F1 p5))), .unset, .unset] [(.int (5 : Int32)), (.ref b237), (.ref b257)])) rfl rfl (hb hby at_243)) ?_
  show own_End p e below s _ _ _ (T293.setTop (mkF m 244 #[.val (.int p0), .val (.int p1), .val (.int p2), .val (.int p3), .val (.int p4), .val (.int p5), .val (.ref b237), .val (.ref b257), .val (.int (1 : Int32)), .val (.int (0 : Int32)), .val (.int (own_F5_1 (own_F1 p0) (own_F1 p1) (own_F1 p2) (own_F1 p3) (own_F1 p4) (own_F1 p5))), .val (.int (own_F5_2 (own_F1 p0) (own_F1 p1) (own_F1 p2) (own_F1 p3) (own_F1 p4) (own_F1 p5))), .val (.int (own_F5_3 (own_F1 p0) (own_F1 p1) (own_F1 p2) (own_F1 p3) (own_F1 p4) (own_F1 p5))), .val (.int (own_F5_4 (own_F1 p0) (own_F1 p1) (own_F1 p2) (own_F1 p3) (own_F1 p4) (own_F1 p5))), .unset, .unset] [(.int (own_F1 p5)), (.ref b257)]))
  obtain ⟨cq295, kq295, q295a, q295b, q295c⟩ := isOf hZ e293 Q289_0
  obtain ⟨T295, Lc295, L295, X295, N295, hQ295, st295⟩ := own_shutV (val := some (.int (own_F4 (own_F1 p5) (own_E (own_F1 p4)) (own_F5_4 (own_F1 p0) (own_F1 p1) (own_F1 p2) (own_F1 p3) (own_F1 p4) (own_F1 p5))))) (Q := own_Q4 Z b257 (own_F1 p5) (own_E (own_F1 p4)) (own_F5_4 (own_F1 p0) (own_F1 p1) (own_F1 p2) (own_F1 p3) (own_F1 p4) (own_F1 p5)) T289.heap n0) (rc := 0) (rs := 0) N293 (fun _ _ _ q => ⟨q.1, q.2.1⟩) (X293.virtualBack hx (y := (⟨"com/example/renkei/renkei/codec/TwoByteRuns", "next", "(I)Z"⟩ : MethodName)) (z := (⟨"com/example/renkei/renkei/codec/TwoByteRuns", "next", "(I)Z"⟩ : MethodName)) hown (mvT hZ (hw _ (List.mem_of_getElem? (i := 14) rfl))) (mvT hZ (hw _ (List.mem_of_getElem? (i := 15) rfl))) (notFace_of_selects (args := #[]) (mvT hZ (hw _ (List.mem_of_getElem? (i := 17) rfl)))) (mvT hZ (hw _ (List.mem_of_getElem? (i := 17) rfl))) (mvT hZ (hw _ (List.mem_of_getElem? (i := 16) rfl))) (by decide) (backOf (W := 0) (own_rm4 l Z a0 hw [] b257 (own_F1 p5) (own_E (own_F1 p4)) (own_F5_4 (own_F1 p0) (own_F1 p1) (own_F1 p2) (own_F1 p3) (own_F1 p4) (own_F1 p5)) T289.heap n0 Z292 Q289_0 Q289_1 Q289_2 g_b257) hZ (hw _ (List.mem_of_getElem? (i := 18) rfl)) (hw _ (List.mem_of_getElem? (i := 7) rfl)) (by decide) (by decide)) q295a q295c (g := (mkF m 244 #[.val (.int p0), .val (.int p1), .val (.int p2), .val (.int p3), .val (.int p4), .val (.int p5), .val (.ref b237), .val (.ref b257), .val (.int (1 : Int32)), .val (.int (0 : Int32)), .val (.int (own_F5_1 (own_F1 p0) (own_F1 p1) (own_F1 p2) (own_F1 p3) (own_F1 p4) (own_F1 p5))), .val (.int (own_F5_2 (own_F1 p0) (own_F1 p1) (own_F1 p2) (own_F1 p3) (own_F1 p4) (own_F1 p5))), .val (.int (own_F5_3 (own_F1 p0) (own_F1 p1) (own_F1 p2) (own_F1 p3) (own_F1 p4) (own_F1 p5))), .val (.int (own_F5_4 (own_F1 p0) (own_F1 p1) (own_F1 p2) (own_F1 p3) (own_F1 p4) (own_F1 p5))), .unset, .unset] [(.int (own_F1 p5)), (.ref b257)])) rfl (by rw [hml]; rfl) (Steps.refl _) (argsL := [(.int (own_F1 p5))]) (rest := []) (lenOf own_pd3 rfl) rfl (by show 2 * 0 + _ ≤ _; exact Nat.le_of_eq rfl) (hb hby at_244) (fun _ _ => ⟨rfl, e293, (by decide : 2 + 0 ≤ _), (by decide : 8 + 0 ≤ _)⟩))
  obtain ⟨-, -, K295, Q295_0, Q295_1, Q295_2⟩ := hQ295
  have V_b237_296 := V_b237_290.keep K295 (ninS ne_b237_b257 nin0)
  have Q289_297 := Q289_0.keep K295
  have Z298 := Nat.le_trans Z292 K295.1
  refine own_via st295 ?_
  show own_End p e below s _ _ _ (T295.setTop (mkF m 247 #[.val (.int p0), .val (.int p1), .val (.int p2), .val (.int p3), .val (.int p4), .val (.int p5), .val (.ref b237), .val (.ref b257), .val (.int (1 : Int32)), .val (.int (0 : Int32)), .val (.int (own_F5_1 (own_F1 p0) (own_F1 p1) (own_F1 p2) (own_F1 p3) (own_F1 p4) (own_F1 p5))), .val (.int (own_F5_2 (own_F1 p0) (own_F1 p1) (own_F1 p2) (own_F1 p3) (own_F1 p4) (own_F1 p5))), .val (.int (own_F5_3 (own_F1 p0) (own_F1 p1) (own_F1 p2) (own_F1 p3) (own_F1 p4) (own_F1 p5))), .val (.int (own_F5_4 (own_F1 p0) (own_F1 p1) (own_F1 p2) (own_F1 p3) (own_F1 p4) (own_F1 p5))), .unset, .unset] [(.int (own_F4 (own_F1 p5) (own_E (own_F1 p4)) (own_F5_4 (own_F1 p0) (own_F1 p1) (own_F1 p2) (own_F1 p3) (own_F1 p4) (own_F1 p5))))]))
  rw [(own_t5 (own_F1 p0) (own_F1 p1) (own_F1 p2) (own_F1 p3) (own_F1 p4) (own_F1 p5)).2.1]
  rw [(own_t5 (own_F1 p0) (own_F1 p1) (own_F1 p2) (own_F1 p3) (own_F1 p4) (own_F1 p5)).1] at Q295_2
  rw [own_esc] at Q295_1
  show own_End p e below s _ _ _ (T295.setTop (mkF m 247 #[.val (.int p0), .val (.int p1), .val (.int p2), .val (.int p3), .val (.int p4), .val (.int p5), .val (.ref b237), .val (.ref b257), .val (.int (1 : Int32)), .val (.int (0 : Int32)), .val (.int (own_F5_1 (own_F1 p0) (own_F1 p1) (own_F1 p2) (own_F1 p3) (own_F1 p4) (own_F1 p5))), .val (.int (own_F5_2 (own_F1 p0) (own_F1 p1) (own_F1 p2) (own_F1 p3) (own_F1 p4) (own_F1 p5))), .val (.int (own_F5_3 (own_F1 p0) (own_F1 p1) (own_F1 p2) (own_F1 p3) (own_F1 p4) (own_F1 p5))), .val (.int (own_F5_4 (own_F1 p0) (own_F1 p1) (own_F1 p2) (own_F1 p3) (own_F1 p4) (own_F1 p5))), .unset, .unset] [(.int (own_F5_5 (own_F1 p0) (own_F1 p1) (own_F1 p2) (own_F1 p3) (own_F1 p4) (own_F1 p5)))]))
  refine own_istore X295 hx (hb hby at_247) (l' := #[.val (.int p0), .val (.int p1), .val (.int p2), .val (.int p3), .val (.int p4), .val (.int p5), .val (.ref b237), .val (.ref b257), .val (.int (1 : Int32)), .val (.int (0 : Int32)), .val (.int (own_F5_1 (own_F1 p0) (own_F1 p1) (own_F1 p2) (own_F1 p3) (own_F1 p4) (own_F1 p5))), .val (.int (own_F5_2 (own_F1 p0) (own_F1 p1) (own_F1 p2) (own_F1 p3) (own_F1 p4) (own_F1 p5))), .val (.int (own_F5_3 (own_F1 p0) (own_F1 p1) (own_F1 p2) (own_F1 p3) (own_F1 p4) (own_F1 p5))), .val (.int (own_F5_4 (own_F1 p0) (own_F1 p1) (own_F1 p2) (own_F1 p3) (own_F1 p4) (own_F1 p5))), .val (.int (own_F5_5 (own_F1 p0) (own_F1 p1) (own_F1 p2) (own_F1 p3) (own_F1 p4) (own_F1 p5))), .unset]) rfl (q := 249) rfl ?_
  refine own_iload X295 hx (hb hby at_249) rfl (q := 251) rfl ?_
  refine own_ifN X295 hx (hb hby at_251) (feq (by decide : ¬ ((1 : Int32) = (0 : Int32)))).1 (q := 254) rfl ?_
  refine own_iload X295 hx (hb hby at_254) rfl (q := 256) rfl ?_
  refine own_aload X295 hx (hb hby at_256) rfl rfl (q := 258) rfl ?_
  refine own_iconst X295 hx (hb hby at_258) (z := 5) rfl (q := 259) rfl ?_
  obtain ⟨T299, Lc299, L299, X299, N299, hQ299, st299⟩ := own_shutS (val := some (.int (own_F5_5 (own_F1 p0) (own_F1 p1) (own_F1 p2) (own_F1 p3) (own_F1 p4) (own_F1 p5)))) (Q := own_Q5_5 Z b237 k237 (own_F1 p0) (own_F1 p1) (own_F1 p2) (own_F1 p3) (own_F1 p4) (own_F1 p5) T295.heap n0) (rc := 0) (rs := 0) N295 (fun _ _ _ q => ⟨q.1, q.2.1⟩) (Jvm.LawKit.callS X295 hx (y := (⟨"com/example/renkei/renkei/codec/TwoByteRunsNextPinLaw", "expected", "([II)Z"⟩ : MethodName)) hown (mvT hZ (hw _ (List.mem_of_getElem? (i := 23) rfl))) (mvT hZ (hw _ (List.mem_of_getElem? (i := 24) rfl))) (mvT hZ (hw _ (List.mem_of_getElem? (i := 3) rfl))) (mvT hZ (hw _ (List.mem_of_getElem? (i := 25) rfl))) (by decide) (backOf (W := 1) (own_rm5_5 l Z a0 hw [] b237 k237 (own_F1 p0) (own_F1 p1) (own_F1 p2) (own_F1 p3) (own_F1 p4) (own_F1 p5) T295.heap n0 Z298 V_b237_296) hZ (hw _ (List.mem_of_getElem? (i := 25) rfl)) (hw _ (List.mem_of_getElem? (i := 3) rfl)) (by decide) (by decide)) (g := (mkF m 259 #[.val (.int p0), .val (.int p1), .val (.int p2), .val (.int p3), .val (.int p4), .val (.int p5), .val (.ref b237), .val (.ref b257), .val (.int (1 : Int32)), .val (.int (0 : Int32)), .val (.int (own_F5_1 (own_F1 p0) (own_F1 p1) (own_F1 p2) (own_F1 p3) (own_F1 p4) (own_F1 p5))), .val (.int (own_F5_2 (own_F1 p0) (own_F1 p1) (own_F1 p2) (own_F1 p3) (own_F1 p4) (own_F1 p5))), .val (.int (own_F5_3 (own_F1 p0) (own_F1 p1) (own_F1 p2) (own_F1 p3) (own_F1 p4) (own_F1 p5))), .val (.int (own_F5_4 (own_F1 p0) (own_F1 p1) (own_F1 p2) (own_F1 p3) (own_F1 p4) (own_F1 p5))), .val (.int (own_F5_5 (own_F1 p0) (own_F1 p1) (own_F1 p2) (own_F1 p3) (own_F1 p4) (own_F1 p5))), .unset] [(.int (5 : Int32)), (.ref b237), (.int (own_F5_5 (own_F1 p0) (own_F1 p1) (own_F1 p2) (own_F1 p3) (own_F1 p4) (own_F1 p5)))])) rfl (by rw [hml]; rfl) (argsL := [(.ref b237), (.int (5 : Int32))]) (rest := [(.int (own_F5_5 (own_F1 p0) (own_F1 p1) (own_F1 p2) (own_F1 p3) (own_F1 p4) (own_F1 p5)))]) (lenOf own_pd0 rfl) rfl (by show 2 * 0 + _ ≤ _; exact Nat.le_of_eq rfl) (hb hby at_259) (fun _ _ => ⟨rfl, rfl, (by decide : 2 + 0 ≤ _), (by decide : 8 + 0 ≤ _)⟩))
  obtain ⟨-, -, e299⟩ := hQ299
  refine own_back st299 ?_
  show own_End p e below s _ _ _ (T299.setTop (mkF m 262 #[.val (.int p0), .val (.int p1), .val (.int p2), .val (.int p3), .val (.int p4), .val (.int p5), .val (.ref b237), .val (.ref b257), .val (.int (1 : Int32)), .val (.int (0 : Int32)), .val (.int (own_F5_1 (own_F1 p0) (own_F1 p1) (own_F1 p2) (own_F1 p3) (own_F1 p4) (own_F1 p5))), .val (.int (own_F5_2 (own_F1 p0) (own_F1 p1) (own_F1 p2) (own_F1 p3) (own_F1 p4) (own_F1 p5))), .val (.int (own_F5_3 (own_F1 p0) (own_F1 p1) (own_F1 p2) (own_F1 p3) (own_F1 p4) (own_F1 p5))), .val (.int (own_F5_4 (own_F1 p0) (own_F1 p1) (own_F1 p2) (own_F1 p3) (own_F1 p4) (own_F1 p5))), .val (.int (own_F5_5 (own_F1 p0) (own_F1 p1) (own_F1 p2) (own_F1 p3) (own_F1 p4) (own_F1 p5))), .unset] [(.int (own_F5_5 (own_F1 p0) (own_F1 p1) (own_F1 p2) (own_F1 p3) (own_F1 p4) (own_F1 p5))), (.int (own_F5_5 (own_F1 p0) (own_F1 p1) (own_F1 p2) (own_F1 p3) (own_F1 p4) (own_F1 p5)))]))
  refine own_icN X299 hx (hb hby at_262) (teq (rfl : (own_F5_5 (own_F1 p0) (own_F1 p1) (own_F1 p2) (own_F1 p3) (own_F1 p4) (own_F1 p5)) = (own_F5_5 (own_F1 p0) (own_F1 p1) (own_F1 p2) (own_F1 p3) (own_F1 p4) (own_F1 p5)))).2 (q := 265) rfl ?_
  refine own_iconst X299 hx (hb hby at_265) (z := 1) rfl (q := 266) rfl ?_
  refine own_goto X299 hx (hb hby at_266) (q := 270) (by decide) (by decide) ?_
  refine own_istore X299 hx (hb hby at_270) (l' := #[.val (.int p0), .val (.int p1), .val (.int p2), .val (.int p3), .val (.int p4), .val (.int p5), .val (.ref b237), .val (.ref b257), .val (.int (1 : Int32)), .val (.int (0 : Int32)), .val (.int (own_F5_1 (own_F1 p0) (own_F1 p1) (own_F1 p2) (own_F1 p3) (own_F1 p4) (own_F1 p5))), .val (.int (own_F5_2 (own_F1 p0) (own_F1 p1) (own_F1 p2) (own_F1 p3) (own_F1 p4) (own_F1 p5))), .val (.int (own_F5_3 (own_F1 p0) (own_F1 p1) (own_F1 p2) (own_F1 p3) (own_F1 p4) (own_F1 p5))), .val (.int (own_F5_4 (own_F1 p0) (own_F1 p1) (own_F1 p2) (own_F1 p3) (own_F1 p4) (own_F1 p5))), .val (.int (own_F5_5 (own_F1 p0) (own_F1 p1) (own_F1 p2) (own_F1 p3) (own_F1 p4) (own_F1 p5))), .unset]) rfl (q := 272) rfl ?_
  refine own_aload X299 hx (hb hby at_272) rfl rfl (q := 274) rfl ?_
  obtain ⟨cq300, kq300, q300a, q300b, q300c⟩ := isOf hZ e299 Q295_0
  obtain ⟨T300, Lc300, L300, X300, N300, hQ300, st300⟩ := own_shutV (val := some (.int (own_F7 (own_E (own_F1 p5)) (own_F5_5 (own_F1 p0) (own_F1 p1) (own_F1 p2) (own_F1 p3) (own_F1 p4) (own_F1 p5))))) (Q := own_Q7 Z b257 (own_E (own_F1 p5)) (own_F5_5 (own_F1 p0) (own_F1 p1) (own_F1 p2) (own_F1 p3) (own_F1 p4) (own_F1 p5)) T295.heap n0) (rc := 0) (rs := 0) N299 (fun _ _ _ q => ⟨q.1, q.2.1⟩) (X299.virtualBack hx (y := (⟨"com/example/renkei/renkei/codec/TwoByteRuns", "settled", "()Z"⟩ : MethodName)) (z := (⟨"com/example/renkei/renkei/codec/TwoByteRuns", "settled", "()Z"⟩ : MethodName)) hown (mvT hZ (hw _ (List.mem_of_getElem? (i := 29) rfl))) (mvT hZ (hw _ (List.mem_of_getElem? (i := 30) rfl))) (notFace_of_selects (args := #[]) (mvT hZ (hw _ (List.mem_of_getElem? (i := 32) rfl)))) (mvT hZ (hw _ (List.mem_of_getElem? (i := 32) rfl))) (mvT hZ (hw _ (List.mem_of_getElem? (i := 31) rfl))) (by decide) (backOf (W := 0) (own_rm7 l Z a0 hw [] b257 (own_E (own_F1 p5)) (own_F5_5 (own_F1 p0) (own_F1 p1) (own_F1 p2) (own_F1 p3) (own_F1 p4) (own_F1 p5)) T295.heap n0 Z298 Q295_0 Q295_1 Q295_2) hZ (hw _ (List.mem_of_getElem? (i := 33) rfl)) (hw _ (List.mem_of_getElem? (i := 7) rfl)) (by decide) (by decide)) q300a q300c (g := (mkF m 274 #[.val (.int p0), .val (.int p1), .val (.int p2), .val (.int p3), .val (.int p4), .val (.int p5), .val (.ref b237), .val (.ref b257), .val (.int (1 : Int32)), .val (.int (0 : Int32)), .val (.int (own_F5_1 (own_F1 p0) (own_F1 p1) (own_F1 p2) (own_F1 p3) (own_F1 p4) (own_F1 p5))), .val (.int (own_F5_2 (own_F1 p0) (own_F1 p1) (own_F1 p2) (own_F1 p3) (own_F1 p4) (own_F1 p5))), .val (.int (own_F5_3 (own_F1 p0) (own_F1 p1) (own_F1 p2) (own_F1 p3) (own_F1 p4) (own_F1 p5))), .val (.int (own_F5_4 (own_F1 p0) (own_F1 p1) (own_F1 p2) (own_F1 p3) (own_F1 p4) (own_F1 p5))), .val (.int (own_F5_5 (own_F1 p0) (own_F1 p1) (own_F1 p2) (own_F1 p3) (own_F1 p4) (own_F1 p5))), .unset] [(.ref b257)])) rfl (by rw [hml]; rfl) (Steps.refl _) (argsL := []) (rest := []) (lenOf own_pd4 rfl) rfl (by show 2 * 0 + _ ≤ _; exact Nat.le_of_eq rfl) (hb hby at_274) (fun _ _ => ⟨rfl, e299, (by decide : 2 + 0 ≤ _), (by decide : 8 + 0 ≤ _)⟩))
  obtain ⟨-, -, e300⟩ := hQ300
  refine own_via st300 ?_
  show own_End p e below s _ _ _ (T300.setTop (mkF m 277 #[.val (.int p0), .val (.int p1), .val (.int p2), .val (.int p3), .val (.int p4), .val (.int p5), .val (.ref b237), .val (.ref b257), .val (.int (1 : Int32)), .val (.int (0 : Int32)), .val (.int (own_F5_1 (own_F1 p0) (own_F1 p1) (own_F1 p2) (own_F1 p3) (own_F1 p4) (own_F1 p5))), .val (.int (own_F5_2 (own_F1 p0) (own_F1 p1) (own_F1 p2) (own_F1 p3) (own_F1 p4) (own_F1 p5))), .val (.int (own_F5_3 (own_F1 p0) (own_F1 p1) (own_F1 p2) (own_F1 p3) (own_F1 p4) (own_F1 p5))), .val (.int (own_F5_4 (own_F1 p0) (own_F1 p1) (own_F1 p2) (own_F1 p3) (own_F1 p4) (own_F1 p5))), .val (.int (own_F5_5 (own_F1 p0) (own_F1 p1) (own_F1 p2) (own_F1 p3) (own_F1 p4) (own_F1 p5))), .unset] [(.int (own_F7 (own_E (own_F1 p5)) (own_F5_5 (own_F1 p0) (own_F1 p1) (own_F1 p2) (own_F1 p3) (own_F1 p4) (own_F1 p5))))]))
  refine own_istore X300 hx (hb hby at_277) (l' := #[.val (.int p0), .val (.int p1), .val (.int p2), .val (.int p3), .val (.int p4), .val (.int p5), .val (.ref b237), .val (.ref b257), .val (.int (1 : Int32)), .val (.int (0 : Int32)), .val (.int (own_F5_1 (own_F1 p0) (own_F1 p1) (own_F1 p2) (own_F1 p3) (own_F1 p4) (own_F1 p5))), .val (.int (own_F5_2 (own_F1 p0) (own_F1 p1) (own_F1 p2) (own_F1 p3) (own_F1 p4) (own_F1 p5))), .val (.int (own_F5_3 (own_F1 p0) (own_F1 p1) (own_F1 p2) (own_F1 p3) (own_F1 p4) (own_F1 p5))), .val (.int (own_F5_4 (own_F1 p0) (own_F1 p1) (own_F1 p2) (own_F1 p3) (own_F1 p4) (own_F1 p5))), .val (.int (own_F5_5 (own_F1 p0) (own_F1 p1) (own_F1 p2) (own_F1 p3) (own_F1 p4) (own_F1 p5))), .val (.int (own_F7 (own_E (own_F1 p5)) (own_F5_5 (own_F1 p0) (own_F1 p1) (own_F1 p2) (own_F1 p3) (own_F1 p4) (own_F1 p5))))]) rfl (q := 279) rfl ?_
  refine own_iload X300 hx (hb hby at_279) rfl (q := 281) rfl ?_
  refine own_ifN X300 hx (hb hby at_281) (feq (by decide : ¬ ((1 : Int32) = (0 : Int32)))).1 (q := 284) rfl ?_
  refine own_iload X300 hx (hb hby at_284) rfl (q := 286) rfl ?_
  refine own_aload X300 hx (hb hby at_286) rfl rfl (q := 288) rfl ?_
  refine own_iconst X300 hx (hb hby at_288) (z := 5) rfl (q := 289) rfl ?_
  obtain ⟨T301, Lc301, L301, X301, N301, hQ301, st301⟩ := own_shutS (val := some (.int (own_F5_5 (own_F1 p0) (own_F1 p1) (own_F1 p2) (own_F1 p3) (own_F1 p4) (own_F1 p5)))) (Q := own_Q5_5 Z b237 k237 (own_F1 p0) (own_F1 p1) (own_F1 p2) (own_F1 p3) (own_F1 p4) (own_F1 p5) T295.heap n0) (rc := 0) (rs := 0) N300 (fun _ _ _ q => ⟨q.1, q.2.1⟩) (Jvm.LawKit.callS X300 hx (y := (⟨"com/example/renkei/renkei/codec/TwoByteRunsNextPinLaw", "expected", "([II)Z"⟩ : MethodName)) hown (mvT hZ (hw _ (List.mem_of_getElem? (i := 23) rfl))) (mvT hZ (hw _ (List.mem_of_getElem? (i := 24) rfl))) (mvT hZ (hw _ (List.mem_of_getElem? (i := 3) rfl))) (mvT hZ (hw _ (List.mem_of_getElem? (i := 25) rfl))) (by decide) (backOf (W := 1) (own_rm5_5 l Z a0 hw [] b237 k237 (own_F1 p0) (own_F1 p1) (own_F1 p2) (own_F1 p3) (own_F1 p4) (own_F1 p5) T295.heap n0 Z298 V_b237_296) hZ (hw _ (List.mem_of_getElem? (i := 25) rfl)) (hw _ (List.mem_of_getElem? (i := 3) rfl)) (by decide) (by decide)) (g := (mkF m 289 #[.val (.int p0), .val (.int p1), .val (.int p2), .val (.int p3), .val (.int p4), .val (.int p5), .val (.ref b237), .val (.ref b257), .val (.int (1 : Int32)), .val (.int (0 : Int32)), .val (.int (own_F5_1 (own_F1 p0) (own_F1 p1) (own_F1 p2) (own_F1 p3) (own_F1 p4) (own_F1 p5))), .val (.int (own_F5_2 (own_F1 p0) (own_F1 p1) (own_F1 p2) (own_F1 p3) (own_F1 p4) (own_F1 p5))), .val (.int (own_F5_3 (own_F1 p0) (own_F1 p1) (own_F1 p2) (own_F1 p3) (own_F1 p4) (own_F1 p5))), .val (.int (own_F5_4 (own_F1 p0) (own_F1 p1) (own_F1 p2) (own_F1 p3) (own_F1 p4) (own_F1 p5))), .val (.int (own_F5_5 (own_F1 p0) (own_F1 p1) (own_F1 p2) (own_F1 p3) (own_F1 p4) (own_F1 p5))), .val (.int (own_F7 (own_E (own_F1 p5)) (own_F5_5 (own_F1 p0) (own_F1 p1) (own_F1 p2) (own_F1 p3) (own_F1 p4) (own_F1 p5))))] [(.int (5 : Int32)), (.ref b237), (.int (own_F7 (own_E (own_F1 p5)) (own_F5_5 (own_F1 p0) (own_F1 p1) (own_F1 p2) (own_F1 p3) (own_F1 p4) (own_F1 p5))))])) rfl (by rw [hml]; rfl) (argsL := [(.ref b237), (.int (5 : Int32))]) (rest := [(.int (own_F7 (own_E (own_F1 p5)) (own_F5_5 (own_F1 p0) (own_F1 p1) (own_F1 p2) (own_F1 p3) (own_F1 p4) (own_F1 p5))))]) (lenOf own_pd0 rfl) rfl (by show 2 * 0 + _ ≤ _; exact Nat.le_of_eq rfl) (hb hby at_289) (fun _ _ => ⟨rfl, e300, (by decide : 2 + 0 ≤ _), (by decide : 8 + 0 ≤ _)⟩))
  obtain ⟨-, -, e301⟩ := hQ301
  refine own_back st301 ?_
  show own_End p e below s _ _ _ (T301.setTop (mkF m 292 #[.val (.int p0), .val (.int p1), .val (.int p2), .val (.int p3), .val (.int p4), .val (.int p5), .val (.ref b237), .val (.ref b257), .val (.int (1 : Int32)), .val (.int (0 : Int32)), .val (.int (own_F5_1 (own_F1 p0) (own_F1 p1) (own_F1 p2) (own_F1 p3) (own_F1 p4) (own_F1 p5))), .val (.int (own_F5_2 (own_F1 p0) (own_F1 p1) (own_F1 p2) (own_F1 p3) (own_F1 p4) (own_F1 p5))), .val (.int (own_F5_3 (own_F1 p0) (own_F1 p1) (own_F1 p2) (own_F1 p3) (own_F1 p4) (own_F1 p5))), .val (.int (own_F5_4 (own_F1 p0) (own_F1 p1) (own_F1 p2) (own_F1 p3) (own_F1 p4) (own_F1 p5))), .val (.int (own_F5_5 (own_F1 p0) (own_F1 p1) (own_F1 p2) (own_F1 p3) (own_F1 p4) (own_F1 p5))), .val (.int (own_F7 (own_E (own_F1 p5)) (own_F5_5 (own_F1 p0) (own_F1 p1) (own_F1 p2) (own_F1 p3) (own_F1 p4) (own_F1 p5))))] [(.int (own_F5_5 (own_F1 p0) (own_F1 p1) (own_F1 p2) (own_F1 p3) (own_F1 p4) (own_F1 p5))), (.int (own_F7 (own_E (own_F1 p5)) (own_F5_5 (own_F1 p0) (own_F1 p1) (own_F1 p2) (own_F1 p3) (own_F1 p4) (own_F1 p5))))]))
  suffices J310 : own_End p e below s (own_Q0 Z p0 p1 p2 p3 p4 p5 h0 n0) room_1.cells room_1.slots (T301.setTop (mkF m 309 #[.val (.int p0), .val (.int p1), .val (.int p2), .val (.int p3), .val (.int p4), .val (.int p5), .val (.ref b237), .val (.ref b257), .val (.int (1 : Int32)), .val (.int (0 : Int32)), .val (.int (own_F5_1 (own_F1 p0) (own_F1 p1) (own_F1 p2) (own_F1 p3) (own_F1 p4) (own_F1 p5))), .val (.int (own_F5_2 (own_F1 p0) (own_F1 p1) (own_F1 p2) (own_F1 p3) (own_F1 p4) (own_F1 p5))), .val (.int (own_F5_3 (own_F1 p0) (own_F1 p1) (own_F1 p2) (own_F1 p3) (own_F1 p4) (own_F1 p5))), .val (.int (own_F5_4 (own_F1 p0) (own_F1 p1) (own_F1 p2) (own_F1 p3) (own_F1 p4) (own_F1 p5))), .val (.int (own_F5_5 (own_F1 p0) (own_F1 p1) (own_F1 p2) (own_F1 p3) (own_F1 p4) (own_F1 p5))), .val (.int (own_F7 (own_E (own_F1 p5)) (own_F5_5 (own_F1 p0) (own_F1 p1) (own_F1 p2) (own_F1 p3) (own_F1 p4) (own_F1 p5))))] [(.int (own_M0_292 p0 p1 p2 p3 p4 p5)), (.int (own_F7 (own_E (own_F1 p5)) (own_F5_5 (own_F1 p0) (own_F1 p1) (own_F1 p2) (own_F1 p3) (own_F1 p4) (own_F1 p5))))])) by
    by_cases hc292_302 : (own_F5_5 (own_F1 p0) (own_F1 p1) (own_F1 p2) (own_F1 p3) (own_F1 p4) (own_F1 p5)) = (0 : Int32)
    · refine own_ifN X301 hx (hb hby at_292) (teq hc292_302).2 (q := 295) rfl ?_
      refine own_aload X301 hx (hb hby at_295) rfl rfl (q := 297) rfl ?_
      refine own_iconst X301 hx (hb hby at_297) (z := 5) rfl (q := 298) rfl ?_
      obtain ⟨cl303, Ar303, q303, S303, N303v, H303, G303⟩ := id V_b237_296
      have hin303 : ¬ ((5 : Int32) < 0 ∨ cl303.slots.size ≤ ((5 : Int32)).toNatClampNeg) := inb_of S303 ⟨by decide, by decide⟩
      refine own_back (X301.iaload hx (j := (5 : Int32)) (v := (.int (own_F1 p5))) (by rw [e301]; exact Ar303.1) (State.isArrayOf_alike hZ.alike Ar303.2.1) Ar303.2.2 hin303 (Has.at H303 hin303 rfl) (g := (mkF m 298 #[.val (.int p0), .val (.int p1), .val (.int p2), .val (.int p3), .val (.int p4), .val (.int p5), .val (.ref b237), .val (.ref b257), .val (.int (1 : Int32)), .val (.int (0 : Int32)), .val (.int (own_F5_1 (own_F1 p0) (own_F1 p1) (own_F1 p2) (own_F1 p3) (own_F1 p4) (own_F1 p5))), .val (.int (own_F5_2 (own_F1 p0) (own_F1 p1) (own_F1 p2) (own_F1 p3) (own_F1 p4) (own_F1 p5))), .val (.int (own_F5_3 (own_F1 p0) (own_F1 p1) (own_F1 p2) (own_F1 p3) (own_F1 p4) (own_F1 p5))), .val (.int (own_F5_4 (own_F1 p0) (own_F1 p1) (own_F1 p2) (own_F1 p3) (own_F1 p4) (own_F1 p5))), .val (.int (own_F5_5 (own_F1 p0) (own_F1 p1) (own_F1 p2) (own_F1 p3) (own_F1 p4) (own_F1 p5))), .val (.int (own_F7 (own_E (own_F1 p5)) (own_F5_5 (own_F1 p0) (own_F1 p1) (own_F1 p2) (own_F1 p3) (own_F1 p4) (own_F1 p5))))] [(.int (5 : Int32)), (.ref b237), (.int (own_F7 (own_E (own_F1 p5)) (own_F5_5 (own_F1 p0) (own_F1 p1) (own_F1 p2) (own_F1 p3) (own_F1 p4) (own_F1 p5))))])) rfl rfl (hb hby at_298)) ?_
      show own_End p e below s _ _ _ (T301.setTop (mkF m 299 #[.val (.int p0), .val (.int p1), .val (.int p2), .val (.int p3), .val (.int p4), .val (.int p5), .val (.ref b237), .val (.ref b257), .val (.int (1 : Int32)), .val (.int (0 : Int32)), .val (.int (own_F5_1 (own_F1 p0) (own_F1 p1) (own_F1 p2) (own_F1 p3) (own_F1 p4) (own_F1 p5))), .val (.int (own_F5_2 (own_F1 p0) (own_F1 p1) (own_F1 p2) (own_F1 p3) (own_F1 p4) (own_F1 p5))), .val (.int (own_F5_3 (own_F1 p0) (own_F1 p1) (own_F1 p2) (own_F1 p3) (own_F1 p4) (own_F1 p5))), .val (.int (own_F5_4 (own_F1 p0) (own_F1 p1) (own_F1 p2) (own_F1 p3) (own_F1 p4) (own_F1 p5))), .val (.int (own_F5_5 (own_F1 p0) (own_F1 p1) (own_F1 p2) (own_F1 p3) (own_F1 p4) (own_F1 p5))), .val (.int (own_F7 (own_E (own_F1 p5)) (own_F5_5 (own_F1 p0) (own_F1 p1) (own_F1 p2) (own_F1 p3) (own_F1 p4) (own_F1 p5))))] [(.int (own_F1 p5)), (.int (own_F7 (own_E (own_F1 p5)) (own_F5_5 (own_F1 p0) (own_F1 p1) (own_F1 p2) (own_F1 p3) (own_F1 p4) (own_F1 p5))))]))
      refine own_bipush X301 hx (hb hby at_299) (z := 27) rfl (q := 301) rfl ?_
      suffices J307 : own_End p e below s (own_Q0 Z p0 p1 p2 p3 p4 p5 h0 n0) room_1.cells room_1.slots (T301.setTop (mkF m 309 #[.val (.int p0), .val (.int p1), .val (.int p2), .val (.int p3), .val (.int p4), .val (.int p5), .val (.ref b237), .val (.ref b257), .val (.int (1 : Int32)), .val (.int (0 : Int32)), .val (.int (own_F5_1 (own_F1 p0) (own_F1 p1) (own_F1 p2) (own_F1 p3) (own_F1 p4) (own_F1 p5))), .val (.int (own_F5_2 (own_F1 p0) (own_F1 p1) (own_F1 p2) (own_F1 p3) (own_F1 p4) (own_F1 p5))), .val (.int (own_F5_3 (own_F1 p0) (own_F1 p1) (own_F1 p2) (own_F1 p3) (own_F1 p4) (own_F1 p5))), .val (.int (own_F5_4 (own_F1 p0) (own_F1 p1) (own_F1 p2) (own_F1 p3) (own_F1 p4) (own_F1 p5))), .val (.int (own_F5_5 (own_F1 p0) (own_F1 p1) (own_F1 p2) (own_F1 p3) (own_F1 p4) (own_F1 p5))), .val (.int (own_F7 (own_E (own_F1 p5)) (own_F5_5 (own_F1 p0) (own_F1 p1) (own_F1 p2) (own_F1 p3) (own_F1 p4) (own_F1 p5))))] [(.int (own_M0_301 p5)), (.int (own_F7 (own_E (own_F1 p5)) (own_F5_5 (own_F1 p0) (own_F1 p1) (own_F1 p2) (own_F1 p3) (own_F1 p4) (own_F1 p5))))])) by
        by_cases hc301_304 : (own_F1 p5) = (27 : Int32)
        · refine own_icY X301 hx (hb hby at_301) (teq hc301_304).1 (q := 308) (by decide) (by decide) ?_
          refine own_iconst X301 hx (hb hby at_308) (z := 0) rfl (q := 309) rfl ?_
          simp only [own_M0_301, if_pos hc301_304] at J307
          exact J307
        · refine own_icN X301 hx (hb hby at_301) (feq hc301_304).1 (q := 304) rfl ?_
          refine own_iconst X301 hx (hb hby at_304) (z := 1) rfl (q := 305) rfl ?_
          refine own_goto X301 hx (hb hby at_305) (q := 309) (by decide) (by decide) ?_
          simp only [own_M0_301, if_neg hc301_304] at J307
          exact J307
      simp only [own_M0_292, if_pos hc292_302] at J310
      exact J310
    · refine own_ifY X301 hx (hb hby at_292) (feq hc292_302).2 (q := 308) (by decide) (by decide) ?_
      refine own_iconst X301 hx (hb hby at_308) (z := 0) rfl (q := 309) rfl ?_
      simp only [own_M0_292, if_neg hc292_302] at J310
      exact J310
  have hk311 : (own_F7 (own_E (own_F1 p5)) (own_F5_5 (own_F1 p0) (own_F1 p1) (own_F1 p2) (own_F1 p3) (own_F1 p4) (own_F1 p5))) = (own_M0_292 p0 p1 p2 p3 p4 p5) := by rw [own_M0_292, own_M0_301]; exact own_set _ _ (own_t5 (own_F1 p0) (own_F1 p1) (own_F1 p2) (own_F1 p3) (own_F1 p4) (own_F1 p5)).2.2
  refine own_icN X301 hx (hb hby at_309) (teq hk311).2 (q := 312) rfl ?_
  refine own_iconst X301 hx (hb hby at_312) (z := 1) rfl (q := 313) rfl ?_
  refine own_goto X301 hx (hb hby at_313) (q := 317) (by decide) (by decide) ?_
  refine own_istore X301 hx (hb hby at_317) (l' := #[.val (.int p0), .val (.int p1), .val (.int p2), .val (.int p3), .val (.int p4), .val (.int p5), .val (.ref b237), .val (.ref b257), .val (.int (1 : Int32)), .val (.int (0 : Int32)), .val (.int (own_F5_1 (own_F1 p0) (own_F1 p1) (own_F1 p2) (own_F1 p3) (own_F1 p4) (own_F1 p5))), .val (.int (own_F5_2 (own_F1 p0) (own_F1 p1) (own_F1 p2) (own_F1 p3) (own_F1 p4) (own_F1 p5))), .val (.int (own_F5_3 (own_F1 p0) (own_F1 p1) (own_F1 p2) (own_F1 p3) (own_F1 p4) (own_F1 p5))), .val (.int (own_F5_4 (own_F1 p0) (own_F1 p1) (own_F1 p2) (own_F1 p3) (own_F1 p4) (own_F1 p5))), .val (.int (own_F5_5 (own_F1 p0) (own_F1 p1) (own_F1 p2) (own_F1 p3) (own_F1 p4) (own_F1 p5))), .val (.int (own_F7 (own_E (own_F1 p5)) (own_F5_5 (own_F1 p0) (own_F1 p1) (own_F1 p2) (own_F1 p3) (own_F1 p4) (own_F1 p5))))]) rfl (q := 319) rfl ?_
  refine own_iload X301 hx (hb hby at_319) rfl (q := 321) rfl ?_
  refine own_retN X301 hx (t := .boolean) (by simp) Bd.returns Bd.notSynchronized (by decide) (by decide) (hb hby at_321) ?_
  show own_Q0 Z p0 p1 p2 p3 p4 p5 h0 n0 _ T301.heap _
  exact ⟨rfl, N301⟩

set_option maxRecDepth 65536 in
set_option maxHeartbeats 40000000 in
theorem comes_1 {Post : Tables → Env → Array Value → State → Outcome → State → Prop} (hpost : ∀ tb e args s v u, (limb_1_1.after args s (.returned v) u = true ∧ limb_1_2.after args s (.returned v) u = true ∧ True) → FrameEnd s (.returned v) u (Jvm.fieldLocs frame_1_writes args s ++ Jvm.arrayLocs frame_1_arrays args s ++ Jvm.staticLocs frame_1_statics s) 16 128 → Post tb e args s (.returned v) u) :
    ArmFor flags0 classFile x code maxLocals ret World_1 tables_1 room_1 Calls_1 rest_1 Pre_1 Post := by
  intro l hfl _ _ p e ha hc hk s m args below hf hA hF happ hP
  obtain ⟨hcalls, hrest, hpre⟩ := hP
  obtain ⟨-, -, -, hnamed, -, -, -, hat⟩ := (Spec.applies_iff hf).mp happ
  obtain ⟨hg, hn⟩ := and_e (Cond.before_iff.mp (show (Jvm.Cond.and given_1 narrow_1).before args s = true from hpre))
  obtain ⟨g313, g314⟩ := and_e hg
  obtain ⟨g315, g316⟩ := and_e g314
  obtain ⟨g317, g318⟩ := and_e g316
  obtain ⟨g319, g320⟩ := and_e g318
  obtain ⟨g321, g322⟩ := and_e g320
  obtain ⟨g323, g324⟩ := and_e g322
  obtain ⟨w0, w1, w2, w3, w4, w5, rfl⟩ : ∃ w0 w1 w2 w3 w4 w5 : Value, args = #[w0, w1, w2, w3, w4, w5] := by
    have hs : args.size = 6 := by simpa [Cond.value, given_1] using g313
    obtain ⟨L⟩ := args
    match L, hs with
    | [w0, w1, w2, w3, w4, w5], _ => exact ⟨w0, w1, w2, w3, w4, w5, rfl⟩
  have hw := fun d (hd : d ∈ tables_1) => atoms_spec (ws := Jvm.Cond.code x code maxLocals ret :: tables_1) hat d (List.mem_cons_of_mem _ hd)
  have hfit : Fit s := fun {y c} hc i hi => by
    obtain ⟨ha, rfl⟩ := Array.getElem?_eq_some_iff.mp hc
    have q := List.all_eq_true.mp ((Array.all_eq_true_iff_forall_mem.mp hF) _ (Array.getElem_mem ha)) i (List.mem_range.mpr hi)
    simpa [Array.getElem?_eq_getElem hi] using q
  obtain ⟨i0, ei0⟩ := is_v g315
  obtain rfl : w0 = (.int i0) := Option.some.inj ei0
  obtain ⟨i1, ei1⟩ := is_v g317
  obtain rfl : w1 = (.int i1) := Option.some.inj ei1
  obtain ⟨i2, ei2⟩ := is_v g319
  obtain rfl : w2 = (.int i2) := Option.some.inj ei2
  obtain ⟨i3, ei3⟩ := is_v g321
  obtain rfl : w3 = (.int i3) := Option.some.inj ei3
  obtain ⟨i4, ei4⟩ := is_v g323
  obtain rfl : w4 = (.int i4) := Option.some.inj ei4
  obtain ⟨i5, ei5⟩ := is_v g324
  obtain rfl : w5 = (.int i5) := Option.some.inj ei5
  obtain ⟨n, o, h1, h2, h3, _, L, rfl, ⟨hv, N⟩, hq⟩ := own_rm0 l s _ hw tables_1 i0 i1 i2 i3 i4 i5 s.heap s.heap.size (Nat.le_refl _)  p e ha hc hk s m _ below hf ((Spec.applies_iff_loose hf).mp happ).1 ⟨rfl, State.Warmed39.refl s, rfl⟩ trivial
  subst hv
  refine ⟨n, _, h1, h2, h3, hpost _ _ _ _ _ _ ⟨Cond.after_iff.mpr rfl, Cond.after_iff.mpr (eq_i res_at (Term.int_eval (1)) rfl), trivial⟩ ⟨hq.1, hq.2.1, (hq.2.2.sift fun y hy => Or.inr (N y hy)).mono (by decide) (by decide)⟩⟩
theorem main_1_1 : Claimed_1_1 := comes_1 fun _ _ _ _ _ _ h hF => ⟨h.1, hF⟩
theorem main_1_2 : Claimed_1_2 := comes_1 fun _ _ _ _ _ _ h hF => ⟨h.2.1, hF⟩
end Jvm.Pilot.@@N@@
namespace Jvm.Pilot.@@N@@
open Jvm Jvm.ClassFile Sem Op Lib Jvm.Free Jvm.Stand Jvm.Pilot.@@N@@.Jvm.D
/-! MADE BY PROGRAM (witnessworld.py) out of the Statement's table words and the real class files: 9 classes; the members and pool entries that the words name. The judged class is class 1, her method 1. -/
namespace start1
open Jvm.ClassFile
def u (s : String) : CpInfo := .utf8 (stringToUtf16 s)
/-- a pool by its gaps: so many unusable entries, then the entry; so many at the end -/
def gap : Nat → List CpInfo → List CpInfo
  | 0, r => r
  | n + 1, r => .unusable :: gap n r
def poolList (es : List (Nat × CpInfo)) (last : Nat) : List CpInfo := es.foldr (fun e r => gap e.1 (e.2 :: r)) (gap last [])
def pool (es : List (Nat × CpInfo)) (last : Nat) : Array CpInfo := ⟨poolList es last⟩
def fileOf (pool : Array CpInfo) (this : Nat) (attrs : Array Attribute := #[]) (ms : Array MethodInfo := #[]) (fl : Nat := 33) (sup : Nat := 0) (ifs : Array Nat := #[]) (fds : Array FieldInfo := #[]) : ClassFile where
  minorVersion := 0
  majorVersion := 65
  constantPool := pool
  accessFlags := fl
  thisClass := this
  superClass := sup
  interfaces := ifs
  fields := fds
  methods := ms
  attributes := attrs
def plain (name : String) (sup : Option ClassId) : Class where
  name := name
  kind := .ordinary
  loader := none
  accessFlags := 33
  super := sup
  interfaces := #[]
  cf := none
  fields := #[]
  methods := #[]
  instanceTypes := #[]
  staticTypes := #[]
  resolved := #[]
  callSites := []
  init := .initialized
  statics := none
  mirror := none

def pool0 : Array CpInfo := pool [(5, u "<init>"), (0, u "()V"), (1, .class_ 10), (1, u "java/lang/Object")] 113

def k0c0 : Code := { maxStack := 0, maxLocals := 1, code := object_method_1_code, exceptionTable := #[], attributes := #[] }
def k0m0 : Method := { name := "<init>", desc := "()V", sig := { parameters := [], returnType := none }, accessFlags := 1, code := some k0c0 }
/-- java/lang/Object -/
def k0 : Class := { plain "java/lang/Object" none with
  accessFlags := 33
  interfaces := #[]
  cf := some (fileOf pool0 8 #[] #[{ accessFlags := 1, nameIndex := 5, descriptorIndex := 6, attributes := #[] }] 33 0 #[] #[])
  fields := #[]
  methods := #[k0m0]
  instanceTypes := #[]
  staticTypes := #[]
  resolved := Array.replicate 124 none
  statics := none }

def pool1 : Array CpInfo := pool [(2, .class_ 4), (0, .nameAndType 5 6), (0, u "java/lang/Object"), (0, u "<init>"), (0, u "()V"), (0, .methodref 8 9), (0, .class_ 10), (0, .nameAndType 11 12), (0, u "com/example/renkei/renkei/codec/TwoByteRunsNextPinLaw"), (0, u "unit"), (0, u "(I)I"), (0, .class_ 14), (0, u "com/example/renkei/renkei/codec/TwoByteRuns"), (0, .methodref 13 3), (0, .methodref 13 17), (0, .nameAndType 18 19), (0, u "next"), (0, u "(I)Z"), (0, .methodref 8 21), (0, .nameAndType 22 23), (0, u "expected"), (0, u "([II)Z"), (0, .methodref 13 25), (0, .nameAndType 26 27), (0, u "settled"), (0, u "()Z"), (0, .methodref 8 29), (0, .nameAndType 30 23), (0, u "isSwitch"), (2, u "law"), (0, u "(IIIIII)Z")] 5

def k1m0 : Method := { name := "<init>", desc := "()V", sig := { parameters := [], returnType := none }, accessFlags := 1, code := none }
def k1c1 : Code := { maxStack := 3, maxLocals := 16, code := code, exceptionTable := #[], attributes := #[] }
def k1m1 : Method := { name := "law", desc := "(IIIIII)Z", sig := { parameters := [.int, .int, .int, .int, .int, .int], returnType := some .boolean }, accessFlags := 9, code := some k1c1 }
def k1c2 : Code := { maxStack := 2, maxLocals := 2, code := method_3_code, exceptionTable := #[], attributes := #[] }
def k1m2 : Method := { name := "unit", desc := "(I)I", sig := { parameters := [.int], returnType := some .int }, accessFlags := 10, code := some k1c2 }
def k1c3 : Code := { maxStack := 3, maxLocals := 2, code := method_4_code, exceptionTable := #[], attributes := #[] }
def k1m3 : Method := { name := "isSwitch", desc := "([II)Z", sig := { parameters := [(.array .int), .int], returnType := some .boolean }, accessFlags := 10, code := some k1c3 }
def k1c4 : Code := { maxStack := 2, maxLocals := 2, code := method_5_code, exceptionTable := #[], attributes := #[] }
def k1m4 : Method := { name := "expected", desc := "([II)Z", sig := { parameters := [(.array .int), .int], returnType := some .boolean }, accessFlags := 10, code := some k1c4 }
/-- com/example/renkei/renkei/codec/TwoByteRunsNextPinLaw -/
def k1 : Class := { plain "com/example/renkei/renkei/codec/TwoByteRunsNextPinLaw" (some 0) with
  accessFlags := 49
  interfaces := #[]
  cf := some (fileOf pool1 8 #[] #[{ accessFlags := 1, nameIndex := 5, descriptorIndex := 6, attributes := #[] }, { accessFlags := 9, nameIndex := 33, descriptorIndex := 34, attributes := #[] }, { accessFlags := 10, nameIndex := 11, descriptorIndex := 12, attributes := #[] }, { accessFlags := 10, nameIndex := 30, descriptorIndex := 23, attributes := #[] }, { accessFlags := 10, nameIndex := 22, descriptorIndex := 23, attributes := #[] }] 49 2 #[] #[])
  fields := #[]
  methods := #[k1m0, k1m1, k1m2, k1m3, k1m4]
  instanceTypes := #[]
  staticTypes := #[]
  resolved := Array.replicate 40 none
  statics := none }

def pool2 : Array CpInfo := pool [(1, .methodref 2 3), (0, .class_ 4), (0, .nameAndType 5 6), (0, u "java/lang/Object"), (0, u "<init>"), (0, u "()V"), (0, .fieldref 8 9), (0, .class_ 10), (0, .nameAndType 11 12), (0, u "com/example/renkei/renkei/codec/TwoByteRuns"), (0, u "escaped"), (0, u "Z"), (0, .fieldref 8 14), (0, .nameAndType 15 12), (0, u "twoByte"), (8, u "next"), (0, u "(I)Z"), (1, u "settled"), (0, u "()Z")] 18

def k2c0 : Code := { maxStack := 1, maxLocals := 1, code := prog_26_method_1_code, exceptionTable := #[], attributes := #[] }
def k2m0 : Method := { name := "<init>", desc := "()V", sig := { parameters := [], returnType := none }, accessFlags := 0, code := some k2c0 }
def k2c1 : Code := { maxStack := 3, maxLocals := 2, code := prog_26_method_2_code, exceptionTable := #[], attributes := #[] }
def k2m1 : Method := { name := "next", desc := "(I)Z", sig := { parameters := [.int], returnType := some .boolean }, accessFlags := 0, code := some k2c1 }
def k2c2 : Code := { maxStack := 1, maxLocals := 1, code := prog_26_method_3_code, exceptionTable := #[], attributes := #[] }
def k2m2 : Method := { name := "settled", desc := "()Z", sig := { parameters := [], returnType := some .boolean }, accessFlags := 0, code := some k2c2 }
/-- com/example/renkei/renkei/codec/TwoByteRuns -/
def k2 : Class := { plain "com/example/renkei/renkei/codec/TwoByteRuns" (some 0) with
  accessFlags := 48
  interfaces := #[]
  cf := some (fileOf pool2 8 #[] #[{ accessFlags := 0, nameIndex := 5, descriptorIndex := 6, attributes := #[] }, { accessFlags := 0, nameIndex := 24, descriptorIndex := 25, attributes := #[] }, { accessFlags := 0, nameIndex := 27, descriptorIndex := 28, attributes := #[] }] 48 2 #[] #[{ accessFlags := 2, nameIndex := 15, descriptorIndex := 12, attributes := #[] }, { accessFlags := 2, nameIndex := 11, descriptorIndex := 12, attributes := #[] }])
  fields := #[{ name := "twoByte", type := .boolean, accessFlags := 2, slot := 0, constantValue := 0 }, { name := "escaped", type := .boolean, accessFlags := 2, slot := 1, constantValue := 0 }]
  methods := #[k2m0, k2m1, k2m2]
  instanceTypes := #[.boolean, .boolean]
  staticTypes := #[]
  resolved := Array.replicate 47 none
  statics := none }

def pool3 : Array CpInfo := pool [(1, u "java/lang/Cloneable"), (0, .class_ 1), (0, u "java/lang/Object"), (0, .class_ 3)] 3

/-- java/lang/Cloneable -/
def k3 : Class := { plain "java/lang/Cloneable" (some 0) with
  accessFlags := 1537
  interfaces := #[]
  cf := some (fileOf pool3 2 #[] #[] 1537 4 #[] #[])
  fields := #[]
  methods := #[]
  instanceTypes := #[]
  staticTypes := #[]
  resolved := Array.replicate 8 none
  statics := none }

def pool4 : Array CpInfo := pool [(1, u "java/io/Serializable"), (0, .class_ 1), (0, u "java/lang/Object"), (0, .class_ 3)] 3

/-- java/io/Serializable -/
def k4 : Class := { plain "java/io/Serializable" (some 0) with
  accessFlags := 1537
  interfaces := #[]
  cf := some (fileOf pool4 2 #[] #[] 1537 4 #[] #[])
  fields := #[]
  methods := #[]
  instanceTypes := #[]
  staticTypes := #[]
  resolved := Array.replicate 8 none
  statics := none }

/-- the primitive byte -/
def k5 : Class := { plain "byte" none with kind := .primitive 'B', accessFlags := 0x411 }
/-- [B -/
def k6 : Class := { plain "[B" (some 0) with kind := .array 5 .byte, interfaces := #[3, 4], accessFlags := 1041 }

/-- the primitive int -/
def k7 : Class := { plain "int" none with kind := .primitive 'I', accessFlags := 0x411 }
/-- [I -/
def k8 : Class := { plain "[I" (some 0) with kind := .array 7 .int, interfaces := #[3, 4], accessFlags := 1041 }

def heap : Heap := #[]
def classes : Array Class := #[k0, k1, k2, k3, k4, k5, k6, k7, k8]
def interned : List (Array UInt16 × Addr) := []
def slotsUsed : Nat := 0
def theMethod : MethodId := ⟨1, 1⟩
def args0 : Array Value := #[.int 3, .int 4, .int 5, .int 6, .int 7, .int 8]
def aboutOver (below : List Frame) : State where
  vm := { classes := classes, interned := interned.toArray }
  heap := heap
  slotsUsed := slotsUsed
  threads := #[{ frames := .invoking theMethod args0 :: below }]
def below0 : List Frame := [.native { method := ⟨0, 0⟩, args := #[] }]
def about1 : State := aboutOver below0
def p0 : Program := .bare "" "" ""
def e0 : Env := launch0.env 0 0 0
theorem w_frames : about1.frames = Frame.invoking theMethod args0 :: below0 := rfl
set_option maxRecDepth 65536 in
theorem w_args : argsFit about1.vm theMethod args0 = true := by decide +kernel
set_option maxRecDepth 65536 in
theorem w_heap : heapFits about1 = true := by decide +kernel
set_option maxRecDepth 65536 in
theorem w_runnable : about1.curStatus? = some .runnable := by decide +kernel
set_option maxRecDepth 65536 in
theorem w_alone : about1.alone = true := by decide +kernel
set_option maxRecDepth 65536 in
theorem w_named : about1.methodNamed? x = some theMethod := by decide +kernel
set_option maxRecDepth 65536 in
theorem w_hears : about1.hears theMethod below0 = true := by decide +kernel
set_option maxRecDepth 65536 in
theorem w_ripe : about1.ripe theMethod args0 below0 = true := by decide +kernel
theorem w_running : about1.status = .running := rfl
set_option maxRecDepth 65536 in
theorem w_room : about1.hasRoom e0.platform room_1 = true :=
  launch0.hasRoom_least _ room_1 (by decide +kernel) (by decide +kernel) (by decide +kernel) (by decide +kernel) (by decide +kernel) (by decide +kernel)
theorem allAtoms_all (ts : List Jvm.Cond) (a : Array Jvm.Value) (st : Jvm.State) : (allAtoms ts).before a st = ts.all (fun c => c.before a st) := by
  induction ts with
  | nil => rfl
  | cons c t ih =>
    show (Jvm.Cond.and c (allAtoms t)).before a st = _
    rw [Jvm.Cond.before_and, ih, List.all_cons]
def words1 : List Jvm.Cond := Jvm.Cond.code x code maxLocals ret :: tables_1
/-- a 'code' word, met by the world's own term for the bytes: nothing is compared byte by byte -/
theorem code_word {y : MethodName} {bytes : ByteArray} {mx : Nat} {rt : Option FieldType} {a : Array Value} {s : State} {m : MethodId} {meth : Method} {c : Code} (h1 : s.methodNamed? y = some m) (h2 : s.vm.method? m = some meth) (h3 : meth.code = some c) (h4 : c.code = bytes)
    (h5 : (c.maxLocals == mx && c.exceptionTable.isEmpty && decide (c.maxStack ≤ mostOperands) && decide (meth.sig.returnType = rt) && !meth.locks && decide (parseMethodDescriptor y.desc = some meth.sig)) = true) : (Jvm.Cond.code y bytes mx rt).before a s = true := by
  simp only [Bool.and_eq_true, beq_iff_eq, Bool.not_eq_true', decide_eq_true_eq] at h5
  obtain ⟨⟨⟨⟨⟨g1, g2⟩, g3⟩, g4⟩, g5⟩, g6⟩ := h5
  simp [Cond.before, Cond.holds, Cond.value, h1, h2, h3, h4, g1, g2, g3, g4, g5, g6]
def isCode : Jvm.Cond → Bool
  | .code _ _ _ _ => true
  | _ => false
theorem all_split {L : List Jvm.Cond} {P : Jvm.Cond → Bool} (h1 : L.all (fun c => isCode c || P c) = true) (h2 : ∀ c ∈ L.filter isCode, P c = true) : L.all P = true := by
  refine List.all_eq_true.mpr fun c hc => ?_
  have h := List.all_eq_true.mp h1 c hc
  rcases Bool.eq_false_or_eq_true (isCode c) with hi | hi
  · exact h2 c (List.mem_filter.mpr ⟨hc, hi⟩)
  · simpa [hi] using h
set_option maxRecDepth 65536 in
theorem w_c0 : (Jvm.Cond.code x code maxLocals ret).before args0 about1 = true := code_word (m := ⟨1, 1⟩) (meth := k1m1) (c := k1c1) (by decide +kernel) rfl rfl rfl (by decide +kernel)
set_option maxRecDepth 65536 in
theorem w_c1 : (Jvm.Cond.code ({ cls := "com/example/renkei/renkei/codec/TwoByteRunsNextPinLaw", name := "unit", desc := "(I)I" } : Jvm.MethodName) method_3_code (2 : Nat) (Option.some Jvm.ClassFile.FieldType.int)).before args0 about1 = true := code_word (m := ⟨1, 2⟩) (meth := k1m2) (c := k1c2) (by decide +kernel) rfl rfl rfl (by decide +kernel)
set_option maxRecDepth 65536 in
theorem w_c2 : (Jvm.Cond.code ({ cls := "com/example/renkei/renkei/codec/TwoByteRuns", name := "<init>", desc := "()V" } : Jvm.MethodName) prog_26_method_1_code (1 : Nat) (Option.none : Option Jvm.ClassFile.FieldType)).before args0 about1 = true := code_word (m := ⟨2, 0⟩) (meth := k2m0) (c := k2c0) (by decide +kernel) rfl rfl rfl (by decide +kernel)
set_option maxRecDepth 65536 in
theorem w_c3 : (Jvm.Cond.code ({ cls := "java/lang/Object", name := "<init>", desc := "()V" } : Jvm.MethodName) object_method_1_code (1 : Nat) (Option.none : Option Jvm.ClassFile.FieldType)).before args0 about1 = true := code_word (m := ⟨0, 0⟩) (meth := k0m0) (c := k0c0) (by decide +kernel) rfl rfl rfl (by decide +kernel)
set_option maxRecDepth 65536 in
theorem w_c4 : (Jvm.Cond.code ({ cls := "com/example/renkei/renkei/codec/TwoByteRuns", name := "next", desc := "(I)Z" } : Jvm.MethodName) prog_26_method_2_code (2 : Nat) (Option.some Jvm.ClassFile.FieldType.boolean)).before args0 about1 = true := code_word (m := ⟨2, 1⟩) (meth := k2m1) (c := k2c1) (by decide +kernel) rfl rfl rfl (by decide +kernel)
set_option maxRecDepth 65536 in
theorem w_c5 : (Jvm.Cond.code ({ cls := "com/example/renkei/renkei/codec/TwoByteRunsNextPinLaw", name := "expected", desc := "([II)Z" } : Jvm.MethodName) method_5_code (2 : Nat) (Option.some Jvm.ClassFile.FieldType.boolean)).before args0 about1 = true := code_word (m := ⟨1, 4⟩) (meth := k1m4) (c := k1c4) (by decide +kernel) rfl rfl rfl (by decide +kernel)
set_option maxRecDepth 65536 in
theorem w_c6 : (Jvm.Cond.code ({ cls := "com/example/renkei/renkei/codec/TwoByteRunsNextPinLaw", name := "isSwitch", desc := "([II)Z" } : Jvm.MethodName) method_4_code (2 : Nat) (Option.some Jvm.ClassFile.FieldType.boolean)).before args0 about1 = true := code_word (m := ⟨1, 3⟩) (meth := k1m3) (c := k1c3) (by decide +kernel) rfl rfl rfl (by decide +kernel)
set_option maxRecDepth 65536 in
theorem w_c7 : (Jvm.Cond.code ({ cls := "com/example/renkei/renkei/codec/TwoByteRuns", name := "settled", desc := "()Z" } : Jvm.MethodName) prog_26_method_3_code (1 : Nat) (Option.some Jvm.ClassFile.FieldType.boolean)).before args0 about1 = true := code_word (m := ⟨2, 2⟩) (meth := k2m2) (c := k2c2) (by decide +kernel) rfl rfl rfl (by decide +kernel)
def codes1 : List Jvm.Cond := [Jvm.Cond.code x code maxLocals ret, Jvm.Cond.code ({ cls := "com/example/renkei/renkei/codec/TwoByteRunsNextPinLaw", name := "unit", desc := "(I)I" } : Jvm.MethodName) method_3_code (2 : Nat) (Option.some Jvm.ClassFile.FieldType.int), Jvm.Cond.code ({ cls := "com/example/renkei/renkei/codec/TwoByteRuns", name := "<init>", desc := "()V" } : Jvm.MethodName) prog_26_method_1_code (1 : Nat) (Option.none : Option Jvm.ClassFile.FieldType), Jvm.Cond.code ({ cls := "java/lang/Object", name := "<init>", desc := "()V" } : Jvm.MethodName) object_method_1_code (1 : Nat) (Option.none : Option Jvm.ClassFile.FieldType), Jvm.Cond.code ({ cls := "com/example/renkei/renkei/codec/TwoByteRuns", name := "next", desc := "(I)Z" } : Jvm.MethodName) prog_26_method_2_code (2 : Nat) (Option.some Jvm.ClassFile.FieldType.boolean), Jvm.Cond.code ({ cls := "com/example/renkei/renkei/codec/TwoByteRunsNextPinLaw", name := "expected", desc := "([II)Z" } : Jvm.MethodName) method_5_code (2 : Nat) (Option.some Jvm.ClassFile.FieldType.boolean), Jvm.Cond.code ({ cls := "com/example/renkei/renkei/codec/TwoByteRunsNextPinLaw", name := "isSwitch", desc := "([II)Z" } : Jvm.MethodName) method_4_code (2 : Nat) (Option.some Jvm.ClassFile.FieldType.boolean), Jvm.Cond.code ({ cls := "com/example/renkei/renkei/codec/TwoByteRuns", name := "settled", desc := "()Z" } : Jvm.MethodName) prog_26_method_3_code (1 : Nat) (Option.some Jvm.ClassFile.FieldType.boolean)]
set_option maxRecDepth 65536 in
theorem codes_eq : words1.filter isCode = codes1 := rfl
theorem w_codes : ∀ c ∈ words1.filter isCode, c.before args0 about1 = true := by
  rw [codes_eq]
  intro c hc
  simp only [codes1, List.mem_cons, List.not_mem_nil, or_false] at hc
  rcases hc with rfl | rfl | rfl | rfl | rfl | rfl | rfl | rfl
  · exact w_c0
  · exact w_c1
  · exact w_c2
  · exact w_c3
  · exact w_c4
  · exact w_c5
  · exact w_c6
  · exact w_c7
set_option maxRecDepth 65536 in
theorem w_t1 : (words1.take 24).all (fun c => isCode c || c.before args0 about1) = true := by decide +kernel
set_option maxRecDepth 65536 in
theorem w_t2 : (words1.drop 24).all (fun c => isCode c || c.before args0 about1) = true := by decide +kernel
theorem w_tables : (allAtoms (Jvm.Cond.code x code maxLocals ret :: tables_1)).before args0 about1 = true := by
  rw [allAtoms_all]
  show words1.all (fun c => c.before args0 about1) = true
  refine all_split ?_ w_codes
  rw [← List.take_append_drop 24 words1, List.all_append, w_t1, w_t2]
  rfl
set_option maxRecDepth 65536 in
theorem w_case : (Jvm.Cond.and given_1 narrow_1).before args0 about1 = true := by decide +kernel
theorem w_applies : (headSpec (Jvm.Cond.code x code maxLocals ret :: tables_1) room_1).applies x e0.platform about1 = true :=
  (Spec.applies_iff w_frames).mpr ⟨w_running, w_runnable, w_alone, w_named, w_hears, w_ripe, w_room, w_tables⟩
theorem atStart : AtStart classFile x code maxLocals ret World_1 tables_1 room_1 Calls_1 rest_1 Pre_1 launch0 p0 e0 about1 theMethod args0 below0 :=
  ⟨lists_1, trivial, launch0.admits_env _ _ _, launch0.least_env, fairChoices_fair.cas, fairChoices_fair.clock, w_frames, w_args, w_heap, w_applies, trivial, trivial, w_case⟩
end start1
theorem witness_1 : WitnessClaimed_1 := ⟨start1.p0, start1.e0, start1.about1, start1.theMethod, start1.args0, start1.below0, start1.atStart⟩
end Jvm.Pilot.@@N@@
