import JvmDerived
import JvmDerived.Pilot.@@N@@Statement
import JvmDerived.Pilot.@@N@@Code
set_option linter.unusedVariables false
set_option linter.unusedSimpArgs false
@@BLOCK:NumsL.lean.txt@@
namespace Jvm.Pilot.@@N@@
open Jvm Jvm.ClassFile Sem Op Lib Jvm.Free Jvm.Stand Jvm.LawKit Jvm.RoadKit Bundle Jvm.Pilot.@@N@@.Jvm.D
section Own
variable {p : Program} {l : Launch} {e : Env} {R : Room} {s : State} {m : MethodId} {args : Array Value} {below : List Frame} {meth : Method} {c : Code} {T : State} {locs : List Loc} {cells slots : Nat} {Q : Option Value → Heap → List Loc → Prop} {K N : Nat} {s' : State} {E : State → Outcome → State → List Loc → Nat → Nat → Prop}
/-- the run from a ends in a return of which Q holds, within the frame -/
def own_End (p : Program) (e : Env) (below : List Frame) (s : State) (Q : Option Value → Heap → List Loc → Prop) (K N : Nat) (a : State) (E : State → Outcome → State → List Loc → Nat → Nat → Prop := FrameEnd) : Prop :=
  ∃ s₂ o, Steps p.tables e below a s₂ ∧ s₂.status = .running ∧ Ended s₂ below o ∧ ∃ v L, o = .returned v ∧ Q v s₂.heap L ∧ E s o s₂ L K N
theorem own_back {a b : State} (k : ∀ t, Steps p.tables e below b t → Steps p.tables e below a t) (h : own_End p e below s Q K N b E) : own_End p e below s Q K N a E := by
  obtain ⟨s₂, o, h1, h2⟩ := h
  exact ⟨s₂, o, k _ h1, h2⟩
theorem own_via {a b : State} (k : Steps p.tables e below a b) (h : own_End p e below s Q K N b E) : own_End p e below s Q K N a E :=
  own_back (fun _ j => k.trans j) h
theorem own_selfsel {y : MethodName} {n : Nat} (wi : (Jvm.Cond.instantiable y.cls n).before args s = true) (hp : s.PrivateAt y) (hi : (Jvm.Cond.instanceMethod y).before args s = true) (hy : y.cls ≠ "java/lang/invoke/MethodHandle" ∧ y.cls ≠ "java/lang/invoke/VarHandle") : (Jvm.Cond.selects y.cls y y).before args s = true := by
  obtain ⟨c, k, h1, h2, -, h4, -⟩ := Cond.instantiable_spec wi
  exact selects_self_of_private h1 h2 (Bool.or_eq_false_iff.mp h4).1 hp hi hy
theorem own_cast {a b : State} (q : a = b) (h : own_End p e below s Q K N b E) : own_End p e below s Q K N a E := q ▸ h
theorem own_iadd (X : Stand p l e R s' m args below meth c T locs cells slots) (hx : p.tables.exec = Jvm.exec) {pc q : Nat} {Ls : Array Slot} {rest : List Value} (hd : decode c.code pc = .ok (.iadd, 1)) {x y : Int32} (hq : pc + 1 = q) (h : own_End p e below s Q K N (T.setTop (mkF m q Ls (.int (x + y) :: rest))) E) : own_End p e below s Q K N (T.setTop (mkF m pc Ls (.int y :: .int x :: rest))) E := by
  subst hq; exact own_back (fun _ k => XS.iadd X.here hx rfl hd rfl k) h
theorem own_isub (X : Stand p l e R s' m args below meth c T locs cells slots) (hx : p.tables.exec = Jvm.exec) {pc q : Nat} {Ls : Array Slot} {rest : List Value} (hd : decode c.code pc = .ok (.isub, 1)) {x y : Int32} (hq : pc + 1 = q) (h : own_End p e below s Q K N (T.setTop (mkF m q Ls (.int (x - y) :: rest))) E) : own_End p e below s Q K N (T.setTop (mkF m pc Ls (.int y :: .int x :: rest))) E := by
  subst hq; exact own_back (fun _ k => XS.isub X.here hx rfl hd rfl k) h
theorem own_imul (X : Stand p l e R s' m args below meth c T locs cells slots) (hx : p.tables.exec = Jvm.exec) {pc q : Nat} {Ls : Array Slot} {rest : List Value} (hd : decode c.code pc = .ok (.imul, 1)) {x y : Int32} (hq : pc + 1 = q) (h : own_End p e below s Q K N (T.setTop (mkF m q Ls (.int (x * y) :: rest))) E) : own_End p e below s Q K N (T.setTop (mkF m pc Ls (.int y :: .int x :: rest))) E := by
  subst hq; exact own_back (fun _ k => XS.imul X.here hx rfl hd rfl k) h
theorem own_iand (X : Stand p l e R s' m args below meth c T locs cells slots) (hx : p.tables.exec = Jvm.exec) {pc q : Nat} {Ls : Array Slot} {rest : List Value} (hd : decode c.code pc = .ok (.iand, 1)) {x y : Int32} (hq : pc + 1 = q) (h : own_End p e below s Q K N (T.setTop (mkF m q Ls (.int (x &&& y) :: rest))) E) : own_End p e below s Q K N (T.setTop (mkF m pc Ls (.int y :: .int x :: rest))) E := by
  subst hq; exact own_back (fun _ k => XS.iand X.here hx rfl hd rfl k) h
theorem own_ior (X : Stand p l e R s' m args below meth c T locs cells slots) (hx : p.tables.exec = Jvm.exec) {pc q : Nat} {Ls : Array Slot} {rest : List Value} (hd : decode c.code pc = .ok (.ior, 1)) {x y : Int32} (hq : pc + 1 = q) (h : own_End p e below s Q K N (T.setTop (mkF m q Ls (.int (x ||| y) :: rest))) E) : own_End p e below s Q K N (T.setTop (mkF m pc Ls (.int y :: .int x :: rest))) E := by
  subst hq; exact own_back (fun _ k => XS.ior X.here hx rfl hd rfl k) h
theorem own_ixor (X : Stand p l e R s' m args below meth c T locs cells slots) (hx : p.tables.exec = Jvm.exec) {pc q : Nat} {Ls : Array Slot} {rest : List Value} (hd : decode c.code pc = .ok (.ixor, 1)) {x y : Int32} (hq : pc + 1 = q) (h : own_End p e below s Q K N (T.setTop (mkF m q Ls (.int (x ^^^ y) :: rest))) E) : own_End p e below s Q K N (T.setTop (mkF m pc Ls (.int y :: .int x :: rest))) E := by
  subst hq; exact own_back (fun _ k => XS.ixor X.here hx rfl hd rfl k) h
theorem own_ishl (X : Stand p l e R s' m args below meth c T locs cells slots) (hx : p.tables.exec = Jvm.exec) {pc q : Nat} {Ls : Array Slot} {rest : List Value} (hd : decode c.code pc = .ok (.ishl, 1)) {x y : Int32} (hq : pc + 1 = q) (h : own_End p e below s Q K N (T.setTop (mkF m q Ls (.int (x <<< (y &&& 31)) :: rest))) E) : own_End p e below s Q K N (T.setTop (mkF m pc Ls (.int y :: .int x :: rest))) E := by
  subst hq; exact own_back (fun _ k => XS.ishl X.here hx rfl hd rfl k) h
theorem own_ishr (X : Stand p l e R s' m args below meth c T locs cells slots) (hx : p.tables.exec = Jvm.exec) {pc q : Nat} {Ls : Array Slot} {rest : List Value} (hd : decode c.code pc = .ok (.ishr, 1)) {x y : Int32} (hq : pc + 1 = q) (h : own_End p e below s Q K N (T.setTop (mkF m q Ls (.int (x >>> (y &&& 31)) :: rest))) E) : own_End p e below s Q K N (T.setTop (mkF m pc Ls (.int y :: .int x :: rest))) E := by
  subst hq; exact own_back (fun _ k => XS.ishr X.here hx rfl hd rfl k) h
theorem own_iushr (X : Stand p l e R s' m args below meth c T locs cells slots) (hx : p.tables.exec = Jvm.exec) {pc q : Nat} {Ls : Array Slot} {rest : List Value} (hd : decode c.code pc = .ok (.iushr, 1)) {x y : Int32} (hq : pc + 1 = q) (h : own_End p e below s Q K N (T.setTop (mkF m q Ls (.int ((x.toUInt32 >>> (y &&& 31).toUInt32).toInt32) :: rest))) E) : own_End p e below s Q K N (T.setTop (mkF m pc Ls (.int y :: .int x :: rest))) E := by
  subst hq; exact own_back (fun _ k => XS.iushr X.here hx rfl hd rfl k) h
theorem own_ladd (X : Stand p l e R s' m args below meth c T locs cells slots) (hx : p.tables.exec = Jvm.exec) {pc q : Nat} {Ls : Array Slot} {rest : List Value} (hd : decode c.code pc = .ok (.ladd, 1)) {x y : Int64} (hq : pc + 1 = q) (h : own_End p e below s Q K N (T.setTop (mkF m q Ls (.long (x + y) :: rest))) E) : own_End p e below s Q K N (T.setTop (mkF m pc Ls (.long y :: .long x :: rest))) E := by
  subst hq; exact own_back (fun _ k => XS.ladd X.here hx rfl hd rfl k) h
theorem own_lsub (X : Stand p l e R s' m args below meth c T locs cells slots) (hx : p.tables.exec = Jvm.exec) {pc q : Nat} {Ls : Array Slot} {rest : List Value} (hd : decode c.code pc = .ok (.lsub, 1)) {x y : Int64} (hq : pc + 1 = q) (h : own_End p e below s Q K N (T.setTop (mkF m q Ls (.long (x - y) :: rest))) E) : own_End p e below s Q K N (T.setTop (mkF m pc Ls (.long y :: .long x :: rest))) E := by
  subst hq; exact own_back (fun _ k => XS.lsub X.here hx rfl hd rfl k) h
theorem own_lmul (X : Stand p l e R s' m args below meth c T locs cells slots) (hx : p.tables.exec = Jvm.exec) {pc q : Nat} {Ls : Array Slot} {rest : List Value} (hd : decode c.code pc = .ok (.lmul, 1)) {x y : Int64} (hq : pc + 1 = q) (h : own_End p e below s Q K N (T.setTop (mkF m q Ls (.long (x * y) :: rest))) E) : own_End p e below s Q K N (T.setTop (mkF m pc Ls (.long y :: .long x :: rest))) E := by
  subst hq; exact own_back (fun _ k => XS.lmul X.here hx rfl hd rfl k) h
theorem own_land (X : Stand p l e R s' m args below meth c T locs cells slots) (hx : p.tables.exec = Jvm.exec) {pc q : Nat} {Ls : Array Slot} {rest : List Value} (hd : decode c.code pc = .ok (.land, 1)) {x y : Int64} (hq : pc + 1 = q) (h : own_End p e below s Q K N (T.setTop (mkF m q Ls (.long (x &&& y) :: rest))) E) : own_End p e below s Q K N (T.setTop (mkF m pc Ls (.long y :: .long x :: rest))) E := by
  subst hq; exact own_back (fun _ k => XS.land X.here hx rfl hd rfl k) h
theorem own_lor (X : Stand p l e R s' m args below meth c T locs cells slots) (hx : p.tables.exec = Jvm.exec) {pc q : Nat} {Ls : Array Slot} {rest : List Value} (hd : decode c.code pc = .ok (.lor, 1)) {x y : Int64} (hq : pc + 1 = q) (h : own_End p e below s Q K N (T.setTop (mkF m q Ls (.long (x ||| y) :: rest))) E) : own_End p e below s Q K N (T.setTop (mkF m pc Ls (.long y :: .long x :: rest))) E := by
  subst hq; exact own_back (fun _ k => XS.lor X.here hx rfl hd rfl k) h
theorem own_lxor (X : Stand p l e R s' m args below meth c T locs cells slots) (hx : p.tables.exec = Jvm.exec) {pc q : Nat} {Ls : Array Slot} {rest : List Value} (hd : decode c.code pc = .ok (.lxor, 1)) {x y : Int64} (hq : pc + 1 = q) (h : own_End p e below s Q K N (T.setTop (mkF m q Ls (.long (x ^^^ y) :: rest))) E) : own_End p e below s Q K N (T.setTop (mkF m pc Ls (.long y :: .long x :: rest))) E := by
  subst hq; exact own_back (fun _ k => XS.lxor X.here hx rfl hd rfl k) h
theorem own_lshl (X : Stand p l e R s' m args below meth c T locs cells slots) (hx : p.tables.exec = Jvm.exec) {pc q : Nat} {Ls : Array Slot} {rest : List Value} (hd : decode c.code pc = .ok (.lshl, 1)) {x : Int64} {y : Int32} (hq : pc + 1 = q) (h : own_End p e below s Q K N (T.setTop (mkF m q Ls (.long (x <<< (y &&& 0x3f).toInt64) :: rest))) E) : own_End p e below s Q K N (T.setTop (mkF m pc Ls (.int y :: .long x :: rest))) E := by
  subst hq; exact own_back (fun _ k => XS.lshl X.here hx rfl hd rfl k) h
theorem own_lshr (X : Stand p l e R s' m args below meth c T locs cells slots) (hx : p.tables.exec = Jvm.exec) {pc q : Nat} {Ls : Array Slot} {rest : List Value} (hd : decode c.code pc = .ok (.lshr, 1)) {x : Int64} {y : Int32} (hq : pc + 1 = q) (h : own_End p e below s Q K N (T.setTop (mkF m q Ls (.long (x >>> (y &&& 0x3f).toInt64) :: rest))) E) : own_End p e below s Q K N (T.setTop (mkF m pc Ls (.int y :: .long x :: rest))) E := by
  subst hq; exact own_back (fun _ k => XS.lshr X.here hx rfl hd rfl k) h
theorem own_lushr (X : Stand p l e R s' m args below meth c T locs cells slots) (hx : p.tables.exec = Jvm.exec) {pc q : Nat} {Ls : Array Slot} {rest : List Value} (hd : decode c.code pc = .ok (.lushr, 1)) {x : Int64} {y : Int32} (hq : pc + 1 = q) (h : own_End p e below s Q K N (T.setTop (mkF m q Ls (.long ((x.toUInt64 >>> (y &&& 0x3f).toInt64.toUInt64).toInt64) :: rest))) E) : own_End p e below s Q K N (T.setTop (mkF m pc Ls (.int y :: .long x :: rest))) E := by
  subst hq; exact own_back (fun _ k => XS.lushr X.here hx rfl hd rfl k) h
theorem own_idiv (X : Stand p l e R s' m args below meth c T locs cells slots) (hx : p.tables.exec = Jvm.exec) {pc q : Nat} {Ls : Array Slot} {rest : List Value} (hd : decode c.code pc = .ok (.idiv, 1)) {x y : Int32} (hy : y ≠ 0) (hq : pc + 1 = q) (h : own_End p e below s Q K N (T.setTop (mkF m q Ls (.int (x / y) :: rest))) E) : own_End p e below s Q K N (T.setTop (mkF m pc Ls (.int y :: .int x :: rest))) E := by
  subst hq; exact own_back (fun _ k => XS.idiv X.here hx rfl hd rfl hy k) h
theorem own_irem (X : Stand p l e R s' m args below meth c T locs cells slots) (hx : p.tables.exec = Jvm.exec) {pc q : Nat} {Ls : Array Slot} {rest : List Value} (hd : decode c.code pc = .ok (.irem, 1)) {x y : Int32} (hy : y ≠ 0) (hq : pc + 1 = q) (h : own_End p e below s Q K N (T.setTop (mkF m q Ls (.int (x % y) :: rest))) E) : own_End p e below s Q K N (T.setTop (mkF m pc Ls (.int y :: .int x :: rest))) E := by
  subst hq; exact own_back (fun _ k => iremM X hx rfl hd rfl hy k) h
theorem own_ldiv (X : Stand p l e R s' m args below meth c T locs cells slots) (hx : p.tables.exec = Jvm.exec) {pc q : Nat} {Ls : Array Slot} {rest : List Value} (hd : decode c.code pc = .ok (.ldiv, 1)) {x y : Int64} (hy : y ≠ 0) (hq : pc + 1 = q) (h : own_End p e below s Q K N (T.setTop (mkF m q Ls (.long (x / y) :: rest))) E) : own_End p e below s Q K N (T.setTop (mkF m pc Ls (.long y :: .long x :: rest))) E := by
  subst hq; exact own_back (fun _ k => XS.ldiv X.here hx rfl hd rfl hy k) h
theorem own_lrem (X : Stand p l e R s' m args below meth c T locs cells slots) (hx : p.tables.exec = Jvm.exec) {pc q : Nat} {Ls : Array Slot} {rest : List Value} (hd : decode c.code pc = .ok (.lrem, 1)) {x y : Int64} (hy : y ≠ 0) (hq : pc + 1 = q) (h : own_End p e below s Q K N (T.setTop (mkF m q Ls (.long (x - (x / y) * y) :: rest))) E) : own_End p e below s Q K N (T.setTop (mkF m pc Ls (.long y :: .long x :: rest))) E := by
  subst hq; exact own_back (fun _ k => XS.lrem X.here hx rfl hd rfl hy k) h
theorem own_ineg (X : Stand p l e R s' m args below meth c T locs cells slots) (hx : p.tables.exec = Jvm.exec) {pc q : Nat} {Ls : Array Slot} {rest : List Value} (hd : decode c.code pc = .ok (.ineg, 1)) {x : Int32} (hq : pc + 1 = q) (h : own_End p e below s Q K N (T.setTop (mkF m q Ls (.int (-x) :: rest))) E) : own_End p e below s Q K N (T.setTop (mkF m pc Ls (.int x :: rest))) E := by
  subst hq; exact own_back (fun _ k => XS.ineg X.here hx rfl hd rfl k) h
theorem own_lneg (X : Stand p l e R s' m args below meth c T locs cells slots) (hx : p.tables.exec = Jvm.exec) {pc q : Nat} {Ls : Array Slot} {rest : List Value} (hd : decode c.code pc = .ok (.lneg, 1)) {x : Int64} (hq : pc + 1 = q) (h : own_End p e below s Q K N (T.setTop (mkF m q Ls (.long (-x) :: rest))) E) : own_End p e below s Q K N (T.setTop (mkF m pc Ls (.long x :: rest))) E := by
  subst hq; exact own_back (fun _ k => XS.lneg X.here hx rfl hd rfl k) h
theorem own_i2l (X : Stand p l e R s' m args below meth c T locs cells slots) (hx : p.tables.exec = Jvm.exec) {pc q : Nat} {Ls : Array Slot} {rest : List Value} (hd : decode c.code pc = .ok (.i2l, 1)) {x : Int32} (hq : pc + 1 = q) (h : own_End p e below s Q K N (T.setTop (mkF m q Ls (.long (x.toInt64) :: rest))) E) : own_End p e below s Q K N (T.setTop (mkF m pc Ls (.int x :: rest))) E := by
  subst hq; exact own_back (fun _ k => XS.i2l X.here hx rfl hd rfl k) h
theorem own_l2i (X : Stand p l e R s' m args below meth c T locs cells slots) (hx : p.tables.exec = Jvm.exec) {pc q : Nat} {Ls : Array Slot} {rest : List Value} (hd : decode c.code pc = .ok (.l2i, 1)) {x : Int64} (hq : pc + 1 = q) (h : own_End p e below s Q K N (T.setTop (mkF m q Ls (.int (x.toInt32) :: rest))) E) : own_End p e below s Q K N (T.setTop (mkF m pc Ls (.long x :: rest))) E := by
  subst hq; exact own_back (fun _ k => XS.l2i X.here hx rfl hd rfl k) h
theorem own_i2c (X : Stand p l e R s' m args below meth c T locs cells slots) (hx : p.tables.exec = Jvm.exec) {pc q : Nat} {Ls : Array Slot} {rest : List Value} (hd : decode c.code pc = .ok (.i2c, 1)) {x : Int32} (hq : pc + 1 = q) (h : own_End p e below s Q K N (T.setTop (mkF m q Ls (.int (x.toUInt32.toUInt16.toUInt32.toInt32) :: rest))) E) : own_End p e below s Q K N (T.setTop (mkF m pc Ls (.int x :: rest))) E := by
  subst hq; exact own_back (fun _ k => XS.i2c X.here hx rfl hd rfl k) h
theorem own_i2b (X : Stand p l e R s' m args below meth c T locs cells slots) (hx : p.tables.exec = Jvm.exec) {pc q : Nat} {Ls : Array Slot} {rest : List Value} (hd : decode c.code pc = .ok (.i2b, 1)) {x : Int32} (hq : pc + 1 = q) (h : own_End p e below s Q K N (T.setTop (mkF m q Ls (.int (x.toInt8.toInt32) :: rest))) E) : own_End p e below s Q K N (T.setTop (mkF m pc Ls (.int x :: rest))) E := by
  subst hq; exact own_back (fun _ k => XS.i2b X.here hx rfl hd rfl k) h
theorem own_i2s (X : Stand p l e R s' m args below meth c T locs cells slots) (hx : p.tables.exec = Jvm.exec) {pc q : Nat} {Ls : Array Slot} {rest : List Value} (hd : decode c.code pc = .ok (.i2s, 1)) {x : Int32} (hq : pc + 1 = q) (h : own_End p e below s Q K N (T.setTop (mkF m q Ls (.int (x.toInt16.toInt32) :: rest))) E) : own_End p e below s Q K N (T.setTop (mkF m pc Ls (.int x :: rest))) E := by
  subst hq; exact own_back (fun _ k => XS.i2s X.here hx rfl hd rfl k) h
theorem own_lcmp (X : Stand p l e R s' m args below meth c T locs cells slots) (hx : p.tables.exec = Jvm.exec) {pc q : Nat} {Ls : Array Slot} {rest : List Value} (hd : decode c.code pc = .ok (.lcmp, 1)) {x y : Int64} (hq : pc + 1 = q) (h : own_End p e below s Q K N (T.setTop (mkF m q Ls (.int (lcmpW x y) :: rest))) E) : own_End p e below s Q K N (T.setTop (mkF m pc Ls (.long y :: .long x :: rest))) E := by
  subst hq; exact own_back (fun _ k => XS.lcmp X.here hx rfl hd rfl k) h
theorem own_dup (X : Stand p l e R s' m args below meth c T locs cells slots) (hx : p.tables.exec = Jvm.exec) {pc q : Nat} {Ls : Array Slot} {rest : List Value} (hd : decode c.code pc = .ok (.dup, 1)) {v : Value} (hv : v.category = 1) (hq : pc + 1 = q) (h : own_End p e below s Q K N (T.setTop (mkF m q Ls (v :: v :: rest))) E) : own_End p e below s Q K N (T.setTop (mkF m pc Ls (v :: rest))) E := by
  subst hq; exact own_back (fun _ k => XS.dup X.here hx rfl hd rfl hv k) h
theorem own_dupx1 (X : Stand p l e R s' m args below meth c T locs cells slots) (hx : p.tables.exec = Jvm.exec) {pc q : Nat} {Ls : Array Slot} {rest : List Value} (hd : decode c.code pc = .ok (.dup_x1, 1)) {v w : Value} (hv : v.category = 1) (hw : w.category = 1) (hq : pc + 1 = q) (h : own_End p e below s Q K N (T.setTop (mkF m q Ls (v :: w :: v :: rest))) E) : own_End p e below s Q K N (T.setTop (mkF m pc Ls (v :: w :: rest))) E := by
  subst hq; exact own_back (fun _ k => XS.dupX1 X.here hx rfl hd rfl hv hw k) h
theorem own_pop (X : Stand p l e R s' m args below meth c T locs cells slots) (hx : p.tables.exec = Jvm.exec) {pc q : Nat} {Ls : Array Slot} {rest : List Value} (hd : decode c.code pc = .ok (.pop, 1)) {v : Value} (hv : v.category = 1) (hq : pc + 1 = q) (h : own_End p e below s Q K N (T.setTop (mkF m q Ls (rest))) E) : own_End p e below s Q K N (T.setTop (mkF m pc Ls (v :: rest))) E := by
  subst hq; exact own_back (fun _ k => XS.pop X.here hx rfl hd rfl hv k) h
theorem own_anull (X : Stand p l e R s' m args below meth c T locs cells slots) (hx : p.tables.exec = Jvm.exec) {pc q : Nat} {Ls : Array Slot} {rest : List Value} (hd : decode c.code pc = .ok (.aconst_null, 1))  (hq : pc + 1 = q) (h : own_End p e below s Q K N (T.setTop (mkF m q Ls (.null :: rest))) E) : own_End p e below s Q K N (T.setTop (mkF m pc Ls (rest))) E := by
  subst hq; exact own_back (fun _ k => XS.aconstNull X.here hx rfl hd k) h
theorem own_iload (X : Stand p l e R s' m args below meth c T locs cells slots) (hx : p.tables.exec = Jvm.exec) {pc q : Nat} {Ls : Array Slot} {rest : List Value} {k : Nat} {v : Int32} (hd : decode c.code pc = .ok (.iload k, 2)) (hl : Ls[k]? = some (.val (.int v))) (hq : pc + 2 = q) (h : own_End p e below s Q K N (T.setTop (mkF m q Ls (.int v :: rest))) E) : own_End p e below s Q K N (T.setTop (mkF m pc Ls (rest))) E := by
  subst hq; exact own_back (fun _ k => XS.iload X.here hx rfl hd hl k) h
theorem own_iloadN (X : Stand p l e R s' m args below meth c T locs cells slots) (hx : p.tables.exec = Jvm.exec) {pc q : Nat} {Ls : Array Slot} {rest : List Value} {k : Fin 4} {v : Int32} (hd : decode c.code pc = .ok (.iload_n k, 1)) (hl : Ls[k.val]? = some (.val (.int v))) (hq : pc + 1 = q) (h : own_End p e below s Q K N (T.setTop (mkF m q Ls (.int v :: rest))) E) : own_End p e below s Q K N (T.setTop (mkF m pc Ls (rest))) E := by
  subst hq; exact own_back (fun _ k => XS.iloadN X.here hx rfl hd hl k) h
theorem own_istore (X : Stand p l e R s' m args below meth c T locs cells slots) (hx : p.tables.exec = Jvm.exec) {pc q : Nat} {Ls : Array Slot} {rest : List Value} {k : Nat} {v : Int32} {l' : Array Slot} (hd : decode c.code pc = .ok (.istore k, 2)) (hl : storeLocals Ls k (.int v) = some l') (hq : pc + 2 = q) (h : own_End p e below s Q K N (T.setTop (mkF m q l' (rest))) E) : own_End p e below s Q K N (T.setTop (mkF m pc Ls (.int v :: rest))) E := by
  subst hq; exact own_back (fun _ k => XS.istore X.here hx rfl hd rfl hl k) h
theorem own_istoreN (X : Stand p l e R s' m args below meth c T locs cells slots) (hx : p.tables.exec = Jvm.exec) {pc q : Nat} {Ls : Array Slot} {rest : List Value} {k : Fin 4} {v : Int32} {l' : Array Slot} (hd : decode c.code pc = .ok (.istore_n k, 1)) (hl : storeLocals Ls k.val (.int v) = some l') (hq : pc + 1 = q) (h : own_End p e below s Q K N (T.setTop (mkF m q l' (rest))) E) : own_End p e below s Q K N (T.setTop (mkF m pc Ls (.int v :: rest))) E := by
  subst hq; exact own_back (fun _ k => XS.istoreN X.here hx rfl hd rfl hl k) h
theorem own_lload (X : Stand p l e R s' m args below meth c T locs cells slots) (hx : p.tables.exec = Jvm.exec) {pc q : Nat} {Ls : Array Slot} {rest : List Value} {k : Nat} {v : Int64} (hd : decode c.code pc = .ok (.lload k, 2)) (hl : Ls[k]? = some (.val (.long v))) (hq : pc + 2 = q) (h : own_End p e below s Q K N (T.setTop (mkF m q Ls (.long v :: rest))) E) : own_End p e below s Q K N (T.setTop (mkF m pc Ls (rest))) E := by
  subst hq; exact own_back (fun _ k => XS.lload X.here hx rfl hd hl k) h
theorem own_lloadN (X : Stand p l e R s' m args below meth c T locs cells slots) (hx : p.tables.exec = Jvm.exec) {pc q : Nat} {Ls : Array Slot} {rest : List Value} {k : Fin 4} {v : Int64} (hd : decode c.code pc = .ok (.lload_n k, 1)) (hl : Ls[k.val]? = some (.val (.long v))) (hq : pc + 1 = q) (h : own_End p e below s Q K N (T.setTop (mkF m q Ls (.long v :: rest))) E) : own_End p e below s Q K N (T.setTop (mkF m pc Ls (rest))) E := by
  subst hq; exact own_back (fun _ k => XS.lloadN X.here hx rfl hd hl k) h
theorem own_lstore (X : Stand p l e R s' m args below meth c T locs cells slots) (hx : p.tables.exec = Jvm.exec) {pc q : Nat} {Ls : Array Slot} {rest : List Value} {k : Nat} {v : Int64} {l' : Array Slot} (hd : decode c.code pc = .ok (.lstore k, 2)) (hl : storeLocals Ls k (.long v) = some l') (hq : pc + 2 = q) (h : own_End p e below s Q K N (T.setTop (mkF m q l' (rest))) E) : own_End p e below s Q K N (T.setTop (mkF m pc Ls (.long v :: rest))) E := by
  subst hq; exact own_back (fun _ k => XS.lstore X.here hx rfl hd rfl hl k) h
theorem own_lstoreN (X : Stand p l e R s' m args below meth c T locs cells slots) (hx : p.tables.exec = Jvm.exec) {pc q : Nat} {Ls : Array Slot} {rest : List Value} {k : Fin 4} {v : Int64} {l' : Array Slot} (hd : decode c.code pc = .ok (.lstore_n k, 1)) (hl : storeLocals Ls k.val (.long v) = some l') (hq : pc + 1 = q) (h : own_End p e below s Q K N (T.setTop (mkF m q l' (rest))) E) : own_End p e below s Q K N (T.setTop (mkF m pc Ls (.long v :: rest))) E := by
  subst hq; exact own_back (fun _ k => XS.lstoreN X.here hx rfl hd rfl hl k) h
theorem own_aload (X : Stand p l e R s' m args below meth c T locs cells slots) (hx : p.tables.exec = Jvm.exec) {pc q : Nat} {Ls : Array Slot} {rest : List Value} {k : Nat} {v : Value} (hd : decode c.code pc = .ok (.aload k, 2)) (hl : Ls[k]? = some (.val v)) (hv : v.isRef = true) (hq : pc + 2 = q) (h : own_End p e below s Q K N (T.setTop (mkF m q Ls (v :: rest))) E) : own_End p e below s Q K N (T.setTop (mkF m pc Ls (rest))) E := by
  subst hq; exact own_back (fun _ k => XS.aload X.here hx rfl hd hl hv k) h
theorem own_aloadN (X : Stand p l e R s' m args below meth c T locs cells slots) (hx : p.tables.exec = Jvm.exec) {pc q : Nat} {Ls : Array Slot} {rest : List Value} {k : Fin 4} {v : Value} (hd : decode c.code pc = .ok (.aload_n k, 1)) (hl : Ls[k.val]? = some (.val v)) (hv : v.isRef = true) (hq : pc + 1 = q) (h : own_End p e below s Q K N (T.setTop (mkF m q Ls (v :: rest))) E) : own_End p e below s Q K N (T.setTop (mkF m pc Ls (rest))) E := by
  subst hq; exact own_back (fun _ k => XS.aloadN X.here hx rfl hd hl hv k) h
theorem own_astore (X : Stand p l e R s' m args below meth c T locs cells slots) (hx : p.tables.exec = Jvm.exec) {pc q : Nat} {Ls : Array Slot} {rest : List Value} {k : Nat} {v : Value} {l' : Array Slot} (hd : decode c.code pc = .ok (.astore k, 2)) (hv : v.isRef = true) (hl : storeLocals Ls k v = some l') (hq : pc + 2 = q) (h : own_End p e below s Q K N (T.setTop (mkF m q l' (rest))) E) : own_End p e below s Q K N (T.setTop (mkF m pc Ls (v :: rest))) E := by
  subst hq; exact own_back (fun _ k => XS.astore X.here hx rfl hd rfl hv hl k) h
theorem own_astoreN (X : Stand p l e R s' m args below meth c T locs cells slots) (hx : p.tables.exec = Jvm.exec) {pc q : Nat} {Ls : Array Slot} {rest : List Value} {k : Fin 4} {v : Value} {l' : Array Slot} (hd : decode c.code pc = .ok (.astore_n k, 1)) (hv : v.isRef = true) (hl : storeLocals Ls k.val v = some l') (hq : pc + 1 = q) (h : own_End p e below s Q K N (T.setTop (mkF m q l' (rest))) E) : own_End p e below s Q K N (T.setTop (mkF m pc Ls (v :: rest))) E := by
  subst hq; exact own_back (fun _ k => XS.astoreN X.here hx rfl hd rfl hv hl k) h
theorem own_iinc (X : Stand p l e R s' m args below meth c T locs cells slots) (hx : p.tables.exec = Jvm.exec) {pc q : Nat} {Ls : Array Slot} {rest : List Value} {k : Nat} {cst : Int} {x z : Int32} {l' : Array Slot} (hd : decode c.code pc = .ok (.iinc k cst, 3)) (hl : Ls[k]? = some (.val (.int x))) (hz : Int32.ofInt cst = z) (hl' : storeLocals Ls k (.int (x + z)) = some l') (hq : pc + 3 = q) (h : own_End p e below s Q K N (T.setTop (mkF m q l' (rest))) E) : own_End p e below s Q K N (T.setTop (mkF m pc Ls (rest))) E := by
  subst hq hz; exact own_back (fun _ k => XS.iinc X.here hx rfl hd hl hl' k) h
theorem own_iconst (X : Stand p l e R s' m args below meth c T locs cells slots) (hx : p.tables.exec = Jvm.exec) {pc q : Nat} {Ls : Array Slot} {rest : List Value} {i : Int} {z : Int32} (hd : decode c.code pc = .ok (.iconst i, 1)) (hz : Int32.ofInt i = z) (hq : pc + 1 = q) (h : own_End p e below s Q K N (T.setTop (mkF m q Ls (.int z :: rest))) E) : own_End p e below s Q K N (T.setTop (mkF m pc Ls (rest))) E := by
  subst hq hz; exact own_back (fun _ k => XS.iconst X.here hx rfl hd k) h
theorem own_bipush (X : Stand p l e R s' m args below meth c T locs cells slots) (hx : p.tables.exec = Jvm.exec) {pc q : Nat} {Ls : Array Slot} {rest : List Value} {i : Int} {z : Int32} (hd : decode c.code pc = .ok (.bipush i, 2)) (hz : (Int8.ofInt i).toInt32 = z) (hq : pc + 2 = q) (h : own_End p e below s Q K N (T.setTop (mkF m q Ls (.int z :: rest))) E) : own_End p e below s Q K N (T.setTop (mkF m pc Ls (rest))) E := by
  subst hq hz; exact own_back (fun _ k => XS.bipush X.here hx rfl hd k) h
theorem own_sipush (X : Stand p l e R s' m args below meth c T locs cells slots) (hx : p.tables.exec = Jvm.exec) {pc q : Nat} {Ls : Array Slot} {rest : List Value} {i : Int} {z : Int32} (hd : decode c.code pc = .ok (.sipush i, 3)) (hz : (Int16.ofInt i).toInt32 = z) (hq : pc + 3 = q) (h : own_End p e below s Q K N (T.setTop (mkF m q Ls (.int z :: rest))) E) : own_End p e below s Q K N (T.setTop (mkF m pc Ls (rest))) E := by
  subst hq hz; exact own_back (fun _ k => XS.sipush X.here hx rfl hd k) h
theorem own_lconst (X : Stand p l e R s' m args below meth c T locs cells slots) (hx : p.tables.exec = Jvm.exec) {pc q : Nat} {Ls : Array Slot} {rest : List Value} {i : Fin 2} {z : Int64} (hd : decode c.code pc = .ok (.lconst i, 1)) (hz : Int64.ofNat i = z) (hq : pc + 1 = q) (h : own_End p e below s Q K N (T.setTop (mkF m q Ls (.long z :: rest))) E) : own_End p e below s Q K N (T.setTop (mkF m pc Ls (rest))) E := by
  subst hq hz; exact own_back (fun _ k => XS.lconst X.here hx rfl hd k) h
theorem own_goto (X : Stand p l e R s' m args below meth c T locs cells slots) (hx : p.tables.exec = Jvm.exec) {pc q : Nat} {Ls : Array Slot} {rest : List Value} {o : Int} (hd : decode c.code pc = .ok (.goto o, 3)) (ho : 0 ≤ (pc : Int) + o) (hp : ((pc : Int) + o).toNat = q) (h : own_End p e below s Q K N (T.setTop (mkF m q Ls (rest))) E) : own_End p e below s Q K N (T.setTop (mkF m pc Ls (rest))) E := by
  exact own_back (fun _ k => XS.goto X.here hx rfl (pc0 := pc) (pc' := q) rfl hd ho hp k) h
theorem own_ifY (X : Stand p l e R s' m args below meth c T locs cells slots) (hx : p.tables.exec = Jvm.exec) {pc q : Nat} {Ls : Array Slot} {rest : List Value} {cd : ClassFile.Cond} {x : Int32} {o : Int} (hd : decode c.code pc = .ok (.ifCond cd o, 3)) (hc : if_icmp.holds cd x 0 = true) (ho : 0 ≤ (pc : Int) + o) (hp : ((pc : Int) + o).toNat = q) (h : own_End p e below s Q K N (T.setTop (mkF m q Ls (rest))) E) : own_End p e below s Q K N (T.setTop (mkF m pc Ls (.int x :: rest))) E := by
  exact own_back (fun _ k => XS.ifYes X.here hx rfl (pc0 := pc) (pc' := q) rfl hd rfl ((if0 _ _).trans hc) ho hp k) h
theorem own_ifN (X : Stand p l e R s' m args below meth c T locs cells slots) (hx : p.tables.exec = Jvm.exec) {pc q : Nat} {Ls : Array Slot} {rest : List Value} {cd : ClassFile.Cond} {x : Int32} {o : Int} (hd : decode c.code pc = .ok (.ifCond cd o, 3)) (hc : if_icmp.holds cd x 0 = false) (hq : pc + 3 = q) (h : own_End p e below s Q K N (T.setTop (mkF m q Ls (rest))) E) : own_End p e below s Q K N (T.setTop (mkF m pc Ls (.int x :: rest))) E := by
  subst hq; exact own_back (fun _ k => XS.ifNo X.here hx rfl hd rfl ((if0 _ _).trans hc) k) h
theorem own_icY (X : Stand p l e R s' m args below meth c T locs cells slots) (hx : p.tables.exec = Jvm.exec) {pc q : Nat} {Ls : Array Slot} {rest : List Value} {cd : ClassFile.Cond} {x y : Int32} {o : Int} (hd : decode c.code pc = .ok (.if_icmp cd o, 3)) (hc : if_icmp.holds cd x y = true) (ho : 0 ≤ (pc : Int) + o) (hp : ((pc : Int) + o).toNat = q) (h : own_End p e below s Q K N (T.setTop (mkF m q Ls (rest))) E) : own_End p e below s Q K N (T.setTop (mkF m pc Ls (.int y :: .int x :: rest))) E := by
  exact own_back (fun _ k => XS.icmpYes X.here hx rfl (pc0 := pc) (pc' := q) rfl hd rfl hc ho hp k) h
theorem own_icN (X : Stand p l e R s' m args below meth c T locs cells slots) (hx : p.tables.exec = Jvm.exec) {pc q : Nat} {Ls : Array Slot} {rest : List Value} {cd : ClassFile.Cond} {x y : Int32} {o : Int} (hd : decode c.code pc = .ok (.if_icmp cd o, 3)) (hc : if_icmp.holds cd x y = false) (hq : pc + 3 = q) (h : own_End p e below s Q K N (T.setTop (mkF m q Ls (rest))) E) : own_End p e below s Q K N (T.setTop (mkF m pc Ls (.int y :: .int x :: rest))) E := by
  subst hq; exact own_back (fun _ k => XS.icmpNo X.here hx rfl hd rfl hc k) h
theorem own_lcY (X : Stand p l e R s' m args below meth c T locs cells slots) (hx : p.tables.exec = Jvm.exec) {pc r q : Nat} {Ls : Array Slot} {rest : List Value} {cd : ClassFile.Cond} {x y : Int64} {o : Int} (hd : decode c.code pc = .ok (.lcmp, 1)) (hr : pc + 1 = r) (hd' : decode c.code r = .ok (.ifCond cd o, 3)) (hc : if_icmp.holds cd (lcmpW x y) 0 = true) (ho : 0 ≤ (r : Int) + o) (hp : ((r : Int) + o).toNat = q) (h : own_End p e below s Q K N (T.setTop (mkF m q Ls (rest))) E) : own_End p e below s Q K N (T.setTop (mkF m pc Ls (.long y :: .long x :: rest))) E := own_lcmp X hx hd hr (own_ifY X hx hd' hc ho hp h)
theorem own_lcN (X : Stand p l e R s' m args below meth c T locs cells slots) (hx : p.tables.exec = Jvm.exec) {pc r q : Nat} {Ls : Array Slot} {rest : List Value} {cd : ClassFile.Cond} {x y : Int64} {o : Int} (hd : decode c.code pc = .ok (.lcmp, 1)) (hr : pc + 1 = r) (hd' : decode c.code r = .ok (.ifCond cd o, 3)) (hc : if_icmp.holds cd (lcmpW x y) 0 = false) (hq : r + 3 = q) (h : own_End p e below s Q K N (T.setTop (mkF m q Ls (rest))) E) : own_End p e below s Q K N (T.setTop (mkF m pc Ls (.long y :: .long x :: rest))) E := own_lcmp X hx hd hr (own_ifN X hx hd' hc hq h)
theorem own_tlt {x y : Int64} (h : x < y) : if_icmp.holds .lt (lcmpW x y) 0 = true ∧ if_icmp.holds .ge (lcmpW x y) 0 = false ∧ if_icmp.holds .gt (lcmpW y x) 0 = true ∧ if_icmp.holds .le (lcmpW y x) 0 = false :=
  ⟨(tlt ((lw_lt x y).mpr h)).1, (tlt ((lw_lt x y).mpr h)).2.1, (tlt ((lw_gt y x).mpr h)).2.2.1, (tlt ((lw_gt y x).mpr h)).2.2.2⟩
theorem own_flt {x y : Int64} (h : ¬ x < y) : if_icmp.holds .lt (lcmpW x y) 0 = false ∧ if_icmp.holds .ge (lcmpW x y) 0 = true ∧ if_icmp.holds .gt (lcmpW y x) 0 = false ∧ if_icmp.holds .le (lcmpW y x) 0 = true :=
  ⟨(flt (fun q => h ((lw_lt x y).mp q))).1, (flt (fun q => h ((lw_lt x y).mp q))).2.1, (flt (fun q => h ((lw_gt y x).mp q))).2.2.1, (flt (fun q => h ((lw_gt y x).mp q))).2.2.2⟩
theorem own_teq {x y : Int64} (h : x = y) : if_icmp.holds .eq (lcmpW x y) 0 = true ∧ if_icmp.holds .ne (lcmpW x y) 0 = false := teq ((lw_eq x y).mpr h)
theorem own_feq {x y : Int64} (h : ¬ x = y) : if_icmp.holds .eq (lcmpW x y) 0 = false ∧ if_icmp.holds .ne (lcmpW x y) 0 = true := feq (fun q => h ((lw_eq x y).mp q))
theorem own_retV (X : Stand p l e R s m args below meth c T locs cells slots) (hx : p.tables.exec = Jvm.exec) {pc : Nat} {Ls : Array Slot}  (hret : meth.sig.returnType = none) (hlk : meth.locks = false) (hc : cells ≤ K) (hs : slots ≤ N) (hd : decode c.code pc = .ok (.return_, 1)) (hQ : Q none T.heap locs) : own_End p e below s Q K N (T.setTop (mkF m pc Ls [])) := by
  obtain ⟨fs, hr, hrun, hended, hW, hsame⟩ := X.leave (v := none) (fun _ => rfl) hlk
  refine ⟨_, _, ?_, hrun, hended, _, _, rfl, hQ, ⟨_, rfl⟩, hW, hsame.mono hc hs⟩
  exact X.returnOut hx hret hd hr
theorem own_retI (X : Stand p l e R s m args below meth c T locs cells slots) (hx : p.tables.exec = Jvm.exec) {pc : Nat} {Ls : Array Slot} {rest : List Value} {z : Int32} (hret : meth.sig.returnType = some .int) (hlk : meth.locks = false) (hc : cells ≤ K) (hs : slots ≤ N) (hd : decode c.code pc = .ok (.ireturn, 1)) (hQ : Q (some (.int z)) T.heap locs) : own_End p e below s Q K N (T.setTop (mkF m pc Ls (.int z :: rest))) := by
  obtain ⟨fs, hr, hrun, hended, hW, hsame⟩ := X.leave (v := (some (.int z))) (fun h => by rw [hret] at h; cases h) hlk
  refine ⟨_, _, ?_, hrun, hended, _, _, rfl, hQ, ⟨_, rfl⟩, hW, hsame.mono hc hs⟩
  have hm' : T.vm.method? m = some meth := X.method'
  have hn : narrow .int (.int z) = .int z := rfl
  show Steps p.tables e below (T.setTop { method := m, pc := pc, locals := Ls, stack := _ :: rest, locked := none }) _
  jvm_step X.here [X.here.top, hx, hd, hm', hret, hn]
  first | (intro acts; rw [hr _ acts rfl rfl rfl]) | rw [hr _ _ rfl rfl rfl]
  exact Steps.refl _
theorem own_retJ (X : Stand p l e R s m args below meth c T locs cells slots) (hx : p.tables.exec = Jvm.exec) {pc : Nat} {Ls : Array Slot} {rest : List Value} {z : Int64} (hret : meth.sig.returnType = some .long) (hlk : meth.locks = false) (hc : cells ≤ K) (hs : slots ≤ N) (hd : decode c.code pc = .ok (.lreturn, 1)) (hQ : Q (some (.long z)) T.heap locs) : own_End p e below s Q K N (T.setTop (mkF m pc Ls (.long z :: rest))) := by
  obtain ⟨fs, hr, hrun, hended, hW, hsame⟩ := X.leave (v := (some (.long z))) (fun h => by rw [hret] at h; cases h) hlk
  refine ⟨_, _, ?_, hrun, hended, _, _, rfl, hQ, ⟨_, rfl⟩, hW, hsame.mono hc hs⟩
  have hm' : T.vm.method? m = some meth := X.method'
  have hn : narrow .long (.long z) = .long z := rfl
  show Steps p.tables e below (T.setTop { method := m, pc := pc, locals := Ls, stack := _ :: rest, locked := none }) _
  jvm_step X.here [X.here.top, hx, hd, hm', hret, hn]
  first | (intro acts; rw [hr _ acts rfl rfl rfl]) | rw [hr _ _ rfl rfl rfl]
  exact Steps.refl _
theorem own_retN (X : Stand p l e R s m args below meth c T locs cells slots) (hx : p.tables.exec = Jvm.exec) {pc : Nat} {Ls : Array Slot} {rest : List Value} {z : Int32} {t : FieldType} (ht : t = .boolean ∨ t = .byte ∨ t = .char ∨ t = .short) (hret : meth.sig.returnType = some t) (hlk : meth.locks = false) (hc : cells ≤ K) (hs : slots ≤ N) (hd : decode c.code pc = .ok (.ireturn, 1)) (hQ : Q (some (.int (nar t z))) T.heap locs) : own_End p e below s Q K N (T.setTop (mkF m pc Ls (.int z :: rest))) := by
  obtain ⟨fs, hr, hrun, hended, hW, hsame⟩ := X.leave (v := (some (.int (nar t z)))) (fun h => by rw [hret] at h; cases h) hlk
  refine ⟨_, _, ?_, hrun, hended, _, _, rfl, hQ, ⟨_, rfl⟩, hW, hsame.mono hc hs⟩
  exact retN X hx hret ht hd hr
theorem own_b (P : Prop) [Decidable P] : nar .boolean (if P then (1 : Int32) else 0) = if P then (1 : Int32) else 0 := by
  split <;> rfl
end Own
theorem own_d1_0 : decode jdk_29_method_65_code 0 = .ok (.iload_n 0, 1) := by decide +kernel
theorem own_d1_1 : decode jdk_29_method_65_code 1 = .ok (.iload_n 1, 1) := by decide +kernel
theorem own_d1_2 : decode jdk_29_method_65_code 2 = .ok (.if_icmp .lt 7, 3) := by decide +kernel
theorem own_d1_9 : decode jdk_29_method_65_code 9 = .ok (.iload_n 1, 1) := by decide +kernel
theorem own_d1_10 : decode jdk_29_method_65_code 10 = .ok (.ireturn, 1) := by decide +kernel
theorem own_d1_5 : decode jdk_29_method_65_code 5 = .ok (.iload_n 0, 1) := by decide +kernel
theorem own_d1_6 : decode jdk_29_method_65_code 6 = .ok (.goto 4, 3) := by decide +kernel
def own_F1 (p0 : Int32) (p1 : Int32) : Int32 := (if p0 < p1 then p1 else p0)
def own_Q1 (Z : State) (p0 : Int32) (p1 : Int32) (h0 : Heap) (n0 : Nat) (v : Option Value) (h : Heap) (L : List Loc) : Prop := v = some (.int (own_F1 p0 p1)) ∧ Fr n0 L ∧ h = h0
theorem own_ef_rm1 (m : MethodId) (p0 : Int32) (p1 : Int32) : entryFrame m #[(.int p0), (.int p1)] 2 = mkF m 0 #[.val (.int p0), .val (.int p1)] [] := by first | (simp [entryFrame, mkF, argsToLocals, Value.category]; done) | rfl
set_option maxRecDepth 65536 in
set_option maxHeartbeats 40000000 in
theorem own_rm1 (l : Launch) (Z : State) (a0 : Array Value) (hw : ∀ d ∈ tables_1, d.before a0 Z = true) (ws : List Jvm.Cond) (p0 : Int32) (p1 : Int32) (h0 : Heap) (n0 : Nat) (Z0 : n0 ≤ h0.size) :
    MetFree l (⟨"java/lang/Math", "max", "(II)I"⟩ : MethodName) (head1 (Jvm.Cond.code (⟨"java/lang/Math", "max", "(II)I"⟩ : MethodName) jdk_29_method_65_code 2 (some .int) :: ws) ({ frames := 0, cells := 0, slots := 0, locals := 0 } : Room)) (fun a U => a = #[(.int p0), (.int p1)] ∧ Z.Warmed39 U.vm ∧ U.heap = h0) (fun _ _ _ _ _ => True) (fun _ U o U' => ∃ v L, o = .returned v ∧ own_Q1 Z p0 p1 h0 n0 v U'.heap L ∧ FrameEnd U o U' L ({ frames := 0, cells := 0, slots := 0, locals := 0 } : Room).cells ({ frames := 0, cells := 0, slots := 0, locals := 0 } : Room).slots) := by
  refine MetFree.of_bodySF (Jvm.Free.JP.mathPlain rfl (by decide +kernel)) hisR ?_
  intro p e s m args below meth c s₁ Bd hml0 hP hK
  obtain ⟨rfl, hZ, hh⟩ := hP
  have hx := Bd.exec
  have hby := Bd.bytes
  have hml : c.maxLocals = 2 := hml0
  have hown : s.vm.findClass "java/lang/Math" = some m.cls := findClass_of_methodNamed Bd.named
  have hnm := (name_of_methodNamed Bd.named Bd.method).1
  have X0 : Stand p l e ({ frames := 0, cells := 0, slots := 0, locals := 0 } : Room) s m #[(.int p0), (.int p1)] below meth c s₁ [] 0 0 := Stand.of_body Bd
  have e0 : s₁.heap = h0 := by rw [← hh, Bd.state]; rfl
  have N0 := Fr.nil n0
  show own_End p e below s (own_Q1 Z p0 p1 h0 n0) ({ frames := 0, cells := 0, slots := 0, locals := 0 } : Room).cells ({ frames := 0, cells := 0, slots := 0, locals := 0 } : Room).slots (s₁.setTop (entryFrame m #[(.int p0), (.int p1)] 2))
  rw [own_ef_rm1]
  refine own_iloadN X0 hx (hb hby own_d1_0) rfl (q := 1) rfl ?_
  refine own_iloadN X0 hx (hb hby own_d1_1) rfl (q := 2) rfl ?_
  by_cases hc2_1 : p0 < p1
  · refine own_icY X0 hx (hb hby own_d1_2) (tlt hc2_1).1 (q := 9) (by decide) (by decide) ?_
    refine own_iloadN X0 hx (hb hby own_d1_9) rfl (q := 10) rfl ?_
    refine own_retI X0 hx Bd.returns Bd.notSynchronized (by decide) (by decide) (hb hby own_d1_10) ?_
    show own_Q1 Z p0 p1 h0 n0 _ s₁.heap _
    exact ⟨(by simp only [own_F1, if_pos hc2_1]), N0, e0⟩
  · refine own_icN X0 hx (hb hby own_d1_2) (flt hc2_1).1 (q := 5) rfl ?_
    refine own_iloadN X0 hx (hb hby own_d1_5) rfl (q := 6) rfl ?_
    refine own_goto X0 hx (hb hby own_d1_6) (q := 10) (by decide) (by decide) ?_
    refine own_retI X0 hx Bd.returns Bd.notSynchronized (by decide) (by decide) (hb hby own_d1_10) ?_
    show own_Q1 Z p0 p1 h0 n0 _ s₁.heap _
    exact ⟨(by simp only [own_F1, if_neg hc2_1]), N0, e0⟩
theorem own_d2_0 : decode prog_61_method_5_code 0 = .ok (.ldc2_w 90, 3) := by decide +kernel
theorem own_d2_3 : decode prog_61_method_5_code 3 = .ok (.lstore_n 2, 1) := by decide +kernel
theorem own_d2_4 : decode prog_61_method_5_code 4 = .ok (.ldc2_w 92, 3) := by decide +kernel
theorem own_d2_7 : decode prog_61_method_5_code 7 = .ok (.lstore 4, 2) := by decide +kernel
theorem own_d2_9 : decode prog_61_method_5_code 9 = .ok (.ldc2_w 94, 3) := by decide +kernel
theorem own_d2_12 : decode prog_61_method_5_code 12 = .ok (.lload_n 2, 1) := by decide +kernel
theorem own_d2_13 : decode prog_61_method_5_code 13 = .ok (.iload_n 0, 1) := by decide +kernel
theorem own_d2_14 : decode prog_61_method_5_code 14 = .ok (.i2l, 1) := by decide +kernel
theorem own_d2_15 : decode prog_61_method_5_code 15 = .ok (.lmul, 1) := by decide +kernel
theorem own_d2_16 : decode prog_61_method_5_code 16 = .ok (.ladd, 1) := by decide +kernel
theorem own_d2_17 : decode prog_61_method_5_code 17 = .ok (.lload 4, 2) := by decide +kernel
theorem own_d2_19 : decode prog_61_method_5_code 19 = .ok (.iload_n 1, 1) := by decide +kernel
theorem own_d2_20 : decode prog_61_method_5_code 20 = .ok (.i2l, 1) := by decide +kernel
theorem own_d2_21 : decode prog_61_method_5_code 21 = .ok (.lmul, 1) := by decide +kernel
theorem own_d2_22 : decode prog_61_method_5_code 22 = .ok (.ladd, 1) := by decide +kernel
theorem own_d2_23 : decode prog_61_method_5_code 23 = .ok (.lreturn, 1) := by decide +kernel
def own_Q2 (Z : State) (p0 : Int32) (p1 : Int32) (h0 : Heap) (n0 : Nat) (v : Option Value) (h : Heap) (L : List Loc) : Prop := v = some (.long (((370 : Int64) + ((23 : Int64) * (p0.toInt64))) + ((368 : Int64) * (p1.toInt64)))) ∧ Fr n0 L ∧ h = h0
theorem own_pn_rm2 : plainName "com/example/hardy_election/hardyelection/SharedMemory" = true := by first | (simp [plainName, overriddenIn]; done) | decide +kernel
theorem own_ef_rm2 (m : MethodId) (p0 : Int32) (p1 : Int32) : entryFrame m #[(.int p0), (.int p1)] 6 = mkF m 0 #[.val (.int p0), .val (.int p1), .unset, .unset, .unset, .unset] [] := by first | (simp [entryFrame, mkF, argsToLocals, Value.category]; done) | rfl
set_option maxRecDepth 65536 in
set_option maxHeartbeats 40000000 in
theorem own_rm2 (l : Launch) (Z : State) (a0 : Array Value) (hw : ∀ d ∈ tables_1, d.before a0 Z = true) (ws : List Jvm.Cond) (p0 : Int32) (p1 : Int32) (h0 : Heap) (n0 : Nat) (Z0 : n0 ≤ h0.size) :
    MetFree l (⟨"com/example/hardy_election/hardyelection/SharedMemory", "bytes", "(II)J"⟩ : MethodName) (head1 (Jvm.Cond.code (⟨"com/example/hardy_election/hardyelection/SharedMemory", "bytes", "(II)J"⟩ : MethodName) prog_61_method_5_code 6 (some .long) :: ws) ({ frames := 0, cells := 0, slots := 0, locals := 0 } : Room)) (fun a U => a = #[(.int p0), (.int p1)] ∧ Z.Warmed39 U.vm ∧ U.heap = h0) (fun _ _ _ _ _ => True) (fun _ U o U' => ∃ v L, o = .returned v ∧ own_Q2 Z p0 p1 h0 n0 v U'.heap L ∧ FrameEnd U o U' L ({ frames := 0, cells := 0, slots := 0, locals := 0 } : Room).cells ({ frames := 0, cells := 0, slots := 0, locals := 0 } : Room).slots) := by
  refine MetFree.of_bodySF (plainFor_of_name own_pn_rm2) hisR ?_
  intro p e s m args below meth c s₁ Bd hml0 hP hK
  obtain ⟨rfl, hZ, hh⟩ := hP
  have hx := Bd.exec
  have hby := Bd.bytes
  have hml : c.maxLocals = 6 := hml0
  have hown : s.vm.findClass "com/example/hardy_election/hardyelection/SharedMemory" = some m.cls := findClass_of_methodNamed Bd.named
  have hnm := (name_of_methodNamed Bd.named Bd.method).1
  have X0 : Stand p l e ({ frames := 0, cells := 0, slots := 0, locals := 0 } : Room) s m #[(.int p0), (.int p1)] below meth c s₁ [] 0 0 := Stand.of_body Bd
  have e0 : s₁.heap = h0 := by rw [← hh, Bd.state]; rfl
  have N0 := Fr.nil n0
  show own_End p e below s (own_Q2 Z p0 p1 h0 n0) ({ frames := 0, cells := 0, slots := 0, locals := 0 } : Room).cells ({ frames := 0, cells := 0, slots := 0, locals := 0 } : Room).slots (s₁.setTop (entryFrame m #[(.int p0), (.int p1)] 6))
  rw [own_ef_rm2]
  refine own_back (X0.ldc2Long hx hown (mvT hZ (hw _ (List.mem_of_getElem? (i := 10) rfl))) (g := (mkF m 0 #[.val (.int p0), .val (.int p1), .unset, .unset, .unset, .unset] [])) rfl (hb hby own_d2_0)) ?_
  show own_End p e below s _ _ _ (s₁.setTop (mkF m 3 #[.val (.int p0), .val (.int p1), .unset, .unset, .unset, .unset] [(.long (23 : Int64))]))
  refine own_lstoreN X0 hx (hb hby own_d2_3) (l' := #[.val (.int p0), .val (.int p1), .val (.long (23 : Int64)), .second, .unset, .unset]) rfl (q := 4) rfl ?_
  refine own_back (X0.ldc2Long hx hown (mvT hZ (hw _ (List.mem_of_getElem? (i := 11) rfl))) (g := (mkF m 4 #[.val (.int p0), .val (.int p1), .val (.long (23 : Int64)), .second, .unset, .unset] [])) rfl (hb hby own_d2_4)) ?_
  show own_End p e below s _ _ _ (s₁.setTop (mkF m 7 #[.val (.int p0), .val (.int p1), .val (.long (23 : Int64)), .second, .unset, .unset] [(.long (368 : Int64))]))
  refine own_lstore X0 hx (hb hby own_d2_7) (l' := #[.val (.int p0), .val (.int p1), .val (.long (23 : Int64)), .second, .val (.long (368 : Int64)), .second]) rfl (q := 9) rfl ?_
  refine own_back (X0.ldc2Long hx hown (mvT hZ (hw _ (List.mem_of_getElem? (i := 12) rfl))) (g := (mkF m 9 #[.val (.int p0), .val (.int p1), .val (.long (23 : Int64)), .second, .val (.long (368 : Int64)), .second] [])) rfl (hb hby own_d2_9)) ?_
  show own_End p e below s _ _ _ (s₁.setTop (mkF m 12 #[.val (.int p0), .val (.int p1), .val (.long (23 : Int64)), .second, .val (.long (368 : Int64)), .second] [(.long (370 : Int64))]))
  refine own_lloadN X0 hx (hb hby own_d2_12) rfl (q := 13) rfl ?_
  refine own_iloadN X0 hx (hb hby own_d2_13) rfl (q := 14) rfl ?_
  refine own_i2l X0 hx (hb hby own_d2_14) (q := 15) rfl ?_
  refine own_lmul X0 hx (hb hby own_d2_15) (q := 16) rfl ?_
  refine own_ladd X0 hx (hb hby own_d2_16) (q := 17) rfl ?_
  refine own_lload X0 hx (hb hby own_d2_17) rfl (q := 19) rfl ?_
  refine own_iloadN X0 hx (hb hby own_d2_19) rfl (q := 20) rfl ?_
  refine own_i2l X0 hx (hb hby own_d2_20) (q := 21) rfl ?_
  refine own_lmul X0 hx (hb hby own_d2_21) (q := 22) rfl ?_
  refine own_ladd X0 hx (hb hby own_d2_22) (q := 23) rfl ?_
  refine own_retJ X0 hx Bd.returns Bd.notSynchronized (by decide) (by decide) (hb hby own_d2_23) ?_
  show own_Q2 Z p0 p1 h0 n0 _ s₁.heap _
  exact ⟨rfl, N0, e0⟩
theorem own_max (p : Int32) : 1 ≤ (own_F1 1 (p &&& 2147483647)).toInt := by
  have e1 : (1 : Int32).toInt = 1 := by decide
  rw [own_F1]
  split
  · rename_i h; rw [Int32.lt_iff_toInt_lt, e1] at h; omega
  · rw [e1]; omega
theorem own_nz (p : Int32) : ((own_F1 1 (p &&& 2147483647)).toInt64 + 1) ≠ 0 := fun q => by
  have h1 := own_max p
  have h2 := rng32 (own_F1 1 (p &&& 2147483647))
  have k : (own_F1 1 (p &&& 2147483647)).toInt64.toInt = (own_F1 1 (p &&& 2147483647)).toInt := Jvm.Kit.i64_of_i32 _
  have l1 : (1 : Int64).toInt = 1 := by decide
  have h3 := congrArg Int64.toInt q
  rw [Jvm.Kit.i64_add (by rw [k, l1]; omega) (by rw [k, l1]; omega), k, l1] at h3
  have z : (0 : Int64).toInt = 0 := by decide
  rw [z] at h3; omega
theorem own_pd0 : parseMethodDescriptor "(II)I" = some ⟨[.int, .int], some .int⟩ := by decide +kernel
theorem own_pd1 : parseMethodDescriptor "(II)J" = some ⟨[.int, .int], some .long⟩ := by decide +kernel
def own_F0 (p0 : Int32) (p1 : Int32) : Int32 := (if (((370 : Int64) + ((23 : Int64) * ((own_F1 (1 : Int32) (p0 &&& (2147483647 : Int32))).toInt64))) + ((368 : Int64) * (((((p1.toInt64) &&& (2147483647 : Int64)) - (((p1.toInt64) &&& (2147483647 : Int64)) / (((own_F1 (1 : Int32) (p0 &&& (2147483647 : Int32))).toInt64) + (1 : Int64))) * (((own_F1 (1 : Int32) (p0 &&& (2147483647 : Int32))).toInt64) + (1 : Int64))).toInt32).toInt64))) = (((((370 : Int64) + ((23 : Int64) * ((1 : Int32).toInt64))) + ((368 : Int64) * ((0 : Int32).toInt64))) + (((((370 : Int64) + ((23 : Int64) * ((2 : Int32).toInt64))) + ((368 : Int64) * ((0 : Int32).toInt64))) - (((370 : Int64) + ((23 : Int64) * ((1 : Int32).toInt64))) + ((368 : Int64) * ((0 : Int32).toInt64)))) * (((own_F1 (1 : Int32) (p0 &&& (2147483647 : Int32))).toInt64) - (1 : Int64)))) + (((((370 : Int64) + ((23 : Int64) * ((1 : Int32).toInt64))) + ((368 : Int64) * ((1 : Int32).toInt64))) - (((370 : Int64) + ((23 : Int64) * ((1 : Int32).toInt64))) + ((368 : Int64) * ((0 : Int32).toInt64)))) * (((((p1.toInt64) &&& (2147483647 : Int64)) - (((p1.toInt64) &&& (2147483647 : Int64)) / (((own_F1 (1 : Int32) (p0 &&& (2147483647 : Int32))).toInt64) + (1 : Int64))) * (((own_F1 (1 : Int32) (p0 &&& (2147483647 : Int32))).toInt64) + (1 : Int64))).toInt32).toInt64))) then (1 : Int32) else (0 : Int32))
def own_Q0 (Z : State) (p0 : Int32) (p1 : Int32) (h0 : Heap) (n0 : Nat) (v : Option Value) (h : Heap) (L : List Loc) : Prop := v = some (.int (own_F0 p0 p1)) ∧ Fr n0 L
theorem own_pn_rm0 : plainName "com/example/hardy_election/hardyelection/SharedMemoryBytesPinLaw" = true := by first | (simp [plainName, overriddenIn]; done) | decide +kernel
theorem own_ef_rm0 (m : MethodId) (p0 : Int32) (p1 : Int32) : entryFrame m #[(.int p0), (.int p1)] maxLocals = mkF m 0 #[.val (.int p0), .val (.int p1), .unset, .unset, .unset, .unset, .unset, .unset, .unset, .unset, .unset, .unset] [] := by first | (simp [entryFrame, mkF, argsToLocals, Value.category, maxLocals]; done) | rfl
set_option maxRecDepth 65536 in
set_option maxHeartbeats 40000000 in
theorem own_rm0 (l : Launch) (Z : State) (a0 : Array Value) (hw : ∀ d ∈ tables_1, d.before a0 Z = true) (ws : List Jvm.Cond) (p0 : Int32) (p1 : Int32) (h0 : Heap) (n0 : Nat) (Z0 : n0 ≤ h0.size) :
    MetFree l x (head1 (Jvm.Cond.code x code maxLocals ret :: ws) room_1) (fun a U => a = #[(.int p0), (.int p1)] ∧ Z.Warmed39 U.vm ∧ U.heap = h0) (fun _ _ _ _ _ => True) (fun _ U o U' => ∃ v L, o = .returned v ∧ own_Q0 Z p0 p1 h0 n0 v U'.heap L ∧ FrameEnd U o U' L room_1.cells room_1.slots) := by
  refine MetFree.of_bodySF (plainFor_of_name own_pn_rm0) hisR ?_
  intro p e s m args below meth c s₁ Bd hml0 hP hK
  obtain ⟨rfl, hZ, hh⟩ := hP
  have hx := Bd.exec
  have hby := Bd.bytes
  have hml : c.maxLocals = 12 := hml0
  have hown : s.vm.findClass "com/example/hardy_election/hardyelection/SharedMemoryBytesPinLaw" = some m.cls := findClass_of_methodNamed Bd.named
  have hnm := (name_of_methodNamed Bd.named Bd.method).1
  have X0 : Stand p l e room_1 s m #[(.int p0), (.int p1)] below meth c s₁ [] 0 0 := Stand.of_body Bd
  have e0 : s₁.heap = h0 := by rw [← hh, Bd.state]; rfl
  have N0 := Fr.nil n0
  show own_End p e below s (own_Q0 Z p0 p1 h0 n0) room_1.cells room_1.slots (s₁.setTop (entryFrame m #[(.int p0), (.int p1)] maxLocals))
  rw [own_ef_rm0]
  refine own_iconst X0 hx (hb hby at_0) (z := 1) rfl (q := 1) rfl ?_
  refine own_iloadN X0 hx (hb hby at_1) rfl (q := 2) rfl ?_
  refine own_back (X0.ldcInt hx hown (mvT hZ (hw _ (List.mem_of_getElem? (i := 0) rfl))) (g := (mkF m 2 #[.val (.int p0), .val (.int p1), .unset, .unset, .unset, .unset, .unset, .unset, .unset, .unset, .unset, .unset] [(.int p0), (.int (1 : Int32))])) rfl (hb hby at_2)) ?_
  show own_End p e below s _ _ _ (s₁.setTop (mkF m 4 #[.val (.int p0), .val (.int p1), .unset, .unset, .unset, .unset, .unset, .unset, .unset, .unset, .unset, .unset] [(.int (2147483647 : Int32)), (.int p0), (.int (1 : Int32))]))
  refine own_iand X0 hx (hb hby at_4) (q := 5) rfl ?_
  obtain ⟨_, _, ⟨T5, L5, k5, n5⟩, -, X5, ⟨Lc5, hQ5, l5, y5, z5⟩, st5⟩ := Jvm.LawKit.callS X0 hx (y := (⟨"java/lang/Math", "max", "(II)I"⟩ : MethodName)) hown (mvT hZ (hw _ (List.mem_of_getElem? (i := 1) rfl))) (mvT hZ (hw _ (List.mem_of_getElem? (i := 2) rfl))) (mvT hZ (hw _ (List.mem_of_getElem? (i := 3) rfl))) (mvT hZ (hw _ (List.mem_of_getElem? (i := 4) rfl))) (by decide) (backOf (W := 0) (own_rm1 l Z a0 hw [] (1 : Int32) (p0 &&& (2147483647 : Int32)) h0 n0 Z0 ) hZ (hw _ (List.mem_of_getElem? (i := 4) rfl)) (hw _ (List.mem_of_getElem? (i := 3) rfl)) (by decide) (by decide)) (g := (mkF m 5 #[.val (.int p0), .val (.int p1), .unset, .unset, .unset, .unset, .unset, .unset, .unset, .unset, .unset, .unset] [(.int (p0 &&& (2147483647 : Int32))), (.int (1 : Int32))])) rfl (by rw [hml]; rfl) (argsL := [(.int (1 : Int32)), (.int (p0 &&& (2147483647 : Int32)))]) (rest := []) (lenOf own_pd0 rfl) rfl (by show 2 * 0 + _ ≤ _; exact Nat.le_of_eq rfl) (hb hby at_5) (fun _ _ => ⟨rfl, e0, (by decide : 0 + 0 ≤ _), (by decide : 0 + 0 ≤ _)⟩)
  dsimp only [Pt.U, Pt.locs, Pt.cells, Pt.slots] at X5 l5 y5 z5 st5 hQ5
  subst l5 y5 z5
  obtain ⟨rfl, N5q, e5⟩ := hQ5
  have N5 := Fr.app N0 N5q
  refine own_back st5 ?_
  show own_End p e below s _ _ _ (T5.setTop (mkF m 8 #[.val (.int p0), .val (.int p1), .unset, .unset, .unset, .unset, .unset, .unset, .unset, .unset, .unset, .unset] [(.int (own_F1 (1 : Int32) (p0 &&& (2147483647 : Int32))))]))
  refine own_istoreN X5 hx (hb hby at_8) (l' := #[.val (.int p0), .val (.int p1), .val (.int (own_F1 (1 : Int32) (p0 &&& (2147483647 : Int32)))), .unset, .unset, .unset, .unset, .unset, .unset, .unset, .unset, .unset]) rfl (q := 9) rfl ?_
  refine own_iloadN X5 hx (hb hby at_9) rfl (q := 10) rfl ?_
  refine own_i2l X5 hx (hb hby at_10) (q := 11) rfl ?_
  refine own_back (X5.ldc2Long hx hown (mvT hZ (hw _ (List.mem_of_getElem? (i := 5) rfl))) (g := (mkF m 11 #[.val (.int p0), .val (.int p1), .val (.int (own_F1 (1 : Int32) (p0 &&& (2147483647 : Int32)))), .unset, .unset, .unset, .unset, .unset, .unset, .unset, .unset, .unset] [(.long (p1.toInt64))])) rfl (hb hby at_11)) ?_
  show own_End p e below s _ _ _ (T5.setTop (mkF m 14 #[.val (.int p0), .val (.int p1), .val (.int (own_F1 (1 : Int32) (p0 &&& (2147483647 : Int32)))), .unset, .unset, .unset, .unset, .unset, .unset, .unset, .unset, .unset] [(.long (2147483647 : Int64)), (.long (p1.toInt64))]))
  refine own_land X5 hx (hb hby at_14) (q := 15) rfl ?_
  refine own_iloadN X5 hx (hb hby at_15) rfl (q := 16) rfl ?_
  refine own_i2l X5 hx (hb hby at_16) (q := 17) rfl ?_
  refine own_lconst X5 hx (hb hby at_17) (z := 1) rfl (q := 18) rfl ?_
  refine own_ladd X5 hx (hb hby at_18) (q := 19) rfl ?_
  refine own_lrem X5 hx (hb hby at_19) (own_nz p0) (q := 20) rfl ?_
  refine own_l2i X5 hx (hb hby at_20) (q := 21) rfl ?_
  refine own_istoreN X5 hx (hb hby at_21) (l' := #[.val (.int p0), .val (.int p1), .val (.int (own_F1 (1 : Int32) (p0 &&& (2147483647 : Int32)))), .val (.int ((((p1.toInt64) &&& (2147483647 : Int64)) - (((p1.toInt64) &&& (2147483647 : Int64)) / (((own_F1 (1 : Int32) (p0 &&& (2147483647 : Int32))).toInt64) + (1 : Int64))) * (((own_F1 (1 : Int32) (p0 &&& (2147483647 : Int32))).toInt64) + (1 : Int64))).toInt32)), .unset, .unset, .unset, .unset, .unset, .unset, .unset, .unset]) rfl (q := 22) rfl ?_
  refine own_iconst X5 hx (hb hby at_22) (z := 1) rfl (q := 23) rfl ?_
  refine own_iconst X5 hx (hb hby at_23) (z := 0) rfl (q := 24) rfl ?_
  obtain ⟨_, _, ⟨T6, L6, k6, n6⟩, -, X6, ⟨Lc6, hQ6, l6, y6, z6⟩, st6⟩ := Jvm.LawKit.callS X5 hx (y := (⟨"com/example/hardy_election/hardyelection/SharedMemory", "bytes", "(II)J"⟩ : MethodName)) hown (mvT hZ (hw _ (List.mem_of_getElem? (i := 6) rfl))) (mvT hZ (hw _ (List.mem_of_getElem? (i := 7) rfl))) (mvT hZ (hw _ (List.mem_of_getElem? (i := 8) rfl))) (mvT hZ (hw _ (List.mem_of_getElem? (i := 9) rfl))) (by decide) (backOf (W := 0) (own_rm2 l Z a0 hw [] (1 : Int32) (0 : Int32) h0 n0 Z0 ) hZ (hw _ (List.mem_of_getElem? (i := 9) rfl)) (hw _ (List.mem_of_getElem? (i := 8) rfl)) (by decide) (by decide)) (g := (mkF m 24 #[.val (.int p0), .val (.int p1), .val (.int (own_F1 (1 : Int32) (p0 &&& (2147483647 : Int32)))), .val (.int ((((p1.toInt64) &&& (2147483647 : Int64)) - (((p1.toInt64) &&& (2147483647 : Int64)) / (((own_F1 (1 : Int32) (p0 &&& (2147483647 : Int32))).toInt64) + (1 : Int64))) * (((own_F1 (1 : Int32) (p0 &&& (2147483647 : Int32))).toInt64) + (1 : Int64))).toInt32)), .unset, .unset, .unset, .unset, .unset, .unset, .unset, .unset] [(.int (0 : Int32)), (.int (1 : Int32))])) rfl (by rw [hml]; rfl) (argsL := [(.int (1 : Int32)), (.int (0 : Int32))]) (rest := []) (lenOf own_pd1 rfl) rfl (by show 2 * 0 + _ ≤ _; exact Nat.le_of_eq rfl) (hb hby at_24) (fun _ _ => ⟨rfl, e5, (by decide : 0 + 0 ≤ _), (by decide : 0 + 0 ≤ _)⟩)
  dsimp only [Pt.U, Pt.locs, Pt.cells, Pt.slots] at X6 l6 y6 z6 st6 hQ6
  subst l6 y6 z6
  obtain ⟨rfl, N6q, e6⟩ := hQ6
  have N6 := Fr.app N5 N6q
  refine own_back st6 ?_
  show own_End p e below s _ _ _ (T6.setTop (mkF m 27 #[.val (.int p0), .val (.int p1), .val (.int (own_F1 (1 : Int32) (p0 &&& (2147483647 : Int32)))), .val (.int ((((p1.toInt64) &&& (2147483647 : Int64)) - (((p1.toInt64) &&& (2147483647 : Int64)) / (((own_F1 (1 : Int32) (p0 &&& (2147483647 : Int32))).toInt64) + (1 : Int64))) * (((own_F1 (1 : Int32) (p0 &&& (2147483647 : Int32))).toInt64) + (1 : Int64))).toInt32)), .unset, .unset, .unset, .unset, .unset, .unset, .unset, .unset] [(.long (((370 : Int64) + ((23 : Int64) * ((1 : Int32).toInt64))) + ((368 : Int64) * ((0 : Int32).toInt64))))]))
  refine own_lstore X6 hx (hb hby at_27) (l' := #[.val (.int p0), .val (.int p1), .val (.int (own_F1 (1 : Int32) (p0 &&& (2147483647 : Int32)))), .val (.int ((((p1.toInt64) &&& (2147483647 : Int64)) - (((p1.toInt64) &&& (2147483647 : Int64)) / (((own_F1 (1 : Int32) (p0 &&& (2147483647 : Int32))).toInt64) + (1 : Int64))) * (((own_F1 (1 : Int32) (p0 &&& (2147483647 : Int32))).toInt64) + (1 : Int64))).toInt32)), .val (.long (((370 : Int64) + ((23 : Int64) * ((1 : Int32).toInt64))) + ((368 : Int64) * ((0 : Int32).toInt64)))), .second, .unset, .unset, .unset, .unset, .unset, .unset]) rfl (q := 29) rfl ?_
  refine own_iconst X6 hx (hb hby at_29) (z := 2) rfl (q := 30) rfl ?_
  refine own_iconst X6 hx (hb hby at_30) (z := 0) rfl (q := 31) rfl ?_
  obtain ⟨_, _, ⟨T7, L7, k7, n7⟩, -, X7, ⟨Lc7, hQ7, l7, y7, z7⟩, st7⟩ := Jvm.LawKit.callS X6 hx (y := (⟨"com/example/hardy_election/hardyelection/SharedMemory", "bytes", "(II)J"⟩ : MethodName)) hown (mvT hZ (hw _ (List.mem_of_getElem? (i := 6) rfl))) (mvT hZ (hw _ (List.mem_of_getElem? (i := 7) rfl))) (mvT hZ (hw _ (List.mem_of_getElem? (i := 8) rfl))) (mvT hZ (hw _ (List.mem_of_getElem? (i := 9) rfl))) (by decide) (backOf (W := 0) (own_rm2 l Z a0 hw [] (2 : Int32) (0 : Int32) h0 n0 Z0 ) hZ (hw _ (List.mem_of_getElem? (i := 9) rfl)) (hw _ (List.mem_of_getElem? (i := 8) rfl)) (by decide) (by decide)) (g := (mkF m 31 #[.val (.int p0), .val (.int p1), .val (.int (own_F1 (1 : Int32) (p0 &&& (2147483647 : Int32)))), .val (.int ((((p1.toInt64) &&& (2147483647 : Int64)) - (((p1.toInt64) &&& (2147483647 : Int64)) / (((own_F1 (1 : Int32) (p0 &&& (2147483647 : Int32))).toInt64) + (1 : Int64))) * (((own_F1 (1 : Int32) (p0 &&& (2147483647 : Int32))).toInt64) + (1 : Int64))).toInt32)), .val (.long (((370 : Int64) + ((23 : Int64) * ((1 : Int32).toInt64))) + ((368 : Int64) * ((0 : Int32).toInt64)))), .second, .unset, .unset, .unset, .unset, .unset, .unset] [(.int (0 : Int32)), (.int (2 : Int32))])) rfl (by rw [hml]; rfl) (argsL := [(.int (2 : Int32)), (.int (0 : Int32))]) (rest := []) (lenOf own_pd1 rfl) rfl (by show 2 * 0 + _ ≤ _; exact Nat.le_of_eq rfl) (hb hby at_31) (fun _ _ => ⟨rfl, e6, (by decide : 0 + 0 ≤ _), (by decide : 0 + 0 ≤ _)⟩)
  dsimp only [Pt.U, Pt.locs, Pt.cells, Pt.slots] at X7 l7 y7 z7 st7 hQ7
  subst l7 y7 z7
  obtain ⟨rfl, N7q, e7⟩ := hQ7
  have N7 := Fr.app N6 N7q
  refine own_back st7 ?_
  show own_End p e below s _ _ _ (T7.setTop (mkF m 34 #[.val (.int p0), .val (.int p1), .val (.int (own_F1 (1 : Int32) (p0 &&& (2147483647 : Int32)))), .val (.int ((((p1.toInt64) &&& (2147483647 : Int64)) - (((p1.toInt64) &&& (2147483647 : Int64)) / (((own_F1 (1 : Int32) (p0 &&& (2147483647 : Int32))).toInt64) + (1 : Int64))) * (((own_F1 (1 : Int32) (p0 &&& (2147483647 : Int32))).toInt64) + (1 : Int64))).toInt32)), .val (.long (((370 : Int64) + ((23 : Int64) * ((1 : Int32).toInt64))) + ((368 : Int64) * ((0 : Int32).toInt64)))), .second, .unset, .unset, .unset, .unset, .unset, .unset] [(.long (((370 : Int64) + ((23 : Int64) * ((2 : Int32).toInt64))) + ((368 : Int64) * ((0 : Int32).toInt64))))]))
  refine own_lload X7 hx (hb hby at_34) rfl (q := 36) rfl ?_
  refine own_lsub X7 hx (hb hby at_36) (q := 37) rfl ?_
  refine own_lstore X7 hx (hb hby at_37) (l' := #[.val (.int p0), .val (.int p1), .val (.int (own_F1 (1 : Int32) (p0 &&& (2147483647 : Int32)))), .val (.int ((((p1.toInt64) &&& (2147483647 : Int64)) - (((p1.toInt64) &&& (2147483647 : Int64)) / (((own_F1 (1 : Int32) (p0 &&& (2147483647 : Int32))).toInt64) + (1 : Int64))) * (((own_F1 (1 : Int32) (p0 &&& (2147483647 : Int32))).toInt64) + (1 : Int64))).toInt32)), .val (.long (((370 : Int64) + ((23 : Int64) * ((1 : Int32).toInt64))) + ((368 : Int64) * ((0 : Int32).toInt64)))), .second, .val (.long ((((370 : Int64) + ((23 : Int64) * ((2 : Int32).toInt64))) + ((368 : Int64) * ((0 : Int32).toInt64))) - (((370 : Int64) + ((23 : Int64) * ((1 : Int32).toInt64))) + ((368 : Int64) * ((0 : Int32).toInt64))))), .second, .unset, .unset, .unset, .unset]) rfl (q := 39) rfl ?_
  refine own_iconst X7 hx (hb hby at_39) (z := 1) rfl (q := 40) rfl ?_
  refine own_iconst X7 hx (hb hby at_40) (z := 1) rfl (q := 41) rfl ?_
  obtain ⟨_, _, ⟨T8, L8, k8, n8⟩, -, X8, ⟨Lc8, hQ8, l8, y8, z8⟩, st8⟩ := Jvm.LawKit.callS X7 hx (y := (⟨"com/example/hardy_election/hardyelection/SharedMemory", "bytes", "(II)J"⟩ : MethodName)) hown (mvT hZ (hw _ (List.mem_of_getElem? (i := 6) rfl))) (mvT hZ (hw _ (List.mem_of_getElem? (i := 7) rfl))) (mvT hZ (hw _ (List.mem_of_getElem? (i := 8) rfl))) (mvT hZ (hw _ (List.mem_of_getElem? (i := 9) rfl))) (by decide) (backOf (W := 0) (own_rm2 l Z a0 hw [] (1 : Int32) (1 : Int32) h0 n0 Z0 ) hZ (hw _ (List.mem_of_getElem? (i := 9) rfl)) (hw _ (List.mem_of_getElem? (i := 8) rfl)) (by decide) (by decide)) (g := (mkF m 41 #[.val (.int p0), .val (.int p1), .val (.int (own_F1 (1 : Int32) (p0 &&& (2147483647 : Int32)))), .val (.int ((((p1.toInt64) &&& (2147483647 : Int64)) - (((p1.toInt64) &&& (2147483647 : Int64)) / (((own_F1 (1 : Int32) (p0 &&& (2147483647 : Int32))).toInt64) + (1 : Int64))) * (((own_F1 (1 : Int32) (p0 &&& (2147483647 : Int32))).toInt64) + (1 : Int64))).toInt32)), .val (.long (((370 : Int64) + ((23 : Int64) * ((1 : Int32).toInt64))) + ((368 : Int64) * ((0 : Int32).toInt64)))), .second, .val (.long ((((370 : Int64) + ((23 : Int64) * ((2 : Int32).toInt64))) + ((368 : Int64) * ((0 : Int32).toInt64))) - (((370 : Int64) + ((23 : Int64) * ((1 : Int32).toInt64))) + ((368 : Int64) * ((0 : Int32).toInt64))))), .second, .unset, .unset, .unset, .unset] [(.int (1 : Int32)), (.int (1 : Int32))])) rfl (by rw [hml]; rfl) (argsL := [(.int (1 : Int32)), (.int (1 : Int32))]) (rest := []) (lenOf own_pd1 rfl) rfl (by show 2 * 0 + _ ≤ _; exact Nat.le_of_eq rfl) (hb hby at_41) (fun _ _ => ⟨rfl, e7, (by decide : 0 + 0 ≤ _), (by decide : 0 + 0 ≤ _)⟩)
  dsimp only [Pt.U, Pt.locs, Pt.cells, Pt.slots] at X8 l8 y8 z8 st8 hQ8
  subst l8 y8 z8
  obtain ⟨rfl, N8q, e8⟩ := hQ8
  have N8 := Fr.app N7 N8q
  refine own_back st8 ?_
  show own_End p e below s _ _ _ (T8.setTop (mkF m 44 #[.val (.int p0), .val (.int p1), .val (.int (own_F1 (1 : Int32) (p0 &&& (2147483647 : Int32)))), .val (.int ((((p1.toInt64) &&& (2147483647 : Int64)) - (((p1.toInt64) &&& (2147483647 : Int64)) / (((own_F1 (1 : Int32) (p0 &&& (2147483647 : Int32))).toInt64) + (1 : Int64))) * (((own_F1 (1 : Int32) (p0 &&& (2147483647 : Int32))).toInt64) + (1 : Int64))).toInt32)), .val (.long (((370 : Int64) + ((23 : Int64) * ((1 : Int32).toInt64))) + ((368 : Int64) * ((0 : Int32).toInt64)))), .second, .val (.long ((((370 : Int64) + ((23 : Int64) * ((2 : Int32).toInt64))) + ((368 : Int64) * ((0 : Int32).toInt64))) - (((370 : Int64) + ((23 : Int64) * ((1 : Int32).toInt64))) + ((368 : Int64) * ((0 : Int32).toInt64))))), .second, .unset, .unset, .unset, .unset] [(.long (((370 : Int64) + ((23 : Int64) * ((1 : Int32).toInt64))) + ((368 : Int64) * ((1 : Int32).toInt64))))]))
  refine own_lload X8 hx (hb hby at_44) rfl (q := 46) rfl ?_
  refine own_lsub X8 hx (hb hby at_46) (q := 47) rfl ?_
  refine own_lstore X8 hx (hb hby at_47) (l' := #[.val (.int p0), .val (.int p1), .val (.int (own_F1 (1 : Int32) (p0 &&& (2147483647 : Int32)))), .val (.int ((((p1.toInt64) &&& (2147483647 : Int64)) - (((p1.toInt64) &&& (2147483647 : Int64)) / (((own_F1 (1 : Int32) (p0 &&& (2147483647 : Int32))).toInt64) + (1 : Int64))) * (((own_F1 (1 : Int32) (p0 &&& (2147483647 : Int32))).toInt64) + (1 : Int64))).toInt32)), .val (.long (((370 : Int64) + ((23 : Int64) * ((1 : Int32).toInt64))) + ((368 : Int64) * ((0 : Int32).toInt64)))), .second, .val (.long ((((370 : Int64) + ((23 : Int64) * ((2 : Int32).toInt64))) + ((368 : Int64) * ((0 : Int32).toInt64))) - (((370 : Int64) + ((23 : Int64) * ((1 : Int32).toInt64))) + ((368 : Int64) * ((0 : Int32).toInt64))))), .second, .val (.long ((((370 : Int64) + ((23 : Int64) * ((1 : Int32).toInt64))) + ((368 : Int64) * ((1 : Int32).toInt64))) - (((370 : Int64) + ((23 : Int64) * ((1 : Int32).toInt64))) + ((368 : Int64) * ((0 : Int32).toInt64))))), .second, .unset, .unset]) rfl (q := 49) rfl ?_
  refine own_iloadN X8 hx (hb hby at_49) rfl (q := 50) rfl ?_
  refine own_iloadN X8 hx (hb hby at_50) rfl (q := 51) rfl ?_
  obtain ⟨_, _, ⟨T9, L9, k9, n9⟩, -, X9, ⟨Lc9, hQ9, l9, y9, z9⟩, st9⟩ := Jvm.LawKit.callS X8 hx (y := (⟨"com/example/hardy_election/hardyelection/SharedMemory", "bytes", "(II)J"⟩ : MethodName)) hown (mvT hZ (hw _ (List.mem_of_getElem? (i := 6) rfl))) (mvT hZ (hw _ (List.mem_of_getElem? (i := 7) rfl))) (mvT hZ (hw _ (List.mem_of_getElem? (i := 8) rfl))) (mvT hZ (hw _ (List.mem_of_getElem? (i := 9) rfl))) (by decide) (backOf (W := 0) (own_rm2 l Z a0 hw [] (own_F1 (1 : Int32) (p0 &&& (2147483647 : Int32))) ((((p1.toInt64) &&& (2147483647 : Int64)) - (((p1.toInt64) &&& (2147483647 : Int64)) / (((own_F1 (1 : Int32) (p0 &&& (2147483647 : Int32))).toInt64) + (1 : Int64))) * (((own_F1 (1 : Int32) (p0 &&& (2147483647 : Int32))).toInt64) + (1 : Int64))).toInt32) h0 n0 Z0 ) hZ (hw _ (List.mem_of_getElem? (i := 9) rfl)) (hw _ (List.mem_of_getElem? (i := 8) rfl)) (by decide) (by decide)) (g := (mkF m 51 #[.val (.int p0), .val (.int p1), .val (.int (own_F1 (1 : Int32) (p0 &&& (2147483647 : Int32)))), .val (.int ((((p1.toInt64) &&& (2147483647 : Int64)) - (((p1.toInt64) &&& (2147483647 : Int64)) / (((own_F1 (1 : Int32) (p0 &&& (2147483647 : Int32))).toInt64) + (1 : Int64))) * (((own_F1 (1 : Int32) (p0 &&& (2147483647 : Int32))).toInt64) + (1 : Int64))).toInt32)), .val (.long (((370 : Int64) + ((23 : Int64) * ((1 : Int32).toInt64))) + ((368 : Int64) * ((0 : Int32).toInt64)))), .second, .val (.long ((((370 : Int64) + ((23 : Int64) * ((2 : Int32).toInt64))) + ((368 : Int64) * ((0 : Int32).toInt64))) - (((370 : Int64) + ((23 : Int64) * ((1 : Int32).toInt64))) + ((368 : Int64) * ((0 : Int32).toInt64))))), .second, .val (.long ((((370 : Int64) + ((23 : Int64) * ((1 : Int32).toInt64))) + ((368 : Int64) * ((1 : Int32).toInt64))) - (((370 : Int64) + ((23 : Int64) * ((1 : Int32).toInt64))) + ((368 : Int64) * ((0 : Int32).toInt64))))), .second, .unset, .unset] [(.int ((((p1.toInt64) &&& (2147483647 : Int64)) - (((p1.toInt64) &&& (2147483647 : Int64)) / (((own_F1 (1 : Int32) (p0 &&& (2147483647 : Int32))).toInt64) + (1 : Int64))) * (((own_F1 (1 : Int32) (p0 &&& (2147483647 : Int32))).toInt64) + (1 : Int64))).toInt32)), (.int (own_F1 (1 : Int32) (p0 &&& (2147483647 : Int32))))])) rfl (by rw [hml]; rfl) (argsL := [(.int (own_F1 (1 : Int32) (p0 &&& (2147483647 : Int32)))), (.int ((((p1.toInt64) &&& (2147483647 : Int64)) - (((p1.toInt64) &&& (2147483647 : Int64)) / (((own_F1 (1 : Int32) (p0 &&& (2147483647 : Int32))).toInt64) + (1 : Int64))) * (((own_F1 (1 : Int32) (p0 &&& (2147483647 : Int32))).toInt64) + (1 : Int64))).toInt32))]) (rest := []) (lenOf own_pd1 rfl) rfl (by show 2 * 0 + _ ≤ _; exact Nat.le_of_eq rfl) (hb hby at_51) (fun _ _ => ⟨rfl, e8, (by decide : 0 + 0 ≤ _), (by decide : 0 + 0 ≤ _)⟩)
  dsimp only [Pt.U, Pt.locs, Pt.cells, Pt.slots] at X9 l9 y9 z9 st9 hQ9
  subst l9 y9 z9
  obtain ⟨rfl, N9q, e9⟩ := hQ9
  have N9 := Fr.app N8 N9q
  refine own_back st9 ?_
  show own_End p e below s _ _ _ (T9.setTop (mkF m 54 #[.val (.int p0), .val (.int p1), .val (.int (own_F1 (1 : Int32) (p0 &&& (2147483647 : Int32)))), .val (.int ((((p1.toInt64) &&& (2147483647 : Int64)) - (((p1.toInt64) &&& (2147483647 : Int64)) / (((own_F1 (1 : Int32) (p0 &&& (2147483647 : Int32))).toInt64) + (1 : Int64))) * (((own_F1 (1 : Int32) (p0 &&& (2147483647 : Int32))).toInt64) + (1 : Int64))).toInt32)), .val (.long (((370 : Int64) + ((23 : Int64) * ((1 : Int32).toInt64))) + ((368 : Int64) * ((0 : Int32).toInt64)))), .second, .val (.long ((((370 : Int64) + ((23 : Int64) * ((2 : Int32).toInt64))) + ((368 : Int64) * ((0 : Int32).toInt64))) - (((370 : Int64) + ((23 : Int64) * ((1 : Int32).toInt64))) + ((368 : Int64) * ((0 : Int32).toInt64))))), .second, .val (.long ((((370 : Int64) + ((23 : Int64) * ((1 : Int32).toInt64))) + ((368 : Int64) * ((1 : Int32).toInt64))) - (((370 : Int64) + ((23 : Int64) * ((1 : Int32).toInt64))) + ((368 : Int64) * ((0 : Int32).toInt64))))), .second, .unset, .unset] [(.long (((370 : Int64) + ((23 : Int64) * ((own_F1 (1 : Int32) (p0 &&& (2147483647 : Int32))).toInt64))) + ((368 : Int64) * (((((p1.toInt64) &&& (2147483647 : Int64)) - (((p1.toInt64) &&& (2147483647 : Int64)) / (((own_F1 (1 : Int32) (p0 &&& (2147483647 : Int32))).toInt64) + (1 : Int64))) * (((own_F1 (1 : Int32) (p0 &&& (2147483647 : Int32))).toInt64) + (1 : Int64))).toInt32).toInt64))))]))
  refine own_lstore X9 hx (hb hby at_54) (l' := #[.val (.int p0), .val (.int p1), .val (.int (own_F1 (1 : Int32) (p0 &&& (2147483647 : Int32)))), .val (.int ((((p1.toInt64) &&& (2147483647 : Int64)) - (((p1.toInt64) &&& (2147483647 : Int64)) / (((own_F1 (1 : Int32) (p0 &&& (2147483647 : Int32))).toInt64) + (1 : Int64))) * (((own_F1 (1 : Int32) (p0 &&& (2147483647 : Int32))).toInt64) + (1 : Int64))).toInt32)), .val (.long (((370 : Int64) + ((23 : Int64) * ((1 : Int32).toInt64))) + ((368 : Int64) * ((0 : Int32).toInt64)))), .second, .val (.long ((((370 : Int64) + ((23 : Int64) * ((2 : Int32).toInt64))) + ((368 : Int64) * ((0 : Int32).toInt64))) - (((370 : Int64) + ((23 : Int64) * ((1 : Int32).toInt64))) + ((368 : Int64) * ((0 : Int32).toInt64))))), .second, .val (.long ((((370 : Int64) + ((23 : Int64) * ((1 : Int32).toInt64))) + ((368 : Int64) * ((1 : Int32).toInt64))) - (((370 : Int64) + ((23 : Int64) * ((1 : Int32).toInt64))) + ((368 : Int64) * ((0 : Int32).toInt64))))), .second, .val (.long (((370 : Int64) + ((23 : Int64) * ((own_F1 (1 : Int32) (p0 &&& (2147483647 : Int32))).toInt64))) + ((368 : Int64) * (((((p1.toInt64) &&& (2147483647 : Int64)) - (((p1.toInt64) &&& (2147483647 : Int64)) / (((own_F1 (1 : Int32) (p0 &&& (2147483647 : Int32))).toInt64) + (1 : Int64))) * (((own_F1 (1 : Int32) (p0 &&& (2147483647 : Int32))).toInt64) + (1 : Int64))).toInt32).toInt64)))), .second]) rfl (q := 56) rfl ?_
  refine own_lload X9 hx (hb hby at_56) rfl (q := 58) rfl ?_
  refine own_back (X9.ldc2Long hx hown (mvT hZ (hw _ (List.mem_of_getElem? (i := 13) rfl))) (g := (mkF m 58 #[.val (.int p0), .val (.int p1), .val (.int (own_F1 (1 : Int32) (p0 &&& (2147483647 : Int32)))), .val (.int ((((p1.toInt64) &&& (2147483647 : Int64)) - (((p1.toInt64) &&& (2147483647 : Int64)) / (((own_F1 (1 : Int32) (p0 &&& (2147483647 : Int32))).toInt64) + (1 : Int64))) * (((own_F1 (1 : Int32) (p0 &&& (2147483647 : Int32))).toInt64) + (1 : Int64))).toInt32)), .val (.long (((370 : Int64) + ((23 : Int64) * ((1 : Int32).toInt64))) + ((368 : Int64) * ((0 : Int32).toInt64)))), .second, .val (.long ((((370 : Int64) + ((23 : Int64) * ((2 : Int32).toInt64))) + ((368 : Int64) * ((0 : Int32).toInt64))) - (((370 : Int64) + ((23 : Int64) * ((1 : Int32).toInt64))) + ((368 : Int64) * ((0 : Int32).toInt64))))), .second, .val (.long ((((370 : Int64) + ((23 : Int64) * ((1 : Int32).toInt64))) + ((368 : Int64) * ((1 : Int32).toInt64))) - (((370 : Int64) + ((23 : Int64) * ((1 : Int32).toInt64))) + ((368 : Int64) * ((0 : Int32).toInt64))))), .second, .val (.long (((370 : Int64) + ((23 : Int64) * ((own_F1 (1 : Int32) (p0 &&& (2147483647 : Int32))).toInt64))) + ((368 : Int64) * (((((p1.toInt64) &&& (2147483647 : Int64)) - (((p1.toInt64) &&& (2147483647 : Int64)) / (((own_F1 (1 : Int32) (p0 &&& (2147483647 : Int32))).toInt64) + (1 : Int64))) * (((own_F1 (1 : Int32) (p0 &&& (2147483647 : Int32))).toInt64) + (1 : Int64))).toInt32).toInt64)))), .second] [(.long (((370 : Int64) + ((23 : Int64) * ((1 : Int32).toInt64))) + ((368 : Int64) * ((0 : Int32).toInt64))))])) rfl (hb hby at_58)) ?_
  show own_End p e below s _ _ _ (T9.setTop (mkF m 61 #[.val (.int p0), .val (.int p1), .val (.int (own_F1 (1 : Int32) (p0 &&& (2147483647 : Int32)))), .val (.int ((((p1.toInt64) &&& (2147483647 : Int64)) - (((p1.toInt64) &&& (2147483647 : Int64)) / (((own_F1 (1 : Int32) (p0 &&& (2147483647 : Int32))).toInt64) + (1 : Int64))) * (((own_F1 (1 : Int32) (p0 &&& (2147483647 : Int32))).toInt64) + (1 : Int64))).toInt32)), .val (.long (((370 : Int64) + ((23 : Int64) * ((1 : Int32).toInt64))) + ((368 : Int64) * ((0 : Int32).toInt64)))), .second, .val (.long ((((370 : Int64) + ((23 : Int64) * ((2 : Int32).toInt64))) + ((368 : Int64) * ((0 : Int32).toInt64))) - (((370 : Int64) + ((23 : Int64) * ((1 : Int32).toInt64))) + ((368 : Int64) * ((0 : Int32).toInt64))))), .second, .val (.long ((((370 : Int64) + ((23 : Int64) * ((1 : Int32).toInt64))) + ((368 : Int64) * ((1 : Int32).toInt64))) - (((370 : Int64) + ((23 : Int64) * ((1 : Int32).toInt64))) + ((368 : Int64) * ((0 : Int32).toInt64))))), .second, .val (.long (((370 : Int64) + ((23 : Int64) * ((own_F1 (1 : Int32) (p0 &&& (2147483647 : Int32))).toInt64))) + ((368 : Int64) * (((((p1.toInt64) &&& (2147483647 : Int64)) - (((p1.toInt64) &&& (2147483647 : Int64)) / (((own_F1 (1 : Int32) (p0 &&& (2147483647 : Int32))).toInt64) + (1 : Int64))) * (((own_F1 (1 : Int32) (p0 &&& (2147483647 : Int32))).toInt64) + (1 : Int64))).toInt32).toInt64)))), .second] [(.long (393 : Int64)), (.long (((370 : Int64) + ((23 : Int64) * ((1 : Int32).toInt64))) + ((368 : Int64) * ((0 : Int32).toInt64))))]))
  have hk10 : (((370 : Int64) + ((23 : Int64) * ((1 : Int32).toInt64))) + ((368 : Int64) * ((0 : Int32).toInt64))) = (393 : Int64) := by decide
  refine own_lcN X9 hx (hb hby at_61) (r := 62) rfl (hb hby at_62) (own_teq hk10).2 (q := 65) rfl ?_
  refine own_lload X9 hx (hb hby at_65) rfl (q := 67) rfl ?_
  refine own_back (X9.ldc2Long hx hown (mvT hZ (hw _ (List.mem_of_getElem? (i := 14) rfl))) (g := (mkF m 67 #[.val (.int p0), .val (.int p1), .val (.int (own_F1 (1 : Int32) (p0 &&& (2147483647 : Int32)))), .val (.int ((((p1.toInt64) &&& (2147483647 : Int64)) - (((p1.toInt64) &&& (2147483647 : Int64)) / (((own_F1 (1 : Int32) (p0 &&& (2147483647 : Int32))).toInt64) + (1 : Int64))) * (((own_F1 (1 : Int32) (p0 &&& (2147483647 : Int32))).toInt64) + (1 : Int64))).toInt32)), .val (.long (((370 : Int64) + ((23 : Int64) * ((1 : Int32).toInt64))) + ((368 : Int64) * ((0 : Int32).toInt64)))), .second, .val (.long ((((370 : Int64) + ((23 : Int64) * ((2 : Int32).toInt64))) + ((368 : Int64) * ((0 : Int32).toInt64))) - (((370 : Int64) + ((23 : Int64) * ((1 : Int32).toInt64))) + ((368 : Int64) * ((0 : Int32).toInt64))))), .second, .val (.long ((((370 : Int64) + ((23 : Int64) * ((1 : Int32).toInt64))) + ((368 : Int64) * ((1 : Int32).toInt64))) - (((370 : Int64) + ((23 : Int64) * ((1 : Int32).toInt64))) + ((368 : Int64) * ((0 : Int32).toInt64))))), .second, .val (.long (((370 : Int64) + ((23 : Int64) * ((own_F1 (1 : Int32) (p0 &&& (2147483647 : Int32))).toInt64))) + ((368 : Int64) * (((((p1.toInt64) &&& (2147483647 : Int64)) - (((p1.toInt64) &&& (2147483647 : Int64)) / (((own_F1 (1 : Int32) (p0 &&& (2147483647 : Int32))).toInt64) + (1 : Int64))) * (((own_F1 (1 : Int32) (p0 &&& (2147483647 : Int32))).toInt64) + (1 : Int64))).toInt32).toInt64)))), .second] [(.long ((((370 : Int64) + ((23 : Int64) * ((2 : Int32).toInt64))) + ((368 : Int64) * ((0 : Int32).toInt64))) - (((370 : Int64) + ((23 : Int64) * ((1 : Int32).toInt64))) + ((368 : Int64) * ((0 : Int32).toInt64)))))])) rfl (hb hby at_67)) ?_
  show own_End p e below s _ _ _ (T9.setTop (mkF m 70 #[.val (.int p0), .val (.int p1), .val (.int (own_F1 (1 : Int32) (p0 &&& (2147483647 : Int32)))), .val (.int ((((p1.toInt64) &&& (2147483647 : Int64)) - (((p1.toInt64) &&& (2147483647 : Int64)) / (((own_F1 (1 : Int32) (p0 &&& (2147483647 : Int32))).toInt64) + (1 : Int64))) * (((own_F1 (1 : Int32) (p0 &&& (2147483647 : Int32))).toInt64) + (1 : Int64))).toInt32)), .val (.long (((370 : Int64) + ((23 : Int64) * ((1 : Int32).toInt64))) + ((368 : Int64) * ((0 : Int32).toInt64)))), .second, .val (.long ((((370 : Int64) + ((23 : Int64) * ((2 : Int32).toInt64))) + ((368 : Int64) * ((0 : Int32).toInt64))) - (((370 : Int64) + ((23 : Int64) * ((1 : Int32).toInt64))) + ((368 : Int64) * ((0 : Int32).toInt64))))), .second, .val (.long ((((370 : Int64) + ((23 : Int64) * ((1 : Int32).toInt64))) + ((368 : Int64) * ((1 : Int32).toInt64))) - (((370 : Int64) + ((23 : Int64) * ((1 : Int32).toInt64))) + ((368 : Int64) * ((0 : Int32).toInt64))))), .second, .val (.long (((370 : Int64) + ((23 : Int64) * ((own_F1 (1 : Int32) (p0 &&& (2147483647 : Int32))).toInt64))) + ((368 : Int64) * (((((p1.toInt64) &&& (2147483647 : Int64)) - (((p1.toInt64) &&& (2147483647 : Int64)) / (((own_F1 (1 : Int32) (p0 &&& (2147483647 : Int32))).toInt64) + (1 : Int64))) * (((own_F1 (1 : Int32) (p0 &&& (2147483647 : Int32))).toInt64) + (1 : Int64))).toInt32).toInt64)))), .second] [(.long (23 : Int64)), (.long ((((370 : Int64) + ((23 : Int64) * ((2 : Int32).toInt64))) + ((368 : Int64) * ((0 : Int32).toInt64))) - (((370 : Int64) + ((23 : Int64) * ((1 : Int32).toInt64))) + ((368 : Int64) * ((0 : Int32).toInt64)))))]))
  have hk11 : ((((370 : Int64) + ((23 : Int64) * ((2 : Int32).toInt64))) + ((368 : Int64) * ((0 : Int32).toInt64))) - (((370 : Int64) + ((23 : Int64) * ((1 : Int32).toInt64))) + ((368 : Int64) * ((0 : Int32).toInt64)))) = (23 : Int64) := by decide
  refine own_lcN X9 hx (hb hby at_70) (r := 71) rfl (hb hby at_71) (own_teq hk11).2 (q := 74) rfl ?_
  refine own_lload X9 hx (hb hby at_74) rfl (q := 76) rfl ?_
  refine own_back (X9.ldc2Long hx hown (mvT hZ (hw _ (List.mem_of_getElem? (i := 15) rfl))) (g := (mkF m 76 #[.val (.int p0), .val (.int p1), .val (.int (own_F1 (1 : Int32) (p0 &&& (2147483647 : Int32)))), .val (.int ((((p1.toInt64) &&& (2147483647 : Int64)) - (((p1.toInt64) &&& (2147483647 : Int64)) / (((own_F1 (1 : Int32) (p0 &&& (2147483647 : Int32))).toInt64) + (1 : Int64))) * (((own_F1 (1 : Int32) (p0 &&& (2147483647 : Int32))).toInt64) + (1 : Int64))).toInt32)), .val (.long (((370 : Int64) + ((23 : Int64) * ((1 : Int32).toInt64))) + ((368 : Int64) * ((0 : Int32).toInt64)))), .second, .val (.long ((((370 : Int64) + ((23 : Int64) * ((2 : Int32).toInt64))) + ((368 : Int64) * ((0 : Int32).toInt64))) - (((370 : Int64) + ((23 : Int64) * ((1 : Int32).toInt64))) + ((368 : Int64) * ((0 : Int32).toInt64))))), .second, .val (.long ((((370 : Int64) + ((23 : Int64) * ((1 : Int32).toInt64))) + ((368 : Int64) * ((1 : Int32).toInt64))) - (((370 : Int64) + ((23 : Int64) * ((1 : Int32).toInt64))) + ((368 : Int64) * ((0 : Int32).toInt64))))), .second, .val (.long (((370 : Int64) + ((23 : Int64) * ((own_F1 (1 : Int32) (p0 &&& (2147483647 : Int32))).toInt64))) + ((368 : Int64) * (((((p1.toInt64) &&& (2147483647 : Int64)) - (((p1.toInt64) &&& (2147483647 : Int64)) / (((own_F1 (1 : Int32) (p0 &&& (2147483647 : Int32))).toInt64) + (1 : Int64))) * (((own_F1 (1 : Int32) (p0 &&& (2147483647 : Int32))).toInt64) + (1 : Int64))).toInt32).toInt64)))), .second] [(.long ((((370 : Int64) + ((23 : Int64) * ((1 : Int32).toInt64))) + ((368 : Int64) * ((1 : Int32).toInt64))) - (((370 : Int64) + ((23 : Int64) * ((1 : Int32).toInt64))) + ((368 : Int64) * ((0 : Int32).toInt64)))))])) rfl (hb hby at_76)) ?_
  show own_End p e below s _ _ _ (T9.setTop (mkF m 79 #[.val (.int p0), .val (.int p1), .val (.int (own_F1 (1 : Int32) (p0 &&& (2147483647 : Int32)))), .val (.int ((((p1.toInt64) &&& (2147483647 : Int64)) - (((p1.toInt64) &&& (2147483647 : Int64)) / (((own_F1 (1 : Int32) (p0 &&& (2147483647 : Int32))).toInt64) + (1 : Int64))) * (((own_F1 (1 : Int32) (p0 &&& (2147483647 : Int32))).toInt64) + (1 : Int64))).toInt32)), .val (.long (((370 : Int64) + ((23 : Int64) * ((1 : Int32).toInt64))) + ((368 : Int64) * ((0 : Int32).toInt64)))), .second, .val (.long ((((370 : Int64) + ((23 : Int64) * ((2 : Int32).toInt64))) + ((368 : Int64) * ((0 : Int32).toInt64))) - (((370 : Int64) + ((23 : Int64) * ((1 : Int32).toInt64))) + ((368 : Int64) * ((0 : Int32).toInt64))))), .second, .val (.long ((((370 : Int64) + ((23 : Int64) * ((1 : Int32).toInt64))) + ((368 : Int64) * ((1 : Int32).toInt64))) - (((370 : Int64) + ((23 : Int64) * ((1 : Int32).toInt64))) + ((368 : Int64) * ((0 : Int32).toInt64))))), .second, .val (.long (((370 : Int64) + ((23 : Int64) * ((own_F1 (1 : Int32) (p0 &&& (2147483647 : Int32))).toInt64))) + ((368 : Int64) * (((((p1.toInt64) &&& (2147483647 : Int64)) - (((p1.toInt64) &&& (2147483647 : Int64)) / (((own_F1 (1 : Int32) (p0 &&& (2147483647 : Int32))).toInt64) + (1 : Int64))) * (((own_F1 (1 : Int32) (p0 &&& (2147483647 : Int32))).toInt64) + (1 : Int64))).toInt32).toInt64)))), .second] [(.long (368 : Int64)), (.long ((((370 : Int64) + ((23 : Int64) * ((1 : Int32).toInt64))) + ((368 : Int64) * ((1 : Int32).toInt64))) - (((370 : Int64) + ((23 : Int64) * ((1 : Int32).toInt64))) + ((368 : Int64) * ((0 : Int32).toInt64)))))]))
  have hk12 : ((((370 : Int64) + ((23 : Int64) * ((1 : Int32).toInt64))) + ((368 : Int64) * ((1 : Int32).toInt64))) - (((370 : Int64) + ((23 : Int64) * ((1 : Int32).toInt64))) + ((368 : Int64) * ((0 : Int32).toInt64)))) = (368 : Int64) := by decide
  refine own_lcN X9 hx (hb hby at_79) (r := 80) rfl (hb hby at_80) (own_teq hk12).2 (q := 83) rfl ?_
  refine own_lload X9 hx (hb hby at_83) rfl (q := 85) rfl ?_
  refine own_lload X9 hx (hb hby at_85) rfl (q := 87) rfl ?_
  refine own_lload X9 hx (hb hby at_87) rfl (q := 89) rfl ?_
  refine own_iloadN X9 hx (hb hby at_89) rfl (q := 90) rfl ?_
  refine own_i2l X9 hx (hb hby at_90) (q := 91) rfl ?_
  refine own_lconst X9 hx (hb hby at_91) (z := 1) rfl (q := 92) rfl ?_
  refine own_lsub X9 hx (hb hby at_92) (q := 93) rfl ?_
  refine own_lmul X9 hx (hb hby at_93) (q := 94) rfl ?_
  refine own_ladd X9 hx (hb hby at_94) (q := 95) rfl ?_
  refine own_lload X9 hx (hb hby at_95) rfl (q := 97) rfl ?_
  refine own_iloadN X9 hx (hb hby at_97) rfl (q := 98) rfl ?_
  refine own_i2l X9 hx (hb hby at_98) (q := 99) rfl ?_
  refine own_lmul X9 hx (hb hby at_99) (q := 100) rfl ?_
  refine own_ladd X9 hx (hb hby at_100) (q := 101) rfl ?_
  by_cases hc102_13 : (((370 : Int64) + ((23 : Int64) * ((own_F1 (1 : Int32) (p0 &&& (2147483647 : Int32))).toInt64))) + ((368 : Int64) * (((((p1.toInt64) &&& (2147483647 : Int64)) - (((p1.toInt64) &&& (2147483647 : Int64)) / (((own_F1 (1 : Int32) (p0 &&& (2147483647 : Int32))).toInt64) + (1 : Int64))) * (((own_F1 (1 : Int32) (p0 &&& (2147483647 : Int32))).toInt64) + (1 : Int64))).toInt32).toInt64))) = (((((370 : Int64) + ((23 : Int64) * ((1 : Int32).toInt64))) + ((368 : Int64) * ((0 : Int32).toInt64))) + (((((370 : Int64) + ((23 : Int64) * ((2 : Int32).toInt64))) + ((368 : Int64) * ((0 : Int32).toInt64))) - (((370 : Int64) + ((23 : Int64) * ((1 : Int32).toInt64))) + ((368 : Int64) * ((0 : Int32).toInt64)))) * (((own_F1 (1 : Int32) (p0 &&& (2147483647 : Int32))).toInt64) - (1 : Int64)))) + (((((370 : Int64) + ((23 : Int64) * ((1 : Int32).toInt64))) + ((368 : Int64) * ((1 : Int32).toInt64))) - (((370 : Int64) + ((23 : Int64) * ((1 : Int32).toInt64))) + ((368 : Int64) * ((0 : Int32).toInt64)))) * (((((p1.toInt64) &&& (2147483647 : Int64)) - (((p1.toInt64) &&& (2147483647 : Int64)) / (((own_F1 (1 : Int32) (p0 &&& (2147483647 : Int32))).toInt64) + (1 : Int64))) * (((own_F1 (1 : Int32) (p0 &&& (2147483647 : Int32))).toInt64) + (1 : Int64))).toInt32).toInt64)))
  · refine own_lcN X9 hx (hb hby at_101) (r := 102) rfl (hb hby at_102) (own_teq hc102_13).2 (q := 105) rfl ?_
    refine own_iconst X9 hx (hb hby at_105) (z := 1) rfl (q := 106) rfl ?_
    refine own_goto X9 hx (hb hby at_106) (q := 110) (by decide) (by decide) ?_
    refine own_retN X9 hx (t := .boolean) (by simp) Bd.returns Bd.notSynchronized (by decide) (by decide) (hb hby at_110) ?_
    show own_Q0 Z p0 p1 h0 n0 _ T9.heap _
    exact ⟨(by rw [show own_F0 p0 p1 = _ from (by simp only [own_F0, if_pos hc102_13] : _ = (1 : Int32))]; rfl), N9⟩
  · refine own_lcY X9 hx (hb hby at_101) (r := 102) rfl (hb hby at_102) (own_feq hc102_13).2 (q := 109) (by decide) (by decide) ?_
    refine own_iconst X9 hx (hb hby at_109) (z := 0) rfl (q := 110) rfl ?_
    refine own_retN X9 hx (t := .boolean) (by simp) Bd.returns Bd.notSynchronized (by decide) (by decide) (hb hby at_110) ?_
    show own_Q0 Z p0 p1 h0 n0 _ T9.heap _
    exact ⟨(by rw [show own_F0 p0 p1 = _ from (by simp only [own_F0, if_neg hc102_13] : _ = (0 : Int32))]; rfl), N9⟩
theorem own_lin (x y : Int64) : ((370 : Int64) + (23 : Int64) * x) + (368 : Int64) * y = ((393 : Int64) + (23 : Int64) * (x - 1)) + (368 : Int64) * y := by
  congr 1
  rw [Int64.mul_sub, Int64.mul_one, Int64.sub_eq_add_neg, Int64.add_comm (23 * x), ← Int64.add_assoc]
  rfl
theorem own_law (a b : Int32) : own_F0 a b = 1 := by
  rw [own_F0, if_pos]
  exact own_lin _ _
set_option maxRecDepth 65536 in
set_option maxHeartbeats 40000000 in
theorem comes_1 {Post : Tables → Env → Array Value → State → Outcome → State → Prop} (hpost : ∀ tb e args s v u, (limb_1_1.after args s (.returned v) u = true ∧ limb_1_2.after args s (.returned v) u = true ∧ True) → FrameEnd s (.returned v) u (Jvm.fieldLocs frame_1_writes args s ++ Jvm.arrayLocs frame_1_arrays args s ++ Jvm.staticLocs frame_1_statics s) 0 0 → Post tb e args s (.returned v) u) :
    ArmFor flags0 classFile x code maxLocals ret World_1 tables_1 room_1 Calls_1 rest_1 Pre_1 Post := by
  intro l hfl _ _ p e ha hc hk s m args below hf hA hF happ hP
  obtain ⟨hcalls, hrest, hpre⟩ := hP
  obtain ⟨-, -, -, hnamed, -, -, -, hat⟩ := (Spec.applies_iff hf).mp happ
  obtain ⟨hg, hn⟩ := and_e (Cond.before_iff.mp (show (Jvm.Cond.and given_1 narrow_1).before args s = true from hpre))
  obtain ⟨g16, g17⟩ := and_e hg
  obtain ⟨g18, g19⟩ := and_e g17
  obtain ⟨w0, w1, rfl⟩ : ∃ w0 w1 : Value, args = #[w0, w1] := by
    have hs : args.size = 2 := by simpa [Cond.value, given_1] using g16
    obtain ⟨L⟩ := args
    match L, hs with
    | [w0, w1], _ => exact ⟨w0, w1, rfl⟩
  have hw := fun d (hd : d ∈ tables_1) => atoms_spec (ws := Jvm.Cond.code x code maxLocals ret :: tables_1) hat d (List.mem_cons_of_mem _ hd)
  have hfit : Fit s := fun {y c} hc i hi => by
    obtain ⟨ha, rfl⟩ := Array.getElem?_eq_some_iff.mp hc
    have q := List.all_eq_true.mp ((Array.all_eq_true_iff_forall_mem.mp hF) _ (Array.getElem_mem ha)) i (List.mem_range.mpr hi)
    simpa [Array.getElem?_eq_getElem hi] using q
  obtain ⟨i0, ei0⟩ := is_v g18
  obtain rfl : w0 = (.int i0) := Option.some.inj ei0
  obtain ⟨i1, ei1⟩ := is_v g19
  obtain rfl : w1 = (.int i1) := Option.some.inj ei1
  obtain ⟨n, o, h1, h2, h3, _, L, rfl, ⟨hv, N⟩, hq⟩ := own_rm0 l s _ hw tables_1 i0 i1 s.heap s.heap.size (Nat.le_refl _)  p e ha hc hk s m _ below hf ((Spec.applies_iff_loose hf).mp happ).1 ⟨rfl, State.Warmed39.refl s, rfl⟩ trivial
  rw [own_law] at hv
  subst hv
  refine ⟨n, _, h1, h2, h3, hpost _ _ _ _ _ _ ⟨Cond.after_iff.mpr rfl, Cond.after_iff.mpr (eq_i res_at (Term.int_eval (1)) rfl), trivial⟩ ⟨hq.1, hq.2.1, (hq.2.2.sift fun y hy => Or.inr (N y hy)).mono (by decide) (by decide)⟩⟩
theorem main_1_1 : Claimed_1_1 := comes_1 fun _ _ _ _ _ _ h hF => ⟨h.1, hF⟩
theorem main_1_2 : Claimed_1_2 := comes_1 fun _ _ _ _ _ _ h hF => ⟨h.2.1, hF⟩
end Jvm.Pilot.@@N@@
namespace Jvm.Pilot.@@N@@
open Jvm Jvm.ClassFile Sem Op Lib Jvm.Free Jvm.Stand Jvm.Pilot.@@N@@.Jvm.D
/-! MADE BY PROGRAM (witnessworld.py) out of the Statement's table words and the real class files: 10 classes; the members and pool entries that the words name. The judged class is class 1, her method 1. -/
namespace start1
open Jvm.ClassFile
def u (s : String) : CpInfo := .utf8 (stringToUtf16 s)
/-- a pool by its gaps: so many unusable entries, then the entry; so many at the end -/
def gap : Nat → List CpInfo → List CpInfo
  | 0, r => r
  | n + 1, r => .unusable :: gap n r
def poolList (es : List (Nat × CpInfo)) (last : Nat) : List CpInfo := es.foldr (fun e r => gap e.1 (e.2 :: r)) (gap last [])
def pool (es : List (Nat × CpInfo)) (last : Nat) : Array CpInfo := ⟨poolList es last⟩
def fileOf (pool : Array CpInfo) (this : Nat) (attrs : Array Attribute := #[]) (ms : Array MethodInfo := #[]) (fl : Nat := 33) (sup : Nat := 0) (ifs : Array Nat := #[]) (fds : Array FieldInfo := #[]) : ClassFile where
  minorVersion := 0
  majorVersion := 65
  constantPool := pool
  accessFlags := fl
  thisClass := this
  superClass := sup
  interfaces := ifs
  fields := fds
  methods := ms
  attributes := attrs
def plain (name : String) (sup : Option ClassId) : Class where
  name := name
  kind := .ordinary
  loader := none
  accessFlags := 33
  super := sup
  interfaces := #[]
  cf := none
  fields := #[]
  methods := #[]
  instanceTypes := #[]
  staticTypes := #[]
  resolved := #[]
  callSites := []
  init := .initialized
  statics := none
  mirror := none

def pool0 : Array CpInfo := pool [(5, u "<init>"), (0, u "()V"), (1, .class_ 10), (1, u "java/lang/Object")] 113

def k0m0 : Method := { name := "<init>", desc := "()V", sig := { parameters := [], returnType := none }, accessFlags := 1, code := none }
/-- java/lang/Object -/
def k0 : Class := { plain "java/lang/Object" none with
  accessFlags := 33
  interfaces := #[]
  cf := some (fileOf pool0 8 #[] #[{ accessFlags := 1, nameIndex := 5, descriptorIndex := 6, attributes := #[] }] 33 0 #[] #[])
  fields := #[]
  methods := #[k0m0]
  instanceTypes := #[]
  staticTypes := #[]
  resolved := Array.replicate 124 none
  statics := none }

def pool1 : Array CpInfo := pool [(2, .class_ 4), (1, u "java/lang/Object"), (0, u "<init>"), (0, u "()V"), (0, .integer 2147483647), (0, .methodref 9 10), (0, .class_ 11), (0, .nameAndType 12 13), (0, u "java/lang/Math"), (0, u "max"), (0, u "(II)I"), (0, .long 2147483647), (1, .methodref 17 18), (0, .class_ 19), (0, .nameAndType 20 21), (0, u "com/example/hardy_election/hardyelection/SharedMemory"), (0, u "bytes"), (0, u "(II)J"), (0, .long 393), (1, .long 23), (1, .long 368), (1, .class_ 29), (0, u "com/example/hardy_election/hardyelection/SharedMemoryBytesPinLaw"), (2, u "law"), (0, u "(II)Z")] 3

def k1m0 : Method := { name := "<init>", desc := "()V", sig := { parameters := [], returnType := none }, accessFlags := 1, code := none }
def k1c1 : Code := { maxStack := 10, maxLocals := 12, code := code, exceptionTable := #[], attributes := #[] }
def k1m1 : Method := { name := "law", desc := "(II)Z", sig := { parameters := [.int, .int], returnType := some .boolean }, accessFlags := 9, code := some k1c1 }
/-- com/example/hardy_election/hardyelection/SharedMemoryBytesPinLaw -/
def k1 : Class := { plain "com/example/hardy_election/hardyelection/SharedMemoryBytesPinLaw" (some 0) with
  accessFlags := 49
  interfaces := #[]
  cf := some (fileOf pool1 28 #[] #[{ accessFlags := 1, nameIndex := 5, descriptorIndex := 6, attributes := #[] }, { accessFlags := 9, nameIndex := 32, descriptorIndex := 33, attributes := #[] }] 49 2 #[] #[])
  fields := #[]
  methods := #[k1m0, k1m1]
  instanceTypes := #[]
  staticTypes := #[]
  resolved := Array.replicate 37 none
  statics := none }

def pool2 : Array CpInfo := pool [(1, .class_ 2), (0, u "java/lang/Math"), (1, .class_ 6), (1, u "java/lang/Object"), (0, u "<init>"), (0, u "()V"), (89, .class_ 100), (1, u "java/lang/Math$RandomNumberGeneratorHolder"), (71, u "negativeZeroFloatBits"), (0, u "J"), (2, u "negativeZeroDoubleBits"), (21, u "max"), (46, u "$assertionsDisabled"), (0, u "Z"), (88, u "(II)I"), (2, u "twoToTheDoubleScaleDown"), (0, u "D"), (4, u "twoToTheDoubleScaleUp"), (9, u "E"), (3, u "PI"), (2, u "TAU"), (2, u "DEGREES_TO_RADIANS"), (0, u "RADIANS_TO_DEGREES")] 94

def k2m0 : Method := { name := "<init>", desc := "()V", sig := { parameters := [], returnType := none }, accessFlags := 2, code := none }
def k2c1 : Code := { maxStack := 2, maxLocals := 2, code := jdk_29_method_65_code, exceptionTable := #[], attributes := #[] }
def k2m1 : Method := { name := "max", desc := "(II)I", sig := { parameters := [.int, .int], returnType := some .int }, accessFlags := 9, code := some k2c1 }
/-- java/lang/Math -/
def k2 : Class := { plain "java/lang/Math" (some 0) with
  accessFlags := 49
  interfaces := #[]
  cf := some (fileOf pool2 1 #[.nestMembers #[98]] #[{ accessFlags := 2, nameIndex := 7, descriptorIndex := 8, attributes := #[] }, { accessFlags := 9, nameIndex := 198, descriptorIndex := 335, attributes := #[] }] 49 4 #[] #[{ accessFlags := 25, nameIndex := 354, descriptorIndex := 339, attributes := #[] }, { accessFlags := 25, nameIndex := 358, descriptorIndex := 339, attributes := #[] }, { accessFlags := 25, nameIndex := 361, descriptorIndex := 339, attributes := #[] }, { accessFlags := 26, nameIndex := 364, descriptorIndex := 339, attributes := #[] }, { accessFlags := 26, nameIndex := 365, descriptorIndex := 339, attributes := #[] }, { accessFlags := 26, nameIndex := 172, descriptorIndex := 173, attributes := #[] }, { accessFlags := 26, nameIndex := 176, descriptorIndex := 173, attributes := #[] }, { accessFlags := 8, nameIndex := 344, descriptorIndex := 339, attributes := #[] }, { accessFlags := 8, nameIndex := 338, descriptorIndex := 339, attributes := #[] }, { accessFlags := 4120, nameIndex := 245, descriptorIndex := 246, attributes := #[] }])
  fields := #[{ name := "E", type := .double, accessFlags := 25, slot := 0, constantValue := 0 }, { name := "PI", type := .double, accessFlags := 25, slot := 1, constantValue := 0 }, { name := "TAU", type := .double, accessFlags := 25, slot := 2, constantValue := 0 }, { name := "DEGREES_TO_RADIANS", type := .double, accessFlags := 26, slot := 3, constantValue := 0 }, { name := "RADIANS_TO_DEGREES", type := .double, accessFlags := 26, slot := 4, constantValue := 0 }, { name := "negativeZeroFloatBits", type := .long, accessFlags := 26, slot := 5, constantValue := 0 }, { name := "negativeZeroDoubleBits", type := .long, accessFlags := 26, slot := 6, constantValue := 0 }, { name := "twoToTheDoubleScaleUp", type := .double, accessFlags := 8, slot := 7, constantValue := 0 }, { name := "twoToTheDoubleScaleDown", type := .double, accessFlags := 8, slot := 8, constantValue := 0 }, { name := "$assertionsDisabled", type := .boolean, accessFlags := 4120, slot := 9, constantValue := 0 }]
  methods := #[k2m0, k2m1]
  instanceTypes := #[]
  staticTypes := #[.double, .double, .double, .double, .double, .long, .long, .double, .double, .boolean]
  resolved := Array.replicate 460 none
  statics := none }

def pool3 : Array CpInfo := pool [(1, .class_ 2), (0, u "com/example/hardy_election/hardyelection/SharedMemory"), (1, .class_ 6), (1, u "java/lang/Object"), (7, u "waiting"), (0, u "Ljava/util/Map;"), (2, u "acting"), (0, u "I"), (2, u "lastStepped"), (11, u "size"), (0, .class_ 36), (0, u "com/example/hardy_election/hardyelection/SharedMemory$Operation"), (2, u "pending"), (0, u "[Lcom/example/hardy_election/hardyelection/SharedMemory$Operation;"), (2, u "started"), (0, u "[Z"), (2, u "finished"), (2, u "rmrs"), (0, u "[J"), (0, .class_ 53), (0, u "com/example/hardy_election/hardyelection/SharedMemory$EnabledSet"), (5, u "enabled"), (0, u "Lcom/example/hardy_election/hardyelection/SharedMemory$EnabledSet;"), (2, u "SCHEDULERS"), (16, .class_ 81), (0, u "com/example/hardy_election/hardyelection/SharedMemory$Scheduler"), (8, .long 23), (1, .long 368), (1, .long 370), (16, .class_ 113), (1, u "com/example/hardy_election/hardyelection/SharedMemory$Variables"), (38, .class_ 154), (1, u "com/example/hardy_election/hardyelection/SharedMemory$Kind"), (58, u "steps"), (0, u "J"), (10, .class_ 226), (0, u "com/example/hardy_election/hardyelection/SharedMemory$Access"), (24, .class_ 252), (0, u "com/example/hardy_election/hardyelection/SharedMemory$Location"), (49, u "requests"), (109, u "GLOBAL"), (2, u "DEFAULT_SCHEDULER"), (0, u "Ljava/lang/String;"), (0, u "MODEL"), (0, u "NONE"), (0, u "ANY"), (0, u "CHUNK_BITS"), (1, u "CHUNK"), (1, u "CHUNK_MASK"), (1, u "LONG_BITS"), (1, u "REFERENCE"), (0, u "OBJECTS_BYTES"), (1, u "ARRAY_HEADER"), (1, u "ROW_BYTES"), (1, u "OPERATION_BYTES"), (1, u "LAMBDA_BYTES"), (0, u "WAIT_BYTES"), (14, u "bytes"), (0, u "(II)J")] 134

def k3c0 : Code := { maxStack := 6, maxLocals := 6, code := prog_61_method_5_code, exceptionTable := #[], attributes := #[] }
def k3m0 : Method := { name := "bytes", desc := "(II)J", sig := { parameters := [.int, .int], returnType := some .long }, accessFlags := 9, code := some k3c0 }
/-- com/example/hardy_election/hardyelection/SharedMemory -/
def k3 : Class := { plain "com/example/hardy_election/hardyelection/SharedMemory" (some 0) with
  accessFlags := 49
  interfaces := #[]
  cf := some (fileOf pool3 1 #[.nestMembers #[52, 251, 152, 35, 225, 111, 80]] #[{ accessFlags := 9, nameIndex := 453, descriptorIndex := 454, attributes := #[] }] 49 4 #[] #[{ accessFlags := 25, nameIndex := 412, descriptorIndex := 19, attributes := #[] }, { accessFlags := 25, nameIndex := 415, descriptorIndex := 416, attributes := #[] }, { accessFlags := 26, nameIndex := 417, descriptorIndex := 416, attributes := #[] }, { accessFlags := 26, nameIndex := 418, descriptorIndex := 19, attributes := #[] }, { accessFlags := 26, nameIndex := 419, descriptorIndex := 19, attributes := #[] }, { accessFlags := 26, nameIndex := 420, descriptorIndex := 19, attributes := #[] }, { accessFlags := 26, nameIndex := 422, descriptorIndex := 19, attributes := #[] }, { accessFlags := 26, nameIndex := 424, descriptorIndex := 19, attributes := #[] }, { accessFlags := 26, nameIndex := 426, descriptorIndex := 19, attributes := #[] }, { accessFlags := 26, nameIndex := 428, descriptorIndex := 19, attributes := #[] }, { accessFlags := 26, nameIndex := 429, descriptorIndex := 19, attributes := #[] }, { accessFlags := 26, nameIndex := 431, descriptorIndex := 19, attributes := #[] }, { accessFlags := 26, nameIndex := 433, descriptorIndex := 19, attributes := #[] }, { accessFlags := 26, nameIndex := 435, descriptorIndex := 19, attributes := #[] }, { accessFlags := 26, nameIndex := 437, descriptorIndex := 19, attributes := #[] }, { accessFlags := 26, nameIndex := 438, descriptorIndex := 19, attributes := #[] }, { accessFlags := 26, nameIndex := 63, descriptorIndex := 15, attributes := #[] }, { accessFlags := 18, nameIndex := 34, descriptorIndex := 19, attributes := #[] }, { accessFlags := 18, nameIndex := 39, descriptorIndex := 40, attributes := #[] }, { accessFlags := 18, nameIndex := 43, descriptorIndex := 44, attributes := #[] }, { accessFlags := 18, nameIndex := 47, descriptorIndex := 44, attributes := #[] }, { accessFlags := 18, nameIndex := 50, descriptorIndex := 51, attributes := #[] }, { accessFlags := 18, nameIndex := 59, descriptorIndex := 60, attributes := #[] }, { accessFlags := 18, nameIndex := 14, descriptorIndex := 15, attributes := #[] }, { accessFlags := 2, nameIndex := 18, descriptorIndex := 19, attributes := #[] }, { accessFlags := 2, nameIndex := 302, descriptorIndex := 19, attributes := #[] }, { accessFlags := 2, nameIndex := 22, descriptorIndex := 19, attributes := #[] }, { accessFlags := 2, nameIndex := 213, descriptorIndex := 214, attributes := #[] }])
  fields := #[{ name := "GLOBAL", type := .int, accessFlags := 25, slot := 0, constantValue := 0 }, { name := "DEFAULT_SCHEDULER", type := (.object "java/lang/String"), accessFlags := 25, slot := 1, constantValue := 0 }, { name := "MODEL", type := (.object "java/lang/String"), accessFlags := 26, slot := 2, constantValue := 0 }, { name := "NONE", type := .int, accessFlags := 26, slot := 3, constantValue := 0 }, { name := "ANY", type := .int, accessFlags := 26, slot := 4, constantValue := 0 }, { name := "CHUNK_BITS", type := .int, accessFlags := 26, slot := 5, constantValue := 0 }, { name := "CHUNK", type := .int, accessFlags := 26, slot := 6, constantValue := 0 }, { name := "CHUNK_MASK", type := .int, accessFlags := 26, slot := 7, constantValue := 0 }, { name := "LONG_BITS", type := .int, accessFlags := 26, slot := 8, constantValue := 0 }, { name := "REFERENCE", type := .int, accessFlags := 26, slot := 9, constantValue := 0 }, { name := "OBJECTS_BYTES", type := .int, accessFlags := 26, slot := 10, constantValue := 0 }, { name := "ARRAY_HEADER", type := .int, accessFlags := 26, slot := 11, constantValue := 0 }, { name := "ROW_BYTES", type := .int, accessFlags := 26, slot := 12, constantValue := 0 }, { name := "OPERATION_BYTES", type := .int, accessFlags := 26, slot := 13, constantValue := 0 }, { name := "LAMBDA_BYTES", type := .int, accessFlags := 26, slot := 14, constantValue := 0 }, { name := "WAIT_BYTES", type := .int, accessFlags := 26, slot := 15, constantValue := 0 }, { name := "SCHEDULERS", type := (.object "java/util/Map"), accessFlags := 26, slot := 16, constantValue := 0 }, { name := "size", type := .int, accessFlags := 18, slot := 0, constantValue := 0 }, { name := "pending", type := (.array (.object "com/example/hardy_election/hardyelection/SharedMemory$Operation")), accessFlags := 18, slot := 1, constantValue := 0 }, { name := "started", type := (.array .boolean), accessFlags := 18, slot := 2, constantValue := 0 }, { name := "finished", type := (.array .boolean), accessFlags := 18, slot := 3, constantValue := 0 }, { name := "rmrs", type := (.array .long), accessFlags := 18, slot := 4, constantValue := 0 }, { name := "enabled", type := (.object "com/example/hardy_election/hardyelection/SharedMemory$EnabledSet"), accessFlags := 18, slot := 5, constantValue := 0 }, { name := "waiting", type := (.object "java/util/Map"), accessFlags := 18, slot := 6, constantValue := 0 }, { name := "acting", type := .int, accessFlags := 2, slot := 7, constantValue := 0 }, { name := "requests", type := .int, accessFlags := 2, slot := 8, constantValue := 0 }, { name := "lastStepped", type := .int, accessFlags := 2, slot := 9, constantValue := 0 }, { name := "steps", type := .long, accessFlags := 2, slot := 10, constantValue := 0 }]
  methods := #[k3m0]
  instanceTypes := #[.int, (.array (.object "com/example/hardy_election/hardyelection/SharedMemory$Operation")), (.array .boolean), (.array .boolean), (.array .long), (.object "com/example/hardy_election/hardyelection/SharedMemory$EnabledSet"), (.object "java/util/Map"), .int, .int, .int, .long]
  staticTypes := #[.int, (.object "java/lang/String"), (.object "java/lang/String"), .int, .int, .int, .int, .int, .int, .int, .int, .int, .int, .int, .int, .int, (.object "java/util/Map")]
  resolved := Array.replicate 589 none
  statics := none }

def pool4 : Array CpInfo := pool [(1, u "java/lang/Cloneable"), (0, .class_ 1), (0, u "java/lang/Object"), (0, .class_ 3)] 3

/-- java/lang/Cloneable -/
def k4 : Class := { plain "java/lang/Cloneable" (some 0) with
  accessFlags := 1537
  interfaces := #[]
  cf := some (fileOf pool4 2 #[] #[] 1537 4 #[] #[])
  fields := #[]
  methods := #[]
  instanceTypes := #[]
  staticTypes := #[]
  resolved := Array.replicate 8 none
  statics := none }

def pool5 : Array CpInfo := pool [(1, u "java/io/Serializable"), (0, .class_ 1), (0, u "java/lang/Object"), (0, .class_ 3)] 3

/-- java/io/Serializable -/
def k5 : Class := { plain "java/io/Serializable" (some 0) with
  accessFlags := 1537
  interfaces := #[]
  cf := some (fileOf pool5 2 #[] #[] 1537 4 #[] #[])
  fields := #[]
  methods := #[]
  instanceTypes := #[]
  staticTypes := #[]
  resolved := Array.replicate 8 none
  statics := none }

/-- the primitive byte -/
def k6 : Class := { plain "byte" none with kind := .primitive 'B', accessFlags := 0x411 }
/-- [B -/
def k7 : Class := { plain "[B" (some 0) with kind := .array 6 .byte, interfaces := #[4, 5], accessFlags := 1041 }

/-- the primitive int -/
def k8 : Class := { plain "int" none with kind := .primitive 'I', accessFlags := 0x411 }
/-- [I -/
def k9 : Class := { plain "[I" (some 0) with kind := .array 8 .int, interfaces := #[4, 5], accessFlags := 1041 }

def heap : Heap := #[]
def classes : Array Class := #[k0, k1, k2, k3, k4, k5, k6, k7, k8, k9]
def interned : List (Array UInt16 × Addr) := []
def slotsUsed : Nat := 0
def theMethod : MethodId := ⟨1, 1⟩
def args0 : Array Value := #[.int 3, .int 4]
def aboutOver (below : List Frame) : State where
  vm := { classes := classes, interned := interned.toArray }
  heap := heap
  slotsUsed := slotsUsed
  threads := #[{ frames := .invoking theMethod args0 :: below }]
def below0 : List Frame := [.native { method := ⟨0, 0⟩, args := #[] }]
def about1 : State := aboutOver below0
def p0 : Program := .bare "" "" ""
def e0 : Env := launch0.env 0 0 0
theorem w_frames : about1.frames = Frame.invoking theMethod args0 :: below0 := rfl
set_option maxRecDepth 65536 in
theorem w_args : argsFit about1.vm theMethod args0 = true := by decide +kernel
set_option maxRecDepth 65536 in
theorem w_heap : heapFits about1 = true := by decide +kernel
set_option maxRecDepth 65536 in
theorem w_runnable : about1.curStatus? = some .runnable := by decide +kernel
set_option maxRecDepth 65536 in
theorem w_alone : about1.alone = true := by decide +kernel
set_option maxRecDepth 65536 in
theorem w_named : about1.methodNamed? x = some theMethod := by decide +kernel
set_option maxRecDepth 65536 in
theorem w_hears : about1.hears theMethod below0 = true := by decide +kernel
set_option maxRecDepth 65536 in
theorem w_ripe : about1.ripe theMethod args0 below0 = true := by decide +kernel
theorem w_running : about1.status = .running := rfl
set_option maxRecDepth 65536 in
theorem w_room : about1.hasRoom e0.platform room_1 = true :=
  launch0.hasRoom_least _ room_1 (by decide +kernel) (by decide +kernel) (by decide +kernel) (by decide +kernel) (by decide +kernel) (by decide +kernel)
theorem allAtoms_all (ts : List Jvm.Cond) (a : Array Jvm.Value) (st : Jvm.State) : (allAtoms ts).before a st = ts.all (fun c => c.before a st) := by
  induction ts with
  | nil => rfl
  | cons c t ih =>
    show (Jvm.Cond.and c (allAtoms t)).before a st = _
    rw [Jvm.Cond.before_and, ih, List.all_cons]
def words1 : List Jvm.Cond := Jvm.Cond.code x code maxLocals ret :: tables_1
/-- a 'code' word, met by the world's own term for the bytes: nothing is compared byte by byte -/
theorem code_word {y : MethodName} {bytes : ByteArray} {mx : Nat} {rt : Option FieldType} {a : Array Value} {s : State} {m : MethodId} {meth : Method} {c : Code} (h1 : s.methodNamed? y = some m) (h2 : s.vm.method? m = some meth) (h3 : meth.code = some c) (h4 : c.code = bytes)
    (h5 : (c.maxLocals == mx && c.exceptionTable.isEmpty && decide (c.maxStack ≤ mostOperands) && decide (meth.sig.returnType = rt) && !meth.locks && decide (parseMethodDescriptor y.desc = some meth.sig)) = true) : (Jvm.Cond.code y bytes mx rt).before a s = true := by
  simp only [Bool.and_eq_true, beq_iff_eq, Bool.not_eq_true', decide_eq_true_eq] at h5
  obtain ⟨⟨⟨⟨⟨g1, g2⟩, g3⟩, g4⟩, g5⟩, g6⟩ := h5
  simp [Cond.before, Cond.holds, Cond.value, h1, h2, h3, h4, g1, g2, g3, g4, g5, g6]
def isCode : Jvm.Cond → Bool
  | .code _ _ _ _ => true
  | _ => false
theorem all_split {L : List Jvm.Cond} {P : Jvm.Cond → Bool} (h1 : L.all (fun c => isCode c || P c) = true) (h2 : ∀ c ∈ L.filter isCode, P c = true) : L.all P = true := by
  refine List.all_eq_true.mpr fun c hc => ?_
  have h := List.all_eq_true.mp h1 c hc
  rcases Bool.eq_false_or_eq_true (isCode c) with hi | hi
  · exact h2 c (List.mem_filter.mpr ⟨hc, hi⟩)
  · simpa [hi] using h
set_option maxRecDepth 65536 in
theorem w_c0 : (Jvm.Cond.code x code maxLocals ret).before args0 about1 = true := code_word (m := ⟨1, 1⟩) (meth := k1m1) (c := k1c1) (by decide +kernel) rfl rfl rfl (by decide +kernel)
set_option maxRecDepth 65536 in
theorem w_c1 : (Jvm.Cond.code ({ cls := "java/lang/Math", name := "max", desc := "(II)I" } : Jvm.MethodName) jdk_29_method_65_code (2 : Nat) (Option.some Jvm.ClassFile.FieldType.int)).before args0 about1 = true := code_word (m := ⟨2, 1⟩) (meth := k2m1) (c := k2c1) (by decide +kernel) rfl rfl rfl (by decide +kernel)
set_option maxRecDepth 65536 in
theorem w_c2 : (Jvm.Cond.code ({ cls := "com/example/hardy_election/hardyelection/SharedMemory", name := "bytes", desc := "(II)J" } : Jvm.MethodName) prog_61_method_5_code (6 : Nat) (Option.some Jvm.ClassFile.FieldType.long)).before args0 about1 = true := code_word (m := ⟨3, 0⟩) (meth := k3m0) (c := k3c0) (by decide +kernel) rfl rfl rfl (by decide +kernel)
def codes1 : List Jvm.Cond := [Jvm.Cond.code x code maxLocals ret, Jvm.Cond.code ({ cls := "java/lang/Math", name := "max", desc := "(II)I" } : Jvm.MethodName) jdk_29_method_65_code (2 : Nat) (Option.some Jvm.ClassFile.FieldType.int), Jvm.Cond.code ({ cls := "com/example/hardy_election/hardyelection/SharedMemory", name := "bytes", desc := "(II)J" } : Jvm.MethodName) prog_61_method_5_code (6 : Nat) (Option.some Jvm.ClassFile.FieldType.long)]
set_option maxRecDepth 65536 in
theorem codes_eq : words1.filter isCode = codes1 := rfl
theorem w_codes : ∀ c ∈ words1.filter isCode, c.before args0 about1 = true := by
  rw [codes_eq]
  intro c hc
  simp only [codes1, List.mem_cons, List.not_mem_nil, or_false] at hc
  rcases hc with rfl | rfl | rfl
  · exact w_c0
  · exact w_c1
  · exact w_c2
set_option maxRecDepth 65536 in
theorem w_t1 : words1.all (fun c => isCode c || c.before args0 about1) = true := by decide +kernel
theorem w_tables : (allAtoms (Jvm.Cond.code x code maxLocals ret :: tables_1)).before args0 about1 = true := by
  rw [allAtoms_all]
  show words1.all (fun c => c.before args0 about1) = true
  refine all_split ?_ w_codes
  rw [w_t1]
set_option maxRecDepth 65536 in
theorem w_case : (Jvm.Cond.and given_1 narrow_1).before args0 about1 = true := by decide +kernel
theorem w_applies : (headSpec (Jvm.Cond.code x code maxLocals ret :: tables_1) room_1).applies x e0.platform about1 = true :=
  (Spec.applies_iff w_frames).mpr ⟨w_running, w_runnable, w_alone, w_named, w_hears, w_ripe, w_room, w_tables⟩
theorem atStart : AtStart classFile x code maxLocals ret World_1 tables_1 room_1 Calls_1 rest_1 Pre_1 launch0 p0 e0 about1 theMethod args0 below0 :=
  ⟨lists_1, trivial, launch0.admits_env _ _ _, launch0.least_env, fairChoices_fair.cas, fairChoices_fair.clock, w_frames, w_args, w_heap, w_applies, trivial, trivial, w_case⟩
end start1
theorem witness_1 : WitnessClaimed_1 := ⟨start1.p0, start1.e0, start1.about1, start1.theMethod, start1.args0, start1.below0, start1.atStart⟩
end Jvm.Pilot.@@N@@
