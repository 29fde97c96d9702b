import JvmDerived
import JvmDerived.Pilot.@@N@@Statement
import JvmDerived.Pilot.@@N@@Code
set_option linter.unusedVariables false
set_option linter.unusedSimpArgs false
@@BLOCK:NumsL.lean.txt@@
namespace Jvm.Pilot.@@N@@
open Jvm Jvm.ClassFile Sem Op Lib Jvm.Free Jvm.Stand Jvm.LawKit Jvm.RoadKit Bundle Jvm.Pilot.@@N@@.Jvm.D
section Own
variable {p : Program} {l : Launch} {e : Env} {R : Room} {s : State} {m : MethodId} {args : Array Value} {below : List Frame} {meth : Method} {c : Code} {T : State} {locs : List Loc} {cells slots : Nat} {Q : Option Value → Heap → List Loc → Prop} {K N : Nat} {s' : State} {E : State → Outcome → State → List Loc → Nat → Nat → Prop}
/-- the run from a ends in a return of which Q holds, within the frame -/
def own_End (p : Program) (e : Env) (below : List Frame) (s : State) (Q : Option Value → Heap → List Loc → Prop) (K N : Nat) (a : State) (E : State → Outcome → State → List Loc → Nat → Nat → Prop := FrameEnd) : Prop :=
  ∃ s₂ o, Steps p.tables e below a s₂ ∧ s₂.status = .running ∧ Ended s₂ below o ∧ ∃ v L, o = .returned v ∧ Q v s₂.heap L ∧ E s o s₂ L K N
theorem own_back {a b : State} (k : ∀ t, Steps p.tables e below b t → Steps p.tables e below a t) (h : own_End p e below s Q K N b E) : own_End p e below s Q K N a E := by
  obtain ⟨s₂, o, h1, h2⟩ := h
  exact ⟨s₂, o, k _ h1, h2⟩
theorem own_via {a b : State} (k : Steps p.tables e below a b) (h : own_End p e below s Q K N b E) : own_End p e below s Q K N a E :=
  own_back (fun _ j => k.trans j) h
theorem own_selfsel {y : MethodName} {n : Nat} (wi : (Jvm.Cond.instantiable y.cls n).before args s = true) (hp : s.PrivateAt y) (hi : (Jvm.Cond.instanceMethod y).before args s = true) (hy : y.cls ≠ "java/lang/invoke/MethodHandle" ∧ y.cls ≠ "java/lang/invoke/VarHandle") : (Jvm.Cond.selects y.cls y y).before args s = true := by
  obtain ⟨c, k, h1, h2, -, h4, -⟩ := Cond.instantiable_spec wi
  exact selects_self_of_private h1 h2 (Bool.or_eq_false_iff.mp h4).1 hp hi hy
theorem own_cast {a b : State} (q : a = b) (h : own_End p e below s Q K N b E) : own_End p e below s Q K N a E := q ▸ h
theorem own_iadd (X : Stand p l e R s' m args below meth c T locs cells slots) (hx : p.tables.exec = Jvm.exec) {pc q : Nat} {Ls : Array Slot} {rest : List Value} (hd : decode c.code pc = .ok (.iadd, 1)) {x y : Int32} (hq : pc + 1 = q) (h : own_End p e below s Q K N (T.setTop (mkF m q Ls (.int (x + y) :: rest))) E) : own_End p e below s Q K N (T.setTop (mkF m pc Ls (.int y :: .int x :: rest))) E := by
  subst hq; exact own_back (fun _ k => XS.iadd X.here hx rfl hd rfl k) h
theorem own_isub (X : Stand p l e R s' m args below meth c T locs cells slots) (hx : p.tables.exec = Jvm.exec) {pc q : Nat} {Ls : Array Slot} {rest : List Value} (hd : decode c.code pc = .ok (.isub, 1)) {x y : Int32} (hq : pc + 1 = q) (h : own_End p e below s Q K N (T.setTop (mkF m q Ls (.int (x - y) :: rest))) E) : own_End p e below s Q K N (T.setTop (mkF m pc Ls (.int y :: .int x :: rest))) E := by
  subst hq; exact own_back (fun _ k => XS.isub X.here hx rfl hd rfl k) h
theorem own_imul (X : Stand p l e R s' m args below meth c T locs cells slots) (hx : p.tables.exec = Jvm.exec) {pc q : Nat} {Ls : Array Slot} {rest : List Value} (hd : decode c.code pc = .ok (.imul, 1)) {x y : Int32} (hq : pc + 1 = q) (h : own_End p e below s Q K N (T.setTop (mkF m q Ls (.int (x * y) :: rest))) E) : own_End p e below s Q K N (T.setTop (mkF m pc Ls (.int y :: .int x :: rest))) E := by
  subst hq; exact own_back (fun _ k => XS.imul X.here hx rfl hd rfl k) h
theorem own_iand (X : Stand p l e R s' m args below meth c T locs cells slots) (hx : p.tables.exec = Jvm.exec) {pc q : Nat} {Ls : Array Slot} {rest : List Value} (hd : decode c.code pc = .ok (.iand, 1)) {x y : Int32} (hq : pc + 1 = q) (h : own_End p e below s Q K N (T.setTop (mkF m q Ls (.int (x &&& y) :: rest))) E) : own_End p e below s Q K N (T.setTop (mkF m pc Ls (.int y :: .int x :: rest))) E := by
  subst hq; exact own_back (fun _ k => XS.iand X.here hx rfl hd rfl k) h
theorem own_ior (X : Stand p l e R s' m args below meth c T locs cells slots) (hx : p.tables.exec = Jvm.exec) {pc q : Nat} {Ls : Array Slot} {rest : List Value} (hd : decode c.code pc = .ok (.ior, 1)) {x y : Int32} (hq : pc + 1 = q) (h : own_End p e below s Q K N (T.setTop (mkF m q Ls (.int (x ||| y) :: rest))) E) : own_End p e below s Q K N (T.setTop (mkF m pc Ls (.int y :: .int x :: rest))) E := by
  subst hq; exact own_back (fun _ k => XS.ior X.here hx rfl hd rfl k) h
theorem own_ixor (X : Stand p l e R s' m args below meth c T locs cells slots) (hx : p.tables.exec = Jvm.exec) {pc q : Nat} {Ls : Array Slot} {rest : List Value} (hd : decode c.code pc = .ok (.ixor, 1)) {x y : Int32} (hq : pc + 1 = q) (h : own_End p e below s Q K N (T.setTop (mkF m q Ls (.int (x ^^^ y) :: rest))) E) : own_End p e below s Q K N (T.setTop (mkF m pc Ls (.int y :: .int x :: rest))) E := by
  subst hq; exact own_back (fun _ k => XS.ixor X.here hx rfl hd rfl k) h
theorem own_ishl (X : Stand p l e R s' m args below meth c T locs cells slots) (hx : p.tables.exec = Jvm.exec) {pc q : Nat} {Ls : Array Slot} {rest : List Value} (hd : decode c.code pc = .ok (.ishl, 1)) {x y : Int32} (hq : pc + 1 = q) (h : own_End p e below s Q K N (T.setTop (mkF m q Ls (.int (x <<< (y &&& 31)) :: rest))) E) : own_End p e below s Q K N (T.setTop (mkF m pc Ls (.int y :: .int x :: rest))) E := by
  subst hq; exact own_back (fun _ k => XS.ishl X.here hx rfl hd rfl k) h
theorem own_ishr (X : Stand p l e R s' m args below meth c T locs cells slots) (hx : p.tables.exec = Jvm.exec) {pc q : Nat} {Ls : Array Slot} {rest : List Value} (hd : decode c.code pc = .ok (.ishr, 1)) {x y : Int32} (hq : pc + 1 = q) (h : own_End p e below s Q K N (T.setTop (mkF m q Ls (.int (x >>> (y &&& 31)) :: rest))) E) : own_End p e below s Q K N (T.setTop (mkF m pc Ls (.int y :: .int x :: rest))) E := by
  subst hq; exact own_back (fun _ k => XS.ishr X.here hx rfl hd rfl k) h
theorem own_iushr (X : Stand p l e R s' m args below meth c T locs cells slots) (hx : p.tables.exec = Jvm.exec) {pc q : Nat} {Ls : Array Slot} {rest : List Value} (hd : decode c.code pc = .ok (.iushr, 1)) {x y : Int32} (hq : pc + 1 = q) (h : own_End p e below s Q K N (T.setTop (mkF m q Ls (.int ((x.toUInt32 >>> (y &&& 31).toUInt32).toInt32) :: rest))) E) : own_End p e below s Q K N (T.setTop (mkF m pc Ls (.int y :: .int x :: rest))) E := by
  subst hq; exact own_back (fun _ k => XS.iushr X.here hx rfl hd rfl k) h
theorem own_ladd (X : Stand p l e R s' m args below meth c T locs cells slots) (hx : p.tables.exec = Jvm.exec) {pc q : Nat} {Ls : Array Slot} {rest : List Value} (hd : decode c.code pc = .ok (.ladd, 1)) {x y : Int64} (hq : pc + 1 = q) (h : own_End p e below s Q K N (T.setTop (mkF m q Ls (.long (x + y) :: rest))) E) : own_End p e below s Q K N (T.setTop (mkF m pc Ls (.long y :: .long x :: rest))) E := by
  subst hq; exact own_back (fun _ k => XS.ladd X.here hx rfl hd rfl k) h
theorem own_lsub (X : Stand p l e R s' m args below meth c T locs cells slots) (hx : p.tables.exec = Jvm.exec) {pc q : Nat} {Ls : Array Slot} {rest : List Value} (hd : decode c.code pc = .ok (.lsub, 1)) {x y : Int64} (hq : pc + 1 = q) (h : own_End p e below s Q K N (T.setTop (mkF m q Ls (.long (x - y) :: rest))) E) : own_End p e below s Q K N (T.setTop (mkF m pc Ls (.long y :: .long x :: rest))) E := by
  subst hq; exact own_back (fun _ k => XS.lsub X.here hx rfl hd rfl k) h
theorem own_lmul (X : Stand p l e R s' m args below meth c T locs cells slots) (hx : p.tables.exec = Jvm.exec) {pc q : Nat} {Ls : Array Slot} {rest : List Value} (hd : decode c.code pc = .ok (.lmul, 1)) {x y : Int64} (hq : pc + 1 = q) (h : own_End p e below s Q K N (T.setTop (mkF m q Ls (.long (x * y) :: rest))) E) : own_End p e below s Q K N (T.setTop (mkF m pc Ls (.long y :: .long x :: rest))) E := by
  subst hq; exact own_back (fun _ k => XS.lmul X.here hx rfl hd rfl k) h
theorem own_land (X : Stand p l e R s' m args below meth c T locs cells slots) (hx : p.tables.exec = Jvm.exec) {pc q : Nat} {Ls : Array Slot} {rest : List Value} (hd : decode c.code pc = .ok (.land, 1)) {x y : Int64} (hq : pc + 1 = q) (h : own_End p e below s Q K N (T.setTop (mkF m q Ls (.long (x &&& y) :: rest))) E) : own_End p e below s Q K N (T.setTop (mkF m pc Ls (.long y :: .long x :: rest))) E := by
  subst hq; exact own_back (fun _ k => XS.land X.here hx rfl hd rfl k) h
theorem own_lor (X : Stand p l e R s' m args below meth c T locs cells slots) (hx : p.tables.exec = Jvm.exec) {pc q : Nat} {Ls : Array Slot} {rest : List Value} (hd : decode c.code pc = .ok (.lor, 1)) {x y : Int64} (hq : pc + 1 = q) (h : own_End p e below s Q K N (T.setTop (mkF m q Ls (.long (x ||| y) :: rest))) E) : own_End p e below s Q K N (T.setTop (mkF m pc Ls (.long y :: .long x :: rest))) E := by
  subst hq; exact own_back (fun _ k => XS.lor X.here hx rfl hd rfl k) h
theorem own_lxor (X : Stand p l e R s' m args below meth c T locs cells slots) (hx : p.tables.exec = Jvm.exec) {pc q : Nat} {Ls : Array Slot} {rest : List Value} (hd : decode c.code pc = .ok (.lxor, 1)) {x y : Int64} (hq : pc + 1 = q) (h : own_End p e below s Q K N (T.setTop (mkF m q Ls (.long (x ^^^ y) :: rest))) E) : own_End p e below s Q K N (T.setTop (mkF m pc Ls (.long y :: .long x :: rest))) E := by
  subst hq; exact own_back (fun _ k => XS.lxor X.here hx rfl hd rfl k) h
theorem own_lshl (X : Stand p l e R s' m args below meth c T locs cells slots) (hx : p.tables.exec = Jvm.exec) {pc q : Nat} {Ls : Array Slot} {rest : List Value} (hd : decode c.code pc = .ok (.lshl, 1)) {x : Int64} {y : Int32} (hq : pc + 1 = q) (h : own_End p e below s Q K N (T.setTop (mkF m q Ls (.long (x <<< (y &&& 0x3f).toInt64) :: rest))) E) : own_End p e below s Q K N (T.setTop (mkF m pc Ls (.int y :: .long x :: rest))) E := by
  subst hq; exact own_back (fun _ k => XS.lshl X.here hx rfl hd rfl k) h
theorem own_lshr (X : Stand p l e R s' m args below meth c T locs cells slots) (hx : p.tables.exec = Jvm.exec) {pc q : Nat} {Ls : Array Slot} {rest : List Value} (hd : decode c.code pc = .ok (.lshr, 1)) {x : Int64} {y : Int32} (hq : pc + 1 = q) (h : own_End p e below s Q K N (T.setTop (mkF m q Ls (.long (x >>> (y &&& 0x3f).toInt64) :: rest))) E) : own_End p e below s Q K N (T.setTop (mkF m pc Ls (.int y :: .long x :: rest))) E := by
  subst hq; exact own_back (fun _ k => XS.lshr X.here hx rfl hd rfl k) h
theorem own_lushr (X : Stand p l e R s' m args below meth c T locs cells slots) (hx : p.tables.exec = Jvm.exec) {pc q : Nat} {Ls : Array Slot} {rest : List Value} (hd : decode c.code pc = .ok (.lushr, 1)) {x : Int64} {y : Int32} (hq : pc + 1 = q) (h : own_End p e below s Q K N (T.setTop (mkF m q Ls (.long ((x.toUInt64 >>> (y &&& 0x3f).toInt64.toUInt64).toInt64) :: rest))) E) : own_End p e below s Q K N (T.setTop (mkF m pc Ls (.int y :: .long x :: rest))) E := by
  subst hq; exact own_back (fun _ k => XS.lushr X.here hx rfl hd rfl k) h
theorem own_idiv (X : Stand p l e R s' m args below meth c T locs cells slots) (hx : p.tables.exec = Jvm.exec) {pc q : Nat} {Ls : Array Slot} {rest : List Value} (hd : decode c.code pc = .ok (.idiv, 1)) {x y : Int32} (hy : y ≠ 0) (hq : pc + 1 = q) (h : own_End p e below s Q K N (T.setTop (mkF m q Ls (.int (x / y) :: rest))) E) : own_End p e below s Q K N (T.setTop (mkF m pc Ls (.int y :: .int x :: rest))) E := by
  subst hq; exact own_back (fun _ k => XS.idiv X.here hx rfl hd rfl hy k) h
theorem own_irem (X : Stand p l e R s' m args below meth c T locs cells slots) (hx : p.tables.exec = Jvm.exec) {pc q : Nat} {Ls : Array Slot} {rest : List Value} (hd : decode c.code pc = .ok (.irem, 1)) {x y : Int32} (hy : y ≠ 0) (hq : pc + 1 = q) (h : own_End p e below s Q K N (T.setTop (mkF m q Ls (.int (x % y) :: rest))) E) : own_End p e below s Q K N (T.setTop (mkF m pc Ls (.int y :: .int x :: rest))) E := by
  subst hq; exact own_back (fun _ k => iremM X hx rfl hd rfl hy k) h
theorem own_ldiv (X : Stand p l e R s' m args below meth c T locs cells slots) (hx : p.tables.exec = Jvm.exec) {pc q : Nat} {Ls : Array Slot} {rest : List Value} (hd : decode c.code pc = .ok (.ldiv, 1)) {x y : Int64} (hy : y ≠ 0) (hq : pc + 1 = q) (h : own_End p e below s Q K N (T.setTop (mkF m q Ls (.long (x / y) :: rest))) E) : own_End p e below s Q K N (T.setTop (mkF m pc Ls (.long y :: .long x :: rest))) E := by
  subst hq; exact own_back (fun _ k => XS.ldiv X.here hx rfl hd rfl hy k) h
theorem own_lrem (X : Stand p l e R s' m args below meth c T locs cells slots) (hx : p.tables.exec = Jvm.exec) {pc q : Nat} {Ls : Array Slot} {rest : List Value} (hd : decode c.code pc = .ok (.lrem, 1)) {x y : Int64} (hy : y ≠ 0) (hq : pc + 1 = q) (h : own_End p e below s Q K N (T.setTop (mkF m q Ls (.long (x - (x / y) * y) :: rest))) E) : own_End p e below s Q K N (T.setTop (mkF m pc Ls (.long y :: .long x :: rest))) E := by
  subst hq; exact own_back (fun _ k => XS.lrem X.here hx rfl hd rfl hy k) h
theorem own_ineg (X : Stand p l e R s' m args below meth c T locs cells slots) (hx : p.tables.exec = Jvm.exec) {pc q : Nat} {Ls : Array Slot} {rest : List Value} (hd : decode c.code pc = .ok (.ineg, 1)) {x : Int32} (hq : pc + 1 = q) (h : own_End p e below s Q K N (T.setTop (mkF m q Ls (.int (-x) :: rest))) E) : own_End p e below s Q K N (T.setTop (mkF m pc Ls (.int x :: rest))) E := by
  subst hq; exact own_back (fun _ k => XS.ineg X.here hx rfl hd rfl k) h
theorem own_lneg (X : Stand p l e R s' m args below meth c T locs cells slots) (hx : p.tables.exec = Jvm.exec) {pc q : Nat} {Ls : Array Slot} {rest : List Value} (hd : decode c.code pc = .ok (.lneg, 1)) {x : Int64} (hq : pc + 1 = q) (h : own_End p e below s Q K N (T.setTop (mkF m q Ls (.long (-x) :: rest))) E) : own_End p e below s Q K N (T.setTop (mkF m pc Ls (.long x :: rest))) E := by
  subst hq; exact own_back (fun _ k => XS.lneg X.here hx rfl hd rfl k) h
theorem own_i2l (X : Stand p l e R s' m args below meth c T locs cells slots) (hx : p.tables.exec = Jvm.exec) {pc q : Nat} {Ls : Array Slot} {rest : List Value} (hd : decode c.code pc = .ok (.i2l, 1)) {x : Int32} (hq : pc + 1 = q) (h : own_End p e below s Q K N (T.setTop (mkF m q Ls (.long (x.toInt64) :: rest))) E) : own_End p e below s Q K N (T.setTop (mkF m pc Ls (.int x :: rest))) E := by
  subst hq; exact own_back (fun _ k => XS.i2l X.here hx rfl hd rfl k) h
theorem own_l2i (X : Stand p l e R s' m args below meth c T locs cells slots) (hx : p.tables.exec = Jvm.exec) {pc q : Nat} {Ls : Array Slot} {rest : List Value} (hd : decode c.code pc = .ok (.l2i, 1)) {x : Int64} (hq : pc + 1 = q) (h : own_End p e below s Q K N (T.setTop (mkF m q Ls (.int (x.toInt32) :: rest))) E) : own_End p e below s Q K N (T.setTop (mkF m pc Ls (.long x :: rest))) E := by
  subst hq; exact own_back (fun _ k => XS.l2i X.here hx rfl hd rfl k) h
theorem own_i2c (X : Stand p l e R s' m args below meth c T locs cells slots) (hx : p.tables.exec = Jvm.exec) {pc q : Nat} {Ls : Array Slot} {rest : List Value} (hd : decode c.code pc = .ok (.i2c, 1)) {x : Int32} (hq : pc + 1 = q) (h : own_End p e below s Q K N (T.setTop (mkF m q Ls (.int (x.toUInt32.toUInt16.toUInt32.toInt32) :: rest))) E) : own_End p e below s Q K N (T.setTop (mkF m pc Ls (.int x :: rest))) E := by
  subst hq; exact own_back (fun _ k => XS.i2c X.here hx rfl hd rfl k) h
theorem own_i2b (X : Stand p l e R s' m args below meth c T locs cells slots) (hx : p.tables.exec = Jvm.exec) {pc q : Nat} {Ls : Array Slot} {rest : List Value} (hd : decode c.code pc = .ok (.i2b, 1)) {x : Int32} (hq : pc + 1 = q) (h : own_End p e below s Q K N (T.setTop (mkF m q Ls (.int (x.toInt8.toInt32) :: rest))) E) : own_End p e below s Q K N (T.setTop (mkF m pc Ls (.int x :: rest))) E := by
  subst hq; exact own_back (fun _ k => XS.i2b X.here hx rfl hd rfl k) h
theorem own_i2s (X : Stand p l e R s' m args below meth c T locs cells slots) (hx : p.tables.exec = Jvm.exec) {pc q : Nat} {Ls : Array Slot} {rest : List Value} (hd : decode c.code pc = .ok (.i2s, 1)) {x : Int32} (hq : pc + 1 = q) (h : own_End p e below s Q K N (T.setTop (mkF m q Ls (.int (x.toInt16.toInt32) :: rest))) E) : own_End p e below s Q K N (T.setTop (mkF m pc Ls (.int x :: rest))) E := by
  subst hq; exact own_back (fun _ k => XS.i2s X.here hx rfl hd rfl k) h
theorem own_lcmp (X : Stand p l e R s' m args below meth c T locs cells slots) (hx : p.tables.exec = Jvm.exec) {pc q : Nat} {Ls : Array Slot} {rest : List Value} (hd : decode c.code pc = .ok (.lcmp, 1)) {x y : Int64} (hq : pc + 1 = q) (h : own_End p e below s Q K N (T.setTop (mkF m q Ls (.int (lcmpW x y) :: rest))) E) : own_End p e below s Q K N (T.setTop (mkF m pc Ls (.long y :: .long x :: rest))) E := by
  subst hq; exact own_back (fun _ k => XS.lcmp X.here hx rfl hd rfl k) h
theorem own_dup (X : Stand p l e R s' m args below meth c T locs cells slots) (hx : p.tables.exec = Jvm.exec) {pc q : Nat} {Ls : Array Slot} {rest : List Value} (hd : decode c.code pc = .ok (.dup, 1)) {v : Value} (hv : v.category = 1) (hq : pc + 1 = q) (h : own_End p e below s Q K N (T.setTop (mkF m q Ls (v :: v :: rest))) E) : own_End p e below s Q K N (T.setTop (mkF m pc Ls (v :: rest))) E := by
  subst hq; exact own_back (fun _ k => XS.dup X.here hx rfl hd rfl hv k) h
theorem own_dupx1 (X : Stand p l e R s' m args below meth c T locs cells slots) (hx : p.tables.exec = Jvm.exec) {pc q : Nat} {Ls : Array Slot} {rest : List Value} (hd : decode c.code pc = .ok (.dup_x1, 1)) {v w : Value} (hv : v.category = 1) (hw : w.category = 1) (hq : pc + 1 = q) (h : own_End p e below s Q K N (T.setTop (mkF m q Ls (v :: w :: v :: rest))) E) : own_End p e below s Q K N (T.setTop (mkF m pc Ls (v :: w :: rest))) E := by
  subst hq; exact own_back (fun _ k => XS.dupX1 X.here hx rfl hd rfl hv hw k) h
theorem own_pop (X : Stand p l e R s' m args below meth c T locs cells slots) (hx : p.tables.exec = Jvm.exec) {pc q : Nat} {Ls : Array Slot} {rest : List Value} (hd : decode c.code pc = .ok (.pop, 1)) {v : Value} (hv : v.category = 1) (hq : pc + 1 = q) (h : own_End p e below s Q K N (T.setTop (mkF m q Ls (rest))) E) : own_End p e below s Q K N (T.setTop (mkF m pc Ls (v :: rest))) E := by
  subst hq; exact own_back (fun _ k => XS.pop X.here hx rfl hd rfl hv k) h
theorem own_anull (X : Stand p l e R s' m args below meth c T locs cells slots) (hx : p.tables.exec = Jvm.exec) {pc q : Nat} {Ls : Array Slot} {rest : List Value} (hd : decode c.code pc = .ok (.aconst_null, 1))  (hq : pc + 1 = q) (h : own_End p e below s Q K N (T.setTop (mkF m q Ls (.null :: rest))) E) : own_End p e below s Q K N (T.setTop (mkF m pc Ls (rest))) E := by
  subst hq; exact own_back (fun _ k => XS.aconstNull X.here hx rfl hd k) h
theorem own_iload (X : Stand p l e R s' m args below meth c T locs cells slots) (hx : p.tables.exec = Jvm.exec) {pc q : Nat} {Ls : Array Slot} {rest : List Value} {k : Nat} {v : Int32} (hd : decode c.code pc = .ok (.iload k, 2)) (hl : Ls[k]? = some (.val (.int v))) (hq : pc + 2 = q) (h : own_End p e below s Q K N (T.setTop (mkF m q Ls (.int v :: rest))) E) : own_End p e below s Q K N (T.setTop (mkF m pc Ls (rest))) E := by
  subst hq; exact own_back (fun _ k => XS.iload X.here hx rfl hd hl k) h
theorem own_iloadN (X : Stand p l e R s' m args below meth c T locs cells slots) (hx : p.tables.exec = Jvm.exec) {pc q : Nat} {Ls : Array Slot} {rest : List Value} {k : Fin 4} {v : Int32} (hd : decode c.code pc = .ok (.iload_n k, 1)) (hl : Ls[k.val]? = some (.val (.int v))) (hq : pc + 1 = q) (h : own_End p e below s Q K N (T.setTop (mkF m q Ls (.int v :: rest))) E) : own_End p e below s Q K N (T.setTop (mkF m pc Ls (rest))) E := by
  subst hq; exact own_back (fun _ k => XS.iloadN X.here hx rfl hd hl k) h
theorem own_istore (X : Stand p l e R s' m args below meth c T locs cells slots) (hx : p.tables.exec = Jvm.exec) {pc q : Nat} {Ls : Array Slot} {rest : List Value} {k : Nat} {v : Int32} {l' : Array Slot} (hd : decode c.code pc = .ok (.istore k, 2)) (hl : storeLocals Ls k (.int v) = some l') (hq : pc + 2 = q) (h : own_End p e below s Q K N (T.setTop (mkF m q l' (rest))) E) : own_End p e below s Q K N (T.setTop (mkF m pc Ls (.int v :: rest))) E := by
  subst hq; exact own_back (fun _ k => XS.istore X.here hx rfl hd rfl hl k) h
theorem own_istoreN (X : Stand p l e R s' m args below meth c T locs cells slots) (hx : p.tables.exec = Jvm.exec) {pc q : Nat} {Ls : Array Slot} {rest : List Value} {k : Fin 4} {v : Int32} {l' : Array Slot} (hd : decode c.code pc = .ok (.istore_n k, 1)) (hl : storeLocals Ls k.val (.int v) = some l') (hq : pc + 1 = q) (h : own_End p e below s Q K N (T.setTop (mkF m q l' (rest))) E) : own_End p e below s Q K N (T.setTop (mkF m pc Ls (.int v :: rest))) E := by
  subst hq; exact own_back (fun _ k => XS.istoreN X.here hx rfl hd rfl hl k) h
theorem own_lload (X : Stand p l e R s' m args below meth c T locs cells slots) (hx : p.tables.exec = Jvm.exec) {pc q : Nat} {Ls : Array Slot} {rest : List Value} {k : Nat} {v : Int64} (hd : decode c.code pc = .ok (.lload k, 2)) (hl : Ls[k]? = some (.val (.long v))) (hq : pc + 2 = q) (h : own_End p e below s Q K N (T.setTop (mkF m q Ls (.long v :: rest))) E) : own_End p e below s Q K N (T.setTop (mkF m pc Ls (rest))) E := by
  subst hq; exact own_back (fun _ k => XS.lload X.here hx rfl hd hl k) h
theorem own_lloadN (X : Stand p l e R s' m args below meth c T locs cells slots) (hx : p.tables.exec = Jvm.exec) {pc q : Nat} {Ls : Array Slot} {rest : List Value} {k : Fin 4} {v : Int64} (hd : decode c.code pc = .ok (.lload_n k, 1)) (hl : Ls[k.val]? = some (.val (.long v))) (hq : pc + 1 = q) (h : own_End p e below s Q K N (T.setTop (mkF m q Ls (.long v :: rest))) E) : own_End p e below s Q K N (T.setTop (mkF m pc Ls (rest))) E := by
  subst hq; exact own_back (fun _ k => XS.lloadN X.here hx rfl hd hl k) h
theorem own_lstore (X : Stand p l e R s' m args below meth c T locs cells slots) (hx : p.tables.exec = Jvm.exec) {pc q : Nat} {Ls : Array Slot} {rest : List Value} {k : Nat} {v : Int64} {l' : Array Slot} (hd : decode c.code pc = .ok (.lstore k, 2)) (hl : storeLocals Ls k (.long v) = some l') (hq : pc + 2 = q) (h : own_End p e below s Q K N (T.setTop (mkF m q l' (rest))) E) : own_End p e below s Q K N (T.setTop (mkF m pc Ls (.long v :: rest))) E := by
  subst hq; exact own_back (fun _ k => XS.lstore X.here hx rfl hd rfl hl k) h
theorem own_lstoreN (X : Stand p l e R s' m args below meth c T locs cells slots) (hx : p.tables.exec = Jvm.exec) {pc q : Nat} {Ls : Array Slot} {rest : List Value} {k : Fin 4} {v : Int64} {l' : Array Slot} (hd : decode c.code pc = .ok (.lstore_n k, 1)) (hl : storeLocals Ls k.val (.long v) = some l') (hq : pc + 1 = q) (h : own_End p e below s Q K N (T.setTop (mkF m q l' (rest))) E) : own_End p e below s Q K N (T.setTop (mkF m pc Ls (.long v :: rest))) E := by
  subst hq; exact own_back (fun _ k => XS.lstoreN X.here hx rfl hd rfl hl k) h
theorem own_aload (X : Stand p l e R s' m args below meth c T locs cells slots) (hx : p.tables.exec = Jvm.exec) {pc q : Nat} {Ls : Array Slot} {rest : List Value} {k : Nat} {v : Value} (hd : decode c.code pc = .ok (.aload k, 2)) (hl : Ls[k]? = some (.val v)) (hv : v.isRef = true) (hq : pc + 2 = q) (h : own_End p e below s Q K N (T.setTop (mkF m q Ls (v :: rest))) E) : own_End p e below s Q K N (T.setTop (mkF m pc Ls (rest))) E := by
  subst hq; exact own_back (fun _ k => XS.aload X.here hx rfl hd hl hv k) h
theorem own_aloadN (X : Stand p l e R s' m args below meth c T locs cells slots) (hx : p.tables.exec = Jvm.exec) {pc q : Nat} {Ls : Array Slot} {rest : List Value} {k : Fin 4} {v : Value} (hd : decode c.code pc = .ok (.aload_n k, 1)) (hl : Ls[k.val]? = some (.val v)) (hv : v.isRef = true) (hq : pc + 1 = q) (h : own_End p e below s Q K N (T.setTop (mkF m q Ls (v :: rest))) E) : own_End p e below s Q K N (T.setTop (mkF m pc Ls (rest))) E := by
  subst hq; exact own_back (fun _ k => XS.aloadN X.here hx rfl hd hl hv k) h
theorem own_astore (X : Stand p l e R s' m args below meth c T locs cells slots) (hx : p.tables.exec = Jvm.exec) {pc q : Nat} {Ls : Array Slot} {rest : List Value} {k : Nat} {v : Value} {l' : Array Slot} (hd : decode c.code pc = .ok (.astore k, 2)) (hv : v.isRef = true) (hl : storeLocals Ls k v = some l') (hq : pc + 2 = q) (h : own_End p e below s Q K N (T.setTop (mkF m q l' (rest))) E) : own_End p e below s Q K N (T.setTop (mkF m pc Ls (v :: rest))) E := by
  subst hq; exact own_back (fun _ k => XS.astore X.here hx rfl hd rfl hv hl k) h
theorem own_astoreN (X : Stand p l e R s' m args below meth c T locs cells slots) (hx : p.tables.exec = Jvm.exec) {pc q : Nat} {Ls : Array Slot} {rest : List Value} {k : Fin 4} {v : Value} {l' : Array Slot} (hd : decode c.code pc = .ok (.astore_n k, 1)) (hv : v.isRef = true) (hl : storeLocals Ls k.val v = some l') (hq : pc + 1 = q) (h : own_End p e below s Q K N (T.setTop (mkF m q l' (rest))) E) : own_End p e below s Q K N (T.setTop (mkF m pc Ls (v :: rest))) E := by
  subst hq; exact own_back (fun _ k => XS.astoreN X.here hx rfl hd rfl hv hl k) h
theorem own_iinc (X : Stand p l e R s' m args below meth c T locs cells slots) (hx : p.tables.exec = Jvm.exec) {pc q : Nat} {Ls : Array Slot} {rest : List Value} {k : Nat} {cst : Int} {x z : Int32} {l' : Array Slot} (hd : decode c.code pc = .ok (.iinc k cst, 3)) (hl : Ls[k]? = some (.val (.int x))) (hz : Int32.ofInt cst = z) (hl' : storeLocals Ls k (.int (x + z)) = some l') (hq : pc + 3 = q) (h : own_End p e below s Q K N (T.setTop (mkF m q l' (rest))) E) : own_End p e below s Q K N (T.setTop (mkF m pc Ls (rest))) E := by
  subst hq hz; exact own_back (fun _ k => XS.iinc X.here hx rfl hd hl hl' k) h
theorem own_iconst (X : Stand p l e R s' m args below meth c T locs cells slots) (hx : p.tables.exec = Jvm.exec) {pc q : Nat} {Ls : Array Slot} {rest : List Value} {i : Int} {z : Int32} (hd : decode c.code pc = .ok (.iconst i, 1)) (hz : Int32.ofInt i = z) (hq : pc + 1 = q) (h : own_End p e below s Q K N (T.setTop (mkF m q Ls (.int z :: rest))) E) : own_End p e below s Q K N (T.setTop (mkF m pc Ls (rest))) E := by
  subst hq hz; exact own_back (fun _ k => XS.iconst X.here hx rfl hd k) h
theorem own_bipush (X : Stand p l e R s' m args below meth c T locs cells slots) (hx : p.tables.exec = Jvm.exec) {pc q : Nat} {Ls : Array Slot} {rest : List Value} {i : Int} {z : Int32} (hd : decode c.code pc = .ok (.bipush i, 2)) (hz : (Int8.ofInt i).toInt32 = z) (hq : pc + 2 = q) (h : own_End p e below s Q K N (T.setTop (mkF m q Ls (.int z :: rest))) E) : own_End p e below s Q K N (T.setTop (mkF m pc Ls (rest))) E := by
  subst hq hz; exact own_back (fun _ k => XS.bipush X.here hx rfl hd k) h
theorem own_sipush (X : Stand p l e R s' m args below meth c T locs cells slots) (hx : p.tables.exec = Jvm.exec) {pc q : Nat} {Ls : Array Slot} {rest : List Value} {i : Int} {z : Int32} (hd : decode c.code pc = .ok (.sipush i, 3)) (hz : (Int16.ofInt i).toInt32 = z) (hq : pc + 3 = q) (h : own_End p e below s Q K N (T.setTop (mkF m q Ls (.int z :: rest))) E) : own_End p e below s Q K N (T.setTop (mkF m pc Ls (rest))) E := by
  subst hq hz; exact own_back (fun _ k => XS.sipush X.here hx rfl hd k) h
theorem own_lconst (X : Stand p l e R s' m args below meth c T locs cells slots) (hx : p.tables.exec = Jvm.exec) {pc q : Nat} {Ls : Array Slot} {rest : List Value} {i : Fin 2} {z : Int64} (hd : decode c.code pc = .ok (.lconst i, 1)) (hz : Int64.ofNat i = z) (hq : pc + 1 = q) (h : own_End p e below s Q K N (T.setTop (mkF m q Ls (.long z :: rest))) E) : own_End p e below s Q K N (T.setTop (mkF m pc Ls (rest))) E := by
  subst hq hz; exact own_back (fun _ k => XS.lconst X.here hx rfl hd k) h
theorem own_goto (X : Stand p l e R s' m args below meth c T locs cells slots) (hx : p.tables.exec = Jvm.exec) {pc q : Nat} {Ls : Array Slot} {rest : List Value} {o : Int} (hd : decode c.code pc = .ok (.goto o, 3)) (ho : 0 ≤ (pc : Int) + o) (hp : ((pc : Int) + o).toNat = q) (h : own_End p e below s Q K N (T.setTop (mkF m q Ls (rest))) E) : own_End p e below s Q K N (T.setTop (mkF m pc Ls (rest))) E := by
  exact own_back (fun _ k => XS.goto X.here hx rfl (pc0 := pc) (pc' := q) rfl hd ho hp k) h
theorem own_ifY (X : Stand p l e R s' m args below meth c T locs cells slots) (hx : p.tables.exec = Jvm.exec) {pc q : Nat} {Ls : Array Slot} {rest : List Value} {cd : ClassFile.Cond} {x : Int32} {o : Int} (hd : decode c.code pc = .ok (.ifCond cd o, 3)) (hc : if_icmp.holds cd x 0 = true) (ho : 0 ≤ (pc : Int) + o) (hp : ((pc : Int) + o).toNat = q) (h : own_End p e below s Q K N (T.setTop (mkF m q Ls (rest))) E) : own_End p e below s Q K N (T.setTop (mkF m pc Ls (.int x :: rest))) E := by
  exact own_back (fun _ k => XS.ifYes X.here hx rfl (pc0 := pc) (pc' := q) rfl hd rfl ((if0 _ _).trans hc) ho hp k) h
theorem own_ifN (X : Stand p l e R s' m args below meth c T locs cells slots) (hx : p.tables.exec = Jvm.exec) {pc q : Nat} {Ls : Array Slot} {rest : List Value} {cd : ClassFile.Cond} {x : Int32} {o : Int} (hd : decode c.code pc = .ok (.ifCond cd o, 3)) (hc : if_icmp.holds cd x 0 = false) (hq : pc + 3 = q) (h : own_End p e below s Q K N (T.setTop (mkF m q Ls (rest))) E) : own_End p e below s Q K N (T.setTop (mkF m pc Ls (.int x :: rest))) E := by
  subst hq; exact own_back (fun _ k => XS.ifNo X.here hx rfl hd rfl ((if0 _ _).trans hc) k) h
theorem own_icY (X : Stand p l e R s' m args below meth c T locs cells slots) (hx : p.tables.exec = Jvm.exec) {pc q : Nat} {Ls : Array Slot} {rest : List Value} {cd : ClassFile.Cond} {x y : Int32} {o : Int} (hd : decode c.code pc = .ok (.if_icmp cd o, 3)) (hc : if_icmp.holds cd x y = true) (ho : 0 ≤ (pc : Int) + o) (hp : ((pc : Int) + o).toNat = q) (h : own_End p e below s Q K N (T.setTop (mkF m q Ls (rest))) E) : own_End p e below s Q K N (T.setTop (mkF m pc Ls (.int y :: .int x :: rest))) E := by
  exact own_back (fun _ k => XS.icmpYes X.here hx rfl (pc0 := pc) (pc' := q) rfl hd rfl hc ho hp k) h
theorem own_icN (X : Stand p l e R s' m args below meth c T locs cells slots) (hx : p.tables.exec = Jvm.exec) {pc q : Nat} {Ls : Array Slot} {rest : List Value} {cd : ClassFile.Cond} {x y : Int32} {o : Int} (hd : decode c.code pc = .ok (.if_icmp cd o, 3)) (hc : if_icmp.holds cd x y = false) (hq : pc + 3 = q) (h : own_End p e below s Q K N (T.setTop (mkF m q Ls (rest))) E) : own_End p e below s Q K N (T.setTop (mkF m pc Ls (.int y :: .int x :: rest))) E := by
  subst hq; exact own_back (fun _ k => XS.icmpNo X.here hx rfl hd rfl hc k) h
theorem own_lcY (X : Stand p l e R s' m args below meth c T locs cells slots) (hx : p.tables.exec = Jvm.exec) {pc r q : Nat} {Ls : Array Slot} {rest : List Value} {cd : ClassFile.Cond} {x y : Int64} {o : Int} (hd : decode c.code pc = .ok (.lcmp, 1)) (hr : pc + 1 = r) (hd' : decode c.code r = .ok (.ifCond cd o, 3)) (hc : if_icmp.holds cd (lcmpW x y) 0 = true) (ho : 0 ≤ (r : Int) + o) (hp : ((r : Int) + o).toNat = q) (h : own_End p e below s Q K N (T.setTop (mkF m q Ls (rest))) E) : own_End p e below s Q K N (T.setTop (mkF m pc Ls (.long y :: .long x :: rest))) E := own_lcmp X hx hd hr (own_ifY X hx hd' hc ho hp h)
theorem own_lcN (X : Stand p l e R s' m args below meth c T locs cells slots) (hx : p.tables.exec = Jvm.exec) {pc r q : Nat} {Ls : Array Slot} {rest : List Value} {cd : ClassFile.Cond} {x y : Int64} {o : Int} (hd : decode c.code pc = .ok (.lcmp, 1)) (hr : pc + 1 = r) (hd' : decode c.code r = .ok (.ifCond cd o, 3)) (hc : if_icmp.holds cd (lcmpW x y) 0 = false) (hq : r + 3 = q) (h : own_End p e below s Q K N (T.setTop (mkF m q Ls (rest))) E) : own_End p e below s Q K N (T.setTop (mkF m pc Ls (.long y :: .long x :: rest))) E := own_lcmp X hx hd hr (own_ifN X hx hd' hc hq h)
theorem own_tlt {x y : Int64} (h : x < y) : if_icmp.holds .lt (lcmpW x y) 0 = true ∧ if_icmp.holds .ge (lcmpW x y) 0 = false ∧ if_icmp.holds .gt (lcmpW y x) 0 = true ∧ if_icmp.holds .le (lcmpW y x) 0 = false :=
  ⟨(tlt ((lw_lt x y).mpr h)).1, (tlt ((lw_lt x y).mpr h)).2.1, (tlt ((lw_gt y x).mpr h)).2.2.1, (tlt ((lw_gt y x).mpr h)).2.2.2⟩
theorem own_flt {x y : Int64} (h : ¬ x < y) : if_icmp.holds .lt (lcmpW x y) 0 = false ∧ if_icmp.holds .ge (lcmpW x y) 0 = true ∧ if_icmp.holds .gt (lcmpW y x) 0 = false ∧ if_icmp.holds .le (lcmpW y x) 0 = true :=
  ⟨(flt (fun q => h ((lw_lt x y).mp q))).1, (flt (fun q => h ((lw_lt x y).mp q))).2.1, (flt (fun q => h ((lw_gt y x).mp q))).2.2.1, (flt (fun q => h ((lw_gt y x).mp q))).2.2.2⟩
theorem own_teq {x y : Int64} (h : x = y) : if_icmp.holds .eq (lcmpW x y) 0 = true ∧ if_icmp.holds .ne (lcmpW x y) 0 = false := teq ((lw_eq x y).mpr h)
theorem own_feq {x y : Int64} (h : ¬ x = y) : if_icmp.holds .eq (lcmpW x y) 0 = false ∧ if_icmp.holds .ne (lcmpW x y) 0 = true := feq (fun q => h ((lw_eq x y).mp q))
theorem own_retV (X : Stand p l e R s m args below meth c T locs cells slots) (hx : p.tables.exec = Jvm.exec) {pc : Nat} {Ls : Array Slot}  (hret : meth.sig.returnType = none) (hlk : meth.locks = false) (hc : cells ≤ K) (hs : slots ≤ N) (hd : decode c.code pc = .ok (.return_, 1)) (hQ : Q none T.heap locs) : own_End p e below s Q K N (T.setTop (mkF m pc Ls [])) := by
  obtain ⟨fs, hr, hrun, hended, hW, hsame⟩ := X.leave (v := none) (fun _ => rfl) hlk
  refine ⟨_, _, ?_, hrun, hended, _, _, rfl, hQ, ⟨_, rfl⟩, hW, hsame.mono hc hs⟩
  exact X.returnOut hx hret hd hr
theorem own_retI (X : Stand p l e R s m args below meth c T locs cells slots) (hx : p.tables.exec = Jvm.exec) {pc : Nat} {Ls : Array Slot} {rest : List Value} {z : Int32} (hret : meth.sig.returnType = some .int) (hlk : meth.locks = false) (hc : cells ≤ K) (hs : slots ≤ N) (hd : decode c.code pc = .ok (.ireturn, 1)) (hQ : Q (some (.int z)) T.heap locs) : own_End p e below s Q K N (T.setTop (mkF m pc Ls (.int z :: rest))) := by
  obtain ⟨fs, hr, hrun, hended, hW, hsame⟩ := X.leave (v := (some (.int z))) (fun h => by rw [hret] at h; cases h) hlk
  refine ⟨_, _, ?_, hrun, hended, _, _, rfl, hQ, ⟨_, rfl⟩, hW, hsame.mono hc hs⟩
  have hm' : T.vm.method? m = some meth := X.method'
  have hn : narrow .int (.int z) = .int z := rfl
  show Steps p.tables e below (T.setTop { method := m, pc := pc, locals := Ls, stack := _ :: rest, locked := none }) _
  jvm_step X.here [X.here.top, hx, hd, hm', hret, hn]
  first | (intro acts; rw [hr _ acts rfl rfl rfl]) | rw [hr _ _ rfl rfl rfl]
  exact Steps.refl _
theorem own_retJ (X : Stand p l e R s m args below meth c T locs cells slots) (hx : p.tables.exec = Jvm.exec) {pc : Nat} {Ls : Array Slot} {rest : List Value} {z : Int64} (hret : meth.sig.returnType = some .long) (hlk : meth.locks = false) (hc : cells ≤ K) (hs : slots ≤ N) (hd : decode c.code pc = .ok (.lreturn, 1)) (hQ : Q (some (.long z)) T.heap locs) : own_End p e below s Q K N (T.setTop (mkF m pc Ls (.long z :: rest))) := by
  obtain ⟨fs, hr, hrun, hended, hW, hsame⟩ := X.leave (v := (some (.long z))) (fun h => by rw [hret] at h; cases h) hlk
  refine ⟨_, _, ?_, hrun, hended, _, _, rfl, hQ, ⟨_, rfl⟩, hW, hsame.mono hc hs⟩
  have hm' : T.vm.method? m = some meth := X.method'
  have hn : narrow .long (.long z) = .long z := rfl
  show Steps p.tables e below (T.setTop { method := m, pc := pc, locals := Ls, stack := _ :: rest, locked := none }) _
  jvm_step X.here [X.here.top, hx, hd, hm', hret, hn]
  first | (intro acts; rw [hr _ acts rfl rfl rfl]) | rw [hr _ _ rfl rfl rfl]
  exact Steps.refl _
theorem own_retN (X : Stand p l e R s m args below meth c T locs cells slots) (hx : p.tables.exec = Jvm.exec) {pc : Nat} {Ls : Array Slot} {rest : List Value} {z : Int32} {t : FieldType} (ht : t = .boolean ∨ t = .byte ∨ t = .char ∨ t = .short) (hret : meth.sig.returnType = some t) (hlk : meth.locks = false) (hc : cells ≤ K) (hs : slots ≤ N) (hd : decode c.code pc = .ok (.ireturn, 1)) (hQ : Q (some (.int (nar t z))) T.heap locs) : own_End p e below s Q K N (T.setTop (mkF m pc Ls (.int z :: rest))) := by
  obtain ⟨fs, hr, hrun, hended, hW, hsame⟩ := X.leave (v := (some (.int (nar t z)))) (fun h => by rw [hret] at h; cases h) hlk
  refine ⟨_, _, ?_, hrun, hended, _, _, rfl, hQ, ⟨_, rfl⟩, hW, hsame.mono hc hs⟩
  exact retN X hx hret ht hd hr
theorem own_b (P : Prop) [Decidable P] : nar .boolean (if P then (1 : Int32) else 0) = if P then (1 : Int32) else 0 := by
  split <;> rfl
end Own
theorem own_d1_0 : decode prog_31_method_1_code 0 = .ok (.aload_n 0, 1) := by decide +kernel
theorem own_d1_1 : decode prog_31_method_1_code 1 = .ok (.invokespecial 1, 3) := by decide +kernel
theorem own_d1_4 : decode prog_31_method_1_code 4 = .ok (.aload_n 0, 1) := by decide +kernel
theorem own_d1_5 : decode prog_31_method_1_code 5 = .ok (.sipush 128, 3) := by decide +kernel
theorem own_d1_8 : decode prog_31_method_1_code 8 = .ok (.putfield 9, 3) := by decide +kernel
theorem own_d1_11 : decode prog_31_method_1_code 11 = .ok (.aload_n 0, 1) := by decide +kernel
theorem own_d1_12 : decode prog_31_method_1_code 12 = .ok (.sipush 191, 3) := by decide +kernel
theorem own_d1_15 : decode prog_31_method_1_code 15 = .ok (.putfield 13, 3) := by decide +kernel
theorem own_d1_18 : decode prog_31_method_1_code 18 = .ok (.return_, 1) := by decide +kernel
def own_Q1 (Z : State) (o0 : Addr) (w_o0_lowest : Int32) (w_o0_highest : Int32) (w_o0_needed : Int32) (h0 : Heap) (n0 : Nat) (v : Option Value) (h : Heap) (L : List Loc) : Prop := v = none ∧ Fr n0 L ∧ Keep h0 h [o0] ∧ Exa Z h o0 "com/example/dawdling_reader/dawdlingreader/mqtt/Utf8" ∧ Fld Z h o0 "com/example/dawdling_reader/dawdlingreader/mqtt/Utf8" "lowest" "I" (.int (128 : Int32)) ∧ Fld Z h o0 "com/example/dawdling_reader/dawdlingreader/mqtt/Utf8" "highest" "I" (.int (191 : Int32)) ∧ Fld Z h o0 "com/example/dawdling_reader/dawdlingreader/mqtt/Utf8" "needed" "I" (.int w_o0_needed)
theorem own_pn_rm1 : plainName "com/example/dawdling_reader/dawdlingreader/mqtt/Utf8" = true := by first | (simp [plainName, overriddenIn]; done) | decide +kernel
theorem own_ef_rm1 (m : MethodId) (o0 : Addr) : entryFrame m #[(.ref o0)] 1 = mkF m 0 #[.val (.ref o0)] [] := by first | (simp [entryFrame, mkF, argsToLocals, Value.category]; done) | rfl
set_option maxRecDepth 65536 in
set_option maxHeartbeats 40000000 in
theorem own_rm1 (l : Launch) (Z : State) (a0 : Array Value) (hw : ∀ d ∈ tables_1, d.before a0 Z = true) (ws : List Jvm.Cond) (o0 : Addr) (w_o0_lowest : Int32) (w_o0_highest : Int32) (w_o0_needed : Int32) (h0 : Heap) (n0 : Nat) (Z0 : n0 ≤ h0.size) (E_o0 : Exa Z h0 o0 "com/example/dawdling_reader/dawdlingreader/mqtt/Utf8") (F_o0_lowest : Fld Z h0 o0 "com/example/dawdling_reader/dawdlingreader/mqtt/Utf8" "lowest" "I" (.int w_o0_lowest)) (F_o0_highest : Fld Z h0 o0 "com/example/dawdling_reader/dawdlingreader/mqtt/Utf8" "highest" "I" (.int w_o0_highest)) (F_o0_needed : Fld Z h0 o0 "com/example/dawdling_reader/dawdlingreader/mqtt/Utf8" "needed" "I" (.int w_o0_needed)) (g_o0 : n0 ≤ o0) :
    MetFree l (⟨"com/example/dawdling_reader/dawdlingreader/mqtt/Utf8", "<init>", "()V"⟩ : MethodName) (head1 (Jvm.Cond.code (⟨"com/example/dawdling_reader/dawdlingreader/mqtt/Utf8", "<init>", "()V"⟩ : MethodName) prog_31_method_1_code 1 none :: ws) ({ frames := 1, cells := 0, slots := 0, locals := 12 } : Room)) (fun a U => a = #[(.ref o0)] ∧ Z.Warmed39 U.vm ∧ U.heap = h0) (fun _ _ _ _ _ => True) (fun _ U o U' => ∃ v L, o = .returned v ∧ own_Q1 Z o0 w_o0_lowest w_o0_highest w_o0_needed h0 n0 v U'.heap L ∧ FrameEnd U o U' L ({ frames := 1, cells := 0, slots := 0, locals := 12 } : Room).cells ({ frames := 1, cells := 0, slots := 0, locals := 12 } : Room).slots) := by
  refine MetFree.of_bodySF (plainFor_of_name own_pn_rm1) hisR ?_
  intro p e s m args below meth c s₁ Bd hml0 hP hK
  obtain ⟨rfl, hZ, hh⟩ := hP
  have hx := Bd.exec
  have hby := Bd.bytes
  have hml : c.maxLocals = 1 := hml0
  have hown : s.vm.findClass "com/example/dawdling_reader/dawdlingreader/mqtt/Utf8" = some m.cls := findClass_of_methodNamed Bd.named
  have hnm := (name_of_methodNamed Bd.named Bd.method).1
  have X0 : Stand p l e ({ frames := 1, cells := 0, slots := 0, locals := 12 } : Room) s m #[(.ref o0)] below meth c s₁ [] 0 0 := Stand.of_body Bd
  have e0 : s₁.heap = h0 := by rw [← hh, Bd.state]; rfl
  have N0 := Fr.nil n0
  show own_End p e below s (own_Q1 Z o0 w_o0_lowest w_o0_highest w_o0_needed h0 n0) ({ frames := 1, cells := 0, slots := 0, locals := 12 } : Room).cells ({ frames := 1, cells := 0, slots := 0, locals := 12 } : Room).slots (s₁.setTop (entryFrame m #[(.ref o0)] 1))
  rw [own_ef_rm1]
  refine own_aloadN X0 hx (hb hby own_d1_0) rfl rfl (q := 1) rfl ?_
  obtain ⟨T1, X1, e1, st1⟩ := initO X0 hx hZ hown (hw _ (List.mem_of_getElem? (i := 6) rfl)) (hw _ (List.mem_of_getElem? (i := 7) rfl)) (hw _ (List.mem_of_getElem? (i := 8) rfl)) e0 (g := (mkF m 1 #[.val (.ref o0)] [(.ref o0)])) rfl (by rw [hml]; rfl) rfl (hb hby own_d1_1) (by decide) (W := 0) (by show 2 * 0 + _ ≤ _; exact Nat.le_of_eq rfl) (by decide)
  refine own_back st1 ?_
  show own_End p e below s _ _ _ (T1.setTop (mkF m 4 #[.val (.ref o0)] []))
  refine own_aloadN X1 hx (hb hby own_d1_4) rfl rfl (q := 5) rfl ?_
  refine own_sipush X1 hx (hb hby own_d1_5) (z := 128) rfl (q := 8) rfl ?_
  obtain ⟨T2, h2, X2, e2, W2, st2⟩ := putF X1 hx hZ hown (host := "") (Or.inl (hw _ (List.mem_of_getElem? (i := 9) rfl))) Via.refl e1 F_o0_lowest E_o0 (Or.inl (hw _ (List.mem_of_getElem? (i := 10) rfl))) (hw _ (List.mem_of_getElem? (i := 1) rfl)) (ty := .int) (by decide) rfl rfl (g := (mkF m 8 #[.val (.ref o0)] [(.int (128 : Int32)), (.ref o0)])) rfl rfl (hb hby own_d1_8)
  have F_o0_lowest_2 := F_o0_lowest.same W2
  have E_o0_3 := E_o0.wr W2
  have F_o0_highest_4 := F_o0_highest.other W2 (Or.inr (slot_ne (Or.inl (hw _ (List.mem_of_getElem? (i := 12) rfl))) (Or.inl (hw _ (List.mem_of_getElem? (i := 10) rfl))) (by decide) (t := .int) (t' := .int) (by decide) (by decide)))
  have F_o0_needed_5 := F_o0_needed.other W2 (Or.inr (slot_ne (Or.inl (hw _ (List.mem_of_getElem? (i := 29) rfl))) (Or.inl (hw _ (List.mem_of_getElem? (i := 10) rfl))) (by decide) (t := .int) (t' := .int) (by decide) (by decide)))
  have Kp6 : Keep h0 _ [o0] := (Keep.refl h0 [o0]).wr W2 (Or.inl (List.mem_of_getElem? (i := 0) rfl))
  have Z7 := Nat.le_trans Z0 (Keep.of_wr W2).1
  have N2 := Fr.snoc X2 N0 g_o0
  refine own_back st2 ?_
  show own_End p e below s _ _ _ (T2.setTop (mkF m 11 #[.val (.ref o0)] []))
  refine own_aloadN X2 hx (hb hby own_d1_11) rfl rfl (q := 12) rfl ?_
  refine own_sipush X2 hx (hb hby own_d1_12) (z := 191) rfl (q := 15) rfl ?_
  obtain ⟨T8, h8, X8, e8, W8, st8⟩ := putF X2 hx hZ hown (host := "") (Or.inl (hw _ (List.mem_of_getElem? (i := 11) rfl))) Via.refl e2 F_o0_highest_4 E_o0_3 (Or.inl (hw _ (List.mem_of_getElem? (i := 12) rfl))) (hw _ (List.mem_of_getElem? (i := 1) rfl)) (ty := .int) (by decide) rfl rfl (g := (mkF m 15 #[.val (.ref o0)] [(.int (191 : Int32)), (.ref o0)])) rfl rfl (hb hby own_d1_15)
  have F_o0_highest_8 := F_o0_highest_4.same W8
  have E_o0_9 := E_o0_3.wr W8
  have F_o0_lowest_10 := F_o0_lowest_2.other W8 (Or.inr (slot_ne (Or.inl (hw _ (List.mem_of_getElem? (i := 10) rfl))) (Or.inl (hw _ (List.mem_of_getElem? (i := 12) rfl))) (by decide) (t := .int) (t' := .int) (by decide) (by decide)))
  have F_o0_needed_11 := F_o0_needed_5.other W8 (Or.inr (slot_ne (Or.inl (hw _ (List.mem_of_getElem? (i := 29) rfl))) (Or.inl (hw _ (List.mem_of_getElem? (i := 12) rfl))) (by decide) (t := .int) (t' := .int) (by decide) (by decide)))
  have Kp12 : Keep h0 _ [o0] := Kp6.wr W8 (Or.inl (List.mem_of_getElem? (i := 0) rfl))
  have Z13 := Nat.le_trans Z7 (Keep.of_wr W8).1
  have N8 := Fr.snoc X8 N2 g_o0
  refine own_back st8 ?_
  show own_End p e below s _ _ _ (T8.setTop (mkF m 18 #[.val (.ref o0)] []))
  refine own_retV X8 hx Bd.returns Bd.notSynchronized (by decide) (by decide) (hb hby own_d1_18) ?_
  show own_Q1 Z o0 w_o0_lowest w_o0_highest w_o0_needed h0 n0 _ T8.heap _
  rw [e8]
  exact ⟨rfl, N8, Kp12, E_o0_9, F_o0_lowest_10, F_o0_highest_8, F_o0_needed_11⟩
theorem own_d5_0 : decode method_2_code 0 = .ok (.iload_n 0, 1) := by decide +kernel
theorem own_d5_1 : decode method_2_code 1 = .ok (.sipush 128, 3) := by decide +kernel
theorem own_d5_4 : decode method_2_code 4 = .ok (.if_icmp .ge 5, 3) := by decide +kernel
theorem own_d5_7 : decode method_2_code 7 = .ok (.iconst 1, 1) := by decide +kernel
theorem own_d5_8 : decode method_2_code 8 = .ok (.ireturn, 1) := by decide +kernel
theorem own_d5_9 : decode method_2_code 9 = .ok (.iload_n 0, 1) := by decide +kernel
theorem own_d5_10 : decode method_2_code 10 = .ok (.sipush 194, 3) := by decide +kernel
theorem own_d5_13 : decode method_2_code 13 = .ok (.if_icmp .ge 5, 3) := by decide +kernel
theorem own_d5_16 : decode method_2_code 16 = .ok (.iconst 0, 1) := by decide +kernel
theorem own_d5_17 : decode method_2_code 17 = .ok (.ireturn, 1) := by decide +kernel
theorem own_d5_18 : decode method_2_code 18 = .ok (.iload_n 0, 1) := by decide +kernel
theorem own_d5_19 : decode method_2_code 19 = .ok (.sipush 224, 3) := by decide +kernel
theorem own_d5_22 : decode method_2_code 22 = .ok (.if_icmp .ge 5, 3) := by decide +kernel
theorem own_d5_25 : decode method_2_code 25 = .ok (.iconst 2, 1) := by decide +kernel
theorem own_d5_26 : decode method_2_code 26 = .ok (.ireturn, 1) := by decide +kernel
theorem own_d5_27 : decode method_2_code 27 = .ok (.iload_n 0, 1) := by decide +kernel
theorem own_d5_28 : decode method_2_code 28 = .ok (.sipush 240, 3) := by decide +kernel
theorem own_d5_31 : decode method_2_code 31 = .ok (.if_icmp .ge 5, 3) := by decide +kernel
theorem own_d5_34 : decode method_2_code 34 = .ok (.iconst 3, 1) := by decide +kernel
theorem own_d5_35 : decode method_2_code 35 = .ok (.ireturn, 1) := by decide +kernel
theorem own_d5_36 : decode method_2_code 36 = .ok (.iload_n 0, 1) := by decide +kernel
theorem own_d5_37 : decode method_2_code 37 = .ok (.sipush 245, 3) := by decide +kernel
theorem own_d5_40 : decode method_2_code 40 = .ok (.if_icmp .ge 5, 3) := by decide +kernel
theorem own_d5_43 : decode method_2_code 43 = .ok (.iconst 4, 1) := by decide +kernel
theorem own_d5_44 : decode method_2_code 44 = .ok (.ireturn, 1) := by decide +kernel
theorem own_d5_45 : decode method_2_code 45 = .ok (.iconst 0, 1) := by decide +kernel
theorem own_d5_46 : decode method_2_code 46 = .ok (.ireturn, 1) := by decide +kernel
def own_F5 (p0 : Int32) : Int32 := (if p0 < (128 : Int32) then (1 : Int32) else (if p0 < (194 : Int32) then (0 : Int32) else (if p0 < (224 : Int32) then (2 : Int32) else (if p0 < (240 : Int32) then (3 : Int32) else (if p0 < (245 : Int32) then (4 : Int32) else (0 : Int32))))))
def own_Q5 (Z : State) (p0 : Int32) (h0 : Heap) (n0 : Nat) (v : Option Value) (h : Heap) (L : List Loc) : Prop := v = some (.int (own_F5 p0)) ∧ Fr n0 L ∧ h = h0
theorem own_pn_rm5 : plainName "com/example/dawdling_reader/dawdlingreader/mqtt/Utf8AcceptPinLaw" = true := by first | (simp [plainName, overriddenIn]; done) | decide +kernel
theorem own_ef_rm5 (m : MethodId) (p0 : Int32) : entryFrame m #[(.int p0)] 1 = mkF m 0 #[.val (.int p0)] [] := by first | (simp [entryFrame, mkF, argsToLocals, Value.category]; done) | rfl
set_option maxRecDepth 65536 in
set_option maxHeartbeats 40000000 in
theorem own_rm5 (l : Launch) (Z : State) (a0 : Array Value) (hw : ∀ d ∈ tables_1, d.before a0 Z = true) (ws : List Jvm.Cond) (p0 : Int32) (h0 : Heap) (n0 : Nat) (Z0 : n0 ≤ h0.size) :
    MetFree l (⟨"com/example/dawdling_reader/dawdlingreader/mqtt/Utf8AcceptPinLaw", "len", "(I)I"⟩ : MethodName) (head1 (Jvm.Cond.code (⟨"com/example/dawdling_reader/dawdlingreader/mqtt/Utf8AcceptPinLaw", "len", "(I)I"⟩ : MethodName) method_2_code 1 (some .int) :: ws) ({ frames := 0, cells := 0, slots := 0, locals := 0 } : Room)) (fun a U => a = #[(.int p0)] ∧ Z.Warmed39 U.vm ∧ U.heap = h0) (fun _ _ _ _ _ => True) (fun _ U o U' => ∃ v L, o = .returned v ∧ own_Q5 Z p0 h0 n0 v U'.heap L ∧ FrameEnd U o U' L ({ frames := 0, cells := 0, slots := 0, locals := 0 } : Room).cells ({ frames := 0, cells := 0, slots := 0, locals := 0 } : Room).slots) := by
  refine MetFree.of_bodySF (plainFor_of_name own_pn_rm5) hisR ?_
  intro p e s m args below meth c s₁ Bd hml0 hP hK
  obtain ⟨rfl, hZ, hh⟩ := hP
  have hx := Bd.exec
  have hby := Bd.bytes
  have hml : c.maxLocals = 1 := hml0
  have hown : s.vm.findClass "com/example/dawdling_reader/dawdlingreader/mqtt/Utf8AcceptPinLaw" = some m.cls := findClass_of_methodNamed Bd.named
  have hnm := (name_of_methodNamed Bd.named Bd.method).1
  have X0 : Stand p l e ({ frames := 0, cells := 0, slots := 0, locals := 0 } : Room) s m #[(.int p0)] below meth c s₁ [] 0 0 := Stand.of_body Bd
  have e0 : s₁.heap = h0 := by rw [← hh, Bd.state]; rfl
  have N0 := Fr.nil n0
  show own_End p e below s (own_Q5 Z p0 h0 n0) ({ frames := 0, cells := 0, slots := 0, locals := 0 } : Room).cells ({ frames := 0, cells := 0, slots := 0, locals := 0 } : Room).slots (s₁.setTop (entryFrame m #[(.int p0)] 1))
  rw [own_ef_rm5]
  refine own_iloadN X0 hx (hb hby own_d5_0) rfl (q := 1) rfl ?_
  refine own_sipush X0 hx (hb hby own_d5_1) (z := 128) rfl (q := 4) rfl ?_
  by_cases hc4_15 : p0 < (128 : Int32)
  · refine own_icN X0 hx (hb hby own_d5_4) (tlt hc4_15).2.1 (q := 7) rfl ?_
    refine own_iconst X0 hx (hb hby own_d5_7) (z := 1) rfl (q := 8) rfl ?_
    refine own_retI X0 hx Bd.returns Bd.notSynchronized (by decide) (by decide) (hb hby own_d5_8) ?_
    show own_Q5 Z p0 h0 n0 _ s₁.heap _
    exact ⟨(by simp only [own_F5, if_pos hc4_15]), N0, e0⟩
  · refine own_icY X0 hx (hb hby own_d5_4) (flt hc4_15).2.1 (q := 9) (by decide) (by decide) ?_
    refine own_iloadN X0 hx (hb hby own_d5_9) rfl (q := 10) rfl ?_
    refine own_sipush X0 hx (hb hby own_d5_10) (z := 194) rfl (q := 13) rfl ?_
    by_cases hc13_17 : p0 < (194 : Int32)
    · refine own_icN X0 hx (hb hby own_d5_13) (tlt hc13_17).2.1 (q := 16) rfl ?_
      refine own_iconst X0 hx (hb hby own_d5_16) (z := 0) rfl (q := 17) rfl ?_
      refine own_retI X0 hx Bd.returns Bd.notSynchronized (by decide) (by decide) (hb hby own_d5_17) ?_
      show own_Q5 Z p0 h0 n0 _ s₁.heap _
      exact ⟨(by simp only [own_F5, if_neg hc4_15, if_pos hc13_17]), N0, e0⟩
    · refine own_icY X0 hx (hb hby own_d5_13) (flt hc13_17).2.1 (q := 18) (by decide) (by decide) ?_
      refine own_iloadN X0 hx (hb hby own_d5_18) rfl (q := 19) rfl ?_
      refine own_sipush X0 hx (hb hby own_d5_19) (z := 224) rfl (q := 22) rfl ?_
      by_cases hc22_19 : p0 < (224 : Int32)
      · refine own_icN X0 hx (hb hby own_d5_22) (tlt hc22_19).2.1 (q := 25) rfl ?_
        refine own_iconst X0 hx (hb hby own_d5_25) (z := 2) rfl (q := 26) rfl ?_
        refine own_retI X0 hx Bd.returns Bd.notSynchronized (by decide) (by decide) (hb hby own_d5_26) ?_
        show own_Q5 Z p0 h0 n0 _ s₁.heap _
        exact ⟨(by simp only [own_F5, if_neg hc4_15, if_neg hc13_17, if_pos hc22_19]), N0, e0⟩
      · refine own_icY X0 hx (hb hby own_d5_22) (flt hc22_19).2.1 (q := 27) (by decide) (by decide) ?_
        refine own_iloadN X0 hx (hb hby own_d5_27) rfl (q := 28) rfl ?_
        refine own_sipush X0 hx (hb hby own_d5_28) (z := 240) rfl (q := 31) rfl ?_
        by_cases hc31_21 : p0 < (240 : Int32)
        · refine own_icN X0 hx (hb hby own_d5_31) (tlt hc31_21).2.1 (q := 34) rfl ?_
          refine own_iconst X0 hx (hb hby own_d5_34) (z := 3) rfl (q := 35) rfl ?_
          refine own_retI X0 hx Bd.returns Bd.notSynchronized (by decide) (by decide) (hb hby own_d5_35) ?_
          show own_Q5 Z p0 h0 n0 _ s₁.heap _
          exact ⟨(by simp only [own_F5, if_neg hc4_15, if_neg hc13_17, if_neg hc22_19, if_pos hc31_21]), N0, e0⟩
        · refine own_icY X0 hx (hb hby own_d5_31) (flt hc31_21).2.1 (q := 36) (by decide) (by decide) ?_
          refine own_iloadN X0 hx (hb hby own_d5_36) rfl (q := 37) rfl ?_
          refine own_sipush X0 hx (hb hby own_d5_37) (z := 245) rfl (q := 40) rfl ?_
          by_cases hc40_23 : p0 < (245 : Int32)
          · refine own_icN X0 hx (hb hby own_d5_40) (tlt hc40_23).2.1 (q := 43) rfl ?_
            refine own_iconst X0 hx (hb hby own_d5_43) (z := 4) rfl (q := 44) rfl ?_
            refine own_retI X0 hx Bd.returns Bd.notSynchronized (by decide) (by decide) (hb hby own_d5_44) ?_
            show own_Q5 Z p0 h0 n0 _ s₁.heap _
            exact ⟨(by simp only [own_F5, if_neg hc4_15, if_neg hc13_17, if_neg hc22_19, if_neg hc31_21, if_pos hc40_23]), N0, e0⟩
          · refine own_icY X0 hx (hb hby own_d5_40) (flt hc40_23).2.1 (q := 45) (by decide) (by decide) ?_
            refine own_iconst X0 hx (hb hby own_d5_45) (z := 0) rfl (q := 46) rfl ?_
            refine own_retI X0 hx Bd.returns Bd.notSynchronized (by decide) (by decide) (hb hby own_d5_46) ?_
            show own_Q5 Z p0 h0 n0 _ s₁.heap _
            exact ⟨(by simp only [own_F5, if_neg hc4_15, if_neg hc13_17, if_neg hc22_19, if_neg hc31_21, if_neg hc40_23]), N0, e0⟩
theorem own_d8_0 : decode method_3_code 0 = .ok (.iload_n 2, 1) := by decide +kernel
theorem own_d8_1 : decode method_3_code 1 = .ok (.sipush 128, 3) := by decide +kernel
theorem own_d8_4 : decode method_3_code 4 = .ok (.if_icmp .lt 10, 3) := by decide +kernel
theorem own_d8_14 : decode method_3_code 14 = .ok (.iconst 0, 1) := by decide +kernel
theorem own_d8_15 : decode method_3_code 15 = .ok (.ireturn, 1) := by decide +kernel
theorem own_d8_7 : decode method_3_code 7 = .ok (.iload_n 2, 1) := by decide +kernel
theorem own_d8_8 : decode method_3_code 8 = .ok (.sipush 191, 3) := by decide +kernel
theorem own_d8_11 : decode method_3_code 11 = .ok (.if_icmp .le 5, 3) := by decide +kernel
theorem own_d8_16 : decode method_3_code 16 = .ok (.iload_n 1, 1) := by decide +kernel
theorem own_d8_17 : decode method_3_code 17 = .ok (.iconst 1, 1) := by decide +kernel
theorem own_d8_18 : decode method_3_code 18 = .ok (.if_icmp .eq 5, 3) := by decide +kernel
theorem own_d8_23 : decode method_3_code 23 = .ok (.iload_n 0, 1) := by decide +kernel
theorem own_d8_24 : decode method_3_code 24 = .ok (.sipush 224, 3) := by decide +kernel
theorem own_d8_27 : decode method_3_code 27 = .ok (.if_icmp .ne 16, 3) := by decide +kernel
theorem own_d8_30 : decode method_3_code 30 = .ok (.iload_n 2, 1) := by decide +kernel
theorem own_d8_31 : decode method_3_code 31 = .ok (.sipush 160, 3) := by decide +kernel
theorem own_d8_34 : decode method_3_code 34 = .ok (.if_icmp .lt 7, 3) := by decide +kernel
theorem own_d8_41 : decode method_3_code 41 = .ok (.iconst 0, 1) := by decide +kernel
theorem own_d8_42 : decode method_3_code 42 = .ok (.ireturn, 1) := by decide +kernel
theorem own_d8_37 : decode method_3_code 37 = .ok (.iconst 1, 1) := by decide +kernel
theorem own_d8_38 : decode method_3_code 38 = .ok (.goto 4, 3) := by decide +kernel
theorem own_d8_43 : decode method_3_code 43 = .ok (.iload_n 0, 1) := by decide +kernel
theorem own_d8_44 : decode method_3_code 44 = .ok (.sipush 237, 3) := by decide +kernel
theorem own_d8_47 : decode method_3_code 47 = .ok (.if_icmp .ne 16, 3) := by decide +kernel
theorem own_d8_50 : decode method_3_code 50 = .ok (.iload_n 2, 1) := by decide +kernel
theorem own_d8_51 : decode method_3_code 51 = .ok (.sipush 159, 3) := by decide +kernel
theorem own_d8_54 : decode method_3_code 54 = .ok (.if_icmp .gt 7, 3) := by decide +kernel
theorem own_d8_61 : decode method_3_code 61 = .ok (.iconst 0, 1) := by decide +kernel
theorem own_d8_62 : decode method_3_code 62 = .ok (.ireturn, 1) := by decide +kernel
theorem own_d8_57 : decode method_3_code 57 = .ok (.iconst 1, 1) := by decide +kernel
theorem own_d8_58 : decode method_3_code 58 = .ok (.goto 4, 3) := by decide +kernel
theorem own_d8_63 : decode method_3_code 63 = .ok (.iload_n 0, 1) := by decide +kernel
theorem own_d8_64 : decode method_3_code 64 = .ok (.sipush 240, 3) := by decide +kernel
theorem own_d8_67 : decode method_3_code 67 = .ok (.if_icmp .ne 16, 3) := by decide +kernel
theorem own_d8_70 : decode method_3_code 70 = .ok (.iload_n 2, 1) := by decide +kernel
theorem own_d8_71 : decode method_3_code 71 = .ok (.sipush 144, 3) := by decide +kernel
theorem own_d8_74 : decode method_3_code 74 = .ok (.if_icmp .lt 7, 3) := by decide +kernel
theorem own_d8_81 : decode method_3_code 81 = .ok (.iconst 0, 1) := by decide +kernel
theorem own_d8_82 : decode method_3_code 82 = .ok (.ireturn, 1) := by decide +kernel
theorem own_d8_77 : decode method_3_code 77 = .ok (.iconst 1, 1) := by decide +kernel
theorem own_d8_78 : decode method_3_code 78 = .ok (.goto 4, 3) := by decide +kernel
theorem own_d8_83 : decode method_3_code 83 = .ok (.iload_n 0, 1) := by decide +kernel
theorem own_d8_84 : decode method_3_code 84 = .ok (.sipush 244, 3) := by decide +kernel
theorem own_d8_87 : decode method_3_code 87 = .ok (.if_icmp .ne 16, 3) := by decide +kernel
theorem own_d8_90 : decode method_3_code 90 = .ok (.iload_n 2, 1) := by decide +kernel
theorem own_d8_91 : decode method_3_code 91 = .ok (.sipush 143, 3) := by decide +kernel
theorem own_d8_94 : decode method_3_code 94 = .ok (.if_icmp .gt 7, 3) := by decide +kernel
theorem own_d8_101 : decode method_3_code 101 = .ok (.iconst 0, 1) := by decide +kernel
theorem own_d8_102 : decode method_3_code 102 = .ok (.ireturn, 1) := by decide +kernel
theorem own_d8_97 : decode method_3_code 97 = .ok (.iconst 1, 1) := by decide +kernel
theorem own_d8_98 : decode method_3_code 98 = .ok (.goto 4, 3) := by decide +kernel
theorem own_d8_103 : decode method_3_code 103 = .ok (.iconst 1, 1) := by decide +kernel
theorem own_d8_104 : decode method_3_code 104 = .ok (.ireturn, 1) := by decide +kernel
theorem own_d8_21 : decode method_3_code 21 = .ok (.iconst 1, 1) := by decide +kernel
theorem own_d8_22 : decode method_3_code 22 = .ok (.ireturn, 1) := by decide +kernel
def own_F8 (p0 : Int32) (p1 : Int32) (p2 : Int32) : Int32 := (if p2 < (128 : Int32) then (0 : Int32) else (if (191 : Int32) < p2 then (0 : Int32) else (if p1 = (1 : Int32) then (if p0 = (224 : Int32) then (if p2 < (160 : Int32) then (0 : Int32) else (1 : Int32)) else (if p0 = (237 : Int32) then (if (159 : Int32) < p2 then (0 : Int32) else (1 : Int32)) else (if p0 = (240 : Int32) then (if p2 < (144 : Int32) then (0 : Int32) else (1 : Int32)) else (if p0 = (244 : Int32) then (if (143 : Int32) < p2 then (0 : Int32) else (1 : Int32)) else (1 : Int32))))) else (1 : Int32))))
def own_Q8 (Z : State) (p0 : Int32) (p1 : Int32) (p2 : Int32) (h0 : Heap) (n0 : Nat) (v : Option Value) (h : Heap) (L : List Loc) : Prop := v = some (.int (own_F8 p0 p1 p2)) ∧ Fr n0 L ∧ h = h0
theorem own_pn_rm8 : plainName "com/example/dawdling_reader/dawdlingreader/mqtt/Utf8AcceptPinLaw" = true := by first | (simp [plainName, overriddenIn]; done) | decide +kernel
theorem own_ef_rm8 (m : MethodId) (p0 : Int32) (p1 : Int32) (p2 : Int32) : entryFrame m #[(.int p0), (.int p1), (.int p2)] 3 = mkF m 0 #[.val (.int p0), .val (.int p1), .val (.int p2)] [] := by first | (simp [entryFrame, mkF, argsToLocals, Value.category]; done) | rfl
set_option maxRecDepth 65536 in
set_option maxHeartbeats 40000000 in
theorem own_rm8 (l : Launch) (Z : State) (a0 : Array Value) (hw : ∀ d ∈ tables_1, d.before a0 Z = true) (ws : List Jvm.Cond) (p0 : Int32) (p1 : Int32) (p2 : Int32) (h0 : Heap) (n0 : Nat) (Z0 : n0 ≤ h0.size) :
    MetFree l (⟨"com/example/dawdling_reader/dawdlingreader/mqtt/Utf8AcceptPinLaw", "contOk", "(III)Z"⟩ : MethodName) (head1 (Jvm.Cond.code (⟨"com/example/dawdling_reader/dawdlingreader/mqtt/Utf8AcceptPinLaw", "contOk", "(III)Z"⟩ : MethodName) method_3_code 3 (some .boolean) :: ws) ({ frames := 0, cells := 0, slots := 0, locals := 0 } : Room)) (fun a U => a = #[(.int p0), (.int p1), (.int p2)] ∧ Z.Warmed39 U.vm ∧ U.heap = h0) (fun _ _ _ _ _ => True) (fun _ U o U' => ∃ v L, o = .returned v ∧ own_Q8 Z p0 p1 p2 h0 n0 v U'.heap L ∧ FrameEnd U o U' L ({ frames := 0, cells := 0, slots := 0, locals := 0 } : Room).cells ({ frames := 0, cells := 0, slots := 0, locals := 0 } : Room).slots) := by
  refine MetFree.of_bodySF (plainFor_of_name own_pn_rm8) hisR ?_
  intro p e s m args below meth c s₁ Bd hml0 hP hK
  obtain ⟨rfl, hZ, hh⟩ := hP
  have hx := Bd.exec
  have hby := Bd.bytes
  have hml : c.maxLocals = 3 := hml0
  have hown : s.vm.findClass "com/example/dawdling_reader/dawdlingreader/mqtt/Utf8AcceptPinLaw" = some m.cls := findClass_of_methodNamed Bd.named
  have hnm := (name_of_methodNamed Bd.named Bd.method).1
  have X0 : Stand p l e ({ frames := 0, cells := 0, slots := 0, locals := 0 } : Room) s m #[(.int p0), (.int p1), (.int p2)] below meth c s₁ [] 0 0 := Stand.of_body Bd
  have e0 : s₁.heap = h0 := by rw [← hh, Bd.state]; rfl
  have N0 := Fr.nil n0
  show own_End p e below s (own_Q8 Z p0 p1 p2 h0 n0) ({ frames := 0, cells := 0, slots := 0, locals := 0 } : Room).cells ({ frames := 0, cells := 0, slots := 0, locals := 0 } : Room).slots (s₁.setTop (entryFrame m #[(.int p0), (.int p1), (.int p2)] 3))
  rw [own_ef_rm8]
  refine own_iloadN X0 hx (hb hby own_d8_0) rfl (q := 1) rfl ?_
  refine own_sipush X0 hx (hb hby own_d8_1) (z := 128) rfl (q := 4) rfl ?_
  by_cases hc4_26 : p2 < (128 : Int32)
  · refine own_icY X0 hx (hb hby own_d8_4) (tlt hc4_26).1 (q := 14) (by decide) (by decide) ?_
    refine own_iconst X0 hx (hb hby own_d8_14) (z := 0) rfl (q := 15) rfl ?_
    refine own_retN X0 hx (t := .boolean) (by simp) Bd.returns Bd.notSynchronized (by decide) (by decide) (hb hby own_d8_15) ?_
    show own_Q8 Z p0 p1 p2 h0 n0 _ s₁.heap _
    exact ⟨(by rw [show own_F8 p0 p1 p2 = _ from (by simp only [own_F8, if_pos hc4_26] : _ = (0 : Int32))]; rfl), N0, e0⟩
  · refine own_icN X0 hx (hb hby own_d8_4) (flt hc4_26).1 (q := 7) rfl ?_
    refine own_iloadN X0 hx (hb hby own_d8_7) rfl (q := 8) rfl ?_
    refine own_sipush X0 hx (hb hby own_d8_8) (z := 191) rfl (q := 11) rfl ?_
    by_cases hc11_28 : (191 : Int32) < p2
    · refine own_icN X0 hx (hb hby own_d8_11) (tlt hc11_28).2.2.2 (q := 14) rfl ?_
      refine own_iconst X0 hx (hb hby own_d8_14) (z := 0) rfl (q := 15) rfl ?_
      refine own_retN X0 hx (t := .boolean) (by simp) Bd.returns Bd.notSynchronized (by decide) (by decide) (hb hby own_d8_15) ?_
      show own_Q8 Z p0 p1 p2 h0 n0 _ s₁.heap _
      exact ⟨(by rw [show own_F8 p0 p1 p2 = _ from (by simp only [own_F8, if_neg hc4_26, if_pos hc11_28] : _ = (0 : Int32))]; rfl), N0, e0⟩
    · refine own_icY X0 hx (hb hby own_d8_11) (flt hc11_28).2.2.2 (q := 16) (by decide) (by decide) ?_
      refine own_iloadN X0 hx (hb hby own_d8_16) rfl (q := 17) rfl ?_
      refine own_iconst X0 hx (hb hby own_d8_17) (z := 1) rfl (q := 18) rfl ?_
      by_cases hc18_30 : p1 = (1 : Int32)
      · refine own_icY X0 hx (hb hby own_d8_18) (teq hc18_30).1 (q := 23) (by decide) (by decide) ?_
        refine own_iloadN X0 hx (hb hby own_d8_23) rfl (q := 24) rfl ?_
        refine own_sipush X0 hx (hb hby own_d8_24) (z := 224) rfl (q := 27) rfl ?_
        by_cases hc27_31 : p0 = (224 : Int32)
        · refine own_icN X0 hx (hb hby own_d8_27) (teq hc27_31).2 (q := 30) rfl ?_
          refine own_iloadN X0 hx (hb hby own_d8_30) rfl (q := 31) rfl ?_
          refine own_sipush X0 hx (hb hby own_d8_31) (z := 160) rfl (q := 34) rfl ?_
          by_cases hc34_32 : p2 < (160 : Int32)
          · refine own_icY X0 hx (hb hby own_d8_34) (tlt hc34_32).1 (q := 41) (by decide) (by decide) ?_
            refine own_iconst X0 hx (hb hby own_d8_41) (z := 0) rfl (q := 42) rfl ?_
            refine own_retN X0 hx (t := .boolean) (by simp) Bd.returns Bd.notSynchronized (by decide) (by decide) (hb hby own_d8_42) ?_
            show own_Q8 Z p0 p1 p2 h0 n0 _ s₁.heap _
            exact ⟨(by rw [show own_F8 p0 p1 p2 = _ from (by simp only [own_F8, if_neg hc4_26, if_neg hc11_28, if_pos hc18_30, if_pos hc27_31, if_pos hc34_32] : _ = (0 : Int32))]; rfl), N0, e0⟩
          · refine own_icN X0 hx (hb hby own_d8_34) (flt hc34_32).1 (q := 37) rfl ?_
            refine own_iconst X0 hx (hb hby own_d8_37) (z := 1) rfl (q := 38) rfl ?_
            refine own_goto X0 hx (hb hby own_d8_38) (q := 42) (by decide) (by decide) ?_
            refine own_retN X0 hx (t := .boolean) (by simp) Bd.returns Bd.notSynchronized (by decide) (by decide) (hb hby own_d8_42) ?_
            show own_Q8 Z p0 p1 p2 h0 n0 _ s₁.heap _
            exact ⟨(by rw [show own_F8 p0 p1 p2 = _ from (by simp only [own_F8, if_neg hc4_26, if_neg hc11_28, if_pos hc18_30, if_pos hc27_31, if_neg hc34_32] : _ = (1 : Int32))]; rfl), N0, e0⟩
        · refine own_icY X0 hx (hb hby own_d8_27) (feq hc27_31).2 (q := 43) (by decide) (by decide) ?_
          refine own_iloadN X0 hx (hb hby own_d8_43) rfl (q := 44) rfl ?_
          refine own_sipush X0 hx (hb hby own_d8_44) (z := 237) rfl (q := 47) rfl ?_
          by_cases hc47_35 : p0 = (237 : Int32)
          · refine own_icN X0 hx (hb hby own_d8_47) (teq hc47_35).2 (q := 50) rfl ?_
            refine own_iloadN X0 hx (hb hby own_d8_50) rfl (q := 51) rfl ?_
            refine own_sipush X0 hx (hb hby own_d8_51) (z := 159) rfl (q := 54) rfl ?_
            by_cases hc54_36 : (159 : Int32) < p2
            · refine own_icY X0 hx (hb hby own_d8_54) (tlt hc54_36).2.2.1 (q := 61) (by decide) (by decide) ?_
              refine own_iconst X0 hx (hb hby own_d8_61) (z := 0) rfl (q := 62) rfl ?_
              refine own_retN X0 hx (t := .boolean) (by simp) Bd.returns Bd.notSynchronized (by decide) (by decide) (hb hby own_d8_62) ?_
              show own_Q8 Z p0 p1 p2 h0 n0 _ s₁.heap _
              exact ⟨(by rw [show own_F8 p0 p1 p2 = _ from (by simp only [own_F8, if_neg hc4_26, if_neg hc11_28, if_pos hc18_30, if_neg hc27_31, if_pos hc47_35, if_pos hc54_36] : _ = (0 : Int32))]; rfl), N0, e0⟩
            · refine own_icN X0 hx (hb hby own_d8_54) (flt hc54_36).2.2.1 (q := 57) rfl ?_
              refine own_iconst X0 hx (hb hby own_d8_57) (z := 1) rfl (q := 58) rfl ?_
              refine own_goto X0 hx (hb hby own_d8_58) (q := 62) (by decide) (by decide) ?_
              refine own_retN X0 hx (t := .boolean) (by simp) Bd.returns Bd.notSynchronized (by decide) (by decide) (hb hby own_d8_62) ?_
              show own_Q8 Z p0 p1 p2 h0 n0 _ s₁.heap _
              exact ⟨(by rw [show own_F8 p0 p1 p2 = _ from (by simp only [own_F8, if_neg hc4_26, if_neg hc11_28, if_pos hc18_30, if_neg hc27_31, if_pos hc47_35, if_neg hc54_36] : _ = (1 : Int32))]; rfl), N0, e0⟩
          · refine own_icY X0 hx (hb hby own_d8_47) (feq hc47_35).2 (q := 63) (by decide) (by decide) ?_
            refine own_iloadN X0 hx (hb hby own_d8_63) rfl (q := 64) rfl ?_
            refine own_sipush X0 hx (hb hby own_d8_64) (z := 240) rfl (q := 67) rfl ?_
            by_cases hc67_39 : p0 = (240 : Int32)
            · refine own_icN X0 hx (hb hby own_d8_67) (teq hc67_39).2 (q := 70) rfl ?_
              refine own_iloadN X0 hx (hb hby own_d8_70) rfl (q := 71) rfl ?_
              refine own_sipush X0 hx (hb hby own_d8_71) (z := 144) rfl (q := 74) rfl ?_
              by_cases hc74_40 : p2 < (144 : Int32)
              · refine own_icY X0 hx (hb hby own_d8_74) (tlt hc74_40).1 (q := 81) (by decide) (by decide) ?_
                refine own_iconst X0 hx (hb hby own_d8_81) (z := 0) rfl (q := 82) rfl ?_
                refine own_retN X0 hx (t := .boolean) (by simp) Bd.returns Bd.notSynchronized (by decide) (by decide) (hb hby own_d8_82) ?_
                show own_Q8 Z p0 p1 p2 h0 n0 _ s₁.heap _
                exact ⟨(by rw [show own_F8 p0 p1 p2 = _ from (by simp only [own_F8, if_neg hc4_26, if_neg hc11_28, if_pos hc18_30, if_neg hc27_31, if_neg hc47_35, if_pos hc67_39, if_pos hc74_40] : _ = (0 : Int32))]; rfl), N0, e0⟩
              · refine own_icN X0 hx (hb hby own_d8_74) (flt hc74_40).1 (q := 77) rfl ?_
                refine own_iconst X0 hx (hb hby own_d8_77) (z := 1) rfl (q := 78) rfl ?_
                refine own_goto X0 hx (hb hby own_d8_78) (q := 82) (by decide) (by decide) ?_
                refine own_retN X0 hx (t := .boolean) (by simp) Bd.returns Bd.notSynchronized (by decide) (by decide) (hb hby own_d8_82) ?_
                show own_Q8 Z p0 p1 p2 h0 n0 _ s₁.heap _
                exact ⟨(by rw [show own_F8 p0 p1 p2 = _ from (by simp only [own_F8, if_neg hc4_26, if_neg hc11_28, if_pos hc18_30, if_neg hc27_31, if_neg hc47_35, if_pos hc67_39, if_neg hc74_40] : _ = (1 : Int32))]; rfl), N0, e0⟩
            · refine own_icY X0 hx (hb hby own_d8_67) (feq hc67_39).2 (q := 83) (by decide) (by decide) ?_
              refine own_iloadN X0 hx (hb hby own_d8_83) rfl (q := 84) rfl ?_
              refine own_sipush X0 hx (hb hby own_d8_84) (z := 244) rfl (q := 87) rfl ?_
              by_cases hc87_43 : p0 = (244 : Int32)
              · refine own_icN X0 hx (hb hby own_d8_87) (teq hc87_43).2 (q := 90) rfl ?_
                refine own_iloadN X0 hx (hb hby own_d8_90) rfl (q := 91) rfl ?_
                refine own_sipush X0 hx (hb hby own_d8_91) (z := 143) rfl (q := 94) rfl ?_
                by_cases hc94_44 : (143 : Int32) < p2
                · refine own_icY X0 hx (hb hby own_d8_94) (tlt hc94_44).2.2.1 (q := 101) (by decide) (by decide) ?_
                  refine own_iconst X0 hx (hb hby own_d8_101) (z := 0) rfl (q := 102) rfl ?_
                  refine own_retN X0 hx (t := .boolean) (by simp) Bd.returns Bd.notSynchronized (by decide) (by decide) (hb hby own_d8_102) ?_
                  show own_Q8 Z p0 p1 p2 h0 n0 _ s₁.heap _
                  exact ⟨(by rw [show own_F8 p0 p1 p2 = _ from (by simp only [own_F8, if_neg hc4_26, if_neg hc11_28, if_pos hc18_30, if_neg hc27_31, if_neg hc47_35, if_neg hc67_39, if_pos hc87_43, if_pos hc94_44] : _ = (0 : Int32))]; rfl), N0, e0⟩
                · refine own_icN X0 hx (hb hby own_d8_94) (flt hc94_44).2.2.1 (q := 97) rfl ?_
                  refine own_iconst X0 hx (hb hby own_d8_97) (z := 1) rfl (q := 98) rfl ?_
                  refine own_goto X0 hx (hb hby own_d8_98) (q := 102) (by decide) (by decide) ?_
                  refine own_retN X0 hx (t := .boolean) (by simp) Bd.returns Bd.notSynchronized (by decide) (by decide) (hb hby own_d8_102) ?_
                  show own_Q8 Z p0 p1 p2 h0 n0 _ s₁.heap _
                  exact ⟨(by rw [show own_F8 p0 p1 p2 = _ from (by simp only [own_F8, if_neg hc4_26, if_neg hc11_28, if_pos hc18_30, if_neg hc27_31, if_neg hc47_35, if_neg hc67_39, if_pos hc87_43, if_neg hc94_44] : _ = (1 : Int32))]; rfl), N0, e0⟩
              · refine own_icY X0 hx (hb hby own_d8_87) (feq hc87_43).2 (q := 103) (by decide) (by decide) ?_
                refine own_iconst X0 hx (hb hby own_d8_103) (z := 1) rfl (q := 104) rfl ?_
                refine own_retN X0 hx (t := .boolean) (by simp) Bd.returns Bd.notSynchronized (by decide) (by decide) (hb hby own_d8_104) ?_
                show own_Q8 Z p0 p1 p2 h0 n0 _ s₁.heap _
                exact ⟨(by rw [show own_F8 p0 p1 p2 = _ from (by simp only [own_F8, if_neg hc4_26, if_neg hc11_28, if_pos hc18_30, if_neg hc27_31, if_neg hc47_35, if_neg hc67_39, if_neg hc87_43] : _ = (1 : Int32))]; rfl), N0, e0⟩
      · refine own_icN X0 hx (hb hby own_d8_18) (feq hc18_30).1 (q := 21) rfl ?_
        refine own_iconst X0 hx (hb hby own_d8_21) (z := 1) rfl (q := 22) rfl ?_
        refine own_retN X0 hx (t := .boolean) (by simp) Bd.returns Bd.notSynchronized (by decide) (by decide) (hb hby own_d8_22) ?_
        show own_Q8 Z p0 p1 p2 h0 n0 _ s₁.heap _
        exact ⟨(by rw [show own_F8 p0 p1 p2 = _ from (by simp only [own_F8, if_neg hc4_26, if_neg hc11_28, if_neg hc18_30] : _ = (1 : Int32))]; rfl), N0, e0⟩
theorem own_d4_0 : decode method_4_code 0 = .ok (.iload_n 0, 1) := by decide +kernel
theorem own_d4_1 : decode method_4_code 1 = .ok (.ifCond .ne 32, 3) := by decide +kernel
theorem own_d4_4 : decode method_4_code 4 = .ok (.iload_n 1, 1) := by decide +kernel
theorem own_d4_5 : decode method_4_code 5 = .ok (.invokestatic 7, 3) := by decide +kernel
theorem own_pd0 : parseMethodDescriptor "(I)I" = some ⟨[.int], some .int⟩ := by decide +kernel
theorem own_d4_8 : decode method_4_code 8 = .ok (.istore_n 2, 1) := by decide +kernel
theorem own_d4_9 : decode method_4_code 9 = .ok (.iload_n 2, 1) := by decide +kernel
theorem own_d4_10 : decode method_4_code 10 = .ok (.ifCond .ne 5, 3) := by decide +kernel
theorem own_d4_13 : decode method_4_code 13 = .ok (.iconst (-1), 1) := by decide +kernel
theorem own_d4_14 : decode method_4_code 14 = .ok (.ireturn, 1) := by decide +kernel
theorem own_d4_15 : decode method_4_code 15 = .ok (.iload_n 2, 1) := by decide +kernel
theorem own_d4_16 : decode method_4_code 16 = .ok (.iconst 1, 1) := by decide +kernel
theorem own_d4_17 : decode method_4_code 17 = .ok (.if_icmp .ne 5, 3) := by decide +kernel
theorem own_d4_20 : decode method_4_code 20 = .ok (.iconst 0, 1) := by decide +kernel
theorem own_d4_21 : decode method_4_code 21 = .ok (.ireturn, 1) := by decide +kernel
theorem own_d4_22 : decode method_4_code 22 = .ok (.iload_n 1, 1) := by decide +kernel
theorem own_d4_23 : decode method_4_code 23 = .ok (.sipush 256, 3) := by decide +kernel
theorem own_d4_26 : decode method_4_code 26 = .ok (.ior, 1) := by decide +kernel
theorem own_d4_27 : decode method_4_code 27 = .ok (.iload_n 2, 1) := by decide +kernel
theorem own_d4_28 : decode method_4_code 28 = .ok (.bipush 12, 2) := by decide +kernel
theorem own_d4_30 : decode method_4_code 30 = .ok (.ishl, 1) := by decide +kernel
theorem own_d4_31 : decode method_4_code 31 = .ok (.ior, 1) := by decide +kernel
theorem own_d4_32 : decode method_4_code 32 = .ok (.ireturn, 1) := by decide +kernel
theorem own_d4_33 : decode method_4_code 33 = .ok (.iload_n 0, 1) := by decide +kernel
theorem own_d4_34 : decode method_4_code 34 = .ok (.sipush 255, 3) := by decide +kernel
theorem own_d4_37 : decode method_4_code 37 = .ok (.iand, 1) := by decide +kernel
theorem own_d4_38 : decode method_4_code 38 = .ok (.istore_n 2, 1) := by decide +kernel
theorem own_d4_39 : decode method_4_code 39 = .ok (.iload_n 0, 1) := by decide +kernel
theorem own_d4_40 : decode method_4_code 40 = .ok (.bipush 8, 2) := by decide +kernel
theorem own_d4_42 : decode method_4_code 42 = .ok (.ishr, 1) := by decide +kernel
theorem own_d4_43 : decode method_4_code 43 = .ok (.bipush 15, 2) := by decide +kernel
theorem own_d4_45 : decode method_4_code 45 = .ok (.iand, 1) := by decide +kernel
theorem own_d4_46 : decode method_4_code 46 = .ok (.istore_n 3, 1) := by decide +kernel
theorem own_d4_47 : decode method_4_code 47 = .ok (.iload_n 0, 1) := by decide +kernel
theorem own_d4_48 : decode method_4_code 48 = .ok (.bipush 12, 2) := by decide +kernel
theorem own_d4_50 : decode method_4_code 50 = .ok (.ishr, 1) := by decide +kernel
theorem own_d4_51 : decode method_4_code 51 = .ok (.bipush 15, 2) := by decide +kernel
theorem own_d4_53 : decode method_4_code 53 = .ok (.iand, 1) := by decide +kernel
theorem own_d4_54 : decode method_4_code 54 = .ok (.istore 4, 2) := by decide +kernel
theorem own_d4_56 : decode method_4_code 56 = .ok (.iload_n 2, 1) := by decide +kernel
theorem own_d4_57 : decode method_4_code 57 = .ok (.iload_n 3, 1) := by decide +kernel
theorem own_d4_58 : decode method_4_code 58 = .ok (.iload_n 1, 1) := by decide +kernel
theorem own_d4_59 : decode method_4_code 59 = .ok (.invokestatic 13, 3) := by decide +kernel
theorem own_pd1 : parseMethodDescriptor "(III)Z" = some ⟨[.int, .int, .int], some .boolean⟩ := by decide +kernel
theorem own_d4_62 : decode method_4_code 62 = .ok (.ifCond .ne 5, 3) := by decide +kernel
theorem own_d4_65 : decode method_4_code 65 = .ok (.iconst (-1), 1) := by decide +kernel
theorem own_d4_66 : decode method_4_code 66 = .ok (.ireturn, 1) := by decide +kernel
theorem own_d4_67 : decode method_4_code 67 = .ok (.iload_n 3, 1) := by decide +kernel
theorem own_d4_68 : decode method_4_code 68 = .ok (.iconst 1, 1) := by decide +kernel
theorem own_d4_69 : decode method_4_code 69 = .ok (.iadd, 1) := by decide +kernel
theorem own_d4_70 : decode method_4_code 70 = .ok (.iload 4, 2) := by decide +kernel
theorem own_d4_72 : decode method_4_code 72 = .ok (.if_icmp .ne 5, 3) := by decide +kernel
theorem own_d4_75 : decode method_4_code 75 = .ok (.iconst 0, 1) := by decide +kernel
theorem own_d4_76 : decode method_4_code 76 = .ok (.ireturn, 1) := by decide +kernel
theorem own_d4_77 : decode method_4_code 77 = .ok (.iload_n 2, 1) := by decide +kernel
theorem own_d4_78 : decode method_4_code 78 = .ok (.iload_n 3, 1) := by decide +kernel
theorem own_d4_79 : decode method_4_code 79 = .ok (.iconst 1, 1) := by decide +kernel
theorem own_d4_80 : decode method_4_code 80 = .ok (.iadd, 1) := by decide +kernel
theorem own_d4_81 : decode method_4_code 81 = .ok (.bipush 8, 2) := by decide +kernel
theorem own_d4_83 : decode method_4_code 83 = .ok (.ishl, 1) := by decide +kernel
theorem own_d4_84 : decode method_4_code 84 = .ok (.ior, 1) := by decide +kernel
theorem own_d4_85 : decode method_4_code 85 = .ok (.iload 4, 2) := by decide +kernel
theorem own_d4_87 : decode method_4_code 87 = .ok (.bipush 12, 2) := by decide +kernel
theorem own_d4_89 : decode method_4_code 89 = .ok (.ishl, 1) := by decide +kernel
theorem own_d4_90 : decode method_4_code 90 = .ok (.ior, 1) := by decide +kernel
theorem own_d4_91 : decode method_4_code 91 = .ok (.ireturn, 1) := by decide +kernel
def own_F4 (p0 : Int32) (p1 : Int32) : Int32 := (if p0 = (0 : Int32) then (if (own_F5 p1) = (0 : Int32) then (-1 : Int32) else (if (own_F5 p1) = (1 : Int32) then (0 : Int32) else ((p1 ||| (256 : Int32)) ||| ((own_F5 p1) <<< ((12 : Int32) &&& 31))))) else (if (own_F8 (p0 &&& (255 : Int32)) ((p0 >>> ((8 : Int32) &&& 31)) &&& (15 : Int32)) p1) = (0 : Int32) then (-1 : Int32) else (if (((p0 >>> ((8 : Int32) &&& 31)) &&& (15 : Int32)) + (1 : Int32)) = ((p0 >>> ((12 : Int32) &&& 31)) &&& (15 : Int32)) then (0 : Int32) else (((p0 &&& (255 : Int32)) ||| ((((p0 >>> ((8 : Int32) &&& 31)) &&& (15 : Int32)) + (1 : Int32)) <<< ((8 : Int32) &&& 31))) ||| (((p0 >>> ((12 : Int32) &&& 31)) &&& (15 : Int32)) <<< ((12 : Int32) &&& 31))))))
def own_Q4 (Z : State) (p0 : Int32) (p1 : Int32) (h0 : Heap) (n0 : Nat) (v : Option Value) (h : Heap) (L : List Loc) : Prop := v = some (.int (own_F4 p0 p1)) ∧ Fr n0 L ∧ h = h0
theorem own_pn_rm4 : plainName "com/example/dawdling_reader/dawdlingreader/mqtt/Utf8AcceptPinLaw" = true := by first | (simp [plainName, overriddenIn]; done) | decide +kernel
theorem own_ef_rm4 (m : MethodId) (p0 : Int32) (p1 : Int32) : entryFrame m #[(.int p0), (.int p1)] 5 = mkF m 0 #[.val (.int p0), .val (.int p1), .unset, .unset, .unset] [] := by first | (simp [entryFrame, mkF, argsToLocals, Value.category]; done) | rfl
set_option maxRecDepth 65536 in
set_option maxHeartbeats 40000000 in
theorem own_rm4 (l : Launch) (Z : State) (a0 : Array Value) (hw : ∀ d ∈ tables_1, d.before a0 Z = true) (ws : List Jvm.Cond) (p0 : Int32) (p1 : Int32) (h0 : Heap) (n0 : Nat) (Z0 : n0 ≤ h0.size) :
    MetFree l (⟨"com/example/dawdling_reader/dawdlingreader/mqtt/Utf8AcceptPinLaw", "next", "(II)I"⟩ : MethodName) (head1 (Jvm.Cond.code (⟨"com/example/dawdling_reader/dawdlingreader/mqtt/Utf8AcceptPinLaw", "next", "(II)I"⟩ : MethodName) method_4_code 5 (some .int) :: ws) ({ frames := 1, cells := 0, slots := 0, locals := 14 } : Room)) (fun a U => a = #[(.int p0), (.int p1)] ∧ Z.Warmed39 U.vm ∧ U.heap = h0) (fun _ _ _ _ _ => True) (fun _ U o U' => ∃ v L, o = .returned v ∧ own_Q4 Z p0 p1 h0 n0 v U'.heap L ∧ FrameEnd U o U' L ({ frames := 1, cells := 0, slots := 0, locals := 14 } : Room).cells ({ frames := 1, cells := 0, slots := 0, locals := 14 } : Room).slots) := by
  refine MetFree.of_bodySF (plainFor_of_name own_pn_rm4) hisR ?_
  intro p e s m args below meth c s₁ Bd hml0 hP hK
  obtain ⟨rfl, hZ, hh⟩ := hP
  have hx := Bd.exec
  have hby := Bd.bytes
  have hml : c.maxLocals = 5 := hml0
  have hown : s.vm.findClass "com/example/dawdling_reader/dawdlingreader/mqtt/Utf8AcceptPinLaw" = some m.cls := findClass_of_methodNamed Bd.named
  have hnm := (name_of_methodNamed Bd.named Bd.method).1
  have X0 : Stand p l e ({ frames := 1, cells := 0, slots := 0, locals := 14 } : Room) s m #[(.int p0), (.int p1)] below meth c s₁ [] 0 0 := Stand.of_body Bd
  have e0 : s₁.heap = h0 := by rw [← hh, Bd.state]; rfl
  have N0 := Fr.nil n0
  show own_End p e below s (own_Q4 Z p0 p1 h0 n0) ({ frames := 1, cells := 0, slots := 0, locals := 14 } : Room).cells ({ frames := 1, cells := 0, slots := 0, locals := 14 } : Room).slots (s₁.setTop (entryFrame m #[(.int p0), (.int p1)] 5))
  rw [own_ef_rm4]
  refine own_iloadN X0 hx (hb hby own_d4_0) rfl (q := 1) rfl ?_
  by_cases hc1_49 : p0 = (0 : Int32)
  · refine own_ifN X0 hx (hb hby own_d4_1) (teq hc1_49).2 (q := 4) rfl ?_
    refine own_iloadN X0 hx (hb hby own_d4_4) rfl (q := 5) rfl ?_
    obtain ⟨_, _, ⟨T50, L50, k50, n50⟩, -, X50, ⟨Lc50, hQ50, l50, y50, z50⟩, st50⟩ := Jvm.LawKit.callS X0 hx (y := (⟨"com/example/dawdling_reader/dawdlingreader/mqtt/Utf8AcceptPinLaw", "len", "(I)I"⟩ : MethodName)) hown (mvT hZ (hw _ (List.mem_of_getElem? (i := 20) rfl))) (mvT hZ (hw _ (List.mem_of_getElem? (i := 21) rfl))) (mvT hZ (hw _ (List.mem_of_getElem? (i := 15) rfl))) (mvT hZ (hw _ (List.mem_of_getElem? (i := 22) rfl))) (by decide) (backOf (W := 0) (own_rm5 l Z a0 hw [] p1 h0 n0 Z0 ) hZ (hw _ (List.mem_of_getElem? (i := 22) rfl)) (hw _ (List.mem_of_getElem? (i := 15) rfl)) (by decide) (by decide)) (g := (mkF m 5 #[.val (.int p0), .val (.int p1), .unset, .unset, .unset] [(.int p1)])) rfl (by rw [hml]; rfl) (argsL := [(.int p1)]) (rest := []) (lenOf own_pd0 rfl) rfl (by show 2 * 0 + _ ≤ _; exact Nat.le_of_eq rfl) (hb hby own_d4_5) (fun _ _ => ⟨rfl, e0, (by decide : 0 + 0 ≤ _), (by decide : 0 + 0 ≤ _)⟩)
    dsimp only [Pt.U, Pt.locs, Pt.cells, Pt.slots] at X50 l50 y50 z50 st50 hQ50
    subst l50 y50 z50
    obtain ⟨rfl, N50q, e50⟩ := hQ50
    have N50 := Fr.app N0 N50q
    refine own_back st50 ?_
    show own_End p e below s _ _ _ (T50.setTop (mkF m 8 #[.val (.int p0), .val (.int p1), .unset, .unset, .unset] [(.int (own_F5 p1))]))
    refine own_istoreN X50 hx (hb hby own_d4_8) (l' := #[.val (.int p0), .val (.int p1), .val (.int (own_F5 p1)), .unset, .unset]) rfl (q := 9) rfl ?_
    refine own_iloadN X50 hx (hb hby own_d4_9) rfl (q := 10) rfl ?_
    by_cases hc10_51 : (own_F5 p1) = (0 : Int32)
    · refine own_ifN X50 hx (hb hby own_d4_10) (teq hc10_51).2 (q := 13) rfl ?_
      refine own_iconst X50 hx (hb hby own_d4_13) (z := -1) rfl (q := 14) rfl ?_
      refine own_retI X50 hx Bd.returns Bd.notSynchronized (by decide) (by decide) (hb hby own_d4_14) ?_
      show own_Q4 Z p0 p1 h0 n0 _ T50.heap _
      exact ⟨(by simp only [own_F4, if_pos hc1_49, if_pos hc10_51]), N50, e50⟩
    · refine own_ifY X50 hx (hb hby own_d4_10) (feq hc10_51).2 (q := 15) (by decide) (by decide) ?_
      refine own_iloadN X50 hx (hb hby own_d4_15) rfl (q := 16) rfl ?_
      refine own_iconst X50 hx (hb hby own_d4_16) (z := 1) rfl (q := 17) rfl ?_
      by_cases hc17_53 : (own_F5 p1) = (1 : Int32)
      · refine own_icN X50 hx (hb hby own_d4_17) (teq hc17_53).2 (q := 20) rfl ?_
        refine own_iconst X50 hx (hb hby own_d4_20) (z := 0) rfl (q := 21) rfl ?_
        refine own_retI X50 hx Bd.returns Bd.notSynchronized (by decide) (by decide) (hb hby own_d4_21) ?_
        show own_Q4 Z p0 p1 h0 n0 _ T50.heap _
        exact ⟨(by simp only [own_F4, if_pos hc1_49, if_neg hc10_51, if_pos hc17_53]), N50, e50⟩
      · refine own_icY X50 hx (hb hby own_d4_17) (feq hc17_53).2 (q := 22) (by decide) (by decide) ?_
        refine own_iloadN X50 hx (hb hby own_d4_22) rfl (q := 23) rfl ?_
        refine own_sipush X50 hx (hb hby own_d4_23) (z := 256) rfl (q := 26) rfl ?_
        refine own_ior X50 hx (hb hby own_d4_26) (q := 27) rfl ?_
        refine own_iloadN X50 hx (hb hby own_d4_27) rfl (q := 28) rfl ?_
        refine own_bipush X50 hx (hb hby own_d4_28) (z := 12) rfl (q := 30) rfl ?_
        refine own_ishl X50 hx (hb hby own_d4_30) (q := 31) rfl ?_
        refine own_ior X50 hx (hb hby own_d4_31) (q := 32) rfl ?_
        refine own_retI X50 hx Bd.returns Bd.notSynchronized (by decide) (by decide) (hb hby own_d4_32) ?_
        show own_Q4 Z p0 p1 h0 n0 _ T50.heap _
        exact ⟨(by simp only [own_F4, if_pos hc1_49, if_neg hc10_51, if_neg hc17_53]), N50, e50⟩
  · refine own_ifY X0 hx (hb hby own_d4_1) (feq hc1_49).2 (q := 33) (by decide) (by decide) ?_
    refine own_iloadN X0 hx (hb hby own_d4_33) rfl (q := 34) rfl ?_
    refine own_sipush X0 hx (hb hby own_d4_34) (z := 255) rfl (q := 37) rfl ?_
    refine own_iand X0 hx (hb hby own_d4_37) (q := 38) rfl ?_
    refine own_istoreN X0 hx (hb hby own_d4_38) (l' := #[.val (.int p0), .val (.int p1), .val (.int (p0 &&& (255 : Int32))), .unset, .unset]) rfl (q := 39) rfl ?_
    refine own_iloadN X0 hx (hb hby own_d4_39) rfl (q := 40) rfl ?_
    refine own_bipush X0 hx (hb hby own_d4_40) (z := 8) rfl (q := 42) rfl ?_
    refine own_ishr X0 hx (hb hby own_d4_42) (q := 43) rfl ?_
    refine own_bipush X0 hx (hb hby own_d4_43) (z := 15) rfl (q := 45) rfl ?_
    refine own_iand X0 hx (hb hby own_d4_45) (q := 46) rfl ?_
    refine own_istoreN X0 hx (hb hby own_d4_46) (l' := #[.val (.int p0), .val (.int p1), .val (.int (p0 &&& (255 : Int32))), .val (.int ((p0 >>> ((8 : Int32) &&& 31)) &&& (15 : Int32))), .unset]) rfl (q := 47) rfl ?_
    refine own_iloadN X0 hx (hb hby own_d4_47) rfl (q := 48) rfl ?_
    refine own_bipush X0 hx (hb hby own_d4_48) (z := 12) rfl (q := 50) rfl ?_
    refine own_ishr X0 hx (hb hby own_d4_50) (q := 51) rfl ?_
    refine own_bipush X0 hx (hb hby own_d4_51) (z := 15) rfl (q := 53) rfl ?_
    refine own_iand X0 hx (hb hby own_d4_53) (q := 54) rfl ?_
    refine own_istore X0 hx (hb hby own_d4_54) (l' := #[.val (.int p0), .val (.int p1), .val (.int (p0 &&& (255 : Int32))), .val (.int ((p0 >>> ((8 : Int32) &&& 31)) &&& (15 : Int32))), .val (.int ((p0 >>> ((12 : Int32) &&& 31)) &&& (15 : Int32)))]) rfl (q := 56) rfl ?_
    refine own_iloadN X0 hx (hb hby own_d4_56) rfl (q := 57) rfl ?_
    refine own_iloadN X0 hx (hb hby own_d4_57) rfl (q := 58) rfl ?_
    refine own_iloadN X0 hx (hb hby own_d4_58) rfl (q := 59) rfl ?_
    obtain ⟨_, _, ⟨T56, L56, k56, n56⟩, -, X56, ⟨Lc56, hQ56, l56, y56, z56⟩, st56⟩ := Jvm.LawKit.callS X0 hx (y := (⟨"com/example/dawdling_reader/dawdlingreader/mqtt/Utf8AcceptPinLaw", "contOk", "(III)Z"⟩ : MethodName)) hown (mvT hZ (hw _ (List.mem_of_getElem? (i := 35) rfl))) (mvT hZ (hw _ (List.mem_of_getElem? (i := 36) rfl))) (mvT hZ (hw _ (List.mem_of_getElem? (i := 15) rfl))) (mvT hZ (hw _ (List.mem_of_getElem? (i := 37) rfl))) (by decide) (backOf (W := 0) (own_rm8 l Z a0 hw [] (p0 &&& (255 : Int32)) ((p0 >>> ((8 : Int32) &&& 31)) &&& (15 : Int32)) p1 h0 n0 Z0 ) hZ (hw _ (List.mem_of_getElem? (i := 37) rfl)) (hw _ (List.mem_of_getElem? (i := 15) rfl)) (by decide) (by decide)) (g := (mkF m 59 #[.val (.int p0), .val (.int p1), .val (.int (p0 &&& (255 : Int32))), .val (.int ((p0 >>> ((8 : Int32) &&& 31)) &&& (15 : Int32))), .val (.int ((p0 >>> ((12 : Int32) &&& 31)) &&& (15 : Int32)))] [(.int p1), (.int ((p0 >>> ((8 : Int32) &&& 31)) &&& (15 : Int32))), (.int (p0 &&& (255 : Int32)))])) rfl (by rw [hml]; rfl) (argsL := [(.int (p0 &&& (255 : Int32))), (.int ((p0 >>> ((8 : Int32) &&& 31)) &&& (15 : Int32))), (.int p1)]) (rest := []) (lenOf own_pd1 rfl) rfl (by show 2 * 0 + _ ≤ _; exact Nat.le_of_eq rfl) (hb hby own_d4_59) (fun _ _ => ⟨rfl, e0, (by decide : 0 + 0 ≤ _), (by decide : 0 + 0 ≤ _)⟩)
    dsimp only [Pt.U, Pt.locs, Pt.cells, Pt.slots] at X56 l56 y56 z56 st56 hQ56
    subst l56 y56 z56
    obtain ⟨rfl, N56q, e56⟩ := hQ56
    have N56 := Fr.app N0 N56q
    refine own_back st56 ?_
    show own_End p e below s _ _ _ (T56.setTop (mkF m 62 #[.val (.int p0), .val (.int p1), .val (.int (p0 &&& (255 : Int32))), .val (.int ((p0 >>> ((8 : Int32) &&& 31)) &&& (15 : Int32))), .val (.int ((p0 >>> ((12 : Int32) &&& 31)) &&& (15 : Int32)))] [(.int (own_F8 (p0 &&& (255 : Int32)) ((p0 >>> ((8 : Int32) &&& 31)) &&& (15 : Int32)) p1))]))
    by_cases hc62_57 : (own_F8 (p0 &&& (255 : Int32)) ((p0 >>> ((8 : Int32) &&& 31)) &&& (15 : Int32)) p1) = (0 : Int32)
    · refine own_ifN X56 hx (hb hby own_d4_62) (teq hc62_57).2 (q := 65) rfl ?_
      refine own_iconst X56 hx (hb hby own_d4_65) (z := -1) rfl (q := 66) rfl ?_
      refine own_retI X56 hx Bd.returns Bd.notSynchronized (by decide) (by decide) (hb hby own_d4_66) ?_
      show own_Q4 Z p0 p1 h0 n0 _ T56.heap _
      exact ⟨(by simp only [own_F4, if_neg hc1_49, if_pos hc62_57]), N56, e56⟩
    · refine own_ifY X56 hx (hb hby own_d4_62) (feq hc62_57).2 (q := 67) (by decide) (by decide) ?_
      refine own_iloadN X56 hx (hb hby own_d4_67) rfl (q := 68) rfl ?_
      refine own_iconst X56 hx (hb hby own_d4_68) (z := 1) rfl (q := 69) rfl ?_
      refine own_iadd X56 hx (hb hby own_d4_69) (q := 70) rfl ?_
      refine own_iload X56 hx (hb hby own_d4_70) rfl (q := 72) rfl ?_
      by_cases hc72_59 : (((p0 >>> ((8 : Int32) &&& 31)) &&& (15 : Int32)) + (1 : Int32)) = ((p0 >>> ((12 : Int32) &&& 31)) &&& (15 : Int32))
      · refine own_icN X56 hx (hb hby own_d4_72) (teq hc72_59).2 (q := 75) rfl ?_
        refine own_iconst X56 hx (hb hby own_d4_75) (z := 0) rfl (q := 76) rfl ?_
        refine own_retI X56 hx Bd.returns Bd.notSynchronized (by decide) (by decide) (hb hby own_d4_76) ?_
        show own_Q4 Z p0 p1 h0 n0 _ T56.heap _
        exact ⟨(by simp only [own_F4, if_neg hc1_49, if_neg hc62_57, if_pos hc72_59]), N56, e56⟩
      · refine own_icY X56 hx (hb hby own_d4_72) (feq hc72_59).2 (q := 77) (by decide) (by decide) ?_
        refine own_iloadN X56 hx (hb hby own_d4_77) rfl (q := 78) rfl ?_
        refine own_iloadN X56 hx (hb hby own_d4_78) rfl (q := 79) rfl ?_
        refine own_iconst X56 hx (hb hby own_d4_79) (z := 1) rfl (q := 80) rfl ?_
        refine own_iadd X56 hx (hb hby own_d4_80) (q := 81) rfl ?_
        refine own_bipush X56 hx (hb hby own_d4_81) (z := 8) rfl (q := 83) rfl ?_
        refine own_ishl X56 hx (hb hby own_d4_83) (q := 84) rfl ?_
        refine own_ior X56 hx (hb hby own_d4_84) (q := 85) rfl ?_
        refine own_iload X56 hx (hb hby own_d4_85) rfl (q := 87) rfl ?_
        refine own_bipush X56 hx (hb hby own_d4_87) (z := 12) rfl (q := 89) rfl ?_
        refine own_ishl X56 hx (hb hby own_d4_89) (q := 90) rfl ?_
        refine own_ior X56 hx (hb hby own_d4_90) (q := 91) rfl ?_
        refine own_retI X56 hx Bd.returns Bd.notSynchronized (by decide) (by decide) (hb hby own_d4_91) ?_
        show own_Q4 Z p0 p1 h0 n0 _ T56.heap _
        exact ⟨(by simp only [own_F4, if_neg hc1_49, if_neg hc62_57, if_neg hc72_59]), N56, e56⟩
theorem own_d6_0 : decode prog_31_method_2_code 0 = .ok (.aload_n 0, 1) := by decide +kernel
theorem own_d6_1 : decode prog_31_method_2_code 1 = .ok (.getfield 16, 3) := by decide +kernel
theorem own_d6_4 : decode prog_31_method_2_code 4 = .ok (.ifCond .ne 123, 3) := by decide +kernel
theorem own_d6_7 : decode prog_31_method_2_code 7 = .ok (.iload_n 1, 1) := by decide +kernel
theorem own_d6_8 : decode prog_31_method_2_code 8 = .ok (.sipush 128, 3) := by decide +kernel
theorem own_d6_11 : decode prog_31_method_2_code 11 = .ok (.if_icmp .ge 5, 3) := by decide +kernel
theorem own_d6_14 : decode prog_31_method_2_code 14 = .ok (.iconst 1, 1) := by decide +kernel
theorem own_d6_15 : decode prog_31_method_2_code 15 = .ok (.ireturn, 1) := by decide +kernel
theorem own_d6_16 : decode prog_31_method_2_code 16 = .ok (.iload_n 1, 1) := by decide +kernel
theorem own_d6_17 : decode prog_31_method_2_code 17 = .ok (.sipush 194, 3) := by decide +kernel
theorem own_d6_20 : decode prog_31_method_2_code 20 = .ok (.if_icmp .lt 10, 3) := by decide +kernel
theorem own_d6_30 : decode prog_31_method_2_code 30 = .ok (.iconst 0, 1) := by decide +kernel
theorem own_d6_31 : decode prog_31_method_2_code 31 = .ok (.ireturn, 1) := by decide +kernel
theorem own_d6_23 : decode prog_31_method_2_code 23 = .ok (.iload_n 1, 1) := by decide +kernel
theorem own_d6_24 : decode prog_31_method_2_code 24 = .ok (.sipush 244, 3) := by decide +kernel
theorem own_d6_27 : decode prog_31_method_2_code 27 = .ok (.if_icmp .le 5, 3) := by decide +kernel
theorem own_d6_32 : decode prog_31_method_2_code 32 = .ok (.aload_n 0, 1) := by decide +kernel
theorem own_d6_33 : decode prog_31_method_2_code 33 = .ok (.iload_n 1, 1) := by decide +kernel
theorem own_d6_34 : decode prog_31_method_2_code 34 = .ok (.sipush 224, 3) := by decide +kernel
theorem own_d6_37 : decode prog_31_method_2_code 37 = .ok (.if_icmp .ge 7, 3) := by decide +kernel
theorem own_d6_40 : decode prog_31_method_2_code 40 = .ok (.iconst 1, 1) := by decide +kernel
theorem own_d6_41 : decode prog_31_method_2_code 41 = .ok (.goto 15, 3) := by decide +kernel
theorem own_d6_44 : decode prog_31_method_2_code 44 = .ok (.iload_n 1, 1) := by decide +kernel
theorem own_d6_45 : decode prog_31_method_2_code 45 = .ok (.sipush 240, 3) := by decide +kernel
theorem own_d6_48 : decode prog_31_method_2_code 48 = .ok (.if_icmp .ge 7, 3) := by decide +kernel
theorem own_d6_51 : decode prog_31_method_2_code 51 = .ok (.iconst 2, 1) := by decide +kernel
theorem own_d6_52 : decode prog_31_method_2_code 52 = .ok (.goto 4, 3) := by decide +kernel
theorem own_d6_55 : decode prog_31_method_2_code 55 = .ok (.iconst 3, 1) := by decide +kernel
def own_M6_48 (p1 : Int32) : Int32 := (if p1 < (240 : Int32) then (2 : Int32) else (3 : Int32))
def own_M6_37 (p1 : Int32) : Int32 := (if p1 < (224 : Int32) then (1 : Int32) else (own_M6_48 p1))
theorem own_d6_56 : decode prog_31_method_2_code 56 = .ok (.putfield 16, 3) := by decide +kernel
theorem own_d6_59 : decode prog_31_method_2_code 59 = .ok (.aload_n 0, 1) := by decide +kernel
theorem own_d6_60 : decode prog_31_method_2_code 60 = .ok (.iload_n 1, 1) := by decide +kernel
theorem own_d6_61 : decode prog_31_method_2_code 61 = .ok (.sipush 224, 3) := by decide +kernel
theorem own_d6_64 : decode prog_31_method_2_code 64 = .ok (.if_icmp .ne 9, 3) := by decide +kernel
theorem own_d6_67 : decode prog_31_method_2_code 67 = .ok (.sipush 160, 3) := by decide +kernel
theorem own_d6_70 : decode prog_31_method_2_code 70 = .ok (.goto 19, 3) := by decide +kernel
theorem own_d6_73 : decode prog_31_method_2_code 73 = .ok (.iload_n 1, 1) := by decide +kernel
theorem own_d6_74 : decode prog_31_method_2_code 74 = .ok (.sipush 240, 3) := by decide +kernel
theorem own_d6_77 : decode prog_31_method_2_code 77 = .ok (.if_icmp .ne 9, 3) := by decide +kernel
theorem own_d6_80 : decode prog_31_method_2_code 80 = .ok (.sipush 144, 3) := by decide +kernel
theorem own_d6_83 : decode prog_31_method_2_code 83 = .ok (.goto 6, 3) := by decide +kernel
theorem own_d6_86 : decode prog_31_method_2_code 86 = .ok (.sipush 128, 3) := by decide +kernel
def own_M6_77 (p1 : Int32) : Int32 := (if p1 = (240 : Int32) then (144 : Int32) else (128 : Int32))
def own_M6_64 (p1 : Int32) : Int32 := (if p1 = (224 : Int32) then (160 : Int32) else (own_M6_77 p1))
theorem own_d6_89 : decode prog_31_method_2_code 89 = .ok (.putfield 9, 3) := by decide +kernel
theorem own_d6_92 : decode prog_31_method_2_code 92 = .ok (.aload_n 0, 1) := by decide +kernel
theorem own_d6_93 : decode prog_31_method_2_code 93 = .ok (.iload_n 1, 1) := by decide +kernel
theorem own_d6_94 : decode prog_31_method_2_code 94 = .ok (.sipush 237, 3) := by decide +kernel
theorem own_d6_97 : decode prog_31_method_2_code 97 = .ok (.if_icmp .ne 9, 3) := by decide +kernel
theorem own_d6_100 : decode prog_31_method_2_code 100 = .ok (.sipush 159, 3) := by decide +kernel
theorem own_d6_103 : decode prog_31_method_2_code 103 = .ok (.goto 19, 3) := by decide +kernel
theorem own_d6_106 : decode prog_31_method_2_code 106 = .ok (.iload_n 1, 1) := by decide +kernel
theorem own_d6_107 : decode prog_31_method_2_code 107 = .ok (.sipush 244, 3) := by decide +kernel
theorem own_d6_110 : decode prog_31_method_2_code 110 = .ok (.if_icmp .ne 9, 3) := by decide +kernel
theorem own_d6_113 : decode prog_31_method_2_code 113 = .ok (.sipush 143, 3) := by decide +kernel
theorem own_d6_116 : decode prog_31_method_2_code 116 = .ok (.goto 6, 3) := by decide +kernel
theorem own_d6_119 : decode prog_31_method_2_code 119 = .ok (.sipush 191, 3) := by decide +kernel
def own_M6_110 (p1 : Int32) : Int32 := (if p1 = (244 : Int32) then (143 : Int32) else (191 : Int32))
def own_M6_97 (p1 : Int32) : Int32 := (if p1 = (237 : Int32) then (159 : Int32) else (own_M6_110 p1))
theorem own_d6_122 : decode prog_31_method_2_code 122 = .ok (.putfield 13, 3) := by decide +kernel
theorem own_d6_125 : decode prog_31_method_2_code 125 = .ok (.iconst 1, 1) := by decide +kernel
theorem own_d6_126 : decode prog_31_method_2_code 126 = .ok (.ireturn, 1) := by decide +kernel
theorem own_d6_127 : decode prog_31_method_2_code 127 = .ok (.iload_n 1, 1) := by decide +kernel
theorem own_d6_128 : decode prog_31_method_2_code 128 = .ok (.aload_n 0, 1) := by decide +kernel
theorem own_d6_129 : decode prog_31_method_2_code 129 = .ok (.getfield 9, 3) := by decide +kernel
theorem own_d6_132 : decode prog_31_method_2_code 132 = .ok (.if_icmp .lt 11, 3) := by decide +kernel
theorem own_d6_143 : decode prog_31_method_2_code 143 = .ok (.iconst 0, 1) := by decide +kernel
theorem own_d6_144 : decode prog_31_method_2_code 144 = .ok (.ireturn, 1) := by decide +kernel
theorem own_d6_135 : decode prog_31_method_2_code 135 = .ok (.iload_n 1, 1) := by decide +kernel
theorem own_d6_136 : decode prog_31_method_2_code 136 = .ok (.aload_n 0, 1) := by decide +kernel
theorem own_d6_137 : decode prog_31_method_2_code 137 = .ok (.getfield 13, 3) := by decide +kernel
theorem own_d6_140 : decode prog_31_method_2_code 140 = .ok (.if_icmp .le 5, 3) := by decide +kernel
theorem own_d6_145 : decode prog_31_method_2_code 145 = .ok (.aload_n 0, 1) := by decide +kernel
theorem own_d6_146 : decode prog_31_method_2_code 146 = .ok (.dup, 1) := by decide +kernel
theorem own_d6_147 : decode prog_31_method_2_code 147 = .ok (.getfield 16, 3) := by decide +kernel
theorem own_d6_150 : decode prog_31_method_2_code 150 = .ok (.iconst 1, 1) := by decide +kernel
theorem own_d6_151 : decode prog_31_method_2_code 151 = .ok (.isub, 1) := by decide +kernel
theorem own_d6_152 : decode prog_31_method_2_code 152 = .ok (.putfield 16, 3) := by decide +kernel
theorem own_d6_155 : decode prog_31_method_2_code 155 = .ok (.aload_n 0, 1) := by decide +kernel
theorem own_d6_156 : decode prog_31_method_2_code 156 = .ok (.sipush 128, 3) := by decide +kernel
theorem own_d6_159 : decode prog_31_method_2_code 159 = .ok (.putfield 9, 3) := by decide +kernel
theorem own_d6_162 : decode prog_31_method_2_code 162 = .ok (.aload_n 0, 1) := by decide +kernel
theorem own_d6_163 : decode prog_31_method_2_code 163 = .ok (.sipush 191, 3) := by decide +kernel
theorem own_d6_166 : decode prog_31_method_2_code 166 = .ok (.putfield 13, 3) := by decide +kernel
theorem own_d6_169 : decode prog_31_method_2_code 169 = .ok (.iconst 1, 1) := by decide +kernel
theorem own_d6_170 : decode prog_31_method_2_code 170 = .ok (.ireturn, 1) := by decide +kernel
def own_F6 (p1 : Int32) (w_o0_lowest : Int32) (w_o0_highest : Int32) (w_o0_needed : Int32) : Int32 := (if w_o0_needed = (0 : Int32) then (if p1 < (128 : Int32) then (1 : Int32) else (if p1 < (194 : Int32) then (0 : Int32) else (if (244 : Int32) < p1 then (0 : Int32) else (1 : Int32)))) else (if p1 < w_o0_lowest then (0 : Int32) else (if w_o0_highest < p1 then (0 : Int32) else (1 : Int32))))
def own_G6_lowest (p1 : Int32) (w_o0_lowest : Int32) (w_o0_highest : Int32) (w_o0_needed : Int32) : Int32 := (if w_o0_needed = (0 : Int32) then (if p1 < (128 : Int32) then w_o0_lowest else (if p1 < (194 : Int32) then w_o0_lowest else (if (244 : Int32) < p1 then w_o0_lowest else (own_M6_64 p1)))) else (if p1 < w_o0_lowest then w_o0_lowest else (if w_o0_highest < p1 then w_o0_lowest else (128 : Int32))))
def own_G6_highest (p1 : Int32) (w_o0_lowest : Int32) (w_o0_highest : Int32) (w_o0_needed : Int32) : Int32 := (if w_o0_needed = (0 : Int32) then (if p1 < (128 : Int32) then w_o0_highest else (if p1 < (194 : Int32) then w_o0_highest else (if (244 : Int32) < p1 then w_o0_highest else (own_M6_97 p1)))) else (if p1 < w_o0_lowest then w_o0_highest else (if w_o0_highest < p1 then w_o0_highest else (191 : Int32))))
def own_G6_needed (p1 : Int32) (w_o0_lowest : Int32) (w_o0_highest : Int32) (w_o0_needed : Int32) : Int32 := (if w_o0_needed = (0 : Int32) then (if p1 < (128 : Int32) then w_o0_needed else (if p1 < (194 : Int32) then w_o0_needed else (if (244 : Int32) < p1 then w_o0_needed else (own_M6_37 p1)))) else (if p1 < w_o0_lowest then w_o0_needed else (if w_o0_highest < p1 then w_o0_needed else (w_o0_needed - (1 : Int32)))))
def own_Q6 (Z : State) (o0 : Addr) (p1 : Int32) (w_o0_lowest : Int32) (w_o0_highest : Int32) (w_o0_needed : Int32) (h0 : Heap) (n0 : Nat) (v : Option Value) (h : Heap) (L : List Loc) : Prop := v = some (.int (own_F6 p1 w_o0_lowest w_o0_highest w_o0_needed)) ∧ Fr n0 L ∧ Keep h0 h [o0] ∧ Exa Z h o0 "com/example/dawdling_reader/dawdlingreader/mqtt/Utf8" ∧ Fld Z h o0 "com/example/dawdling_reader/dawdlingreader/mqtt/Utf8" "lowest" "I" (.int (own_G6_lowest p1 w_o0_lowest w_o0_highest w_o0_needed)) ∧ Fld Z h o0 "com/example/dawdling_reader/dawdlingreader/mqtt/Utf8" "highest" "I" (.int (own_G6_highest p1 w_o0_lowest w_o0_highest w_o0_needed)) ∧ Fld Z h o0 "com/example/dawdling_reader/dawdlingreader/mqtt/Utf8" "needed" "I" (.int (own_G6_needed p1 w_o0_lowest w_o0_highest w_o0_needed))
theorem own_pn_rm6 : plainName "com/example/dawdling_reader/dawdlingreader/mqtt/Utf8" = true := by first | (simp [plainName, overriddenIn]; done) | decide +kernel
theorem own_ef_rm6 (m : MethodId) (o0 : Addr) (p1 : Int32) : entryFrame m #[(.ref o0), (.int p1)] 2 = mkF m 0 #[.val (.ref o0), .val (.int p1)] [] := by first | (simp [entryFrame, mkF, argsToLocals, Value.category]; done) | rfl
set_option maxRecDepth 65536 in
set_option maxHeartbeats 40000000 in
theorem own_rm6 (l : Launch) (Z : State) (a0 : Array Value) (hw : ∀ d ∈ tables_1, d.before a0 Z = true) (ws : List Jvm.Cond) (o0 : Addr) (p1 : Int32) (w_o0_lowest : Int32) (w_o0_highest : Int32) (w_o0_needed : Int32) (h0 : Heap) (n0 : Nat) (Z0 : n0 ≤ h0.size) (E_o0 : Exa Z h0 o0 "com/example/dawdling_reader/dawdlingreader/mqtt/Utf8") (F_o0_lowest : Fld Z h0 o0 "com/example/dawdling_reader/dawdlingreader/mqtt/Utf8" "lowest" "I" (.int w_o0_lowest)) (F_o0_highest : Fld Z h0 o0 "com/example/dawdling_reader/dawdlingreader/mqtt/Utf8" "highest" "I" (.int w_o0_highest)) (F_o0_needed : Fld Z h0 o0 "com/example/dawdling_reader/dawdlingreader/mqtt/Utf8" "needed" "I" (.int w_o0_needed)) (g_o0 : n0 ≤ o0) :
    MetFree l (⟨"com/example/dawdling_reader/dawdlingreader/mqtt/Utf8", "accept", "(I)Z"⟩ : MethodName) (head1 (Jvm.Cond.code (⟨"com/example/dawdling_reader/dawdlingreader/mqtt/Utf8", "accept", "(I)Z"⟩ : MethodName) prog_31_method_2_code 2 (some .boolean) :: ws) ({ frames := 0, cells := 0, slots := 0, locals := 0 } : Room)) (fun a U => a = #[(.ref o0), (.int p1)] ∧ Z.Warmed39 U.vm ∧ U.heap = h0) (fun _ _ _ _ _ => True) (fun _ U o U' => ∃ v L, o = .returned v ∧ own_Q6 Z o0 p1 w_o0_lowest w_o0_highest w_o0_needed h0 n0 v U'.heap L ∧ FrameEnd U o U' L ({ frames := 0, cells := 0, slots := 0, locals := 0 } : Room).cells ({ frames := 0, cells := 0, slots := 0, locals := 0 } : Room).slots) := by
  refine MetFree.of_bodySF (plainFor_of_name own_pn_rm6) hisR ?_
  intro p e s m args below meth c s₁ Bd hml0 hP hK
  obtain ⟨rfl, hZ, hh⟩ := hP
  have hx := Bd.exec
  have hby := Bd.bytes
  have hml : c.maxLocals = 2 := hml0
  have hown : s.vm.findClass "com/example/dawdling_reader/dawdlingreader/mqtt/Utf8" = some m.cls := findClass_of_methodNamed Bd.named
  have hnm := (name_of_methodNamed Bd.named Bd.method).1
  have X0 : Stand p l e ({ frames := 0, cells := 0, slots := 0, locals := 0 } : Room) s m #[(.ref o0), (.int p1)] below meth c s₁ [] 0 0 := Stand.of_body Bd
  have e0 : s₁.heap = h0 := by rw [← hh, Bd.state]; rfl
  have N0 := Fr.nil n0
  show own_End p e below s (own_Q6 Z o0 p1 w_o0_lowest w_o0_highest w_o0_needed h0 n0) ({ frames := 0, cells := 0, slots := 0, locals := 0 } : Room).cells ({ frames := 0, cells := 0, slots := 0, locals := 0 } : Room).slots (s₁.setTop (entryFrame m #[(.ref o0), (.int p1)] 2))
  rw [own_ef_rm6]
  refine own_aloadN X0 hx (hb hby own_d6_0) rfl rfl (q := 1) rfl ?_
  obtain ⟨T62, X62, e62, st62⟩ := getF X0 hx hZ hown (host := "") (Or.inl (hw _ (List.mem_of_getElem? (i := 28) rfl))) Via.refl e0 F_o0_needed (g := (mkF m 1 #[.val (.ref o0), .val (.int p1)] [(.ref o0)])) rfl rfl (hb hby own_d6_1)
  refine own_back st62 ?_
  show own_End p e below s _ _ _ (T62.setTop (mkF m 4 #[.val (.ref o0), .val (.int p1)] [(.int w_o0_needed)]))
  by_cases hc4_63 : w_o0_needed = (0 : Int32)
  · refine own_ifN X62 hx (hb hby own_d6_4) (teq hc4_63).2 (q := 7) rfl ?_
    refine own_iloadN X62 hx (hb hby own_d6_7) rfl (q := 8) rfl ?_
    refine own_sipush X62 hx (hb hby own_d6_8) (z := 128) rfl (q := 11) rfl ?_
    by_cases hc11_64 : p1 < (128 : Int32)
    · refine own_icN X62 hx (hb hby own_d6_11) (tlt hc11_64).2.1 (q := 14) rfl ?_
      refine own_iconst X62 hx (hb hby own_d6_14) (z := 1) rfl (q := 15) rfl ?_
      refine own_retN X62 hx (t := .boolean) (by simp) Bd.returns Bd.notSynchronized (by decide) (by decide) (hb hby own_d6_15) ?_
      show own_Q6 Z o0 p1 w_o0_lowest w_o0_highest w_o0_needed h0 n0 _ T62.heap _
      rw [e62]
      exact ⟨(by rw [show own_F6 p1 w_o0_lowest w_o0_highest w_o0_needed = _ from (by simp only [own_F6, if_pos hc4_63, if_pos hc11_64] : _ = (1 : Int32))]; rfl), N0, (Keep.refl h0 [o0]), E_o0, (by have q := F_o0_lowest; simp only [own_G6_lowest, if_pos hc4_63, if_pos hc11_64]; exact q), (by have q := F_o0_highest; simp only [own_G6_highest, if_pos hc4_63, if_pos hc11_64]; exact q), (by have q := F_o0_needed; simp only [own_G6_needed, if_pos hc4_63, if_pos hc11_64]; exact q)⟩
    · refine own_icY X62 hx (hb hby own_d6_11) (flt hc11_64).2.1 (q := 16) (by decide) (by decide) ?_
      refine own_iloadN X62 hx (hb hby own_d6_16) rfl (q := 17) rfl ?_
      refine own_sipush X62 hx (hb hby own_d6_17) (z := 194) rfl (q := 20) rfl ?_
      by_cases hc20_66 : p1 < (194 : Int32)
      · refine own_icY X62 hx (hb hby own_d6_20) (tlt hc20_66).1 (q := 30) (by decide) (by decide) ?_
        refine own_iconst X62 hx (hb hby own_d6_30) (z := 0) rfl (q := 31) rfl ?_
        refine own_retN X62 hx (t := .boolean) (by simp) Bd.returns Bd.notSynchronized (by decide) (by decide) (hb hby own_d6_31) ?_
        show own_Q6 Z o0 p1 w_o0_lowest w_o0_highest w_o0_needed h0 n0 _ T62.heap _
        rw [e62]
        exact ⟨(by rw [show own_F6 p1 w_o0_lowest w_o0_highest w_o0_needed = _ from (by simp only [own_F6, if_pos hc4_63, if_neg hc11_64, if_pos hc20_66] : _ = (0 : Int32))]; rfl), N0, (Keep.refl h0 [o0]), E_o0, (by have q := F_o0_lowest; simp only [own_G6_lowest, if_pos hc4_63, if_neg hc11_64, if_pos hc20_66]; exact q), (by have q := F_o0_highest; simp only [own_G6_highest, if_pos hc4_63, if_neg hc11_64, if_pos hc20_66]; exact q), (by have q := F_o0_needed; simp only [own_G6_needed, if_pos hc4_63, if_neg hc11_64, if_pos hc20_66]; exact q)⟩
      · refine own_icN X62 hx (hb hby own_d6_20) (flt hc20_66).1 (q := 23) rfl ?_
        refine own_iloadN X62 hx (hb hby own_d6_23) rfl (q := 24) rfl ?_
        refine own_sipush X62 hx (hb hby own_d6_24) (z := 244) rfl (q := 27) rfl ?_
        by_cases hc27_68 : (244 : Int32) < p1
        · refine own_icN X62 hx (hb hby own_d6_27) (tlt hc27_68).2.2.2 (q := 30) rfl ?_
          refine own_iconst X62 hx (hb hby own_d6_30) (z := 0) rfl (q := 31) rfl ?_
          refine own_retN X62 hx (t := .boolean) (by simp) Bd.returns Bd.notSynchronized (by decide) (by decide) (hb hby own_d6_31) ?_
          show own_Q6 Z o0 p1 w_o0_lowest w_o0_highest w_o0_needed h0 n0 _ T62.heap _
          rw [e62]
          exact ⟨(by rw [show own_F6 p1 w_o0_lowest w_o0_highest w_o0_needed = _ from (by simp only [own_F6, if_pos hc4_63, if_neg hc11_64, if_neg hc20_66, if_pos hc27_68] : _ = (0 : Int32))]; rfl), N0, (Keep.refl h0 [o0]), E_o0, (by have q := F_o0_lowest; simp only [own_G6_lowest, if_pos hc4_63, if_neg hc11_64, if_neg hc20_66, if_pos hc27_68]; exact q), (by have q := F_o0_highest; simp only [own_G6_highest, if_pos hc4_63, if_neg hc11_64, if_neg hc20_66, if_pos hc27_68]; exact q), (by have q := F_o0_needed; simp only [own_G6_needed, if_pos hc4_63, if_neg hc11_64, if_neg hc20_66, if_pos hc27_68]; exact q)⟩
        · refine own_icY X62 hx (hb hby own_d6_27) (flt hc27_68).2.2.2 (q := 32) (by decide) (by decide) ?_
          refine own_aloadN X62 hx (hb hby own_d6_32) rfl rfl (q := 33) rfl ?_
          refine own_iloadN X62 hx (hb hby own_d6_33) rfl (q := 34) rfl ?_
          refine own_sipush X62 hx (hb hby own_d6_34) (z := 224) rfl (q := 37) rfl ?_
          suffices J77 : own_End p e below s (own_Q6 Z o0 p1 w_o0_lowest w_o0_highest w_o0_needed h0 n0) ({ frames := 0, cells := 0, slots := 0, locals := 0 } : Room).cells ({ frames := 0, cells := 0, slots := 0, locals := 0 } : Room).slots (T62.setTop (mkF m 56 #[.val (.ref o0), .val (.int p1)] [(.int (own_M6_37 p1)), (.ref o0)])) by
            by_cases hc37_70 : p1 < (224 : Int32)
            · refine own_icN X62 hx (hb hby own_d6_37) (tlt hc37_70).2.1 (q := 40) rfl ?_
              refine own_iconst X62 hx (hb hby own_d6_40) (z := 1) rfl (q := 41) rfl ?_
              refine own_goto X62 hx (hb hby own_d6_41) (q := 56) (by decide) (by decide) ?_
              simp only [own_M6_37, if_pos hc37_70] at J77
              exact J77
            · refine own_icY X62 hx (hb hby own_d6_37) (flt hc37_70).2.1 (q := 44) (by decide) (by decide) ?_
              refine own_iloadN X62 hx (hb hby own_d6_44) rfl (q := 45) rfl ?_
              refine own_sipush X62 hx (hb hby own_d6_45) (z := 240) rfl (q := 48) rfl ?_
              suffices J75 : own_End p e below s (own_Q6 Z o0 p1 w_o0_lowest w_o0_highest w_o0_needed h0 n0) ({ frames := 0, cells := 0, slots := 0, locals := 0 } : Room).cells ({ frames := 0, cells := 0, slots := 0, locals := 0 } : Room).slots (T62.setTop (mkF m 56 #[.val (.ref o0), .val (.int p1)] [(.int (own_M6_48 p1)), (.ref o0)])) by
                by_cases hc48_72 : p1 < (240 : Int32)
                · refine own_icN X62 hx (hb hby own_d6_48) (tlt hc48_72).2.1 (q := 51) rfl ?_
                  refine own_iconst X62 hx (hb hby own_d6_51) (z := 2) rfl (q := 52) rfl ?_
                  refine own_goto X62 hx (hb hby own_d6_52) (q := 56) (by decide) (by decide) ?_
                  simp only [own_M6_48, if_pos hc48_72] at J75
                  exact J75
                · refine own_icY X62 hx (hb hby own_d6_48) (flt hc48_72).2.1 (q := 55) (by decide) (by decide) ?_
                  refine own_iconst X62 hx (hb hby own_d6_55) (z := 3) rfl (q := 56) rfl ?_
                  simp only [own_M6_48, if_neg hc48_72] at J75
                  exact J75
              simp only [own_M6_37, if_neg hc37_70] at J77
              exact J77
          obtain ⟨T78, h78, X78, e78, W78, st78⟩ := putF X62 hx hZ hown (host := "") (Or.inl (hw _ (List.mem_of_getElem? (i := 28) rfl))) Via.refl e62 F_o0_needed E_o0 (Or.inl (hw _ (List.mem_of_getElem? (i := 29) rfl))) (hw _ (List.mem_of_getElem? (i := 1) rfl)) (ty := .int) (by decide) rfl rfl (g := (mkF m 56 #[.val (.ref o0), .val (.int p1)] [(.int (own_M6_37 p1)), (.ref o0)])) rfl rfl (hb hby own_d6_56)
          have F_o0_needed_78 := F_o0_needed.same W78
          have E_o0_79 := E_o0.wr W78
          have F_o0_lowest_80 := F_o0_lowest.other W78 (Or.inr (slot_ne (Or.inl (hw _ (List.mem_of_getElem? (i := 10) rfl))) (Or.inl (hw _ (List.mem_of_getElem? (i := 29) rfl))) (by decide) (t := .int) (t' := .int) (by decide) (by decide)))
          have F_o0_highest_81 := F_o0_highest.other W78 (Or.inr (slot_ne (Or.inl (hw _ (List.mem_of_getElem? (i := 12) rfl))) (Or.inl (hw _ (List.mem_of_getElem? (i := 29) rfl))) (by decide) (t := .int) (t' := .int) (by decide) (by decide)))
          have Kp82 : Keep h0 _ [o0] := (Keep.refl h0 [o0]).wr W78 (Or.inl (List.mem_of_getElem? (i := 0) rfl))
          have Z83 := Nat.le_trans Z0 (Keep.of_wr W78).1
          have N78 := Fr.snoc X78 N0 g_o0
          refine own_back st78 ?_
          show own_End p e below s _ _ _ (T78.setTop (mkF m 59 #[.val (.ref o0), .val (.int p1)] []))
          refine own_aloadN X78 hx (hb hby own_d6_59) rfl rfl (q := 60) rfl ?_
          refine own_iloadN X78 hx (hb hby own_d6_60) rfl (q := 61) rfl ?_
          refine own_sipush X78 hx (hb hby own_d6_61) (z := 224) rfl (q := 64) rfl ?_
          suffices J91 : own_End p e below s (own_Q6 Z o0 p1 w_o0_lowest w_o0_highest w_o0_needed h0 n0) ({ frames := 0, cells := 0, slots := 0, locals := 0 } : Room).cells ({ frames := 0, cells := 0, slots := 0, locals := 0 } : Room).slots (T78.setTop (mkF m 89 #[.val (.ref o0), .val (.int p1)] [(.int (own_M6_64 p1)), (.ref o0)])) by
            by_cases hc64_84 : p1 = (224 : Int32)
            · refine own_icN X78 hx (hb hby own_d6_64) (teq hc64_84).2 (q := 67) rfl ?_
              refine own_sipush X78 hx (hb hby own_d6_67) (z := 160) rfl (q := 70) rfl ?_
              refine own_goto X78 hx (hb hby own_d6_70) (q := 89) (by decide) (by decide) ?_
              simp only [own_M6_64, if_pos hc64_84] at J91
              exact J91
            · refine own_icY X78 hx (hb hby own_d6_64) (feq hc64_84).2 (q := 73) (by decide) (by decide) ?_
              refine own_iloadN X78 hx (hb hby own_d6_73) rfl (q := 74) rfl ?_
              refine own_sipush X78 hx (hb hby own_d6_74) (z := 240) rfl (q := 77) rfl ?_
              suffices J89 : own_End p e below s (own_Q6 Z o0 p1 w_o0_lowest w_o0_highest w_o0_needed h0 n0) ({ frames := 0, cells := 0, slots := 0, locals := 0 } : Room).cells ({ frames := 0, cells := 0, slots := 0, locals := 0 } : Room).slots (T78.setTop (mkF m 89 #[.val (.ref o0), .val (.int p1)] [(.int (own_M6_77 p1)), (.ref o0)])) by
                by_cases hc77_86 : p1 = (240 : Int32)
                · refine own_icN X78 hx (hb hby own_d6_77) (teq hc77_86).2 (q := 80) rfl ?_
                  refine own_sipush X78 hx (hb hby own_d6_80) (z := 144) rfl (q := 83) rfl ?_
                  refine own_goto X78 hx (hb hby own_d6_83) (q := 89) (by decide) (by decide) ?_
                  simp only [own_M6_77, if_pos hc77_86] at J89
                  exact J89
                · refine own_icY X78 hx (hb hby own_d6_77) (feq hc77_86).2 (q := 86) (by decide) (by decide) ?_
                  refine own_sipush X78 hx (hb hby own_d6_86) (z := 128) rfl (q := 89) rfl ?_
                  simp only [own_M6_77, if_neg hc77_86] at J89
                  exact J89
              simp only [own_M6_64, if_neg hc64_84] at J91
              exact J91
          obtain ⟨T92, h92, X92, e92, W92, st92⟩ := putF X78 hx hZ hown (host := "") (Or.inl (hw _ (List.mem_of_getElem? (i := 9) rfl))) Via.refl e78 F_o0_lowest_80 E_o0_79 (Or.inl (hw _ (List.mem_of_getElem? (i := 10) rfl))) (hw _ (List.mem_of_getElem? (i := 1) rfl)) (ty := .int) (by decide) rfl rfl (g := (mkF m 89 #[.val (.ref o0), .val (.int p1)] [(.int (own_M6_64 p1)), (.ref o0)])) rfl rfl (hb hby own_d6_89)
          have F_o0_lowest_92 := F_o0_lowest_80.same W92
          have E_o0_93 := E_o0_79.wr W92
          have F_o0_highest_94 := F_o0_highest_81.other W92 (Or.inr (slot_ne (Or.inl (hw _ (List.mem_of_getElem? (i := 12) rfl))) (Or.inl (hw _ (List.mem_of_getElem? (i := 10) rfl))) (by decide) (t := .int) (t' := .int) (by decide) (by decide)))
          have F_o0_needed_95 := F_o0_needed_78.other W92 (Or.inr (slot_ne (Or.inl (hw _ (List.mem_of_getElem? (i := 29) rfl))) (Or.inl (hw _ (List.mem_of_getElem? (i := 10) rfl))) (by decide) (t := .int) (t' := .int) (by decide) (by decide)))
          have Kp96 : Keep h0 _ [o0] := Kp82.wr W92 (Or.inl (List.mem_of_getElem? (i := 0) rfl))
          have Z97 := Nat.le_trans Z83 (Keep.of_wr W92).1
          have N92 := Fr.snoc X92 N78 g_o0
          refine own_back st92 ?_
          show own_End p e below s _ _ _ (T92.setTop (mkF m 92 #[.val (.ref o0), .val (.int p1)] []))
          refine own_aloadN X92 hx (hb hby own_d6_92) rfl rfl (q := 93) rfl ?_
          refine own_iloadN X92 hx (hb hby own_d6_93) rfl (q := 94) rfl ?_
          refine own_sipush X92 hx (hb hby own_d6_94) (z := 237) rfl (q := 97) rfl ?_
          suffices J105 : own_End p e below s (own_Q6 Z o0 p1 w_o0_lowest w_o0_highest w_o0_needed h0 n0) ({ frames := 0, cells := 0, slots := 0, locals := 0 } : Room).cells ({ frames := 0, cells := 0, slots := 0, locals := 0 } : Room).slots (T92.setTop (mkF m 122 #[.val (.ref o0), .val (.int p1)] [(.int (own_M6_97 p1)), (.ref o0)])) by
            by_cases hc97_98 : p1 = (237 : Int32)
            · refine own_icN X92 hx (hb hby own_d6_97) (teq hc97_98).2 (q := 100) rfl ?_
              refine own_sipush X92 hx (hb hby own_d6_100) (z := 159) rfl (q := 103) rfl ?_
              refine own_goto X92 hx (hb hby own_d6_103) (q := 122) (by decide) (by decide) ?_
              simp only [own_M6_97, if_pos hc97_98] at J105
              exact J105
            · refine own_icY X92 hx (hb hby own_d6_97) (feq hc97_98).2 (q := 106) (by decide) (by decide) ?_
              refine own_iloadN X92 hx (hb hby own_d6_106) rfl (q := 107) rfl ?_
              refine own_sipush X92 hx (hb hby own_d6_107) (z := 244) rfl (q := 110) rfl ?_
              suffices J103 : own_End p e below s (own_Q6 Z o0 p1 w_o0_lowest w_o0_highest w_o0_needed h0 n0) ({ frames := 0, cells := 0, slots := 0, locals := 0 } : Room).cells ({ frames := 0, cells := 0, slots := 0, locals := 0 } : Room).slots (T92.setTop (mkF m 122 #[.val (.ref o0), .val (.int p1)] [(.int (own_M6_110 p1)), (.ref o0)])) by
                by_cases hc110_100 : p1 = (244 : Int32)
                · refine own_icN X92 hx (hb hby own_d6_110) (teq hc110_100).2 (q := 113) rfl ?_
                  refine own_sipush X92 hx (hb hby own_d6_113) (z := 143) rfl (q := 116) rfl ?_
                  refine own_goto X92 hx (hb hby own_d6_116) (q := 122) (by decide) (by decide) ?_
                  simp only [own_M6_110, if_pos hc110_100] at J103
                  exact J103
                · refine own_icY X92 hx (hb hby own_d6_110) (feq hc110_100).2 (q := 119) (by decide) (by decide) ?_
                  refine own_sipush X92 hx (hb hby own_d6_119) (z := 191) rfl (q := 122) rfl ?_
                  simp only [own_M6_110, if_neg hc110_100] at J103
                  exact J103
              simp only [own_M6_97, if_neg hc97_98] at J105
              exact J105
          obtain ⟨T106, h106, X106, e106, W106, st106⟩ := putF X92 hx hZ hown (host := "") (Or.inl (hw _ (List.mem_of_getElem? (i := 11) rfl))) Via.refl e92 F_o0_highest_94 E_o0_93 (Or.inl (hw _ (List.mem_of_getElem? (i := 12) rfl))) (hw _ (List.mem_of_getElem? (i := 1) rfl)) (ty := .int) (by decide) rfl rfl (g := (mkF m 122 #[.val (.ref o0), .val (.int p1)] [(.int (own_M6_97 p1)), (.ref o0)])) rfl rfl (hb hby own_d6_122)
          have F_o0_highest_106 := F_o0_highest_94.same W106
          have E_o0_107 := E_o0_93.wr W106
          have F_o0_lowest_108 := F_o0_lowest_92.other W106 (Or.inr (slot_ne (Or.inl (hw _ (List.mem_of_getElem? (i := 10) rfl))) (Or.inl (hw _ (List.mem_of_getElem? (i := 12) rfl))) (by decide) (t := .int) (t' := .int) (by decide) (by decide)))
          have F_o0_needed_109 := F_o0_needed_95.other W106 (Or.inr (slot_ne (Or.inl (hw _ (List.mem_of_getElem? (i := 29) rfl))) (Or.inl (hw _ (List.mem_of_getElem? (i := 12) rfl))) (by decide) (t := .int) (t' := .int) (by decide) (by decide)))
          have Kp110 : Keep h0 _ [o0] := Kp96.wr W106 (Or.inl (List.mem_of_getElem? (i := 0) rfl))
          have Z111 := Nat.le_trans Z97 (Keep.of_wr W106).1
          have N106 := Fr.snoc X106 N92 g_o0
          refine own_back st106 ?_
          show own_End p e below s _ _ _ (T106.setTop (mkF m 125 #[.val (.ref o0), .val (.int p1)] []))
          refine own_iconst X106 hx (hb hby own_d6_125) (z := 1) rfl (q := 126) rfl ?_
          refine own_retN X106 hx (t := .boolean) (by simp) Bd.returns Bd.notSynchronized (by decide) (by decide) (hb hby own_d6_126) ?_
          show own_Q6 Z o0 p1 w_o0_lowest w_o0_highest w_o0_needed h0 n0 _ T106.heap _
          rw [e106]
          exact ⟨(by rw [show own_F6 p1 w_o0_lowest w_o0_highest w_o0_needed = _ from (by simp only [own_F6, if_pos hc4_63, if_neg hc11_64, if_neg hc20_66, if_neg hc27_68] : _ = (1 : Int32))]; rfl), N106, Kp110, E_o0_107, (by have q := F_o0_lowest_108; simp only [own_G6_lowest, if_pos hc4_63, if_neg hc11_64, if_neg hc20_66, if_neg hc27_68]; exact q), (by have q := F_o0_highest_106; simp only [own_G6_highest, if_pos hc4_63, if_neg hc11_64, if_neg hc20_66, if_neg hc27_68]; exact q), (by have q := F_o0_needed_109; simp only [own_G6_needed, if_pos hc4_63, if_neg hc11_64, if_neg hc20_66, if_neg hc27_68]; exact q)⟩
  · refine own_ifY X62 hx (hb hby own_d6_4) (feq hc4_63).2 (q := 127) (by decide) (by decide) ?_
    refine own_iloadN X62 hx (hb hby own_d6_127) rfl (q := 128) rfl ?_
    refine own_aloadN X62 hx (hb hby own_d6_128) rfl rfl (q := 129) rfl ?_
    obtain ⟨T113, X113, e113, st113⟩ := getF X62 hx hZ hown (host := "") (Or.inl (hw _ (List.mem_of_getElem? (i := 9) rfl))) Via.refl e62 F_o0_lowest (g := (mkF m 129 #[.val (.ref o0), .val (.int p1)] [(.ref o0), (.int p1)])) rfl rfl (hb hby own_d6_129)
    refine own_back st113 ?_
    show own_End p e below s _ _ _ (T113.setTop (mkF m 132 #[.val (.ref o0), .val (.int p1)] [(.int w_o0_lowest), (.int p1)]))
    by_cases hc132_114 : p1 < w_o0_lowest
    · refine own_icY X113 hx (hb hby own_d6_132) (tlt hc132_114).1 (q := 143) (by decide) (by decide) ?_
      refine own_iconst X113 hx (hb hby own_d6_143) (z := 0) rfl (q := 144) rfl ?_
      refine own_retN X113 hx (t := .boolean) (by simp) Bd.returns Bd.notSynchronized (by decide) (by decide) (hb hby own_d6_144) ?_
      show own_Q6 Z o0 p1 w_o0_lowest w_o0_highest w_o0_needed h0 n0 _ T113.heap _
      rw [e113]
      exact ⟨(by rw [show own_F6 p1 w_o0_lowest w_o0_highest w_o0_needed = _ from (by simp only [own_F6, if_neg hc4_63, if_pos hc132_114] : _ = (0 : Int32))]; rfl), N0, (Keep.refl h0 [o0]), E_o0, (by have q := F_o0_lowest; simp only [own_G6_lowest, if_neg hc4_63, if_pos hc132_114]; exact q), (by have q := F_o0_highest; simp only [own_G6_highest, if_neg hc4_63, if_pos hc132_114]; exact q), (by have q := F_o0_needed; simp only [own_G6_needed, if_neg hc4_63, if_pos hc132_114]; exact q)⟩
    · refine own_icN X113 hx (hb hby own_d6_132) (flt hc132_114).1 (q := 135) rfl ?_
      refine own_iloadN X113 hx (hb hby own_d6_135) rfl (q := 136) rfl ?_
      refine own_aloadN X113 hx (hb hby own_d6_136) rfl rfl (q := 137) rfl ?_
      obtain ⟨T116, X116, e116, st116⟩ := getF X113 hx hZ hown (host := "") (Or.inl (hw _ (List.mem_of_getElem? (i := 11) rfl))) Via.refl e113 F_o0_highest (g := (mkF m 137 #[.val (.ref o0), .val (.int p1)] [(.ref o0), (.int p1)])) rfl rfl (hb hby own_d6_137)
      refine own_back st116 ?_
      show own_End p e below s _ _ _ (T116.setTop (mkF m 140 #[.val (.ref o0), .val (.int p1)] [(.int w_o0_highest), (.int p1)]))
      by_cases hc140_117 : w_o0_highest < p1
      · refine own_icN X116 hx (hb hby own_d6_140) (tlt hc140_117).2.2.2 (q := 143) rfl ?_
        refine own_iconst X116 hx (hb hby own_d6_143) (z := 0) rfl (q := 144) rfl ?_
        refine own_retN X116 hx (t := .boolean) (by simp) Bd.returns Bd.notSynchronized (by decide) (by decide) (hb hby own_d6_144) ?_
        show own_Q6 Z o0 p1 w_o0_lowest w_o0_highest w_o0_needed h0 n0 _ T116.heap _
        rw [e116]
        exact ⟨(by rw [show own_F6 p1 w_o0_lowest w_o0_highest w_o0_needed = _ from (by simp only [own_F6, if_neg hc4_63, if_neg hc132_114, if_pos hc140_117] : _ = (0 : Int32))]; rfl), N0, (Keep.refl h0 [o0]), E_o0, (by have q := F_o0_lowest; simp only [own_G6_lowest, if_neg hc4_63, if_neg hc132_114, if_pos hc140_117]; exact q), (by have q := F_o0_highest; simp only [own_G6_highest, if_neg hc4_63, if_neg hc132_114, if_pos hc140_117]; exact q), (by have q := F_o0_needed; simp only [own_G6_needed, if_neg hc4_63, if_neg hc132_114, if_pos hc140_117]; exact q)⟩
      · refine own_icY X116 hx (hb hby own_d6_140) (flt hc140_117).2.2.2 (q := 145) (by decide) (by decide) ?_
        refine own_aloadN X116 hx (hb hby own_d6_145) rfl rfl (q := 146) rfl ?_
        refine own_dup X116 hx (hb hby own_d6_146) rfl (q := 147) rfl ?_
        obtain ⟨T119, X119, e119, st119⟩ := getF X116 hx hZ hown (host := "") (Or.inl (hw _ (List.mem_of_getElem? (i := 28) rfl))) Via.refl e116 F_o0_needed (g := (mkF m 147 #[.val (.ref o0), .val (.int p1)] [(.ref o0), (.ref o0)])) rfl rfl (hb hby own_d6_147)
        refine own_back st119 ?_
        show own_End p e below s _ _ _ (T119.setTop (mkF m 150 #[.val (.ref o0), .val (.int p1)] [(.int w_o0_needed), (.ref o0)]))
        refine own_iconst X119 hx (hb hby own_d6_150) (z := 1) rfl (q := 151) rfl ?_
        refine own_isub X119 hx (hb hby own_d6_151) (q := 152) rfl ?_
        obtain ⟨T120, h120, X120, e120, W120, st120⟩ := putF X119 hx hZ hown (host := "") (Or.inl (hw _ (List.mem_of_getElem? (i := 28) rfl))) Via.refl e119 F_o0_needed E_o0 (Or.inl (hw _ (List.mem_of_getElem? (i := 29) rfl))) (hw _ (List.mem_of_getElem? (i := 1) rfl)) (ty := .int) (by decide) rfl rfl (g := (mkF m 152 #[.val (.ref o0), .val (.int p1)] [(.int (w_o0_needed - (1 : Int32))), (.ref o0)])) rfl rfl (hb hby own_d6_152)
        have F_o0_needed_120 := F_o0_needed.same W120
        have E_o0_121 := E_o0.wr W120
        have F_o0_lowest_122 := F_o0_lowest.other W120 (Or.inr (slot_ne (Or.inl (hw _ (List.mem_of_getElem? (i := 10) rfl))) (Or.inl (hw _ (List.mem_of_getElem? (i := 29) rfl))) (by decide) (t := .int) (t' := .int) (by decide) (by decide)))
        have F_o0_highest_123 := F_o0_highest.other W120 (Or.inr (slot_ne (Or.inl (hw _ (List.mem_of_getElem? (i := 12) rfl))) (Or.inl (hw _ (List.mem_of_getElem? (i := 29) rfl))) (by decide) (t := .int) (t' := .int) (by decide) (by decide)))
        have Kp124 : Keep h0 _ [o0] := (Keep.refl h0 [o0]).wr W120 (Or.inl (List.mem_of_getElem? (i := 0) rfl))
        have Z125 := Nat.le_trans Z0 (Keep.of_wr W120).1
        have N120 := Fr.snoc X120 N0 g_o0
        refine own_back st120 ?_
        show own_End p e below s _ _ _ (T120.setTop (mkF m 155 #[.val (.ref o0), .val (.int p1)] []))
        refine own_aloadN X120 hx (hb hby own_d6_155) rfl rfl (q := 156) rfl ?_
        refine own_sipush X120 hx (hb hby own_d6_156) (z := 128) rfl (q := 159) rfl ?_
        obtain ⟨T126, h126, X126, e126, W126, st126⟩ := putF X120 hx hZ hown (host := "") (Or.inl (hw _ (List.mem_of_getElem? (i := 9) rfl))) Via.refl e120 F_o0_lowest_122 E_o0_121 (Or.inl (hw _ (List.mem_of_getElem? (i := 10) rfl))) (hw _ (List.mem_of_getElem? (i := 1) rfl)) (ty := .int) (by decide) rfl rfl (g := (mkF m 159 #[.val (.ref o0), .val (.int p1)] [(.int (128 : Int32)), (.ref o0)])) rfl rfl (hb hby own_d6_159)
        have F_o0_lowest_126 := F_o0_lowest_122.same W126
        have E_o0_127 := E_o0_121.wr W126
        have F_o0_highest_128 := F_o0_highest_123.other W126 (Or.inr (slot_ne (Or.inl (hw _ (List.mem_of_getElem? (i := 12) rfl))) (Or.inl (hw _ (List.mem_of_getElem? (i := 10) rfl))) (by decide) (t := .int) (t' := .int) (by decide) (by decide)))
        have F_o0_needed_129 := F_o0_needed_120.other W126 (Or.inr (slot_ne (Or.inl (hw _ (List.mem_of_getElem? (i := 29) rfl))) (Or.inl (hw _ (List.mem_of_getElem? (i := 10) rfl))) (by decide) (t := .int) (t' := .int) (by decide) (by decide)))
        have Kp130 : Keep h0 _ [o0] := Kp124.wr W126 (Or.inl (List.mem_of_getElem? (i := 0) rfl))
        have Z131 := Nat.le_trans Z125 (Keep.of_wr W126).1
        have N126 := Fr.snoc X126 N120 g_o0
        refine own_back st126 ?_
        show own_End p e below s _ _ _ (T126.setTop (mkF m 162 #[.val (.ref o0), .val (.int p1)] []))
        refine own_aloadN X126 hx (hb hby own_d6_162) rfl rfl (q := 163) rfl ?_
        refine own_sipush X126 hx (hb hby own_d6_163) (z := 191) rfl (q := 166) rfl ?_
        obtain ⟨T132, h132, X132, e132, W132, st132⟩ := putF X126 hx hZ hown (host := "") (Or.inl (hw _ (List.mem_of_getElem? (i := 11) rfl))) Via.refl e126 F_o0_highest_128 E_o0_127 (Or.inl (hw _ (List.mem_of_getElem? (i := 12) rfl))) (hw _ (List.mem_of_getElem? (i := 1) rfl)) (ty := .int) (by decide) rfl rfl (g := (mkF m 166 #[.val (.ref o0), .val (.int p1)] [(.int (191 : Int32)), (.ref o0)])) rfl rfl (hb hby own_d6_166)
        have F_o0_highest_132 := F_o0_highest_128.same W132
        have E_o0_133 := E_o0_127.wr W132
        have F_o0_lowest_134 := F_o0_lowest_126.other W132 (Or.inr (slot_ne (Or.inl (hw _ (List.mem_of_getElem? (i := 10) rfl))) (Or.inl (hw _ (List.mem_of_getElem? (i := 12) rfl))) (by decide) (t := .int) (t' := .int) (by decide) (by decide)))
        have F_o0_needed_135 := F_o0_needed_129.other W132 (Or.inr (slot_ne (Or.inl (hw _ (List.mem_of_getElem? (i := 29) rfl))) (Or.inl (hw _ (List.mem_of_getElem? (i := 12) rfl))) (by decide) (t := .int) (t' := .int) (by decide) (by decide)))
        have Kp136 : Keep h0 _ [o0] := Kp130.wr W132 (Or.inl (List.mem_of_getElem? (i := 0) rfl))
        have Z137 := Nat.le_trans Z131 (Keep.of_wr W132).1
        have N132 := Fr.snoc X132 N126 g_o0
        refine own_back st132 ?_
        show own_End p e below s _ _ _ (T132.setTop (mkF m 169 #[.val (.ref o0), .val (.int p1)] []))
        refine own_iconst X132 hx (hb hby own_d6_169) (z := 1) rfl (q := 170) rfl ?_
        refine own_retN X132 hx (t := .boolean) (by simp) Bd.returns Bd.notSynchronized (by decide) (by decide) (hb hby own_d6_170) ?_
        show own_Q6 Z o0 p1 w_o0_lowest w_o0_highest w_o0_needed h0 n0 _ T132.heap _
        rw [e132]
        exact ⟨(by rw [show own_F6 p1 w_o0_lowest w_o0_highest w_o0_needed = _ from (by simp only [own_F6, if_neg hc4_63, if_neg hc132_114, if_neg hc140_117] : _ = (1 : Int32))]; rfl), N132, Kp136, E_o0_133, (by have q := F_o0_lowest_134; simp only [own_G6_lowest, if_neg hc4_63, if_neg hc132_114, if_neg hc140_117]; exact q), (by have q := F_o0_highest_132; simp only [own_G6_highest, if_neg hc4_63, if_neg hc132_114, if_neg hc140_117]; exact q), (by have q := F_o0_needed_135; simp only [own_G6_needed, if_neg hc4_63, if_neg hc132_114, if_neg hc140_117]; exact q)⟩
theorem own_d7_0 : decode prog_31_method_3_code 0 = .ok (.aload_n 0, 1) := by decide +kernel
theorem own_d7_1 : decode prog_31_method_3_code 1 = .ok (.getfield 16, 3) := by decide +kernel
theorem own_d7_4 : decode prog_31_method_3_code 4 = .ok (.ifCond .ne 7, 3) := by decide +kernel
theorem own_d7_7 : decode prog_31_method_3_code 7 = .ok (.iconst 1, 1) := by decide +kernel
theorem own_d7_8 : decode prog_31_method_3_code 8 = .ok (.goto 4, 3) := by decide +kernel
theorem own_d7_12 : decode prog_31_method_3_code 12 = .ok (.ireturn, 1) := by decide +kernel
theorem own_d7_11 : decode prog_31_method_3_code 11 = .ok (.iconst 0, 1) := by decide +kernel
def own_F7 (w_o0_lowest : Int32) (w_o0_highest : Int32) (w_o0_needed : Int32) : Int32 := (if w_o0_needed = (0 : Int32) then (1 : Int32) else (0 : Int32))
def own_Q7 (Z : State) (o0 : Addr) (w_o0_lowest : Int32) (w_o0_highest : Int32) (w_o0_needed : Int32) (h0 : Heap) (n0 : Nat) (v : Option Value) (h : Heap) (L : List Loc) : Prop := v = some (.int (own_F7 w_o0_lowest w_o0_highest w_o0_needed)) ∧ Fr n0 L ∧ h = h0
theorem own_pn_rm7 : plainName "com/example/dawdling_reader/dawdlingreader/mqtt/Utf8" = true := by first | (simp [plainName, overriddenIn]; done) | decide +kernel
theorem own_ef_rm7 (m : MethodId) (o0 : Addr) : entryFrame m #[(.ref o0)] 1 = mkF m 0 #[.val (.ref o0)] [] := by first | (simp [entryFrame, mkF, argsToLocals, Value.category]; done) | rfl
set_option maxRecDepth 65536 in
set_option maxHeartbeats 40000000 in
theorem own_rm7 (l : Launch) (Z : State) (a0 : Array Value) (hw : ∀ d ∈ tables_1, d.before a0 Z = true) (ws : List Jvm.Cond) (o0 : Addr) (w_o0_lowest : Int32) (w_o0_highest : Int32) (w_o0_needed : Int32) (h0 : Heap) (n0 : Nat) (Z0 : n0 ≤ h0.size) (E_o0 : Exa Z h0 o0 "com/example/dawdling_reader/dawdlingreader/mqtt/Utf8") (F_o0_lowest : Fld Z h0 o0 "com/example/dawdling_reader/dawdlingreader/mqtt/Utf8" "lowest" "I" (.int w_o0_lowest)) (F_o0_highest : Fld Z h0 o0 "com/example/dawdling_reader/dawdlingreader/mqtt/Utf8" "highest" "I" (.int w_o0_highest)) (F_o0_needed : Fld Z h0 o0 "com/example/dawdling_reader/dawdlingreader/mqtt/Utf8" "needed" "I" (.int w_o0_needed)) :
    MetFree l (⟨"com/example/dawdling_reader/dawdlingreader/mqtt/Utf8", "atCharacterEnd", "()Z"⟩ : MethodName) (head1 (Jvm.Cond.code (⟨"com/example/dawdling_reader/dawdlingreader/mqtt/Utf8", "atCharacterEnd", "()Z"⟩ : MethodName) prog_31_method_3_code 1 (some .boolean) :: ws) ({ frames := 0, cells := 0, slots := 0, locals := 0 } : Room)) (fun a U => a = #[(.ref o0)] ∧ Z.Warmed39 U.vm ∧ U.heap = h0) (fun _ _ _ _ _ => True) (fun _ U o U' => ∃ v L, o = .returned v ∧ own_Q7 Z o0 w_o0_lowest w_o0_highest w_o0_needed h0 n0 v U'.heap L ∧ FrameEnd U o U' L ({ frames := 0, cells := 0, slots := 0, locals := 0 } : Room).cells ({ frames := 0, cells := 0, slots := 0, locals := 0 } : Room).slots) := by
  refine MetFree.of_bodySF (plainFor_of_name own_pn_rm7) hisR ?_
  intro p e s m args below meth c s₁ Bd hml0 hP hK
  obtain ⟨rfl, hZ, hh⟩ := hP
  have hx := Bd.exec
  have hby := Bd.bytes
  have hml : c.maxLocals = 1 := hml0
  have hown : s.vm.findClass "com/example/dawdling_reader/dawdlingreader/mqtt/Utf8" = some m.cls := findClass_of_methodNamed Bd.named
  have hnm := (name_of_methodNamed Bd.named Bd.method).1
  have X0 : Stand p l e ({ frames := 0, cells := 0, slots := 0, locals := 0 } : Room) s m #[(.ref o0)] below meth c s₁ [] 0 0 := Stand.of_body Bd
  have e0 : s₁.heap = h0 := by rw [← hh, Bd.state]; rfl
  have N0 := Fr.nil n0
  show own_End p e below s (own_Q7 Z o0 w_o0_lowest w_o0_highest w_o0_needed h0 n0) ({ frames := 0, cells := 0, slots := 0, locals := 0 } : Room).cells ({ frames := 0, cells := 0, slots := 0, locals := 0 } : Room).slots (s₁.setTop (entryFrame m #[(.ref o0)] 1))
  rw [own_ef_rm7]
  refine own_aloadN X0 hx (hb hby own_d7_0) rfl rfl (q := 1) rfl ?_
  obtain ⟨T139, X139, e139, st139⟩ := getF X0 hx hZ hown (host := "") (Or.inl (hw _ (List.mem_of_getElem? (i := 28) rfl))) Via.refl e0 F_o0_needed (g := (mkF m 1 #[.val (.ref o0)] [(.ref o0)])) rfl rfl (hb hby own_d7_1)
  refine own_back st139 ?_
  show own_End p e below s _ _ _ (T139.setTop (mkF m 4 #[.val (.ref o0)] [(.int w_o0_needed)]))
  by_cases hc4_140 : w_o0_needed = (0 : Int32)
  · refine own_ifN X139 hx (hb hby own_d7_4) (teq hc4_140).2 (q := 7) rfl ?_
    refine own_iconst X139 hx (hb hby own_d7_7) (z := 1) rfl (q := 8) rfl ?_
    refine own_goto X139 hx (hb hby own_d7_8) (q := 12) (by decide) (by decide) ?_
    refine own_retN X139 hx (t := .boolean) (by simp) Bd.returns Bd.notSynchronized (by decide) (by decide) (hb hby own_d7_12) ?_
    show own_Q7 Z o0 w_o0_lowest w_o0_highest w_o0_needed h0 n0 _ T139.heap _
    exact ⟨(by rw [show own_F7 w_o0_lowest w_o0_highest w_o0_needed = _ from (by simp only [own_F7, if_pos hc4_140] : _ = (1 : Int32))]; rfl), N0, e139⟩
  · refine own_ifY X139 hx (hb hby own_d7_4) (feq hc4_140).2 (q := 11) (by decide) (by decide) ?_
    refine own_iconst X139 hx (hb hby own_d7_11) (z := 0) rfl (q := 12) rfl ?_
    refine own_retN X139 hx (t := .boolean) (by simp) Bd.returns Bd.notSynchronized (by decide) (by decide) (hb hby own_d7_12) ?_
    show own_Q7 Z o0 w_o0_lowest w_o0_highest w_o0_needed h0 n0 _ T139.heap _
    exact ⟨(by rw [show own_F7 w_o0_lowest w_o0_highest w_o0_needed = _ from (by simp only [own_F7, if_neg hc4_140] : _ = (0 : Int32))]; rfl), N0, e139⟩
theorem own_d3_0 : decode method_5_code 0 = .ok (.iload_n 1, 1) := by decide +kernel
theorem own_d3_1 : decode method_5_code 1 = .ok (.iload_n 2, 1) := by decide +kernel
theorem own_d3_2 : decode method_5_code 2 = .ok (.invokestatic 17, 3) := by decide +kernel
theorem own_pd2 : parseMethodDescriptor "(II)I" = some ⟨[.int, .int], some .int⟩ := by decide +kernel
theorem own_d3_5 : decode method_5_code 5 = .ok (.istore_n 3, 1) := by decide +kernel
theorem own_d3_6 : decode method_5_code 6 = .ok (.aload_n 0, 1) := by decide +kernel
theorem own_d3_7 : decode method_5_code 7 = .ok (.iload_n 2, 1) := by decide +kernel
theorem own_d3_8 : decode method_5_code 8 = .ok (.invokevirtual 21, 3) := by decide +kernel
theorem own_pd3 : parseMethodDescriptor "(I)Z" = some ⟨[.int], some .boolean⟩ := by decide +kernel
theorem own_d3_11 : decode method_5_code 11 = .ok (.istore 4, 2) := by decide +kernel
theorem own_d3_13 : decode method_5_code 13 = .ok (.iload_n 3, 1) := by decide +kernel
theorem own_d3_14 : decode method_5_code 14 = .ok (.ifCond .ge 15, 3) := by decide +kernel
theorem own_d3_17 : decode method_5_code 17 = .ok (.iload 4, 2) := by decide +kernel
theorem own_d3_19 : decode method_5_code 19 = .ok (.ifCond .eq 8, 3) := by decide +kernel
theorem own_d3_27 : decode method_5_code 27 = .ok (.iconst (-1), 1) := by decide +kernel
theorem own_d3_28 : decode method_5_code 28 = .ok (.ireturn, 1) := by decide +kernel
theorem own_d3_22 : decode method_5_code 22 = .ok (.bipush (-2), 2) := by decide +kernel
theorem own_d3_24 : decode method_5_code 24 = .ok (.goto 4, 3) := by decide +kernel
theorem own_d3_29 : decode method_5_code 29 = .ok (.iload 4, 2) := by decide +kernel
theorem own_d3_31 : decode method_5_code 31 = .ok (.ifCond .ne 6, 3) := by decide +kernel
theorem own_d3_34 : decode method_5_code 34 = .ok (.bipush (-2), 2) := by decide +kernel
theorem own_d3_36 : decode method_5_code 36 = .ok (.ireturn, 1) := by decide +kernel
theorem own_d3_37 : decode method_5_code 37 = .ok (.aload_n 0, 1) := by decide +kernel
theorem own_d3_38 : decode method_5_code 38 = .ok (.invokevirtual 27, 3) := by decide +kernel
theorem own_pd4 : parseMethodDescriptor "()Z" = some ⟨[], some .boolean⟩ := by decide +kernel
theorem own_d3_41 : decode method_5_code 41 = .ok (.iload_n 3, 1) := by decide +kernel
theorem own_d3_42 : decode method_5_code 42 = .ok (.ifCond .ne 7, 3) := by decide +kernel
theorem own_d3_45 : decode method_5_code 45 = .ok (.iconst 1, 1) := by decide +kernel
theorem own_d3_46 : decode method_5_code 46 = .ok (.goto 4, 3) := by decide +kernel
theorem own_d3_50 : decode method_5_code 50 = .ok (.if_icmp .ne 7, 3) := by decide +kernel
theorem own_d3_53 : decode method_5_code 53 = .ok (.iload_n 3, 1) := by decide +kernel
theorem own_d3_54 : decode method_5_code 54 = .ok (.goto 5, 3) := by decide +kernel
theorem own_d3_59 : decode method_5_code 59 = .ok (.ireturn, 1) := by decide +kernel
theorem own_d3_57 : decode method_5_code 57 = .ok (.bipush (-2), 2) := by decide +kernel
theorem own_d3_49 : decode method_5_code 49 = .ok (.iconst 0, 1) := by decide +kernel
def own_F3 (p1 : Int32) (p2 : Int32) (w_o0_lowest : Int32) (w_o0_highest : Int32) (w_o0_needed : Int32) : Int32 := (if (own_F4 p1 p2) < (0 : Int32) then (if (own_F6 p2 w_o0_lowest w_o0_highest w_o0_needed) = (0 : Int32) then (-1 : Int32) else (-2 : Int32)) else (if (own_F6 p2 w_o0_lowest w_o0_highest w_o0_needed) = (0 : Int32) then (-2 : Int32) else (if (own_F4 p1 p2) = (0 : Int32) then (if (own_F7 (own_G6_lowest p2 w_o0_lowest w_o0_highest w_o0_needed) (own_G6_highest p2 w_o0_lowest w_o0_highest w_o0_needed) (own_G6_needed p2 w_o0_lowest w_o0_highest w_o0_needed)) = (1 : Int32) then (own_F4 p1 p2) else (-2 : Int32)) else (if (own_F7 (own_G6_lowest p2 w_o0_lowest w_o0_highest w_o0_needed) (own_G6_highest p2 w_o0_lowest w_o0_highest w_o0_needed) (own_G6_needed p2 w_o0_lowest w_o0_highest w_o0_needed)) = (0 : Int32) then (own_F4 p1 p2) else (-2 : Int32)))))
def own_Q3 (Z : State) (o0 : Addr) (p1 : Int32) (p2 : Int32) (w_o0_lowest : Int32) (w_o0_highest : Int32) (w_o0_needed : Int32) (h0 : Heap) (n0 : Nat) (v : Option Value) (h : Heap) (L : List Loc) : Prop := v = some (.int (own_F3 p1 p2 w_o0_lowest w_o0_highest w_o0_needed)) ∧ Fr n0 L ∧ Keep h0 h [o0] ∧ Exa Z h o0 "com/example/dawdling_reader/dawdlingreader/mqtt/Utf8" ∧ Fld Z h o0 "com/example/dawdling_reader/dawdlingreader/mqtt/Utf8" "lowest" "I" (.int (own_G6_lowest p2 w_o0_lowest w_o0_highest w_o0_needed)) ∧ Fld Z h o0 "com/example/dawdling_reader/dawdlingreader/mqtt/Utf8" "highest" "I" (.int (own_G6_highest p2 w_o0_lowest w_o0_highest w_o0_needed)) ∧ Fld Z h o0 "com/example/dawdling_reader/dawdlingreader/mqtt/Utf8" "needed" "I" (.int (own_G6_needed p2 w_o0_lowest w_o0_highest w_o0_needed))
theorem own_pn_rm3 : plainName "com/example/dawdling_reader/dawdlingreader/mqtt/Utf8AcceptPinLaw" = true := by first | (simp [plainName, overriddenIn]; done) | decide +kernel
theorem own_ef_rm3 (m : MethodId) (o0 : Addr) (p1 : Int32) (p2 : Int32) : entryFrame m #[(.ref o0), (.int p1), (.int p2)] 5 = mkF m 0 #[.val (.ref o0), .val (.int p1), .val (.int p2), .unset, .unset] [] := by first | (simp [entryFrame, mkF, argsToLocals, Value.category]; done) | rfl
set_option maxRecDepth 65536 in
set_option maxHeartbeats 40000000 in
theorem own_rm3 (l : Launch) (Z : State) (a0 : Array Value) (hw : ∀ d ∈ tables_1, d.before a0 Z = true) (ws : List Jvm.Cond) (o0 : Addr) (p1 : Int32) (p2 : Int32) (w_o0_lowest : Int32) (w_o0_highest : Int32) (w_o0_needed : Int32) (h0 : Heap) (n0 : Nat) (Z0 : n0 ≤ h0.size) (E_o0 : Exa Z h0 o0 "com/example/dawdling_reader/dawdlingreader/mqtt/Utf8") (F_o0_lowest : Fld Z h0 o0 "com/example/dawdling_reader/dawdlingreader/mqtt/Utf8" "lowest" "I" (.int w_o0_lowest)) (F_o0_highest : Fld Z h0 o0 "com/example/dawdling_reader/dawdlingreader/mqtt/Utf8" "highest" "I" (.int w_o0_highest)) (F_o0_needed : Fld Z h0 o0 "com/example/dawdling_reader/dawdlingreader/mqtt/Utf8" "needed" "I" (.int w_o0_needed)) (g_o0 : n0 ≤ o0) :
    MetFree l (⟨"com/example/dawdling_reader/dawdlingreader/mqtt/Utf8AcceptPinLaw", "step", "(Lcom/example/dawdling_reader/dawdlingreader/mqtt/Utf8;II)I"⟩ : MethodName) (head1 (Jvm.Cond.code (⟨"com/example/dawdling_reader/dawdlingreader/mqtt/Utf8AcceptPinLaw", "step", "(Lcom/example/dawdling_reader/dawdlingreader/mqtt/Utf8;II)I"⟩ : MethodName) method_5_code 5 (some .int) :: ws) ({ frames := 2, cells := 0, slots := 0, locals := 30 } : Room)) (fun a U => a = #[(.ref o0), (.int p1), (.int p2)] ∧ Z.Warmed39 U.vm ∧ U.heap = h0) (fun _ _ _ _ _ => True) (fun _ U o U' => ∃ v L, o = .returned v ∧ own_Q3 Z o0 p1 p2 w_o0_lowest w_o0_highest w_o0_needed h0 n0 v U'.heap L ∧ FrameEnd U o U' L ({ frames := 2, cells := 0, slots := 0, locals := 30 } : Room).cells ({ frames := 2, cells := 0, slots := 0, locals := 30 } : Room).slots) := by
  refine MetFree.of_bodySF (plainFor_of_name own_pn_rm3) hisR ?_
  intro p e s m args below meth c s₁ Bd hml0 hP hK
  obtain ⟨rfl, hZ, hh⟩ := hP
  have hx := Bd.exec
  have hby := Bd.bytes
  have hml : c.maxLocals = 5 := hml0
  have hown : s.vm.findClass "com/example/dawdling_reader/dawdlingreader/mqtt/Utf8AcceptPinLaw" = some m.cls := findClass_of_methodNamed Bd.named
  have hnm := (name_of_methodNamed Bd.named Bd.method).1
  have X0 : Stand p l e ({ frames := 2, cells := 0, slots := 0, locals := 30 } : Room) s m #[(.ref o0), (.int p1), (.int p2)] below meth c s₁ [] 0 0 := Stand.of_body Bd
  have e0 : s₁.heap = h0 := by rw [← hh, Bd.state]; rfl
  have N0 := Fr.nil n0
  show own_End p e below s (own_Q3 Z o0 p1 p2 w_o0_lowest w_o0_highest w_o0_needed h0 n0) ({ frames := 2, cells := 0, slots := 0, locals := 30 } : Room).cells ({ frames := 2, cells := 0, slots := 0, locals := 30 } : Room).slots (s₁.setTop (entryFrame m #[(.ref o0), (.int p1), (.int p2)] 5))
  rw [own_ef_rm3]
  refine own_iloadN X0 hx (hb hby own_d3_0) rfl (q := 1) rfl ?_
  refine own_iloadN X0 hx (hb hby own_d3_1) rfl (q := 2) rfl ?_
  obtain ⟨_, _, ⟨T143, L143, k143, n143⟩, -, X143, ⟨Lc143, hQ143, l143, y143, z143⟩, st143⟩ := Jvm.LawKit.callS X0 hx (y := (⟨"com/example/dawdling_reader/dawdlingreader/mqtt/Utf8AcceptPinLaw", "next", "(II)I"⟩ : MethodName)) hown (mvT hZ (hw _ (List.mem_of_getElem? (i := 17) rfl))) (mvT hZ (hw _ (List.mem_of_getElem? (i := 18) rfl))) (mvT hZ (hw _ (List.mem_of_getElem? (i := 15) rfl))) (mvT hZ (hw _ (List.mem_of_getElem? (i := 19) rfl))) (by decide) (backOf (W := 0) (own_rm4 l Z a0 hw [] p1 p2 h0 n0 Z0 ) hZ (hw _ (List.mem_of_getElem? (i := 19) rfl)) (hw _ (List.mem_of_getElem? (i := 15) rfl)) (by decide) (by decide)) (g := (mkF m 2 #[.val (.ref o0), .val (.int p1), .val (.int p2), .unset, .unset] [(.int p2), (.int p1)])) rfl (by rw [hml]; rfl) (argsL := [(.int p1), (.int p2)]) (rest := []) (lenOf own_pd2 rfl) rfl (by show 2 * 0 + _ ≤ _; exact Nat.le_of_eq rfl) (hb hby own_d3_2) (fun _ _ => ⟨rfl, e0, (by decide : 0 + 0 ≤ _), (by decide : 0 + 0 ≤ _)⟩)
  dsimp only [Pt.U, Pt.locs, Pt.cells, Pt.slots] at X143 l143 y143 z143 st143 hQ143
  subst l143 y143 z143
  obtain ⟨rfl, N143q, e143⟩ := hQ143
  have N143 := Fr.app N0 N143q
  refine own_back st143 ?_
  show own_End p e below s _ _ _ (T143.setTop (mkF m 5 #[.val (.ref o0), .val (.int p1), .val (.int p2), .unset, .unset] [(.int (own_F4 p1 p2))]))
  refine own_istoreN X143 hx (hb hby own_d3_5) (l' := #[.val (.ref o0), .val (.int p1), .val (.int p2), .val (.int (own_F4 p1 p2)), .unset]) rfl (q := 6) rfl ?_
  refine own_aloadN X143 hx (hb hby own_d3_6) rfl rfl (q := 7) rfl ?_
  refine own_iloadN X143 hx (hb hby own_d3_7) rfl (q := 8) rfl ?_
  obtain ⟨cq144, kq144, q144a, q144b, q144c⟩ := isOf hZ e143 E_o0
  obtain ⟨_, _, ⟨T144, L144, k144, n144⟩, -, X144, ⟨Lc144, hQ144, l144, y144, z144⟩, st144⟩ := X143.virtualBack hx (y := (⟨"com/example/dawdling_reader/dawdlingreader/mqtt/Utf8", "accept", "(I)Z"⟩ : MethodName)) (z := (⟨"com/example/dawdling_reader/dawdlingreader/mqtt/Utf8", "accept", "(I)Z"⟩ : MethodName)) hown (mvT hZ (hw _ (List.mem_of_getElem? (i := 23) rfl))) (mvT hZ (hw _ (List.mem_of_getElem? (i := 24) rfl))) (notFace_of_selects (args := #[]) (mvT hZ (hw _ (List.mem_of_getElem? (i := 26) rfl)))) (mvT hZ (hw _ (List.mem_of_getElem? (i := 26) rfl))) (mvT hZ (hw _ (List.mem_of_getElem? (i := 25) rfl))) (by decide) (backOf (W := 0) (own_rm6 l Z a0 hw [] o0 p2 w_o0_lowest w_o0_highest w_o0_needed h0 n0 Z0 E_o0 F_o0_lowest F_o0_highest F_o0_needed g_o0) hZ (hw _ (List.mem_of_getElem? (i := 27) rfl)) (hw _ (List.mem_of_getElem? (i := 2) rfl)) (by decide) (by decide)) q144a q144c (g := (mkF m 8 #[.val (.ref o0), .val (.int p1), .val (.int p2), .val (.int (own_F4 p1 p2)), .unset] [(.int p2), (.ref o0)])) rfl (by rw [hml]; rfl) (Steps.refl _) (argsL := [(.int p2)]) (rest := []) (lenOf own_pd3 rfl) rfl (by show 2 * 0 + _ ≤ _; exact Nat.le_of_eq rfl) (hb hby own_d3_8) (fun _ _ => ⟨rfl, e143, (by decide : 0 + 0 ≤ _), (by decide : 0 + 0 ≤ _)⟩)
  dsimp only [Pt.U, Pt.locs, Pt.cells, Pt.slots] at X144 l144 y144 z144 st144 hQ144
  subst l144 y144 z144
  obtain ⟨rfl, N144q, K144, Q144_0, Q144_1, Q144_2, Q144_3⟩ := hQ144
  have N144 := Fr.app N143 N144q
  have E_o0_145 := E_o0.keep K144
  have Kp146 : Keep h0 _ [o0] := (Keep.refl h0 [o0]).trans K144 (allS (Or.inl (List.mem_of_getElem? (i := 0) rfl)) all0)
  have Z147 := Nat.le_trans Z0 K144.1
  refine own_via st144 ?_
  show own_End p e below s _ _ _ (T144.setTop (mkF m 11 #[.val (.ref o0), .val (.int p1), .val (.int p2), .val (.int (own_F4 p1 p2)), .unset] [(.int (own_F6 p2 w_o0_lowest w_o0_highest w_o0_needed))]))
  refine own_istore X144 hx (hb hby own_d3_11) (l' := #[.val (.ref o0), .val (.int p1), .val (.int p2), .val (.int (own_F4 p1 p2)), .val (.int (own_F6 p2 w_o0_lowest w_o0_highest w_o0_needed))]) rfl (q := 13) rfl ?_
  refine own_iloadN X144 hx (hb hby own_d3_13) rfl (q := 14) rfl ?_
  by_cases hc14_148 : (own_F4 p1 p2) < (0 : Int32)
  · refine own_ifN X144 hx (hb hby own_d3_14) (tlt hc14_148).2.1 (q := 17) rfl ?_
    refine own_iload X144 hx (hb hby own_d3_17) rfl (q := 19) rfl ?_
    by_cases hc19_149 : (own_F6 p2 w_o0_lowest w_o0_highest w_o0_needed) = (0 : Int32)
    · refine own_ifY X144 hx (hb hby own_d3_19) (teq hc19_149).1 (q := 27) (by decide) (by decide) ?_
      refine own_iconst X144 hx (hb hby own_d3_27) (z := -1) rfl (q := 28) rfl ?_
      refine own_retI X144 hx Bd.returns Bd.notSynchronized (by decide) (by decide) (hb hby own_d3_28) ?_
      show own_Q3 Z o0 p1 p2 w_o0_lowest w_o0_highest w_o0_needed h0 n0 _ T144.heap _
      exact ⟨(by simp only [own_F3, if_pos hc14_148, if_pos hc19_149]), N144, Kp146, Q144_0, Q144_1, Q144_2, Q144_3⟩
    · refine own_ifN X144 hx (hb hby own_d3_19) (feq hc19_149).1 (q := 22) rfl ?_
      refine own_bipush X144 hx (hb hby own_d3_22) (z := -2) rfl (q := 24) rfl ?_
      refine own_goto X144 hx (hb hby own_d3_24) (q := 28) (by decide) (by decide) ?_
      refine own_retI X144 hx Bd.returns Bd.notSynchronized (by decide) (by decide) (hb hby own_d3_28) ?_
      show own_Q3 Z o0 p1 p2 w_o0_lowest w_o0_highest w_o0_needed h0 n0 _ T144.heap _
      exact ⟨(by simp only [own_F3, if_pos hc14_148, if_neg hc19_149]), N144, Kp146, Q144_0, Q144_1, Q144_2, Q144_3⟩
  · refine own_ifY X144 hx (hb hby own_d3_14) (flt hc14_148).2.1 (q := 29) (by decide) (by decide) ?_
    refine own_iload X144 hx (hb hby own_d3_29) rfl (q := 31) rfl ?_
    by_cases hc31_152 : (own_F6 p2 w_o0_lowest w_o0_highest w_o0_needed) = (0 : Int32)
    · refine own_ifN X144 hx (hb hby own_d3_31) (teq hc31_152).2 (q := 34) rfl ?_
      refine own_bipush X144 hx (hb hby own_d3_34) (z := -2) rfl (q := 36) rfl ?_
      refine own_retI X144 hx Bd.returns Bd.notSynchronized (by decide) (by decide) (hb hby own_d3_36) ?_
      show own_Q3 Z o0 p1 p2 w_o0_lowest w_o0_highest w_o0_needed h0 n0 _ T144.heap _
      exact ⟨(by simp only [own_F3, if_neg hc14_148, if_pos hc31_152]), N144, Kp146, Q144_0, Q144_1, Q144_2, Q144_3⟩
    · refine own_ifY X144 hx (hb hby own_d3_31) (feq hc31_152).2 (q := 37) (by decide) (by decide) ?_
      refine own_aloadN X144 hx (hb hby own_d3_37) rfl rfl (q := 38) rfl ?_
      obtain ⟨cq154, kq154, q154a, q154b, q154c⟩ := isOf hZ rfl Q144_0
      obtain ⟨_, _, ⟨T154, L154, k154, n154⟩, -, X154, ⟨Lc154, hQ154, l154, y154, z154⟩, st154⟩ := X144.virtualBack hx (y := (⟨"com/example/dawdling_reader/dawdlingreader/mqtt/Utf8", "atCharacterEnd", "()Z"⟩ : MethodName)) (z := (⟨"com/example/dawdling_reader/dawdlingreader/mqtt/Utf8", "atCharacterEnd", "()Z"⟩ : MethodName)) hown (mvT hZ (hw _ (List.mem_of_getElem? (i := 30) rfl))) (mvT hZ (hw _ (List.mem_of_getElem? (i := 31) rfl))) (notFace_of_selects (args := #[]) (mvT hZ (hw _ (List.mem_of_getElem? (i := 33) rfl)))) (mvT hZ (hw _ (List.mem_of_getElem? (i := 33) rfl))) (mvT hZ (hw _ (List.mem_of_getElem? (i := 32) rfl))) (by decide) (backOf (W := 0) (own_rm7 l Z a0 hw [] o0 (own_G6_lowest p2 w_o0_lowest w_o0_highest w_o0_needed) (own_G6_highest p2 w_o0_lowest w_o0_highest w_o0_needed) (own_G6_needed p2 w_o0_lowest w_o0_highest w_o0_needed) T144.heap n0 Z147 Q144_0 Q144_1 Q144_2 Q144_3) hZ (hw _ (List.mem_of_getElem? (i := 34) rfl)) (hw _ (List.mem_of_getElem? (i := 2) rfl)) (by decide) (by decide)) q154a q154c (g := (mkF m 38 #[.val (.ref o0), .val (.int p1), .val (.int p2), .val (.int (own_F4 p1 p2)), .val (.int (own_F6 p2 w_o0_lowest w_o0_highest w_o0_needed))] [(.ref o0)])) rfl (by rw [hml]; rfl) (Steps.refl _) (argsL := []) (rest := []) (lenOf own_pd4 rfl) rfl (by show 2 * 0 + _ ≤ _; exact Nat.le_of_eq rfl) (hb hby own_d3_38) (fun _ _ => ⟨rfl, rfl, (by decide : 0 + 0 ≤ _), (by decide : 0 + 0 ≤ _)⟩)
      dsimp only [Pt.U, Pt.locs, Pt.cells, Pt.slots] at X154 l154 y154 z154 st154 hQ154
      subst l154 y154 z154
      obtain ⟨rfl, N154q, e154⟩ := hQ154
      have N154 := Fr.app N144 N154q
      refine own_via st154 ?_
      show own_End p e below s _ _ _ (T154.setTop (mkF m 41 #[.val (.ref o0), .val (.int p1), .val (.int p2), .val (.int (own_F4 p1 p2)), .val (.int (own_F6 p2 w_o0_lowest w_o0_highest w_o0_needed))] [(.int (own_F7 (own_G6_lowest p2 w_o0_lowest w_o0_highest w_o0_needed) (own_G6_highest p2 w_o0_lowest w_o0_highest w_o0_needed) (own_G6_needed p2 w_o0_lowest w_o0_highest w_o0_needed)))]))
      refine own_iloadN X154 hx (hb hby own_d3_41) rfl (q := 42) rfl ?_
      by_cases hc42_155 : (own_F4 p1 p2) = (0 : Int32)
      · refine own_ifN X154 hx (hb hby own_d3_42) (teq hc42_155).2 (q := 45) rfl ?_
        refine own_iconst X154 hx (hb hby own_d3_45) (z := 1) rfl (q := 46) rfl ?_
        refine own_goto X154 hx (hb hby own_d3_46) (q := 50) (by decide) (by decide) ?_
        by_cases hc50_156 : (own_F7 (own_G6_lowest p2 w_o0_lowest w_o0_highest w_o0_needed) (own_G6_highest p2 w_o0_lowest w_o0_highest w_o0_needed) (own_G6_needed p2 w_o0_lowest w_o0_highest w_o0_needed)) = (1 : Int32)
        · refine own_icN X154 hx (hb hby own_d3_50) (teq hc50_156).2 (q := 53) rfl ?_
          refine own_iloadN X154 hx (hb hby own_d3_53) rfl (q := 54) rfl ?_
          refine own_goto X154 hx (hb hby own_d3_54) (q := 59) (by decide) (by decide) ?_
          refine own_retI X154 hx Bd.returns Bd.notSynchronized (by decide) (by decide) (hb hby own_d3_59) ?_
          show own_Q3 Z o0 p1 p2 w_o0_lowest w_o0_highest w_o0_needed h0 n0 _ T154.heap _
          rw [e154]
          exact ⟨(by simp only [own_F3, if_neg hc14_148, if_neg hc31_152, if_pos hc42_155, if_pos hc50_156]), N154, Kp146, Q144_0, Q144_1, Q144_2, Q144_3⟩
        · refine own_icY X154 hx (hb hby own_d3_50) (feq hc50_156).2 (q := 57) (by decide) (by decide) ?_
          refine own_bipush X154 hx (hb hby own_d3_57) (z := -2) rfl (q := 59) rfl ?_
          refine own_retI X154 hx Bd.returns Bd.notSynchronized (by decide) (by decide) (hb hby own_d3_59) ?_
          show own_Q3 Z o0 p1 p2 w_o0_lowest w_o0_highest w_o0_needed h0 n0 _ T154.heap _
          rw [e154]
          exact ⟨(by simp only [own_F3, if_neg hc14_148, if_neg hc31_152, if_pos hc42_155, if_neg hc50_156]), N154, Kp146, Q144_0, Q144_1, Q144_2, Q144_3⟩
      · refine own_ifY X154 hx (hb hby own_d3_42) (feq hc42_155).2 (q := 49) (by decide) (by decide) ?_
        refine own_iconst X154 hx (hb hby own_d3_49) (z := 0) rfl (q := 50) rfl ?_
        by_cases hc50_159 : (own_F7 (own_G6_lowest p2 w_o0_lowest w_o0_highest w_o0_needed) (own_G6_highest p2 w_o0_lowest w_o0_highest w_o0_needed) (own_G6_needed p2 w_o0_lowest w_o0_highest w_o0_needed)) = (0 : Int32)
        · refine own_icN X154 hx (hb hby own_d3_50) (teq hc50_159).2 (q := 53) rfl ?_
          refine own_iloadN X154 hx (hb hby own_d3_53) rfl (q := 54) rfl ?_
          refine own_goto X154 hx (hb hby own_d3_54) (q := 59) (by decide) (by decide) ?_
          refine own_retI X154 hx Bd.returns Bd.notSynchronized (by decide) (by decide) (hb hby own_d3_59) ?_
          show own_Q3 Z o0 p1 p2 w_o0_lowest w_o0_highest w_o0_needed h0 n0 _ T154.heap _
          rw [e154]
          exact ⟨(by simp only [own_F3, if_neg hc14_148, if_neg hc31_152, if_neg hc42_155, if_pos hc50_159]), N154, Kp146, Q144_0, Q144_1, Q144_2, Q144_3⟩
        · refine own_icY X154 hx (hb hby own_d3_50) (feq hc50_159).2 (q := 57) (by decide) (by decide) ?_
          refine own_bipush X154 hx (hb hby own_d3_57) (z := -2) rfl (q := 59) rfl ?_
          refine own_retI X154 hx Bd.returns Bd.notSynchronized (by decide) (by decide) (hb hby own_d3_59) ?_
          show own_Q3 Z o0 p1 p2 w_o0_lowest w_o0_highest w_o0_needed h0 n0 _ T154.heap _
          rw [e154]
          exact ⟨(by simp only [own_F3, if_neg hc14_148, if_neg hc31_152, if_neg hc42_155, if_neg hc50_159]), N154, Kp146, Q144_0, Q144_1, Q144_2, Q144_3⟩
def own_S (lead k len : Int32) : Int32 := (lead ||| (k <<< ((8 : Int32) &&& 31))) ||| (len <<< ((12 : Int32) &&& 31))
def own_Pk (lead k : Int32) : Bool := decide ((own_S lead k (own_F5 lead) &&& 255) = lead) && decide (((own_S lead k (own_F5 lead) >>> ((8 : Int32) &&& 31)) &&& 15) = k) && decide (((own_S lead k (own_F5 lead) >>> ((12 : Int32) &&& 31)) &&& 15) = own_F5 lead) && decide (0 < own_S lead k (own_F5 lead))
theorem own_bits : ∀ n : Fin 51, own_Pk (Int32.ofNat (194 + n.val)) 1 = true ∧ own_Pk (Int32.ofNat (194 + n.val)) 2 = true ∧ own_Pk (Int32.ofNat (194 + n.val)) 3 = true := by decide +kernel
theorem own_bits' (lead k : Int32) (h1 : 194 ≤ lead.toInt) (h2 : lead.toInt ≤ 244) (hk : k = 1 ∨ k = 2 ∨ k = 3) :
    (own_S lead k (own_F5 lead) &&& 255) = lead ∧ ((own_S lead k (own_F5 lead) >>> ((8 : Int32) &&& 31)) &&& 15) = k ∧ ((own_S lead k (own_F5 lead) >>> ((12 : Int32) &&& 31)) &&& 15) = own_F5 lead ∧ 0 < own_S lead k (own_F5 lead) := by
  have e : lead = Int32.ofNat (194 + (lead.toInt - 194).toNat) := by
    apply Int32.toInt_inj.mp
    rw [Int32.toInt_ofNat_of_lt (by omega)]; omega
  have b := own_bits ⟨(lead.toInt - 194).toNat, by omega⟩
  simp only [← e] at b
  have c : own_Pk lead k = true := by rcases hk with rfl | rfl | rfl <;> simp only [b]
  simp only [own_Pk, Bool.and_eq_true, decide_eq_true_eq] at c
  exact ⟨c.1.1.1, c.1.1.2, c.1.2, c.2⟩
/-- what the object holds where the law's own machine stands at s -/
def own_Inv (s lo hi n : Int32) : Prop := (s = 0 ∧ lo = 128 ∧ hi = 191 ∧ n = 0) ∨
  ∃ lead k : Int32, 194 ≤ lead.toInt ∧ lead.toInt ≤ 244 ∧ (k = 1 ∨ k = 2 ∨ k = 3) ∧ k.toInt < (own_F5 lead).toInt ∧ s = own_S lead k (own_F5 lead) ∧ n = own_F5 lead - k ∧ ((k = 1 ∧ lo = own_M6_64 lead ∧ hi = own_M6_97 lead) ∨ (k ≠ 1 ∧ lo = 128 ∧ hi = 191))
theorem own_f5 (x : Int32) (h1 : 194 ≤ x.toInt) (h2 : x.toInt ≤ 244) : own_F5 x = own_M6_37 x + 1 ∧ (own_F5 x = 2 ∨ own_F5 x = 3 ∨ own_F5 x = 4) := by
  have e : x = Int32.ofNat (194 + (x.toInt - 194).toNat) := by
    apply Int32.toInt_inj.mp
    rw [Int32.toInt_ofNat_of_lt (by omega)]; omega
  have b := (by decide +kernel : ∀ n : Fin 51, own_F5 (Int32.ofNat (194 + n.val)) = own_M6_37 (Int32.ofNat (194 + n.val)) + 1 ∧ (own_F5 (Int32.ofNat (194 + n.val)) = 2 ∨ own_F5 (Int32.ofNat (194 + n.val)) = 3 ∨ own_F5 (Int32.ofNat (194 + n.val)) = 4)) ⟨(x.toInt - 194).toNat, by omega⟩
  simp only [← e] at b
  exact b
theorem own_lt (x n : Int32) (z : Int) (hz : n.toInt = z) : (x < n) ↔ x.toInt < z := by rw [Int32.lt_iff_toInt_lt, hz]
theorem own_gt (x n : Int32) (z : Int) (hz : n.toInt = z) : (n < x) ↔ z < x.toInt := by rw [Int32.lt_iff_toInt_lt, hz]
/-- the reference's second-byte rule is the object's range -/
theorem own_cont (lead k b lo hi n : Int32) (hn : ¬ n = 0) (h : (k = 1 ∧ lo = own_M6_64 lead ∧ hi = own_M6_97 lead) ∨ (k ≠ 1 ∧ lo = 128 ∧ hi = 191)) : own_F8 lead k b = own_F6 b lo hi n := by
  have l128 := own_lt b 128 128 (by decide)
  have l160 := own_lt b 160 160 (by decide)
  have l144 := own_lt b 144 144 (by decide)
  have g191 := own_gt b 191 191 (by decide)
  have g159 := own_gt b 159 159 (by decide)
  have g143 := own_gt b 143 143 (by decide)
  rw [own_F6, if_neg hn, own_F8]
  rcases h with ⟨rfl, rfl, rfl⟩ | ⟨hk, rfl, rfl⟩
  · rw [own_M6_64, own_M6_77, own_M6_97, own_M6_110]
    by_cases q1 : lead = 224
    · rw [if_pos q1, if_neg (show ¬ lead = 237 by rw [q1]; decide), if_neg (show ¬ lead = 244 by rw [q1]; decide), if_pos rfl, if_pos q1]
      by_cases a : b < 128
      · rw [if_pos a, if_pos (l160.mpr (by have := l128.mp a; omega))]
      · rw [if_neg a]; by_cases d : b < 160
        · rw [if_pos d, if_pos d]; split <;> rfl
        · rw [if_neg d, if_neg d]
    · by_cases q2 : lead = 237
      · rw [if_neg q1, if_pos q2, if_neg (show ¬ lead = 240 by rw [q2]; decide), if_pos rfl, if_neg q1, if_pos q2]
        by_cases a : b < 128
        · rw [if_pos a, if_pos a]
        · rw [if_neg a, if_neg a]; by_cases c : 191 < b
          · rw [if_pos c, if_pos (g159.mpr (by have := g191.mp c; omega))]
          · rw [if_neg c]
      · by_cases q3 : lead = 240
        · rw [if_neg q1, if_neg q2, if_pos q3, if_neg (show ¬ lead = 244 by rw [q3]; decide), if_pos rfl, if_neg q1, if_neg q2, if_pos q3]
          by_cases a : b < 128
          · rw [if_pos a, if_pos (l144.mpr (by have := l128.mp a; omega))]
          · rw [if_neg a]; by_cases d : b < 144
            · rw [if_pos d, if_pos d]; split <;> rfl
            · rw [if_neg d, if_neg d]
        · by_cases q4 : lead = 244
          · rw [if_neg q1, if_neg q2, if_neg q3, if_pos q4, if_pos rfl, if_neg q1, if_neg q2, if_neg q3, if_pos q4]
            by_cases a : b < 128
            · rw [if_pos a, if_pos a]
            · rw [if_neg a, if_neg a]; by_cases c : 191 < b
              · rw [if_pos c, if_pos (g143.mpr (by have := g191.mp c; omega))]
              · rw [if_neg c]
          · rw [if_neg q1, if_neg q2, if_neg q3, if_neg q4, if_pos rfl, if_neg q1, if_neg q2, if_neg q3, if_neg q4]
  · rw [if_neg hk]
theorem own_first (b : Int32) (h1 : 0 ≤ b.toInt) (h2 : b.toInt ≤ 255) : own_F3 0 b 128 191 0 = -1 ∨ (0 ≤ (own_F3 0 b 128 191 0).toInt ∧ own_Inv (own_F3 0 b 128 191 0) (own_G6_lowest b 128 191 0) (own_G6_highest b 128 191 0) (own_G6_needed b 128 191 0)) := by
  have l128 := own_lt b 128 128 (by decide)
  have l194 := own_lt b 194 194 (by decide)
  have g244 := own_gt b 244 244 (by decide)
  by_cases a : b < 128
  · have f5 : own_F5 b = 1 := by rw [own_F5, if_pos a]
    have f4 : own_F4 0 b = 0 := by rw [own_F4, if_pos rfl, f5, if_neg (by decide), if_pos rfl]
    have f6 : own_F6 b 128 191 0 = 1 := by rw [own_F6, if_pos rfl, if_pos a]
    have g1 : own_G6_lowest b 128 191 0 = 128 := by rw [own_G6_lowest, if_pos rfl, if_pos a]
    have g2 : own_G6_highest b 128 191 0 = 191 := by rw [own_G6_highest, if_pos rfl, if_pos a]
    have g3 : own_G6_needed b 128 191 0 = 0 := by rw [own_G6_needed, if_pos rfl, if_pos a]
    have f3 : own_F3 0 b 128 191 0 = 0 := by rw [own_F3, f4, f6, g1, g2, g3]; decide
    rw [f3, g1, g2, g3]
    exact Or.inr ⟨by decide, Or.inl ⟨rfl, rfl, rfl, rfl⟩⟩
  · by_cases c : b < 194
    · have f5 : own_F5 b = 0 := by rw [own_F5, if_neg a, if_pos c]
      have f4 : own_F4 0 b = -1 := by rw [own_F4, if_pos rfl, f5, if_pos rfl]
      have f6 : own_F6 b 128 191 0 = 0 := by rw [own_F6, if_pos rfl, if_neg a, if_pos c]
      left; rw [own_F3, f4, f6, if_pos (by decide), if_pos rfl]
    · by_cases d : 244 < b
      · have f5 : own_F5 b = 0 := by
          rw [own_F5, if_neg a, if_neg c, if_neg, if_neg, if_neg]
          all_goals (rw [Int32.lt_iff_toInt_lt]; have := g244.mp d; show ¬ b.toInt < _; simp only [show (224 : Int32).toInt = 224 from by decide, show (240 : Int32).toInt = 240 from by decide, show (245 : Int32).toInt = 245 from by decide]; omega)
        have f4 : own_F4 0 b = -1 := by rw [own_F4, if_pos rfl, f5, if_pos rfl]
        have f6 : own_F6 b 128 191 0 = 0 := by rw [own_F6, if_pos rfl, if_neg a, if_neg c, if_pos d]
        left; rw [own_F3, f4, f6, if_pos (by decide), if_pos rfl]
      · have r1 : 194 ≤ b.toInt := by rw [l194] at c; omega
        have r2 : b.toInt ≤ 244 := by rw [g244] at d; omega
        obtain ⟨m1, m2⟩ := own_f5 b r1 r2
        obtain ⟨-, -, -, pos⟩ := own_bits' b 1 r1 r2 (Or.inl rfl)
        have n0 : ¬ own_F5 b = 0 := by rcases m2 with q | q | q <;> rw [q] <;> decide
        have n1 : ¬ own_F5 b = 1 := by rcases m2 with q | q | q <;> rw [q] <;> decide
        have f4 : own_F4 0 b = own_S b 1 (own_F5 b) := by
          rw [own_F4, if_pos rfl, if_neg n0, if_neg n1, own_S]
          rfl
        have f6 : own_F6 b 128 191 0 = 1 := by rw [own_F6, if_pos rfl, if_neg a, if_neg c, if_neg d]
        have g1 : own_G6_lowest b 128 191 0 = own_M6_64 b := by rw [own_G6_lowest, if_pos rfl, if_neg a, if_neg c, if_neg d]
        have g2 : own_G6_highest b 128 191 0 = own_M6_97 b := by rw [own_G6_highest, if_pos rfl, if_neg a, if_neg c, if_neg d]
        have g3 : own_G6_needed b 128 191 0 = own_M6_37 b := by rw [own_G6_needed, if_pos rfl, if_neg a, if_neg c, if_neg d]
        have m3 : own_M6_37 b = own_F5 b - 1 := by rw [m1, Int32.add_sub_cancel]
        have m4 : ¬ own_F5 b - 1 = 0 := by rcases m2 with q | q | q <;> rw [q] <;> decide
        have f7 : own_F7 (own_M6_64 b) (own_M6_97 b) (own_F5 b - 1) = 0 := by rw [own_F7, if_neg m4]
        have p1 : ¬ own_S b 1 (own_F5 b) < 0 := Int32.lt_asymm pos
        have p2 : ¬ own_S b 1 (own_F5 b) = 0 := fun q => by rw [q] at pos; exact absurd pos (by decide)
        have f3 : own_F3 0 b 128 191 0 = own_S b 1 (own_F5 b) := by
          rw [own_F3, f4, f6, g1, g2, g3, m3, f7, if_neg p1, if_neg (by decide), if_neg p2, if_pos rfl]
        rw [f3, g1, g2, g3, m3]
        refine Or.inr ⟨?_, Or.inr ⟨b, 1, r1, r2, Or.inl rfl, ?_, rfl, rfl, Or.inl ⟨rfl, rfl, rfl⟩⟩⟩
        · rw [Int32.lt_iff_toInt_lt] at pos; have : (0 : Int32).toInt = 0 := by decide
          omega
        · rcases m2 with q | q | q <;> rw [q] <;> decide
theorem own_next (s b lo hi n : Int32) (h1 : 0 ≤ b.toInt) (h2 : b.toInt ≤ 255) (I : own_Inv s lo hi n) : own_F3 s b lo hi n = -1 ∨ (0 ≤ (own_F3 s b lo hi n).toInt ∧ own_Inv (own_F3 s b lo hi n) (own_G6_lowest b lo hi n) (own_G6_highest b lo hi n) (own_G6_needed b lo hi n)) := by
  rcases I with ⟨rfl, rfl, rfl, rfl⟩ | ⟨lead, k, r1, r2, hk, kl, rfl, rfl, hr⟩
  · exact own_first b h1 h2
  · obtain ⟨b1, b2, b3, pos⟩ := own_bits' lead k r1 r2 hk
    obtain ⟨-, m2⟩ := own_f5 lead r1 r2
    have p2 : ¬ own_S lead k (own_F5 lead) = 0 := fun q => by rw [q] at pos; exact absurd pos (by decide)
    have nz : ¬ own_F5 lead - k = 0 := by
      rcases m2 with q | q | q <;> rcases hk with rfl | rfl | rfl <;> rw [q] at kl ⊢ <;> first | decide | exact absurd kl (by decide)
    have f8 := own_cont lead k b lo hi (own_F5 lead - k) nz hr
    have f4 : own_F4 (own_S lead k (own_F5 lead)) b = (if own_F6 b lo hi (own_F5 lead - k) = 0 then -1 else if k + 1 = own_F5 lead then 0 else own_S lead (k + 1) (own_F5 lead)) := by
      rw [own_F4, if_neg p2, b1, b2, b3, f8, own_S]
    by_cases a : own_F6 b lo hi (own_F5 lead - k) = 0
    · left; rw [own_F3, f4, a, if_pos rfl, if_pos (by decide), if_pos rfl]
    · right
      have c1 : ¬ b < lo := fun q => a (by rw [own_F6, if_neg nz, if_pos q])
      have c2 : ¬ hi < b := fun q => a (by rw [own_F6, if_neg nz, if_neg c1, if_pos q])
      have g1 : own_G6_lowest b lo hi (own_F5 lead - k) = 128 := by rw [own_G6_lowest, if_neg nz, if_neg c1, if_neg c2]
      have g2 : own_G6_highest b lo hi (own_F5 lead - k) = 191 := by rw [own_G6_highest, if_neg nz, if_neg c1, if_neg c2]
      have g3 : own_G6_needed b lo hi (own_F5 lead - k) = own_F5 lead - k - 1 := by rw [own_G6_needed, if_neg nz, if_neg c1, if_neg c2]
      rw [if_neg a] at f4
      by_cases d : k + 1 = own_F5 lead
      · rw [if_pos d] at f4
        have z : own_F5 lead - k - 1 = 0 := by rw [← d]; rcases hk with rfl | rfl | rfl <;> decide
        have f3 : own_F3 (own_S lead k (own_F5 lead)) b lo hi (own_F5 lead - k) = 0 := by
          rw [own_F3, f4, g1, g2, g3, z, if_neg (by decide), if_neg a]; decide
        rw [f3, g1, g2, g3, z]
        exact ⟨by decide, Or.inl ⟨rfl, rfl, rfl, rfl⟩⟩
      · rw [if_neg d] at f4
        have hk' : k + 1 = 1 ∨ k + 1 = 2 ∨ k + 1 = 3 := by
          rcases hk with rfl | rfl | rfl
          · exact Or.inr (Or.inl rfl)
          · exact Or.inr (Or.inr rfl)
          · exfalso; rcases m2 with q | q | q <;> rw [q] at kl d
            · exact absurd kl (by decide)
            · exact absurd kl (by decide)
            · exact d rfl
        obtain ⟨-, -, -, pos'⟩ := own_bits' lead (k + 1) r1 r2 hk'
        have q1 : ¬ own_S lead (k + 1) (own_F5 lead) < 0 := Int32.lt_asymm pos'
        have q2 : ¬ own_S lead (k + 1) (own_F5 lead) = 0 := fun q => by rw [q] at pos'; exact absurd pos' (by decide)
        have e : own_F5 lead - k - 1 = own_F5 lead - (k + 1) := by
          rcases m2 with q | q | q <;> rcases hk with rfl | rfl | rfl <;> rw [q] <;> decide
        have kl' : (k + 1).toInt < (own_F5 lead).toInt := by
          rcases m2 with q | q | q <;> rcases hk with rfl | rfl | rfl <;> rw [q] at kl d ⊢ <;> first | decide | exact absurd kl (by decide) | exact absurd rfl d
        have nz' : ¬ own_F5 lead - (k + 1) = 0 := by
          rcases m2 with q | q | q <;> rcases hk with rfl | rfl | rfl <;> rw [q] at kl' ⊢ <;> first | decide | exact absurd kl' (by decide)
        have f7 : own_F7 128 191 (own_F5 lead - (k + 1)) = 0 := by rw [own_F7, if_neg nz']
        have f3 : own_F3 (own_S lead k (own_F5 lead)) b lo hi (own_F5 lead - k) = own_S lead (k + 1) (own_F5 lead) := by
          rw [own_F3, f4, g1, g2, g3, e, f7, if_neg q1, if_neg a, if_neg q2, if_pos rfl]
        rw [f3, g1, g2, g3, e]
        refine ⟨?_, Or.inr ⟨lead, k + 1, r1, r2, hk', kl', rfl, rfl, Or.inr ⟨?_, rfl, rfl⟩⟩⟩
        · rw [Int32.lt_iff_toInt_lt] at pos'; have : (0 : Int32).toInt = 0 := by decide
          omega
        · rcases hk with rfl | rfl | rfl <;> decide
theorem own_byte (x : Int32) : 0 ≤ (x &&& 255).toInt ∧ (x &&& 255).toInt ≤ 255 := by
  have e1 : (x &&& 255).toInt = x.toInt % 2 ^ 8 := Jvm.Kit.i32_mask x 255 (k := 8) (by decide) (by decide)
  omega
theorem own_isneg {v : Int32} {P : Prop} (h : v = -1 ∨ (0 ≤ v.toInt ∧ P)) (q : v < 0) : v = -1 := by
  rcases h with h | h
  · exact h
  · rw [Int32.lt_iff_toInt_lt] at q
    have : (0 : Int32).toInt = 0 := by decide
    omega
theorem own_isok {v : Int32} {P : Prop} (h : v = -1 ∨ (0 ≤ v.toInt ∧ P)) (q : ¬ v < 0) : P := by
  rcases h with h | h
  · exact absurd (show v < 0 by rw [h]; decide) q
  · exact h.2
theorem own_pd5 : parseMethodDescriptor "()V" = some ⟨[], none⟩ := by decide +kernel
theorem own_pd6 : parseMethodDescriptor "(Lcom/example/dawdling_reader/dawdlingreader/mqtt/Utf8;II)I" = some ⟨[(.object "com/example/dawdling_reader/dawdlingreader/mqtt/Utf8"), .int, .int], some .int⟩ := by decide +kernel
def own_Q0 (Z : State) (p0 : Int32) (p1 : Int32) (p2 : Int32) (p3 : Int32) (p4 : Int32) (h0 : Heap) (n0 : Nat) (v : Option Value) (h : Heap) (L : List Loc) : Prop := v = some (.int (1 : Int32)) ∧ Fr n0 L
theorem own_pn_rm0 : plainName "com/example/dawdling_reader/dawdlingreader/mqtt/Utf8AcceptPinLaw" = true := by first | (simp [plainName, overriddenIn]; done) | decide +kernel
theorem own_ef_rm0 (m : MethodId) (p0 : Int32) (p1 : Int32) (p2 : Int32) (p3 : Int32) (p4 : Int32) : entryFrame m #[(.int p0), (.int p1), (.int p2), (.int p3), (.int p4)] maxLocals = mkF m 0 #[.val (.int p0), .val (.int p1), .val (.int p2), .val (.int p3), .val (.int p4), .unset, .unset] [] := by first | (simp [entryFrame, mkF, argsToLocals, Value.category, maxLocals]; done) | rfl
set_option maxRecDepth 65536 in
set_option maxHeartbeats 40000000 in
theorem own_rm0 (l : Launch) (Z : State) (a0 : Array Value) (hw : ∀ d ∈ tables_1, d.before a0 Z = true) (ws : List Jvm.Cond) (p0 : Int32) (p1 : Int32) (p2 : Int32) (p3 : Int32) (p4 : Int32) (h0 : Heap) (n0 : Nat) (Z0 : n0 ≤ h0.size) :
    MetFree l x (head1 (Jvm.Cond.code x code maxLocals ret :: ws) room_1) (fun a U => a = #[(.int p0), (.int p1), (.int p2), (.int p3), (.int p4)] ∧ Z.Warmed39 U.vm ∧ U.heap = h0) (fun _ _ _ _ _ => True) (fun _ U o U' => ∃ v L, o = .returned v ∧ own_Q0 Z p0 p1 p2 p3 p4 h0 n0 v U'.heap L ∧ FrameEnd U o U' L room_1.cells room_1.slots) := by
  refine MetFree.of_bodySF (plainFor_of_name own_pn_rm0) hisR ?_
  intro p e s m args below meth c s₁ Bd hml0 hP hK
  obtain ⟨rfl, hZ, hh⟩ := hP
  have hx := Bd.exec
  have hby := Bd.bytes
  have hml : c.maxLocals = 7 := hml0
  have hown : s.vm.findClass "com/example/dawdling_reader/dawdlingreader/mqtt/Utf8AcceptPinLaw" = some m.cls := findClass_of_methodNamed Bd.named
  have hnm := (name_of_methodNamed Bd.named Bd.method).1
  have X0 : Stand p l e room_1 s m #[(.int p0), (.int p1), (.int p2), (.int p3), (.int p4)] below meth c s₁ [] 0 0 := Stand.of_body Bd
  have e0 : s₁.heap = h0 := by rw [← hh, Bd.state]; rfl
  have N0 := Fr.nil n0
  show own_End p e below s (own_Q0 Z p0 p1 p2 p3 p4 h0 n0) room_1.cells room_1.slots (s₁.setTop (entryFrame m #[(.int p0), (.int p1), (.int p2), (.int p3), (.int p4)] maxLocals))
  rw [own_ef_rm0]
  obtain ⟨T162, h162, X162, e162, E162, A162, D162, -, st162⟩ := newO X0 hx hZ hown (hw _ (List.mem_of_getElem? (i := 0) rfl)) (hw _ (List.mem_of_getElem? (i := 1) rfl)) (hw _ (List.mem_of_getElem? (i := 2) rfl)) e0 (g := (mkF m 0 #[.val (.int p0), .val (.int p1), .val (.int p2), .val (.int p3), .val (.int p4), .unset, .unset] [])) rfl (hb hby at_0) (by decide) (by decide)
  obtain ⟨b162, g162⟩ : ∃ z, z = h0.size := ⟨_, rfl⟩
  have g_b162 : n0 ≤ b162 := Nat.le_trans Z0 (Nat.le_of_eq g162.symm)
  have Z163 := Nat.le_trans Z0 E162.1
  rw [← g162] at A162 D162 st162
  have F_b162_lowest : Fld Z h162 b162 "com/example/dawdling_reader/dawdlingreader/mqtt/Utf8" "lowest" "I" (.int (0 : Int32)) := D162 (Or.inl (hw _ (List.mem_of_getElem? (i := 10) rfl))) (ty := .int) (by decide)
  have F_b162_highest : Fld Z h162 b162 "com/example/dawdling_reader/dawdlingreader/mqtt/Utf8" "highest" "I" (.int (0 : Int32)) := D162 (Or.inl (hw _ (List.mem_of_getElem? (i := 12) rfl))) (ty := .int) (by decide)
  have F_b162_needed : Fld Z h162 b162 "com/example/dawdling_reader/dawdlingreader/mqtt/Utf8" "needed" "I" (.int (0 : Int32)) := D162 (Or.inl (hw _ (List.mem_of_getElem? (i := 29) rfl))) (ty := .int) (by decide)
  refine own_back st162 ?_
  show own_End p e below s _ _ _ (T162.setTop (mkF m 3 #[.val (.int p0), .val (.int p1), .val (.int p2), .val (.int p3), .val (.int p4), .unset, .unset] [(.ref b162)]))
  refine own_dup X162 hx (hb hby at_3) rfl (q := 4) rfl ?_
  obtain ⟨_, _, ⟨T164, L164, k164, n164⟩, -, X164, ⟨Lc164, hQ164, l164, y164, z164⟩, st164⟩ := X162.specialBack hx (y := (⟨"com/example/dawdling_reader/dawdlingreader/mqtt/Utf8", "<init>", "()V"⟩ : MethodName)) rfl hown (mvT hZ (hw _ (List.mem_of_getElem? (i := 3) rfl))) (mvT hZ (hw _ (List.mem_of_getElem? (i := 4) rfl))) (mvT hZ (hw _ (List.mem_of_getElem? (i := 5) rfl))) (by decide) (backOf (W := 1) (own_rm1 l Z a0 hw [] b162 (0 : Int32) (0 : Int32) (0 : Int32) h162 n0 Z163 A162 F_b162_lowest F_b162_highest F_b162_needed g_b162) hZ (hw _ (List.mem_of_getElem? (i := 5) rfl)) (hw _ (List.mem_of_getElem? (i := 2) rfl)) (by decide) (by decide)) (g := (mkF m 4 #[.val (.int p0), .val (.int p1), .val (.int p2), .val (.int p3), .val (.int p4), .unset, .unset] [(.ref b162), (.ref b162)])) rfl (by rw [hml]; rfl) (Steps.refl _) (a := b162) (argsL := []) (rest := [(.ref b162)]) (lenOf own_pd5 rfl) rfl (by show 2 * 0 + _ ≤ _; exact Nat.le_of_eq rfl) (hb hby at_4) (fun _ _ => ⟨rfl, e162, (by decide : 1 + 0 ≤ _), (by decide : 3 + 0 ≤ _)⟩)
  dsimp only [Pt.U, Pt.locs, Pt.cells, Pt.slots] at X164 l164 y164 z164 st164 hQ164
  subst l164 y164 z164
  obtain ⟨rfl, N164q, K164, Q164_0, Q164_1, Q164_2, Q164_3⟩ := hQ164
  have N164 := Fr.app N0 N164q
  have A162_165 := A162.keep K164
  have Z166 := Nat.le_trans Z163 K164.1
  refine own_via st164 ?_
  show own_End p e below s _ _ _ (T164.setTop (mkF m 7 #[.val (.int p0), .val (.int p1), .val (.int p2), .val (.int p3), .val (.int p4), .unset, .unset] [(.ref b162)]))
  refine own_astore X164 hx (hb hby at_7) rfl (l' := #[.val (.int p0), .val (.int p1), .val (.int p2), .val (.int p3), .val (.int p4), .val (.ref b162), .unset]) rfl (q := 9) rfl ?_
  refine own_iconst X164 hx (hb hby at_9) (z := 0) rfl (q := 10) rfl ?_
  refine own_istore X164 hx (hb hby at_10) (l' := #[.val (.int p0), .val (.int p1), .val (.int p2), .val (.int p3), .val (.int p4), .val (.ref b162), .val (.int (0 : Int32))]) rfl (q := 12) rfl ?_
  refine own_aload X164 hx (hb hby at_12) rfl rfl (q := 14) rfl ?_
  refine own_iload X164 hx (hb hby at_14) rfl (q := 16) rfl ?_
  refine own_iloadN X164 hx (hb hby at_16) rfl (q := 17) rfl ?_
  refine own_sipush X164 hx (hb hby at_17) (z := 255) rfl (q := 20) rfl ?_
  refine own_iand X164 hx (hb hby at_20) (q := 21) rfl ?_
  obtain ⟨_, _, ⟨T167, L167, k167, n167⟩, -, X167, ⟨Lc167, hQ167, l167, y167, z167⟩, st167⟩ := Jvm.LawKit.callS X164 hx (y := (⟨"com/example/dawdling_reader/dawdlingreader/mqtt/Utf8AcceptPinLaw", "step", "(Lcom/example/dawdling_reader/dawdlingreader/mqtt/Utf8;II)I"⟩ : MethodName)) hown (mvT hZ (hw _ (List.mem_of_getElem? (i := 13) rfl))) (mvT hZ (hw _ (List.mem_of_getElem? (i := 14) rfl))) (mvT hZ (hw _ (List.mem_of_getElem? (i := 15) rfl))) (mvT hZ (hw _ (List.mem_of_getElem? (i := 16) rfl))) (by decide) (backOf (W := 0) (own_rm3 l Z a0 hw [] b162 (0 : Int32) (p0 &&& (255 : Int32)) (128 : Int32) (191 : Int32) (0 : Int32) T164.heap n0 Z166 Q164_0 Q164_1 Q164_2 Q164_3 g_b162) hZ (hw _ (List.mem_of_getElem? (i := 16) rfl)) (hw _ (List.mem_of_getElem? (i := 15) rfl)) (by decide) (by decide)) (g := (mkF m 21 #[.val (.int p0), .val (.int p1), .val (.int p2), .val (.int p3), .val (.int p4), .val (.ref b162), .val (.int (0 : Int32))] [(.int (p0 &&& (255 : Int32))), (.int (0 : Int32)), (.ref b162)])) rfl (by rw [hml]; rfl) (argsL := [(.ref b162), (.int (0 : Int32)), (.int (p0 &&& (255 : Int32)))]) (rest := []) (lenOf own_pd6 rfl) rfl (by show 2 * 0 + _ ≤ _; exact Nat.le_of_eq rfl) (hb hby at_21) (fun _ _ => ⟨rfl, rfl, (by decide : 1 + 0 ≤ _), (by decide : 3 + 0 ≤ _)⟩)
  dsimp only [Pt.U, Pt.locs, Pt.cells, Pt.slots] at X167 l167 y167 z167 st167 hQ167
  subst l167 y167 z167
  obtain ⟨rfl, N167q, K167, Q167_0, Q167_1, Q167_2, Q167_3⟩ := hQ167
  have N167 := Fr.app N164 N167q
  have Q164_168 := Q164_0.keep K167
  have Z169 := Nat.le_trans Z166 K167.1
  refine own_back st167 ?_
  show own_End p e below s _ _ _ (T167.setTop (mkF m 24 #[.val (.int p0), .val (.int p1), .val (.int p2), .val (.int p3), .val (.int p4), .val (.ref b162), .val (.int (0 : Int32))] [(.int (own_F3 (0 : Int32) (p0 &&& (255 : Int32)) (128 : Int32) (191 : Int32) (0 : Int32)))]))
  obtain ⟨v1, hv1⟩ : ∃ z, z = (own_F3 (0 : Int32) (p0 &&& (255 : Int32)) (128 : Int32) (191 : Int32) (0 : Int32)) := ⟨_, rfl⟩
  rw [← hv1]
  obtain ⟨lo1, hlo1⟩ : ∃ z, z = (own_G6_lowest (p0 &&& (255 : Int32)) (128 : Int32) (191 : Int32) (0 : Int32)) := ⟨_, rfl⟩
  rw [← hlo1] at Q167_1
  obtain ⟨hi1, hhi1⟩ : ∃ z, z = (own_G6_highest (p0 &&& (255 : Int32)) (128 : Int32) (191 : Int32) (0 : Int32)) := ⟨_, rfl⟩
  rw [← hhi1] at Q167_2
  obtain ⟨nd1, hnd1⟩ : ∃ z, z = (own_G6_needed (p0 &&& (255 : Int32)) (128 : Int32) (191 : Int32) (0 : Int32)) := ⟨_, rfl⟩
  rw [← hnd1] at Q167_3
  have hI1 : v1 = -1 ∨ (0 ≤ v1.toInt ∧ own_Inv v1 lo1 hi1 nd1) := by rw [hv1, hlo1, hhi1, hnd1]; exact own_next _ _ _ _ _ (own_byte _).1 (own_byte _).2 (Or.inl ⟨rfl, rfl, rfl, rfl⟩)
  show own_End p e below s _ _ _ (T167.setTop (mkF m 24 #[.val (.int p0), .val (.int p1), .val (.int p2), .val (.int p3), .val (.int p4), .val (.ref b162), .val (.int (0 : Int32))] [(.int v1)]))
  refine own_istore X167 hx (hb hby at_24) (l' := #[.val (.int p0), .val (.int p1), .val (.int p2), .val (.int p3), .val (.int p4), .val (.ref b162), .val (.int v1)]) rfl (q := 26) rfl ?_
  refine own_iload X167 hx (hb hby at_26) rfl (q := 28) rfl ?_
  by_cases hc28_170 : v1 < (0 : Int32)
  · refine own_ifN X167 hx (hb hby at_28) (tlt hc28_170).2.1 (q := 31) rfl ?_
    refine own_iload X167 hx (hb hby at_31) rfl (q := 33) rfl ?_
    refine own_iconst X167 hx (hb hby at_33) (z := -1) rfl (q := 34) rfl ?_
    have hk171 : v1 = (-1 : Int32) := own_isneg hI1 hc28_170
    refine own_icN X167 hx (hb hby at_34) (teq hk171).2 (q := 37) rfl ?_
    refine own_iconst X167 hx (hb hby at_37) (z := 1) rfl (q := 38) rfl ?_
    refine own_goto X167 hx (hb hby at_38) (q := 42) (by decide) (by decide) ?_
    refine own_retN X167 hx (t := .boolean) (by simp) Bd.returns Bd.notSynchronized (by decide) (by decide) (hb hby at_42) ?_
    show own_Q0 Z p0 p1 p2 p3 p4 h0 n0 _ T167.heap _
    exact ⟨rfl, N167⟩
  · refine own_ifY X167 hx (hb hby at_28) (flt hc28_170).2.1 (q := 43) (by decide) (by decide) ?_
    have hJ1 := own_isok hI1 hc28_170
    refine own_aload X167 hx (hb hby at_43) rfl rfl (q := 45) rfl ?_
    refine own_iload X167 hx (hb hby at_45) rfl (q := 47) rfl ?_
    refine own_iloadN X167 hx (hb hby at_47) rfl (q := 48) rfl ?_
    refine own_sipush X167 hx (hb hby at_48) (z := 255) rfl (q := 51) rfl ?_
    refine own_iand X167 hx (hb hby at_51) (q := 52) rfl ?_
    obtain ⟨_, _, ⟨T173, L173, k173, n173⟩, -, X173, ⟨Lc173, hQ173, l173, y173, z173⟩, st173⟩ := Jvm.LawKit.callS X167 hx (y := (⟨"com/example/dawdling_reader/dawdlingreader/mqtt/Utf8AcceptPinLaw", "step", "(Lcom/example/dawdling_reader/dawdlingreader/mqtt/Utf8;II)I"⟩ : MethodName)) hown (mvT hZ (hw _ (List.mem_of_getElem? (i := 13) rfl))) (mvT hZ (hw _ (List.mem_of_getElem? (i := 14) rfl))) (mvT hZ (hw _ (List.mem_of_getElem? (i := 15) rfl))) (mvT hZ (hw _ (List.mem_of_getElem? (i := 16) rfl))) (by decide) (backOf (W := 0) (own_rm3 l Z a0 hw [] b162 v1 (p1 &&& (255 : Int32)) lo1 hi1 nd1 T167.heap n0 Z169 Q167_0 Q167_1 Q167_2 Q167_3 g_b162) hZ (hw _ (List.mem_of_getElem? (i := 16) rfl)) (hw _ (List.mem_of_getElem? (i := 15) rfl)) (by decide) (by decide)) (g := (mkF m 52 #[.val (.int p0), .val (.int p1), .val (.int p2), .val (.int p3), .val (.int p4), .val (.ref b162), .val (.int v1)] [(.int (p1 &&& (255 : Int32))), (.int v1), (.ref b162)])) rfl (by rw [hml]; rfl) (argsL := [(.ref b162), (.int v1), (.int (p1 &&& (255 : Int32)))]) (rest := []) (lenOf own_pd6 rfl) rfl (by show 2 * 0 + _ ≤ _; exact Nat.le_of_eq rfl) (hb hby at_52) (fun _ _ => ⟨rfl, rfl, (by decide : 1 + 0 ≤ _), (by decide : 3 + 0 ≤ _)⟩)
    dsimp only [Pt.U, Pt.locs, Pt.cells, Pt.slots] at X173 l173 y173 z173 st173 hQ173
    subst l173 y173 z173
    obtain ⟨rfl, N173q, K173, Q173_0, Q173_1, Q173_2, Q173_3⟩ := hQ173
    have N173 := Fr.app N167 N173q
    have Q167_174 := Q167_0.keep K173
    have Z175 := Nat.le_trans Z169 K173.1
    refine own_back st173 ?_
    show own_End p e below s _ _ _ (T173.setTop (mkF m 55 #[.val (.int p0), .val (.int p1), .val (.int p2), .val (.int p3), .val (.int p4), .val (.ref b162), .val (.int v1)] [(.int (own_F3 v1 (p1 &&& (255 : Int32)) lo1 hi1 nd1))]))
    obtain ⟨v2, hv2⟩ : ∃ z, z = (own_F3 v1 (p1 &&& (255 : Int32)) lo1 hi1 nd1) := ⟨_, rfl⟩
    rw [← hv2]
    obtain ⟨lo2, hlo2⟩ : ∃ z, z = (own_G6_lowest (p1 &&& (255 : Int32)) lo1 hi1 nd1) := ⟨_, rfl⟩
    rw [← hlo2] at Q173_1
    obtain ⟨hi2, hhi2⟩ : ∃ z, z = (own_G6_highest (p1 &&& (255 : Int32)) lo1 hi1 nd1) := ⟨_, rfl⟩
    rw [← hhi2] at Q173_2
    obtain ⟨nd2, hnd2⟩ : ∃ z, z = (own_G6_needed (p1 &&& (255 : Int32)) lo1 hi1 nd1) := ⟨_, rfl⟩
    rw [← hnd2] at Q173_3
    have hI2 : v2 = -1 ∨ (0 ≤ v2.toInt ∧ own_Inv v2 lo2 hi2 nd2) := by rw [hv2, hlo2, hhi2, hnd2]; exact own_next _ _ _ _ _ (own_byte _).1 (own_byte _).2 hJ1
    show own_End p e below s _ _ _ (T173.setTop (mkF m 55 #[.val (.int p0), .val (.int p1), .val (.int p2), .val (.int p3), .val (.int p4), .val (.ref b162), .val (.int v1)] [(.int v2)]))
    refine own_istore X173 hx (hb hby at_55) (l' := #[.val (.int p0), .val (.int p1), .val (.int p2), .val (.int p3), .val (.int p4), .val (.ref b162), .val (.int v2)]) rfl (q := 57) rfl ?_
    refine own_iload X173 hx (hb hby at_57) rfl (q := 59) rfl ?_
    by_cases hc59_176 : v2 < (0 : Int32)
    · refine own_ifN X173 hx (hb hby at_59) (tlt hc59_176).2.1 (q := 62) rfl ?_
      refine own_iload X173 hx (hb hby at_62) rfl (q := 64) rfl ?_
      refine own_iconst X173 hx (hb hby at_64) (z := -1) rfl (q := 65) rfl ?_
      have hk177 : v2 = (-1 : Int32) := own_isneg hI2 hc59_176
      refine own_icN X173 hx (hb hby at_65) (teq hk177).2 (q := 68) rfl ?_
      refine own_iconst X173 hx (hb hby at_68) (z := 1) rfl (q := 69) rfl ?_
      refine own_goto X173 hx (hb hby at_69) (q := 73) (by decide) (by decide) ?_
      refine own_retN X173 hx (t := .boolean) (by simp) Bd.returns Bd.notSynchronized (by decide) (by decide) (hb hby at_73) ?_
      show own_Q0 Z p0 p1 p2 p3 p4 h0 n0 _ T173.heap _
      exact ⟨rfl, N173⟩
    · refine own_ifY X173 hx (hb hby at_59) (flt hc59_176).2.1 (q := 74) (by decide) (by decide) ?_
      have hJ2 := own_isok hI2 hc59_176
      refine own_aload X173 hx (hb hby at_74) rfl rfl (q := 76) rfl ?_
      refine own_iload X173 hx (hb hby at_76) rfl (q := 78) rfl ?_
      refine own_iloadN X173 hx (hb hby at_78) rfl (q := 79) rfl ?_
      refine own_sipush X173 hx (hb hby at_79) (z := 255) rfl (q := 82) rfl ?_
      refine own_iand X173 hx (hb hby at_82) (q := 83) rfl ?_
      obtain ⟨_, _, ⟨T179, L179, k179, n179⟩, -, X179, ⟨Lc179, hQ179, l179, y179, z179⟩, st179⟩ := Jvm.LawKit.callS X173 hx (y := (⟨"com/example/dawdling_reader/dawdlingreader/mqtt/Utf8AcceptPinLaw", "step", "(Lcom/example/dawdling_reader/dawdlingreader/mqtt/Utf8;II)I"⟩ : MethodName)) hown (mvT hZ (hw _ (List.mem_of_getElem? (i := 13) rfl))) (mvT hZ (hw _ (List.mem_of_getElem? (i := 14) rfl))) (mvT hZ (hw _ (List.mem_of_getElem? (i := 15) rfl))) (mvT hZ (hw _ (List.mem_of_getElem? (i := 16) rfl))) (by decide) (backOf (W := 0) (own_rm3 l Z a0 hw [] b162 v2 (p2 &&& (255 : Int32)) lo2 hi2 nd2 T173.heap n0 Z175 Q173_0 Q173_1 Q173_2 Q173_3 g_b162) hZ (hw _ (List.mem_of_getElem? (i := 16) rfl)) (hw _ (List.mem_of_getElem? (i := 15) rfl)) (by decide) (by decide)) (g := (mkF m 83 #[.val (.int p0), .val (.int p1), .val (.int p2), .val (.int p3), .val (.int p4), .val (.ref b162), .val (.int v2)] [(.int (p2 &&& (255 : Int32))), (.int v2), (.ref b162)])) rfl (by rw [hml]; rfl) (argsL := [(.ref b162), (.int v2), (.int (p2 &&& (255 : Int32)))]) (rest := []) (lenOf own_pd6 rfl) rfl (by show 2 * 0 + _ ≤ _; exact Nat.le_of_eq rfl) (hb hby at_83) (fun _ _ => ⟨rfl, rfl, (by decide : 1 + 0 ≤ _), (by decide : 3 + 0 ≤ _)⟩)
      dsimp only [Pt.U, Pt.locs, Pt.cells, Pt.slots] at X179 l179 y179 z179 st179 hQ179
      subst l179 y179 z179
      obtain ⟨rfl, N179q, K179, Q179_0, Q179_1, Q179_2, Q179_3⟩ := hQ179
      have N179 := Fr.app N173 N179q
      have Q173_180 := Q173_0.keep K179
      have Z181 := Nat.le_trans Z175 K179.1
      refine own_back st179 ?_
      show own_End p e below s _ _ _ (T179.setTop (mkF m 86 #[.val (.int p0), .val (.int p1), .val (.int p2), .val (.int p3), .val (.int p4), .val (.ref b162), .val (.int v2)] [(.int (own_F3 v2 (p2 &&& (255 : Int32)) lo2 hi2 nd2))]))
      obtain ⟨v3, hv3⟩ : ∃ z, z = (own_F3 v2 (p2 &&& (255 : Int32)) lo2 hi2 nd2) := ⟨_, rfl⟩
      rw [← hv3]
      obtain ⟨lo3, hlo3⟩ : ∃ z, z = (own_G6_lowest (p2 &&& (255 : Int32)) lo2 hi2 nd2) := ⟨_, rfl⟩
      rw [← hlo3] at Q179_1
      obtain ⟨hi3, hhi3⟩ : ∃ z, z = (own_G6_highest (p2 &&& (255 : Int32)) lo2 hi2 nd2) := ⟨_, rfl⟩
      rw [← hhi3] at Q179_2
      obtain ⟨nd3, hnd3⟩ : ∃ z, z = (own_G6_needed (p2 &&& (255 : Int32)) lo2 hi2 nd2) := ⟨_, rfl⟩
      rw [← hnd3] at Q179_3
      have hI3 : v3 = -1 ∨ (0 ≤ v3.toInt ∧ own_Inv v3 lo3 hi3 nd3) := by rw [hv3, hlo3, hhi3, hnd3]; exact own_next _ _ _ _ _ (own_byte _).1 (own_byte _).2 hJ2
      show own_End p e below s _ _ _ (T179.setTop (mkF m 86 #[.val (.int p0), .val (.int p1), .val (.int p2), .val (.int p3), .val (.int p4), .val (.ref b162), .val (.int v2)] [(.int v3)]))
      refine own_istore X179 hx (hb hby at_86) (l' := #[.val (.int p0), .val (.int p1), .val (.int p2), .val (.int p3), .val (.int p4), .val (.ref b162), .val (.int v3)]) rfl (q := 88) rfl ?_
      refine own_iload X179 hx (hb hby at_88) rfl (q := 90) rfl ?_
      by_cases hc90_182 : v3 < (0 : Int32)
      · refine own_ifN X179 hx (hb hby at_90) (tlt hc90_182).2.1 (q := 93) rfl ?_
        refine own_iload X179 hx (hb hby at_93) rfl (q := 95) rfl ?_
        refine own_iconst X179 hx (hb hby at_95) (z := -1) rfl (q := 96) rfl ?_
        have hk183 : v3 = (-1 : Int32) := own_isneg hI3 hc90_182
        refine own_icN X179 hx (hb hby at_96) (teq hk183).2 (q := 99) rfl ?_
        refine own_iconst X179 hx (hb hby at_99) (z := 1) rfl (q := 100) rfl ?_
        refine own_goto X179 hx (hb hby at_100) (q := 104) (by decide) (by decide) ?_
        refine own_retN X179 hx (t := .boolean) (by simp) Bd.returns Bd.notSynchronized (by decide) (by decide) (hb hby at_104) ?_
        show own_Q0 Z p0 p1 p2 p3 p4 h0 n0 _ T179.heap _
        exact ⟨rfl, N179⟩
      · refine own_ifY X179 hx (hb hby at_90) (flt hc90_182).2.1 (q := 105) (by decide) (by decide) ?_
        have hJ3 := own_isok hI3 hc90_182
        refine own_aload X179 hx (hb hby at_105) rfl rfl (q := 107) rfl ?_
        refine own_iload X179 hx (hb hby at_107) rfl (q := 109) rfl ?_
        refine own_iloadN X179 hx (hb hby at_109) rfl (q := 110) rfl ?_
        refine own_sipush X179 hx (hb hby at_110) (z := 255) rfl (q := 113) rfl ?_
        refine own_iand X179 hx (hb hby at_113) (q := 114) rfl ?_
        obtain ⟨_, _, ⟨T185, L185, k185, n185⟩, -, X185, ⟨Lc185, hQ185, l185, y185, z185⟩, st185⟩ := Jvm.LawKit.callS X179 hx (y := (⟨"com/example/dawdling_reader/dawdlingreader/mqtt/Utf8AcceptPinLaw", "step", "(Lcom/example/dawdling_reader/dawdlingreader/mqtt/Utf8;II)I"⟩ : MethodName)) hown (mvT hZ (hw _ (List.mem_of_getElem? (i := 13) rfl))) (mvT hZ (hw _ (List.mem_of_getElem? (i := 14) rfl))) (mvT hZ (hw _ (List.mem_of_getElem? (i := 15) rfl))) (mvT hZ (hw _ (List.mem_of_getElem? (i := 16) rfl))) (by decide) (backOf (W := 0) (own_rm3 l Z a0 hw [] b162 v3 (p3 &&& (255 : Int32)) lo3 hi3 nd3 T179.heap n0 Z181 Q179_0 Q179_1 Q179_2 Q179_3 g_b162) hZ (hw _ (List.mem_of_getElem? (i := 16) rfl)) (hw _ (List.mem_of_getElem? (i := 15) rfl)) (by decide) (by decide)) (g := (mkF m 114 #[.val (.int p0), .val (.int p1), .val (.int p2), .val (.int p3), .val (.int p4), .val (.ref b162), .val (.int v3)] [(.int (p3 &&& (255 : Int32))), (.int v3), (.ref b162)])) rfl (by rw [hml]; rfl) (argsL := [(.ref b162), (.int v3), (.int (p3 &&& (255 : Int32)))]) (rest := []) (lenOf own_pd6 rfl) rfl (by show 2 * 0 + _ ≤ _; exact Nat.le_of_eq rfl) (hb hby at_114) (fun _ _ => ⟨rfl, rfl, (by decide : 1 + 0 ≤ _), (by decide : 3 + 0 ≤ _)⟩)
        dsimp only [Pt.U, Pt.locs, Pt.cells, Pt.slots] at X185 l185 y185 z185 st185 hQ185
        subst l185 y185 z185
        obtain ⟨rfl, N185q, K185, Q185_0, Q185_1, Q185_2, Q185_3⟩ := hQ185
        have N185 := Fr.app N179 N185q
        have Q179_186 := Q179_0.keep K185
        have Z187 := Nat.le_trans Z181 K185.1
        refine own_back st185 ?_
        show own_End p e below s _ _ _ (T185.setTop (mkF m 117 #[.val (.int p0), .val (.int p1), .val (.int p2), .val (.int p3), .val (.int p4), .val (.ref b162), .val (.int v3)] [(.int (own_F3 v3 (p3 &&& (255 : Int32)) lo3 hi3 nd3))]))
        obtain ⟨v4, hv4⟩ : ∃ z, z = (own_F3 v3 (p3 &&& (255 : Int32)) lo3 hi3 nd3) := ⟨_, rfl⟩
        rw [← hv4]
        obtain ⟨lo4, hlo4⟩ : ∃ z, z = (own_G6_lowest (p3 &&& (255 : Int32)) lo3 hi3 nd3) := ⟨_, rfl⟩
        rw [← hlo4] at Q185_1
        obtain ⟨hi4, hhi4⟩ : ∃ z, z = (own_G6_highest (p3 &&& (255 : Int32)) lo3 hi3 nd3) := ⟨_, rfl⟩
        rw [← hhi4] at Q185_2
        obtain ⟨nd4, hnd4⟩ : ∃ z, z = (own_G6_needed (p3 &&& (255 : Int32)) lo3 hi3 nd3) := ⟨_, rfl⟩
        rw [← hnd4] at Q185_3
        have hI4 : v4 = -1 ∨ (0 ≤ v4.toInt ∧ own_Inv v4 lo4 hi4 nd4) := by rw [hv4, hlo4, hhi4, hnd4]; exact own_next _ _ _ _ _ (own_byte _).1 (own_byte _).2 hJ3
        show own_End p e below s _ _ _ (T185.setTop (mkF m 117 #[.val (.int p0), .val (.int p1), .val (.int p2), .val (.int p3), .val (.int p4), .val (.ref b162), .val (.int v3)] [(.int v4)]))
        refine own_istore X185 hx (hb hby at_117) (l' := #[.val (.int p0), .val (.int p1), .val (.int p2), .val (.int p3), .val (.int p4), .val (.ref b162), .val (.int v4)]) rfl (q := 119) rfl ?_
        refine own_iload X185 hx (hb hby at_119) rfl (q := 121) rfl ?_
        by_cases hc121_188 : v4 < (0 : Int32)
        · refine own_ifN X185 hx (hb hby at_121) (tlt hc121_188).2.1 (q := 124) rfl ?_
          refine own_iload X185 hx (hb hby at_124) rfl (q := 126) rfl ?_
          refine own_iconst X185 hx (hb hby at_126) (z := -1) rfl (q := 127) rfl ?_
          have hk189 : v4 = (-1 : Int32) := own_isneg hI4 hc121_188
          refine own_icN X185 hx (hb hby at_127) (teq hk189).2 (q := 130) rfl ?_
          refine own_iconst X185 hx (hb hby at_130) (z := 1) rfl (q := 131) rfl ?_
          refine own_goto X185 hx (hb hby at_131) (q := 135) (by decide) (by decide) ?_
          refine own_retN X185 hx (t := .boolean) (by simp) Bd.returns Bd.notSynchronized (by decide) (by decide) (hb hby at_135) ?_
          show own_Q0 Z p0 p1 p2 p3 p4 h0 n0 _ T185.heap _
          exact ⟨rfl, N185⟩
        · refine own_ifY X185 hx (hb hby at_121) (flt hc121_188).2.1 (q := 136) (by decide) (by decide) ?_
          have hJ4 := own_isok hI4 hc121_188
          refine own_aload X185 hx (hb hby at_136) rfl rfl (q := 138) rfl ?_
          refine own_iload X185 hx (hb hby at_138) rfl (q := 140) rfl ?_
          refine own_iload X185 hx (hb hby at_140) rfl (q := 142) rfl ?_
          refine own_sipush X185 hx (hb hby at_142) (z := 255) rfl (q := 145) rfl ?_
          refine own_iand X185 hx (hb hby at_145) (q := 146) rfl ?_
          obtain ⟨_, _, ⟨T191, L191, k191, n191⟩, -, X191, ⟨Lc191, hQ191, l191, y191, z191⟩, st191⟩ := Jvm.LawKit.callS X185 hx (y := (⟨"com/example/dawdling_reader/dawdlingreader/mqtt/Utf8AcceptPinLaw", "step", "(Lcom/example/dawdling_reader/dawdlingreader/mqtt/Utf8;II)I"⟩ : MethodName)) hown (mvT hZ (hw _ (List.mem_of_getElem? (i := 13) rfl))) (mvT hZ (hw _ (List.mem_of_getElem? (i := 14) rfl))) (mvT hZ (hw _ (List.mem_of_getElem? (i := 15) rfl))) (mvT hZ (hw _ (List.mem_of_getElem? (i := 16) rfl))) (by decide) (backOf (W := 0) (own_rm3 l Z a0 hw [] b162 v4 (p4 &&& (255 : Int32)) lo4 hi4 nd4 T185.heap n0 Z187 Q185_0 Q185_1 Q185_2 Q185_3 g_b162) hZ (hw _ (List.mem_of_getElem? (i := 16) rfl)) (hw _ (List.mem_of_getElem? (i := 15) rfl)) (by decide) (by decide)) (g := (mkF m 146 #[.val (.int p0), .val (.int p1), .val (.int p2), .val (.int p3), .val (.int p4), .val (.ref b162), .val (.int v4)] [(.int (p4 &&& (255 : Int32))), (.int v4), (.ref b162)])) rfl (by rw [hml]; rfl) (argsL := [(.ref b162), (.int v4), (.int (p4 &&& (255 : Int32)))]) (rest := []) (lenOf own_pd6 rfl) rfl (by show 2 * 0 + _ ≤ _; exact Nat.le_of_eq rfl) (hb hby at_146) (fun _ _ => ⟨rfl, rfl, (by decide : 1 + 0 ≤ _), (by decide : 3 + 0 ≤ _)⟩)
          dsimp only [Pt.U, Pt.locs, Pt.cells, Pt.slots] at X191 l191 y191 z191 st191 hQ191
          subst l191 y191 z191
          obtain ⟨rfl, N191q, K191, Q191_0, Q191_1, Q191_2, Q191_3⟩ := hQ191
          have N191 := Fr.app N185 N191q
          have Q185_192 := Q185_0.keep K191
          have Z193 := Nat.le_trans Z187 K191.1
          refine own_back st191 ?_
          show own_End p e below s _ _ _ (T191.setTop (mkF m 149 #[.val (.int p0), .val (.int p1), .val (.int p2), .val (.int p3), .val (.int p4), .val (.ref b162), .val (.int v4)] [(.int (own_F3 v4 (p4 &&& (255 : Int32)) lo4 hi4 nd4))]))
          obtain ⟨v5, hv5⟩ : ∃ z, z = (own_F3 v4 (p4 &&& (255 : Int32)) lo4 hi4 nd4) := ⟨_, rfl⟩
          rw [← hv5]
          obtain ⟨lo5, hlo5⟩ : ∃ z, z = (own_G6_lowest (p4 &&& (255 : Int32)) lo4 hi4 nd4) := ⟨_, rfl⟩
          rw [← hlo5] at Q191_1
          obtain ⟨hi5, hhi5⟩ : ∃ z, z = (own_G6_highest (p4 &&& (255 : Int32)) lo4 hi4 nd4) := ⟨_, rfl⟩
          rw [← hhi5] at Q191_2
          obtain ⟨nd5, hnd5⟩ : ∃ z, z = (own_G6_needed (p4 &&& (255 : Int32)) lo4 hi4 nd4) := ⟨_, rfl⟩
          rw [← hnd5] at Q191_3
          have hI5 : v5 = -1 ∨ (0 ≤ v5.toInt ∧ own_Inv v5 lo5 hi5 nd5) := by rw [hv5, hlo5, hhi5, hnd5]; exact own_next _ _ _ _ _ (own_byte _).1 (own_byte _).2 hJ4
          show own_End p e below s _ _ _ (T191.setTop (mkF m 149 #[.val (.int p0), .val (.int p1), .val (.int p2), .val (.int p3), .val (.int p4), .val (.ref b162), .val (.int v4)] [(.int v5)]))
          refine own_istore X191 hx (hb hby at_149) (l' := #[.val (.int p0), .val (.int p1), .val (.int p2), .val (.int p3), .val (.int p4), .val (.ref b162), .val (.int v5)]) rfl (q := 151) rfl ?_
          refine own_iload X191 hx (hb hby at_151) rfl (q := 153) rfl ?_
          by_cases hc153_194 : v5 < (0 : Int32)
          · refine own_ifN X191 hx (hb hby at_153) (tlt hc153_194).2.1 (q := 156) rfl ?_
            refine own_iload X191 hx (hb hby at_156) rfl (q := 158) rfl ?_
            refine own_iconst X191 hx (hb hby at_158) (z := -1) rfl (q := 159) rfl ?_
            have hk195 : v5 = (-1 : Int32) := own_isneg hI5 hc153_194
            refine own_icN X191 hx (hb hby at_159) (teq hk195).2 (q := 162) rfl ?_
            refine own_iconst X191 hx (hb hby at_162) (z := 1) rfl (q := 163) rfl ?_
            refine own_goto X191 hx (hb hby at_163) (q := 167) (by decide) (by decide) ?_
            refine own_retN X191 hx (t := .boolean) (by simp) Bd.returns Bd.notSynchronized (by decide) (by decide) (hb hby at_167) ?_
            show own_Q0 Z p0 p1 p2 p3 p4 h0 n0 _ T191.heap _
            exact ⟨rfl, N191⟩
          · refine own_ifY X191 hx (hb hby at_153) (flt hc153_194).2.1 (q := 168) (by decide) (by decide) ?_
            have hJ5 := own_isok hI5 hc153_194
            refine own_iconst X191 hx (hb hby at_168) (z := 1) rfl (q := 169) rfl ?_
            refine own_retN X191 hx (t := .boolean) (by simp) Bd.returns Bd.notSynchronized (by decide) (by decide) (hb hby at_169) ?_
            show own_Q0 Z p0 p1 p2 p3 p4 h0 n0 _ T191.heap _
            exact ⟨rfl, N191⟩

set_option maxRecDepth 65536 in
set_option maxHeartbeats 40000000 in
theorem comes_1 {Post : Tables → Env → Array Value → State → Outcome → State → Prop} (hpost : ∀ tb e args s v u, (limb_1_1.after args s (.returned v) u = true ∧ limb_1_2.after args s (.returned v) u = true ∧ True) → FrameEnd s (.returned v) u (Jvm.fieldLocs frame_1_writes args s ++ Jvm.arrayLocs frame_1_arrays args s ++ Jvm.staticLocs frame_1_statics s) 16 128 → Post tb e args s (.returned v) u) :
    ArmFor flags0 classFile x code maxLocals ret World_1 tables_1 room_1 Calls_1 rest_1 Pre_1 Post := by
  intro l hfl _ _ p e ha hc hk s m args below hf hA hF happ hP
  obtain ⟨hcalls, hrest, hpre⟩ := hP
  obtain ⟨-, -, -, hnamed, -, -, -, hat⟩ := (Spec.applies_iff hf).mp happ
  obtain ⟨hg, hn⟩ := and_e (Cond.before_iff.mp (show (Jvm.Cond.and given_1 narrow_1).before args s = true from hpre))
  obtain ⟨g198, g199⟩ := and_e hg
  obtain ⟨g200, g201⟩ := and_e g199
  obtain ⟨g202, g203⟩ := and_e g201
  obtain ⟨g204, g205⟩ := and_e g203
  obtain ⟨g206, g207⟩ := and_e g205
  obtain ⟨w0, w1, w2, w3, w4, rfl⟩ : ∃ w0 w1 w2 w3 w4 : Value, args = #[w0, w1, w2, w3, w4] := by
    have hs : args.size = 5 := by simpa [Cond.value, given_1] using g198
    obtain ⟨L⟩ := args
    match L, hs with
    | [w0, w1, w2, w3, w4], _ => exact ⟨w0, w1, w2, w3, w4, rfl⟩
  have hw := fun d (hd : d ∈ tables_1) => atoms_spec (ws := Jvm.Cond.code x code maxLocals ret :: tables_1) hat d (List.mem_cons_of_mem _ hd)
  have hfit : Fit s := fun {y c} hc i hi => by
    obtain ⟨ha, rfl⟩ := Array.getElem?_eq_some_iff.mp hc
    have q := List.all_eq_true.mp ((Array.all_eq_true_iff_forall_mem.mp hF) _ (Array.getElem_mem ha)) i (List.mem_range.mpr hi)
    simpa [Array.getElem?_eq_getElem hi] using q
  obtain ⟨i0, ei0⟩ := is_v g200
  obtain rfl : w0 = (.int i0) := Option.some.inj ei0
  obtain ⟨i1, ei1⟩ := is_v g202
  obtain rfl : w1 = (.int i1) := Option.some.inj ei1
  obtain ⟨i2, ei2⟩ := is_v g204
  obtain rfl : w2 = (.int i2) := Option.some.inj ei2
  obtain ⟨i3, ei3⟩ := is_v g206
  obtain rfl : w3 = (.int i3) := Option.some.inj ei3
  obtain ⟨i4, ei4⟩ := is_v g207
  obtain rfl : w4 = (.int i4) := Option.some.inj ei4
  obtain ⟨n, o, h1, h2, h3, _, L, rfl, ⟨hv, N⟩, hq⟩ := own_rm0 l s _ hw tables_1 i0 i1 i2 i3 i4 s.heap s.heap.size (Nat.le_refl _)  p e ha hc hk s m _ below hf ((Spec.applies_iff_loose hf).mp happ).1 ⟨rfl, State.Warmed39.refl s, rfl⟩ trivial
  subst hv
  refine ⟨n, _, h1, h2, h3, hpost _ _ _ _ _ _ ⟨Cond.after_iff.mpr rfl, Cond.after_iff.mpr (eq_i res_at (Term.int_eval (1)) rfl), trivial⟩ ⟨hq.1, hq.2.1, (hq.2.2.sift fun y hy => Or.inr (N y hy)).mono (by decide) (by decide)⟩⟩
theorem main_1_1 : Claimed_1_1 := comes_1 fun _ _ _ _ _ _ h hF => ⟨h.1, hF⟩
theorem main_1_2 : Claimed_1_2 := comes_1 fun _ _ _ _ _ _ h hF => ⟨h.2.1, hF⟩
end Jvm.Pilot.@@N@@
namespace Jvm.Pilot.@@N@@
open Jvm Jvm.ClassFile Sem Op Lib Jvm.Free Jvm.Stand Jvm.Pilot.@@N@@.Jvm.D
/-! MADE BY PROGRAM (witnessworld.py) out of the Statement's table words and the real class files: 9 classes; the members and pool entries that the words name. The judged class is class 1, her method 5. -/
namespace start1
open Jvm.ClassFile
def u (s : String) : CpInfo := .utf8 (stringToUtf16 s)
/-- a pool by its gaps: so many unusable entries, then the entry; so many at the end -/
def gap : Nat → List CpInfo → List CpInfo
  | 0, r => r
  | n + 1, r => .unusable :: gap n r
def poolList (es : List (Nat × CpInfo)) (last : Nat) : List CpInfo := es.foldr (fun e r => gap e.1 (e.2 :: r)) (gap last [])
def pool (es : List (Nat × CpInfo)) (last : Nat) : Array CpInfo := ⟨poolList es last⟩
def fileOf (pool : Array CpInfo) (this : Nat) (attrs : Array Attribute := #[]) (ms : Array MethodInfo := #[]) (fl : Nat := 33) (sup : Nat := 0) (ifs : Array Nat := #[]) (fds : Array FieldInfo := #[]) : ClassFile where
  minorVersion := 0
  majorVersion := 65
  constantPool := pool
  accessFlags := fl
  thisClass := this
  superClass := sup
  interfaces := ifs
  fields := fds
  methods := ms
  attributes := attrs
def plain (name : String) (sup : Option ClassId) : Class where
  name := name
  kind := .ordinary
  loader := none
  accessFlags := 33
  super := sup
  interfaces := #[]
  cf := none
  fields := #[]
  methods := #[]
  instanceTypes := #[]
  staticTypes := #[]
  resolved := #[]
  callSites := []
  init := .initialized
  statics := none
  mirror := none

def pool0 : Array CpInfo := pool [(5, u "<init>"), (0, u "()V"), (1, .class_ 10), (1, u "java/lang/Object")] 113

def k0c0 : Code := { maxStack := 0, maxLocals := 1, code := object_method_1_code, exceptionTable := #[], attributes := #[] }
def k0m0 : Method := { name := "<init>", desc := "()V", sig := { parameters := [], returnType := none }, accessFlags := 1, code := some k0c0 }
/-- java/lang/Object -/
def k0 : Class := { plain "java/lang/Object" none with
  accessFlags := 33
  interfaces := #[]
  cf := some (fileOf pool0 8 #[] #[{ accessFlags := 1, nameIndex := 5, descriptorIndex := 6, attributes := #[] }] 33 0 #[] #[])
  fields := #[]
  methods := #[k0m0]
  instanceTypes := #[]
  staticTypes := #[]
  resolved := Array.replicate 124 none
  statics := none }

def pool1 : Array CpInfo := pool [(2, .class_ 4), (0, .nameAndType 5 6), (0, u "java/lang/Object"), (0, u "<init>"), (0, u "()V"), (0, .methodref 8 9), (0, .class_ 10), (0, .nameAndType 11 12), (0, u "com/example/dawdling_reader/dawdlingreader/mqtt/Utf8AcceptPinLaw"), (0, u "len"), (0, u "(I)I"), (0, .methodref 8 14), (0, .nameAndType 15 16), (0, u "contOk"), (0, u "(III)Z"), (0, .methodref 8 18), (0, .nameAndType 19 20), (0, u "next"), (0, u "(II)I"), (0, .methodref 22 23), (0, .class_ 24), (0, .nameAndType 25 26), (0, u "com/example/dawdling_reader/dawdlingreader/mqtt/Utf8"), (0, u "accept"), (0, u "(I)Z"), (0, .methodref 22 28), (0, .nameAndType 29 30), (0, u "atCharacterEnd"), (0, u "()Z"), (0, .methodref 22 3), (0, .methodref 8 33), (0, .nameAndType 34 35), (0, u "step"), (0, u "(Lcom/example/dawdling_reader/dawdlingreader/mqtt/Utf8;II)I"), (3, u "law"), (0, u "(IIIII)Z")] 2

def k1m0 : Method := { name := "<init>", desc := "()V", sig := { parameters := [], returnType := none }, accessFlags := 1, code := none }
def k1c1 : Code := { maxStack := 2, maxLocals := 1, code := method_2_code, exceptionTable := #[], attributes := #[] }
def k1m1 : Method := { name := "len", desc := "(I)I", sig := { parameters := [.int], returnType := some .int }, accessFlags := 10, code := some k1c1 }
def k1c2 : Code := { maxStack := 2, maxLocals := 3, code := method_3_code, exceptionTable := #[], attributes := #[] }
def k1m2 : Method := { name := "contOk", desc := "(III)Z", sig := { parameters := [.int, .int, .int], returnType := some .boolean }, accessFlags := 10, code := some k1c2 }
def k1c3 : Code := { maxStack := 3, maxLocals := 5, code := method_4_code, exceptionTable := #[], attributes := #[] }
def k1m3 : Method := { name := "next", desc := "(II)I", sig := { parameters := [.int, .int], returnType := some .int }, accessFlags := 10, code := some k1c3 }
def k1c4 : Code := { maxStack := 2, maxLocals := 5, code := method_5_code, exceptionTable := #[], attributes := #[] }
def k1m4 : Method := { name := "step", desc := "(Lcom/example/dawdling_reader/dawdlingreader/mqtt/Utf8;II)I", sig := { parameters := [(.object "com/example/dawdling_reader/dawdlingreader/mqtt/Utf8"), .int, .int], returnType := some .int }, accessFlags := 10, code := some k1c4 }
def k1c5 : Code := { maxStack := 4, maxLocals := 7, code := code, exceptionTable := #[], attributes := #[] }
def k1m5 : Method := { name := "law", desc := "(IIIII)Z", sig := { parameters := [.int, .int, .int, .int, .int], returnType := some .boolean }, accessFlags := 9, code := some k1c5 }
/-- com/example/dawdling_reader/dawdlingreader/mqtt/Utf8AcceptPinLaw -/
def k1 : Class := { plain "com/example/dawdling_reader/dawdlingreader/mqtt/Utf8AcceptPinLaw" (some 0) with
  accessFlags := 49
  interfaces := #[]
  cf := some (fileOf pool1 8 #[] #[{ accessFlags := 1, nameIndex := 5, descriptorIndex := 6, attributes := #[] }, { accessFlags := 10, nameIndex := 11, descriptorIndex := 12, attributes := #[] }, { accessFlags := 10, nameIndex := 15, descriptorIndex := 16, attributes := #[] }, { accessFlags := 10, nameIndex := 19, descriptorIndex := 20, attributes := #[] }, { accessFlags := 10, nameIndex := 34, descriptorIndex := 35, attributes := #[] }, { accessFlags := 9, nameIndex := 39, descriptorIndex := 40, attributes := #[] }] 49 2 #[] #[])
  fields := #[]
  methods := #[k1m0, k1m1, k1m2, k1m3, k1m4, k1m5]
  instanceTypes := #[]
  staticTypes := #[]
  resolved := Array.replicate 43 none
  statics := none }

def pool2 : Array CpInfo := pool [(1, .methodref 2 3), (0, .class_ 4), (0, .nameAndType 5 6), (0, u "java/lang/Object"), (0, u "<init>"), (0, u "()V"), (0, .class_ 8), (0, u "com/example/dawdling_reader/dawdlingreader/mqtt/Utf8"), (0, .fieldref 7 10), (0, .nameAndType 11 12), (0, u "lowest"), (0, u "I"), (0, .fieldref 7 14), (0, .nameAndType 15 12), (0, u "highest"), (0, .fieldref 7 17), (0, .nameAndType 18 12), (0, u "needed"), (0, u "CONTINUATION_LOWEST"), (2, u "CONTINUATION_HIGHEST"), (3, u "accept"), (0, u "(I)Z"), (1, u "atCharacterEnd"), (0, u "()Z")] 3

def k2c0 : Code := { maxStack := 2, maxLocals := 1, code := prog_31_method_1_code, exceptionTable := #[], attributes := #[] }
def k2m0 : Method := { name := "<init>", desc := "()V", sig := { parameters := [], returnType := none }, accessFlags := 0, code := some k2c0 }
def k2c1 : Code := { maxStack := 3, maxLocals := 2, code := prog_31_method_2_code, exceptionTable := #[], attributes := #[] }
def k2m1 : Method := { name := "accept", desc := "(I)Z", sig := { parameters := [.int], returnType := some .boolean }, accessFlags := 0, code := some k2c1 }
def k2c2 : Code := { maxStack := 1, maxLocals := 1, code := prog_31_method_3_code, exceptionTable := #[], attributes := #[] }
def k2m2 : Method := { name := "atCharacterEnd", desc := "()Z", sig := { parameters := [], returnType := some .boolean }, accessFlags := 0, code := some k2c2 }
/-- com/example/dawdling_reader/dawdlingreader/mqtt/Utf8 -/
def k2 : Class := { plain "com/example/dawdling_reader/dawdlingreader/mqtt/Utf8" (some 0) with
  accessFlags := 48
  interfaces := #[]
  cf := some (fileOf pool2 7 #[] #[{ accessFlags := 0, nameIndex := 5, descriptorIndex := 6, attributes := #[] }, { accessFlags := 0, nameIndex := 26, descriptorIndex := 27, attributes := #[] }, { accessFlags := 0, nameIndex := 29, descriptorIndex := 30, attributes := #[] }] 48 2 #[] #[{ accessFlags := 26, nameIndex := 19, descriptorIndex := 12, attributes := #[] }, { accessFlags := 26, nameIndex := 22, descriptorIndex := 12, attributes := #[] }, { accessFlags := 2, nameIndex := 18, descriptorIndex := 12, attributes := #[] }, { accessFlags := 2, nameIndex := 11, descriptorIndex := 12, attributes := #[] }, { accessFlags := 2, nameIndex := 15, descriptorIndex := 12, attributes := #[] }])
  fields := #[{ name := "CONTINUATION_LOWEST", type := .int, accessFlags := 26, slot := 0, constantValue := 0 }, { name := "CONTINUATION_HIGHEST", type := .int, accessFlags := 26, slot := 1, constantValue := 0 }, { name := "needed", type := .int, accessFlags := 2, slot := 0, constantValue := 0 }, { name := "lowest", type := .int, accessFlags := 2, slot := 1, constantValue := 0 }, { name := "highest", type := .int, accessFlags := 2, slot := 2, constantValue := 0 }]
  methods := #[k2m0, k2m1, k2m2]
  instanceTypes := #[.int, .int, .int]
  staticTypes := #[.int, .int]
  resolved := Array.replicate 34 none
  statics := none }

def pool3 : Array CpInfo := pool [(1, u "java/lang/Cloneable"), (0, .class_ 1), (0, u "java/lang/Object"), (0, .class_ 3)] 3

/-- java/lang/Cloneable -/
def k3 : Class := { plain "java/lang/Cloneable" (some 0) with
  accessFlags := 1537
  interfaces := #[]
  cf := some (fileOf pool3 2 #[] #[] 1537 4 #[] #[])
  fields := #[]
  methods := #[]
  instanceTypes := #[]
  staticTypes := #[]
  resolved := Array.replicate 8 none
  statics := none }

def pool4 : Array CpInfo := pool [(1, u "java/io/Serializable"), (0, .class_ 1), (0, u "java/lang/Object"), (0, .class_ 3)] 3

/-- java/io/Serializable -/
def k4 : Class := { plain "java/io/Serializable" (some 0) with
  accessFlags := 1537
  interfaces := #[]
  cf := some (fileOf pool4 2 #[] #[] 1537 4 #[] #[])
  fields := #[]
  methods := #[]
  instanceTypes := #[]
  staticTypes := #[]
  resolved := Array.replicate 8 none
  statics := none }

/-- the primitive byte -/
def k5 : Class := { plain "byte" none with kind := .primitive 'B', accessFlags := 0x411 }
/-- [B -/
def k6 : Class := { plain "[B" (some 0) with kind := .array 5 .byte, interfaces := #[3, 4], accessFlags := 1041 }

/-- the primitive int -/
def k7 : Class := { plain "int" none with kind := .primitive 'I', accessFlags := 0x411 }
/-- [I -/
def k8 : Class := { plain "[I" (some 0) with kind := .array 7 .int, interfaces := #[3, 4], accessFlags := 1041 }

def heap : Heap := #[]
def classes : Array Class := #[k0, k1, k2, k3, k4, k5, k6, k7, k8]
def interned : List (Array UInt16 × Addr) := []
def slotsUsed : Nat := 0
def theMethod : MethodId := ⟨1, 5⟩
def args0 : Array Value := #[.int 3, .int 4, .int 5, .int 6, .int 7]
def aboutOver (below : List Frame) : State where
  vm := { classes := classes, interned := interned.toArray }
  heap := heap
  slotsUsed := slotsUsed
  threads := #[{ frames := .invoking theMethod args0 :: below }]
def below0 : List Frame := [.native { method := ⟨0, 0⟩, args := #[] }]
def about1 : State := aboutOver below0
def p0 : Program := .bare "" "" ""
def e0 : Env := launch0.env 0 0 0
theorem w_frames : about1.frames = Frame.invoking theMethod args0 :: below0 := rfl
set_option maxRecDepth 65536 in
theorem w_args : argsFit about1.vm theMethod args0 = true := by decide +kernel
set_option maxRecDepth 65536 in
theorem w_heap : heapFits about1 = true := by decide +kernel
set_option maxRecDepth 65536 in
theorem w_runnable : about1.curStatus? = some .runnable := by decide +kernel
set_option maxRecDepth 65536 in
theorem w_alone : about1.alone = true := by decide +kernel
set_option maxRecDepth 65536 in
theorem w_named : about1.methodNamed? x = some theMethod := by decide +kernel
set_option maxRecDepth 65536 in
theorem w_hears : about1.hears theMethod below0 = true := by decide +kernel
set_option maxRecDepth 65536 in
theorem w_ripe : about1.ripe theMethod args0 below0 = true := by decide +kernel
theorem w_running : about1.status = .running := rfl
set_option maxRecDepth 65536 in
theorem w_room : about1.hasRoom e0.platform room_1 = true :=
  launch0.hasRoom_least _ room_1 (by decide +kernel) (by decide +kernel) (by decide +kernel) (by decide +kernel) (by decide +kernel) (by decide +kernel)
theorem allAtoms_all (ts : List Jvm.Cond) (a : Array Jvm.Value) (st : Jvm.State) : (allAtoms ts).before a st = ts.all (fun c => c.before a st) := by
  induction ts with
  | nil => rfl
  | cons c t ih =>
    show (Jvm.Cond.and c (allAtoms t)).before a st = _
    rw [Jvm.Cond.before_and, ih, List.all_cons]
def words1 : List Jvm.Cond := Jvm.Cond.code x code maxLocals ret :: tables_1
/-- a 'code' word, met by the world's own term for the bytes: nothing is compared byte by byte -/
theorem code_word {y : MethodName} {bytes : ByteArray} {mx : Nat} {rt : Option FieldType} {a : Array Value} {s : State} {m : MethodId} {meth : Method} {c : Code} (h1 : s.methodNamed? y = some m) (h2 : s.vm.method? m = some meth) (h3 : meth.code = some c) (h4 : c.code = bytes)
    (h5 : (c.maxLocals == mx && c.exceptionTable.isEmpty && decide (c.maxStack ≤ mostOperands) && decide (meth.sig.returnType = rt) && !meth.locks && decide (parseMethodDescriptor y.desc = some meth.sig)) = true) : (Jvm.Cond.code y bytes mx rt).before a s = true := by
  simp only [Bool.and_eq_true, beq_iff_eq, Bool.not_eq_true', decide_eq_true_eq] at h5
  obtain ⟨⟨⟨⟨⟨g1, g2⟩, g3⟩, g4⟩, g5⟩, g6⟩ := h5
  simp [Cond.before, Cond.holds, Cond.value, h1, h2, h3, h4, g1, g2, g3, g4, g5, g6]
def isCode : Jvm.Cond → Bool
  | .code _ _ _ _ => true
  | _ => false
theorem all_split {L : List Jvm.Cond} {P : Jvm.Cond → Bool} (h1 : L.all (fun c => isCode c || P c) = true) (h2 : ∀ c ∈ L.filter isCode, P c = true) : L.all P = true := by
  refine List.all_eq_true.mpr fun c hc => ?_
  have h := List.all_eq_true.mp h1 c hc
  rcases Bool.eq_false_or_eq_true (isCode c) with hi | hi
  · exact h2 c (List.mem_filter.mpr ⟨hc, hi⟩)
  · simpa [hi] using h
set_option maxRecDepth 65536 in
theorem w_c0 : (Jvm.Cond.code x code maxLocals ret).before args0 about1 = true := code_word (m := ⟨1, 5⟩) (meth := k1m5) (c := k1c5) (by decide +kernel) rfl rfl rfl (by decide +kernel)
set_option maxRecDepth 65536 in
theorem w_c1 : (Jvm.Cond.code ({ cls := "com/example/dawdling_reader/dawdlingreader/mqtt/Utf8", name := "<init>", desc := "()V" } : Jvm.MethodName) prog_31_method_1_code (1 : Nat) (Option.none : Option Jvm.ClassFile.FieldType)).before args0 about1 = true := code_word (m := ⟨2, 0⟩) (meth := k2m0) (c := k2c0) (by decide +kernel) rfl rfl rfl (by decide +kernel)
set_option maxRecDepth 65536 in
theorem w_c2 : (Jvm.Cond.code ({ cls := "java/lang/Object", name := "<init>", desc := "()V" } : Jvm.MethodName) object_method_1_code (1 : Nat) (Option.none : Option Jvm.ClassFile.FieldType)).before args0 about1 = true := code_word (m := ⟨0, 0⟩) (meth := k0m0) (c := k0c0) (by decide +kernel) rfl rfl rfl (by decide +kernel)
set_option maxRecDepth 65536 in
theorem w_c3 : (Jvm.Cond.code ({ cls := "com/example/dawdling_reader/dawdlingreader/mqtt/Utf8AcceptPinLaw", name := "step", desc := "(Lcom/example/dawdling_reader/dawdlingreader/mqtt/Utf8;II)I" } : Jvm.MethodName) method_5_code (5 : Nat) (Option.some Jvm.ClassFile.FieldType.int)).before args0 about1 = true := code_word (m := ⟨1, 4⟩) (meth := k1m4) (c := k1c4) (by decide +kernel) rfl rfl rfl (by decide +kernel)
set_option maxRecDepth 65536 in
theorem w_c4 : (Jvm.Cond.code ({ cls := "com/example/dawdling_reader/dawdlingreader/mqtt/Utf8AcceptPinLaw", name := "next", desc := "(II)I" } : Jvm.MethodName) method_4_code (5 : Nat) (Option.some Jvm.ClassFile.FieldType.int)).before args0 about1 = true := code_word (m := ⟨1, 3⟩) (meth := k1m3) (c := k1c3) (by decide +kernel) rfl rfl rfl (by decide +kernel)
set_option maxRecDepth 65536 in
theorem w_c5 : (Jvm.Cond.code ({ cls := "com/example/dawdling_reader/dawdlingreader/mqtt/Utf8AcceptPinLaw", name := "len", desc := "(I)I" } : Jvm.MethodName) method_2_code (1 : Nat) (Option.some Jvm.ClassFile.FieldType.int)).before args0 about1 = true := code_word (m := ⟨1, 1⟩) (meth := k1m1) (c := k1c1) (by decide +kernel) rfl rfl rfl (by decide +kernel)
set_option maxRecDepth 65536 in
theorem w_c6 : (Jvm.Cond.code ({ cls := "com/example/dawdling_reader/dawdlingreader/mqtt/Utf8", name := "accept", desc := "(I)Z" } : Jvm.MethodName) prog_31_method_2_code (2 : Nat) (Option.some Jvm.ClassFile.FieldType.boolean)).before args0 about1 = true := code_word (m := ⟨2, 1⟩) (meth := k2m1) (c := k2c1) (by decide +kernel) rfl rfl rfl (by decide +kernel)
set_option maxRecDepth 65536 in
theorem w_c7 : (Jvm.Cond.code ({ cls := "com/example/dawdling_reader/dawdlingreader/mqtt/Utf8", name := "atCharacterEnd", desc := "()Z" } : Jvm.MethodName) prog_31_method_3_code (1 : Nat) (Option.some Jvm.ClassFile.FieldType.boolean)).before args0 about1 = true := code_word (m := ⟨2, 2⟩) (meth := k2m2) (c := k2c2) (by decide +kernel) rfl rfl rfl (by decide +kernel)
set_option maxRecDepth 65536 in
theorem w_c8 : (Jvm.Cond.code ({ cls := "com/example/dawdling_reader/dawdlingreader/mqtt/Utf8AcceptPinLaw", name := "contOk", desc := "(III)Z" } : Jvm.MethodName) method_3_code (3 : Nat) (Option.some Jvm.ClassFile.FieldType.boolean)).before args0 about1 = true := code_word (m := ⟨1, 2⟩) (meth := k1m2) (c := k1c2) (by decide +kernel) rfl rfl rfl (by decide +kernel)
def codes1 : List Jvm.Cond := [Jvm.Cond.code x code maxLocals ret, Jvm.Cond.code ({ cls := "com/example/dawdling_reader/dawdlingreader/mqtt/Utf8", name := "<init>", desc := "()V" } : Jvm.MethodName) prog_31_method_1_code (1 : Nat) (Option.none : Option Jvm.ClassFile.FieldType), Jvm.Cond.code ({ cls := "java/lang/Object", name := "<init>", desc := "()V" } : Jvm.MethodName) object_method_1_code (1 : Nat) (Option.none : Option Jvm.ClassFile.FieldType), Jvm.Cond.code ({ cls := "com/example/dawdling_reader/dawdlingreader/mqtt/Utf8AcceptPinLaw", name := "step", desc := "(Lcom/example/dawdling_reader/dawdlingreader/mqtt/Utf8;II)I" } : Jvm.MethodName) method_5_code (5 : Nat) (Option.some Jvm.ClassFile.FieldType.int), Jvm.Cond.code ({ cls := "com/example/dawdling_reader/dawdlingreader/mqtt/Utf8AcceptPinLaw", name := "next", desc := "(II)I" } : Jvm.MethodName) method_4_code (5 : Nat) (Option.some Jvm.ClassFile.FieldType.int), Jvm.Cond.code ({ cls := "com/example/dawdling_reader/dawdlingreader/mqtt/Utf8AcceptPinLaw", name := "len", desc := "(I)I" } : Jvm.MethodName) method_2_code (1 : Nat) (Option.some Jvm.ClassFile.FieldType.int), Jvm.Cond.code ({ cls := "com/example/dawdling_reader/dawdlingreader/mqtt/Utf8", name := "accept", desc := "(I)Z" } : Jvm.MethodName) prog_31_method_2_code (2 : Nat) (Option.some Jvm.ClassFile.FieldType.boolean), Jvm.Cond.code ({ cls := "com/example/dawdling_reader/dawdlingreader/mqtt/Utf8", name := "atCharacterEnd", desc := "()Z" } : Jvm.MethodName) prog_31_method_3_code (1 : Nat) (Option.some Jvm.ClassFile.FieldType.boolean), Jvm.Cond.code ({ cls := "com/example/dawdling_reader/dawdlingreader/mqtt/Utf8AcceptPinLaw", name := "contOk", desc := "(III)Z" } : Jvm.MethodName) method_3_code (3 : Nat) (Option.some Jvm.ClassFile.FieldType.boolean)]
set_option maxRecDepth 65536 in
theorem codes_eq : words1.filter isCode = codes1 := rfl
theorem w_codes : ∀ c ∈ words1.filter isCode, c.before args0 about1 = true := by
  rw [codes_eq]
  intro c hc
  simp only [codes1, List.mem_cons, List.not_mem_nil, or_false] at hc
  rcases hc with rfl | rfl | rfl | rfl | rfl | rfl | rfl | rfl | rfl
  · exact w_c0
  · exact w_c1
  · exact w_c2
  · exact w_c3
  · exact w_c4
  · exact w_c5
  · exact w_c6
  · exact w_c7
  · exact w_c8
set_option maxRecDepth 65536 in
theorem w_t1 : (words1.take 24).all (fun c => isCode c || c.before args0 about1) = true := by decide +kernel
set_option maxRecDepth 65536 in
theorem w_t2 : (words1.drop 24).all (fun c => isCode c || c.before args0 about1) = true := by decide +kernel
theorem w_tables : (allAtoms (Jvm.Cond.code x code maxLocals ret :: tables_1)).before args0 about1 = true := by
  rw [allAtoms_all]
  show words1.all (fun c => c.before args0 about1) = true
  refine all_split ?_ w_codes
  rw [← List.take_append_drop 24 words1, List.all_append, w_t1, w_t2]
  rfl
set_option maxRecDepth 65536 in
theorem w_case : (Jvm.Cond.and given_1 narrow_1).before args0 about1 = true := by decide +kernel
theorem w_applies : (headSpec (Jvm.Cond.code x code maxLocals ret :: tables_1) room_1).applies x e0.platform about1 = true :=
  (Spec.applies_iff w_frames).mpr ⟨w_running, w_runnable, w_alone, w_named, w_hears, w_ripe, w_room, w_tables⟩
theorem atStart : AtStart classFile x code maxLocals ret World_1 tables_1 room_1 Calls_1 rest_1 Pre_1 launch0 p0 e0 about1 theMethod args0 below0 :=
  ⟨lists_1, trivial, launch0.admits_env _ _ _, launch0.least_env, fairChoices_fair.cas, fairChoices_fair.clock, w_frames, w_args, w_heap, w_applies, trivial, trivial, w_case⟩
end start1
theorem witness_1 : WitnessClaimed_1 := ⟨start1.p0, start1.e0, start1.about1, start1.theMethod, start1.args0, start1.below0, start1.atStart⟩
end Jvm.Pilot.@@N@@
