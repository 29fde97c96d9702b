import JvmDerived
import JvmDerived.Pilot.@@N@@Statement
import JvmDerived.Pilot.@@N@@Code
set_option linter.unusedVariables false
set_option linter.unusedSimpArgs false
@@BLOCK:NumsL.lean.txt@@
namespace Jvm.Pilot.@@N@@
open Jvm Jvm.ClassFile Sem Op Lib Jvm.Free Jvm.Stand Jvm.LawKit Jvm.RoadKit Bundle Jvm.Pilot.@@N@@.Jvm.D
section Own
variable {p : Program} {l : Launch} {e : Env} {R : Room} {s : State} {m : MethodId} {args : Array Value} {below : List Frame} {meth : Method} {c : Code} {T : State} {locs : List Loc} {cells slots : Nat} {Q : Option Value → Heap → List Loc → Prop} {K N : Nat} {s' : State} {E : State → Outcome → State → List Loc → Nat → Nat → Prop}
/-- the run from a ends in a return of which Q holds, within the frame -/
def own_End (p : Program) (e : Env) (below : List Frame) (s : State) (Q : Option Value → Heap → List Loc → Prop) (K N : Nat) (a : State) (E : State → Outcome → State → List Loc → Nat → Nat → Prop := FrameEnd) : Prop :=
  ∃ s₂ o, Steps p.tables e below a s₂ ∧ s₂.status = .running ∧ Ended s₂ below o ∧ ∃ v L, o = .returned v ∧ Q v s₂.heap L ∧ E s o s₂ L K N
theorem own_back {a b : State} (k : ∀ t, Steps p.tables e below b t → Steps p.tables e below a t) (h : own_End p e below s Q K N b E) : own_End p e below s Q K N a E := by
  obtain ⟨s₂, o, h1, h2⟩ := h
  exact ⟨s₂, o, k _ h1, h2⟩
theorem own_via {a b : State} (k : Steps p.tables e below a b) (h : own_End p e below s Q K N b E) : own_End p e below s Q K N a E :=
  own_back (fun _ j => k.trans j) h
theorem own_selfsel {y : MethodName} {n : Nat} (wi : (Jvm.Cond.instantiable y.cls n).before args s = true) (hp : s.PrivateAt y) (hi : (Jvm.Cond.instanceMethod y).before args s = true) (hy : y.cls ≠ "java/lang/invoke/MethodHandle" ∧ y.cls ≠ "java/lang/invoke/VarHandle") : (Jvm.Cond.selects y.cls y y).before args s = true := by
  obtain ⟨c, k, h1, h2, -, h4, -⟩ := Cond.instantiable_spec wi
  exact selects_self_of_private h1 h2 (Bool.or_eq_false_iff.mp h4).1 hp hi hy
theorem own_cast {a b : State} (q : a = b) (h : own_End p e below s Q K N b E) : own_End p e below s Q K N a E := q ▸ h
theorem own_iadd (X : Stand p l e R s' m args below meth c T locs cells slots) (hx : p.tables.exec = Jvm.exec) {pc q : Nat} {Ls : Array Slot} {rest : List Value} (hd : decode c.code pc = .ok (.iadd, 1)) {x y : Int32} (hq : pc + 1 = q) (h : own_End p e below s Q K N (T.setTop (mkF m q Ls (.int (x + y) :: rest))) E) : own_End p e below s Q K N (T.setTop (mkF m pc Ls (.int y :: .int x :: rest))) E := by
  subst hq; exact own_back (fun _ k => XS.iadd X.here hx rfl hd rfl k) h
theorem own_isub (X : Stand p l e R s' m args below meth c T locs cells slots) (hx : p.tables.exec = Jvm.exec) {pc q : Nat} {Ls : Array Slot} {rest : List Value} (hd : decode c.code pc = .ok (.isub, 1)) {x y : Int32} (hq : pc + 1 = q) (h : own_End p e below s Q K N (T.setTop (mkF m q Ls (.int (x - y) :: rest))) E) : own_End p e below s Q K N (T.setTop (mkF m pc Ls (.int y :: .int x :: rest))) E := by
  subst hq; exact own_back (fun _ k => XS.isub X.here hx rfl hd rfl k) h
theorem own_imul (X : Stand p l e R s' m args below meth c T locs cells slots) (hx : p.tables.exec = Jvm.exec) {pc q : Nat} {Ls : Array Slot} {rest : List Value} (hd : decode c.code pc = .ok (.imul, 1)) {x y : Int32} (hq : pc + 1 = q) (h : own_End p e below s Q K N (T.setTop (mkF m q Ls (.int (x * y) :: rest))) E) : own_End p e below s Q K N (T.setTop (mkF m pc Ls (.int y :: .int x :: rest))) E := by
  subst hq; exact own_back (fun _ k => XS.imul X.here hx rfl hd rfl k) h
theorem own_iand (X : Stand p l e R s' m args below meth c T locs cells slots) (hx : p.tables.exec = Jvm.exec) {pc q : Nat} {Ls : Array Slot} {rest : List Value} (hd : decode c.code pc = .ok (.iand, 1)) {x y : Int32} (hq : pc + 1 = q) (h : own_End p e below s Q K N (T.setTop (mkF m q Ls (.int (x &&& y) :: rest))) E) : own_End p e below s Q K N (T.setTop (mkF m pc Ls (.int y :: .int x :: rest))) E := by
  subst hq; exact own_back (fun _ k => XS.iand X.here hx rfl hd rfl k) h
theorem own_ior (X : Stand p l e R s' m args below meth c T locs cells slots) (hx : p.tables.exec = Jvm.exec) {pc q : Nat} {Ls : Array Slot} {rest : List Value} (hd : decode c.code pc = .ok (.ior, 1)) {x y : Int32} (hq : pc + 1 = q) (h : own_End p e below s Q K N (T.setTop (mkF m q Ls (.int (x ||| y) :: rest))) E) : own_End p e below s Q K N (T.setTop (mkF m pc Ls (.int y :: .int x :: rest))) E := by
  subst hq; exact own_back (fun _ k => XS.ior X.here hx rfl hd rfl k) h
theorem own_ixor (X : Stand p l e R s' m args below meth c T locs cells slots) (hx : p.tables.exec = Jvm.exec) {pc q : Nat} {Ls : Array Slot} {rest : List Value} (hd : decode c.code pc = .ok (.ixor, 1)) {x y : Int32} (hq : pc + 1 = q) (h : own_End p e below s Q K N (T.setTop (mkF m q Ls (.int (x ^^^ y) :: rest))) E) : own_End p e below s Q K N (T.setTop (mkF m pc Ls (.int y :: .int x :: rest))) E := by
  subst hq; exact own_back (fun _ k => XS.ixor X.here hx rfl hd rfl k) h
theorem own_ishl (X : Stand p l e R s' m args below meth c T locs cells slots) (hx : p.tables.exec = Jvm.exec) {pc q : Nat} {Ls : Array Slot} {rest : List Value} (hd : decode c.code pc = .ok (.ishl, 1)) {x y : Int32} (hq : pc + 1 = q) (h : own_End p e below s Q K N (T.setTop (mkF m q Ls (.int (x <<< (y &&& 31)) :: rest))) E) : own_End p e below s Q K N (T.setTop (mkF m pc Ls (.int y :: .int x :: rest))) E := by
  subst hq; exact own_back (fun _ k => XS.ishl X.here hx rfl hd rfl k) h
theorem own_ishr (X : Stand p l e R s' m args below meth c T locs cells slots) (hx : p.tables.exec = Jvm.exec) {pc q : Nat} {Ls : Array Slot} {rest : List Value} (hd : decode c.code pc = .ok (.ishr, 1)) {x y : Int32} (hq : pc + 1 = q) (h : own_End p e below s Q K N (T.setTop (mkF m q Ls (.int (x >>> (y &&& 31)) :: rest))) E) : own_End p e below s Q K N (T.setTop (mkF m pc Ls (.int y :: .int x :: rest))) E := by
  subst hq; exact own_back (fun _ k => XS.ishr X.here hx rfl hd rfl k) h
theorem own_iushr (X : Stand p l e R s' m args below meth c T locs cells slots) (hx : p.tables.exec = Jvm.exec) {pc q : Nat} {Ls : Array Slot} {rest : List Value} (hd : decode c.code pc = .ok (.iushr, 1)) {x y : Int32} (hq : pc + 1 = q) (h : own_End p e below s Q K N (T.setTop (mkF m q Ls (.int ((x.toUInt32 >>> (y &&& 31).toUInt32).toInt32) :: rest))) E) : own_End p e below s Q K N (T.setTop (mkF m pc Ls (.int y :: .int x :: rest))) E := by
  subst hq; exact own_back (fun _ k => XS.iushr X.here hx rfl hd rfl k) h
theorem own_ladd (X : Stand p l e R s' m args below meth c T locs cells slots) (hx : p.tables.exec = Jvm.exec) {pc q : Nat} {Ls : Array Slot} {rest : List Value} (hd : decode c.code pc = .ok (.ladd, 1)) {x y : Int64} (hq : pc + 1 = q) (h : own_End p e below s Q K N (T.setTop (mkF m q Ls (.long (x + y) :: rest))) E) : own_End p e below s Q K N (T.setTop (mkF m pc Ls (.long y :: .long x :: rest))) E := by
  subst hq; exact own_back (fun _ k => XS.ladd X.here hx rfl hd rfl k) h
theorem own_lsub (X : Stand p l e R s' m args below meth c T locs cells slots) (hx : p.tables.exec = Jvm.exec) {pc q : Nat} {Ls : Array Slot} {rest : List Value} (hd : decode c.code pc = .ok (.lsub, 1)) {x y : Int64} (hq : pc + 1 = q) (h : own_End p e below s Q K N (T.setTop (mkF m q Ls (.long (x - y) :: rest))) E) : own_End p e below s Q K N (T.setTop (mkF m pc Ls (.long y :: .long x :: rest))) E := by
  subst hq; exact own_back (fun _ k => XS.lsub X.here hx rfl hd rfl k) h
theorem own_lmul (X : Stand p l e R s' m args below meth c T locs cells slots) (hx : p.tables.exec = Jvm.exec) {pc q : Nat} {Ls : Array Slot} {rest : List Value} (hd : decode c.code pc = .ok (.lmul, 1)) {x y : Int64} (hq : pc + 1 = q) (h : own_End p e below s Q K N (T.setTop (mkF m q Ls (.long (x * y) :: rest))) E) : own_End p e below s Q K N (T.setTop (mkF m pc Ls (.long y :: .long x :: rest))) E := by
  subst hq; exact own_back (fun _ k => XS.lmul X.here hx rfl hd rfl k) h
theorem own_land (X : Stand p l e R s' m args below meth c T locs cells slots) (hx : p.tables.exec = Jvm.exec) {pc q : Nat} {Ls : Array Slot} {rest : List Value} (hd : decode c.code pc = .ok (.land, 1)) {x y : Int64} (hq : pc + 1 = q) (h : own_End p e below s Q K N (T.setTop (mkF m q Ls (.long (x &&& y) :: rest))) E) : own_End p e below s Q K N (T.setTop (mkF m pc Ls (.long y :: .long x :: rest))) E := by
  subst hq; exact own_back (fun _ k => XS.land X.here hx rfl hd rfl k) h
theorem own_lor (X : Stand p l e R s' m args below meth c T locs cells slots) (hx : p.tables.exec = Jvm.exec) {pc q : Nat} {Ls : Array Slot} {rest : List Value} (hd : decode c.code pc = .ok (.lor, 1)) {x y : Int64} (hq : pc + 1 = q) (h : own_End p e below s Q K N (T.setTop (mkF m q Ls (.long (x ||| y) :: rest))) E) : own_End p e below s Q K N (T.setTop (mkF m pc Ls (.long y :: .long x :: rest))) E := by
  subst hq; exact own_back (fun _ k => XS.lor X.here hx rfl hd rfl k) h
theorem own_lxor (X : Stand p l e R s' m args below meth c T locs cells slots) (hx : p.tables.exec = Jvm.exec) {pc q : Nat} {Ls : Array Slot} {rest : List Value} (hd : decode c.code pc = .ok (.lxor, 1)) {x y : Int64} (hq : pc + 1 = q) (h : own_End p e below s Q K N (T.setTop (mkF m q Ls (.long (x ^^^ y) :: rest))) E) : own_End p e below s Q K N (T.setTop (mkF m pc Ls (.long y :: .long x :: rest))) E := by
  subst hq; exact own_back (fun _ k => XS.lxor X.here hx rfl hd rfl k) h
theorem own_lshl (X : Stand p l e R s' m args below meth c T locs cells slots) (hx : p.tables.exec = Jvm.exec) {pc q : Nat} {Ls : Array Slot} {rest : List Value} (hd : decode c.code pc = .ok (.lshl, 1)) {x : Int64} {y : Int32} (hq : pc + 1 = q) (h : own_End p e below s Q K N (T.setTop (mkF m q Ls (.long (x <<< (y &&& 0x3f).toInt64) :: rest))) E) : own_End p e below s Q K N (T.setTop (mkF m pc Ls (.int y :: .long x :: rest))) E := by
  subst hq; exact own_back (fun _ k => XS.lshl X.here hx rfl hd rfl k) h
theorem own_lshr (X : Stand p l e R s' m args below meth c T locs cells slots) (hx : p.tables.exec = Jvm.exec) {pc q : Nat} {Ls : Array Slot} {rest : List Value} (hd : decode c.code pc = .ok (.lshr, 1)) {x : Int64} {y : Int32} (hq : pc + 1 = q) (h : own_End p e below s Q K N (T.setTop (mkF m q Ls (.long (x >>> (y &&& 0x3f).toInt64) :: rest))) E) : own_End p e below s Q K N (T.setTop (mkF m pc Ls (.int y :: .long x :: rest))) E := by
  subst hq; exact own_back (fun _ k => XS.lshr X.here hx rfl hd rfl k) h
theorem own_lushr (X : Stand p l e R s' m args below meth c T locs cells slots) (hx : p.tables.exec = Jvm.exec) {pc q : Nat} {Ls : Array Slot} {rest : List Value} (hd : decode c.code pc = .ok (.lushr, 1)) {x : Int64} {y : Int32} (hq : pc + 1 = q) (h : own_End p e below s Q K N (T.setTop (mkF m q Ls (.long ((x.toUInt64 >>> (y &&& 0x3f).toInt64.toUInt64).toInt64) :: rest))) E) : own_End p e below s Q K N (T.setTop (mkF m pc Ls (.int y :: .long x :: rest))) E := by
  subst hq; exact own_back (fun _ k => XS.lushr X.here hx rfl hd rfl k) h
theorem own_idiv (X : Stand p l e R s' m args below meth c T locs cells slots) (hx : p.tables.exec = Jvm.exec) {pc q : Nat} {Ls : Array Slot} {rest : List Value} (hd : decode c.code pc = .ok (.idiv, 1)) {x y : Int32} (hy : y ≠ 0) (hq : pc + 1 = q) (h : own_End p e below s Q K N (T.setTop (mkF m q Ls (.int (x / y) :: rest))) E) : own_End p e below s Q K N (T.setTop (mkF m pc Ls (.int y :: .int x :: rest))) E := by
  subst hq; exact own_back (fun _ k => XS.idiv X.here hx rfl hd rfl hy k) h
theorem own_irem (X : Stand p l e R s' m args below meth c T locs cells slots) (hx : p.tables.exec = Jvm.exec) {pc q : Nat} {Ls : Array Slot} {rest : List Value} (hd : decode c.code pc = .ok (.irem, 1)) {x y : Int32} (hy : y ≠ 0) (hq : pc + 1 = q) (h : own_End p e below s Q K N (T.setTop (mkF m q Ls (.int (x % y) :: rest))) E) : own_End p e below s Q K N (T.setTop (mkF m pc Ls (.int y :: .int x :: rest))) E := by
  subst hq; exact own_back (fun _ k => iremM X hx rfl hd rfl hy k) h
theorem own_ldiv (X : Stand p l e R s' m args below meth c T locs cells slots) (hx : p.tables.exec = Jvm.exec) {pc q : Nat} {Ls : Array Slot} {rest : List Value} (hd : decode c.code pc = .ok (.ldiv, 1)) {x y : Int64} (hy : y ≠ 0) (hq : pc + 1 = q) (h : own_End p e below s Q K N (T.setTop (mkF m q Ls (.long (x / y) :: rest))) E) : own_End p e below s Q K N (T.setTop (mkF m pc Ls (.long y :: .long x :: rest))) E := by
  subst hq; exact own_back (fun _ k => XS.ldiv X.here hx rfl hd rfl hy k) h
theorem own_lrem (X : Stand p l e R s' m args below meth c T locs cells slots) (hx : p.tables.exec = Jvm.exec) {pc q : Nat} {Ls : Array Slot} {rest : List Value} (hd : decode c.code pc = .ok (.lrem, 1)) {x y : Int64} (hy : y ≠ 0) (hq : pc + 1 = q) (h : own_End p e below s Q K N (T.setTop (mkF m q Ls (.long (x - (x / y) * y) :: rest))) E) : own_End p e below s Q K N (T.setTop (mkF m pc Ls (.long y :: .long x :: rest))) E := by
  subst hq; exact own_back (fun _ k => XS.lrem X.here hx rfl hd rfl hy k) h
theorem own_ineg (X : Stand p l e R s' m args below meth c T locs cells slots) (hx : p.tables.exec = Jvm.exec) {pc q : Nat} {Ls : Array Slot} {rest : List Value} (hd : decode c.code pc = .ok (.ineg, 1)) {x : Int32} (hq : pc + 1 = q) (h : own_End p e below s Q K N (T.setTop (mkF m q Ls (.int (-x) :: rest))) E) : own_End p e below s Q K N (T.setTop (mkF m pc Ls (.int x :: rest))) E := by
  subst hq; exact own_back (fun _ k => XS.ineg X.here hx rfl hd rfl k) h
theorem own_lneg (X : Stand p l e R s' m args below meth c T locs cells slots) (hx : p.tables.exec = Jvm.exec) {pc q : Nat} {Ls : Array Slot} {rest : List Value} (hd : decode c.code pc = .ok (.lneg, 1)) {x : Int64} (hq : pc + 1 = q) (h : own_End p e below s Q K N (T.setTop (mkF m q Ls (.long (-x) :: rest))) E) : own_End p e below s Q K N (T.setTop (mkF m pc Ls (.long x :: rest))) E := by
  subst hq; exact own_back (fun _ k => XS.lneg X.here hx rfl hd rfl k) h
theorem own_i2l (X : Stand p l e R s' m args below meth c T locs cells slots) (hx : p.tables.exec = Jvm.exec) {pc q : Nat} {Ls : Array Slot} {rest : List Value} (hd : decode c.code pc = .ok (.i2l, 1)) {x : Int32} (hq : pc + 1 = q) (h : own_End p e below s Q K N (T.setTop (mkF m q Ls (.long (x.toInt64) :: rest))) E) : own_End p e below s Q K N (T.setTop (mkF m pc Ls (.int x :: rest))) E := by
  subst hq; exact own_back (fun _ k => XS.i2l X.here hx rfl hd rfl k) h
theorem own_l2i (X : Stand p l e R s' m args below meth c T locs cells slots) (hx : p.tables.exec = Jvm.exec) {pc q : Nat} {Ls : Array Slot} {rest : List Value} (hd : decode c.code pc = .ok (.l2i, 1)) {x : Int64} (hq : pc + 1 = q) (h : own_End p e below s Q K N (T.setTop (mkF m q Ls (.int (x.toInt32) :: rest))) E) : own_End p e below s Q K N (T.setTop (mkF m pc Ls (.long x :: rest))) E := by
  subst hq; exact own_back (fun _ k => XS.l2i X.here hx rfl hd rfl k) h
theorem own_i2c (X : Stand p l e R s' m args below meth c T locs cells slots) (hx : p.tables.exec = Jvm.exec) {pc q : Nat} {Ls : Array Slot} {rest : List Value} (hd : decode c.code pc = .ok (.i2c, 1)) {x : Int32} (hq : pc + 1 = q) (h : own_End p e below s Q K N (T.setTop (mkF m q Ls (.int (x.toUInt32.toUInt16.toUInt32.toInt32) :: rest))) E) : own_End p e below s Q K N (T.setTop (mkF m pc Ls (.int x :: rest))) E := by
  subst hq; exact own_back (fun _ k => XS.i2c X.here hx rfl hd rfl k) h
theorem own_i2b (X : Stand p l e R s' m args below meth c T locs cells slots) (hx : p.tables.exec = Jvm.exec) {pc q : Nat} {Ls : Array Slot} {rest : List Value} (hd : decode c.code pc = .ok (.i2b, 1)) {x : Int32} (hq : pc + 1 = q) (h : own_End p e below s Q K N (T.setTop (mkF m q Ls (.int (x.toInt8.toInt32) :: rest))) E) : own_End p e below s Q K N (T.setTop (mkF m pc Ls (.int x :: rest))) E := by
  subst hq; exact own_back (fun _ k => XS.i2b X.here hx rfl hd rfl k) h
theorem own_i2s (X : Stand p l e R s' m args below meth c T locs cells slots) (hx : p.tables.exec = Jvm.exec) {pc q : Nat} {Ls : Array Slot} {rest : List Value} (hd : decode c.code pc = .ok (.i2s, 1)) {x : Int32} (hq : pc + 1 = q) (h : own_End p e below s Q K N (T.setTop (mkF m q Ls (.int (x.toInt16.toInt32) :: rest))) E) : own_End p e below s Q K N (T.setTop (mkF m pc Ls (.int x :: rest))) E := by
  subst hq; exact own_back (fun _ k => XS.i2s X.here hx rfl hd rfl k) h
theorem own_lcmp (X : Stand p l e R s' m args below meth c T locs cells slots) (hx : p.tables.exec = Jvm.exec) {pc q : Nat} {Ls : Array Slot} {rest : List Value} (hd : decode c.code pc = .ok (.lcmp, 1)) {x y : Int64} (hq : pc + 1 = q) (h : own_End p e below s Q K N (T.setTop (mkF m q Ls (.int (lcmpW x y) :: rest))) E) : own_End p e below s Q K N (T.setTop (mkF m pc Ls (.long y :: .long x :: rest))) E := by
  subst hq; exact own_back (fun _ k => XS.lcmp X.here hx rfl hd rfl k) h
theorem own_dup (X : Stand p l e R s' m args below meth c T locs cells slots) (hx : p.tables.exec = Jvm.exec) {pc q : Nat} {Ls : Array Slot} {rest : List Value} (hd : decode c.code pc = .ok (.dup, 1)) {v : Value} (hv : v.category = 1) (hq : pc + 1 = q) (h : own_End p e below s Q K N (T.setTop (mkF m q Ls (v :: v :: rest))) E) : own_End p e below s Q K N (T.setTop (mkF m pc Ls (v :: rest))) E := by
  subst hq; exact own_back (fun _ k => XS.dup X.here hx rfl hd rfl hv k) h
theorem own_dupx1 (X : Stand p l e R s' m args below meth c T locs cells slots) (hx : p.tables.exec = Jvm.exec) {pc q : Nat} {Ls : Array Slot} {rest : List Value} (hd : decode c.code pc = .ok (.dup_x1, 1)) {v w : Value} (hv : v.category = 1) (hw : w.category = 1) (hq : pc + 1 = q) (h : own_End p e below s Q K N (T.setTop (mkF m q Ls (v :: w :: v :: rest))) E) : own_End p e below s Q K N (T.setTop (mkF m pc Ls (v :: w :: rest))) E := by
  subst hq; exact own_back (fun _ k => XS.dupX1 X.here hx rfl hd rfl hv hw k) h
theorem own_pop (X : Stand p l e R s' m args below meth c T locs cells slots) (hx : p.tables.exec = Jvm.exec) {pc q : Nat} {Ls : Array Slot} {rest : List Value} (hd : decode c.code pc = .ok (.pop, 1)) {v : Value} (hv : v.category = 1) (hq : pc + 1 = q) (h : own_End p e below s Q K N (T.setTop (mkF m q Ls (rest))) E) : own_End p e below s Q K N (T.setTop (mkF m pc Ls (v :: rest))) E := by
  subst hq; exact own_back (fun _ k => XS.pop X.here hx rfl hd rfl hv k) h
theorem own_anull (X : Stand p l e R s' m args below meth c T locs cells slots) (hx : p.tables.exec = Jvm.exec) {pc q : Nat} {Ls : Array Slot} {rest : List Value} (hd : decode c.code pc = .ok (.aconst_null, 1))  (hq : pc + 1 = q) (h : own_End p e below s Q K N (T.setTop (mkF m q Ls (.null :: rest))) E) : own_End p e below s Q K N (T.setTop (mkF m pc Ls (rest))) E := by
  subst hq; exact own_back (fun _ k => XS.aconstNull X.here hx rfl hd k) h
theorem own_iload (X : Stand p l e R s' m args below meth c T locs cells slots) (hx : p.tables.exec = Jvm.exec) {pc q : Nat} {Ls : Array Slot} {rest : List Value} {k : Nat} {v : Int32} (hd : decode c.code pc = .ok (.iload k, 2)) (hl : Ls[k]? = some (.val (.int v))) (hq : pc + 2 = q) (h : own_End p e below s Q K N (T.setTop (mkF m q Ls (.int v :: rest))) E) : own_End p e below s Q K N (T.setTop (mkF m pc Ls (rest))) E := by
  subst hq; exact own_back (fun _ k => XS.iload X.here hx rfl hd hl k) h
theorem own_iloadN (X : Stand p l e R s' m args below meth c T locs cells slots) (hx : p.tables.exec = Jvm.exec) {pc q : Nat} {Ls : Array Slot} {rest : List Value} {k : Fin 4} {v : Int32} (hd : decode c.code pc = .ok (.iload_n k, 1)) (hl : Ls[k.val]? = some (.val (.int v))) (hq : pc + 1 = q) (h : own_End p e below s Q K N (T.setTop (mkF m q Ls (.int v :: rest))) E) : own_End p e below s Q K N (T.setTop (mkF m pc Ls (rest))) E := by
  subst hq; exact own_back (fun _ k => XS.iloadN X.here hx rfl hd hl k) h
theorem own_istore (X : Stand p l e R s' m args below meth c T locs cells slots) (hx : p.tables.exec = Jvm.exec) {pc q : Nat} {Ls : Array Slot} {rest : List Value} {k : Nat} {v : Int32} {l' : Array Slot} (hd : decode c.code pc = .ok (.istore k, 2)) (hl : storeLocals Ls k (.int v) = some l') (hq : pc + 2 = q) (h : own_End p e below s Q K N (T.setTop (mkF m q l' (rest))) E) : own_End p e below s Q K N (T.setTop (mkF m pc Ls (.int v :: rest))) E := by
  subst hq; exact own_back (fun _ k => XS.istore X.here hx rfl hd rfl hl k) h
theorem own_istoreN (X : Stand p l e R s' m args below meth c T locs cells slots) (hx : p.tables.exec = Jvm.exec) {pc q : Nat} {Ls : Array Slot} {rest : List Value} {k : Fin 4} {v : Int32} {l' : Array Slot} (hd : decode c.code pc = .ok (.istore_n k, 1)) (hl : storeLocals Ls k.val (.int v) = some l') (hq : pc + 1 = q) (h : own_End p e below s Q K N (T.setTop (mkF m q l' (rest))) E) : own_End p e below s Q K N (T.setTop (mkF m pc Ls (.int v :: rest))) E := by
  subst hq; exact own_back (fun _ k => XS.istoreN X.here hx rfl hd rfl hl k) h
theorem own_lload (X : Stand p l e R s' m args below meth c T locs cells slots) (hx : p.tables.exec = Jvm.exec) {pc q : Nat} {Ls : Array Slot} {rest : List Value} {k : Nat} {v : Int64} (hd : decode c.code pc = .ok (.lload k, 2)) (hl : Ls[k]? = some (.val (.long v))) (hq : pc + 2 = q) (h : own_End p e below s Q K N (T.setTop (mkF m q Ls (.long v :: rest))) E) : own_End p e below s Q K N (T.setTop (mkF m pc Ls (rest))) E := by
  subst hq; exact own_back (fun _ k => XS.lload X.here hx rfl hd hl k) h
theorem own_lloadN (X : Stand p l e R s' m args below meth c T locs cells slots) (hx : p.tables.exec = Jvm.exec) {pc q : Nat} {Ls : Array Slot} {rest : List Value} {k : Fin 4} {v : Int64} (hd : decode c.code pc = .ok (.lload_n k, 1)) (hl : Ls[k.val]? = some (.val (.long v))) (hq : pc + 1 = q) (h : own_End p e below s Q K N (T.setTop (mkF m q Ls (.long v :: rest))) E) : own_End p e below s Q K N (T.setTop (mkF m pc Ls (rest))) E := by
  subst hq; exact own_back (fun _ k => XS.lloadN X.here hx rfl hd hl k) h
theorem own_lstore (X : Stand p l e R s' m args below meth c T locs cells slots) (hx : p.tables.exec = Jvm.exec) {pc q : Nat} {Ls : Array Slot} {rest : List Value} {k : Nat} {v : Int64} {l' : Array Slot} (hd : decode c.code pc = .ok (.lstore k, 2)) (hl : storeLocals Ls k (.long v) = some l') (hq : pc + 2 = q) (h : own_End p e below s Q K N (T.setTop (mkF m q l' (rest))) E) : own_End p e below s Q K N (T.setTop (mkF m pc Ls (.long v :: rest))) E := by
  subst hq; exact own_back (fun _ k => XS.lstore X.here hx rfl hd rfl hl k) h
theorem own_lstoreN (X : Stand p l e R s' m args below meth c T locs cells slots) (hx : p.tables.exec = Jvm.exec) {pc q : Nat} {Ls : Array Slot} {rest : List Value} {k : Fin 4} {v : Int64} {l' : Array Slot} (hd : decode c.code pc = .ok (.lstore_n k, 1)) (hl : storeLocals Ls k.val (.long v) = some l') (hq : pc + 1 = q) (h : own_End p e below s Q K N (T.setTop (mkF m q l' (rest))) E) : own_End p e below s Q K N (T.setTop (mkF m pc Ls (.long v :: rest))) E := by
  subst hq; exact own_back (fun _ k => XS.lstoreN X.here hx rfl hd rfl hl k) h
theorem own_aload (X : Stand p l e R s' m args below meth c T locs cells slots) (hx : p.tables.exec = Jvm.exec) {pc q : Nat} {Ls : Array Slot} {rest : List Value} {k : Nat} {v : Value} (hd : decode c.code pc = .ok (.aload k, 2)) (hl : Ls[k]? = some (.val v)) (hv : v.isRef = true) (hq : pc + 2 = q) (h : own_End p e below s Q K N (T.setTop (mkF m q Ls (v :: rest))) E) : own_End p e below s Q K N (T.setTop (mkF m pc Ls (rest))) E := by
  subst hq; exact own_back (fun _ k => XS.aload X.here hx rfl hd hl hv k) h
theorem own_aloadN (X : Stand p l e R s' m args below meth c T locs cells slots) (hx : p.tables.exec = Jvm.exec) {pc q : Nat} {Ls : Array Slot} {rest : List Value} {k : Fin 4} {v : Value} (hd : decode c.code pc = .ok (.aload_n k, 1)) (hl : Ls[k.val]? = some (.val v)) (hv : v.isRef = true) (hq : pc + 1 = q) (h : own_End p e below s Q K N (T.setTop (mkF m q Ls (v :: rest))) E) : own_End p e below s Q K N (T.setTop (mkF m pc Ls (rest))) E := by
  subst hq; exact own_back (fun _ k => XS.aloadN X.here hx rfl hd hl hv k) h
theorem own_astore (X : Stand p l e R s' m args below meth c T locs cells slots) (hx : p.tables.exec = Jvm.exec) {pc q : Nat} {Ls : Array Slot} {rest : List Value} {k : Nat} {v : Value} {l' : Array Slot} (hd : decode c.code pc = .ok (.astore k, 2)) (hv : v.isRef = true) (hl : storeLocals Ls k v = some l') (hq : pc + 2 = q) (h : own_End p e below s Q K N (T.setTop (mkF m q l' (rest))) E) : own_End p e below s Q K N (T.setTop (mkF m pc Ls (v :: rest))) E := by
  subst hq; exact own_back (fun _ k => XS.astore X.here hx rfl hd rfl hv hl k) h
theorem own_astoreN (X : Stand p l e R s' m args below meth c T locs cells slots) (hx : p.tables.exec = Jvm.exec) {pc q : Nat} {Ls : Array Slot} {rest : List Value} {k : Fin 4} {v : Value} {l' : Array Slot} (hd : decode c.code pc = .ok (.astore_n k, 1)) (hv : v.isRef = true) (hl : storeLocals Ls k.val v = some l') (hq : pc + 1 = q) (h : own_End p e below s Q K N (T.setTop (mkF m q l' (rest))) E) : own_End p e below s Q K N (T.setTop (mkF m pc Ls (v :: rest))) E := by
  subst hq; exact own_back (fun _ k => XS.astoreN X.here hx rfl hd rfl hv hl k) h
theorem own_iinc (X : Stand p l e R s' m args below meth c T locs cells slots) (hx : p.tables.exec = Jvm.exec) {pc q : Nat} {Ls : Array Slot} {rest : List Value} {k : Nat} {cst : Int} {x z : Int32} {l' : Array Slot} (hd : decode c.code pc = .ok (.iinc k cst, 3)) (hl : Ls[k]? = some (.val (.int x))) (hz : Int32.ofInt cst = z) (hl' : storeLocals Ls k (.int (x + z)) = some l') (hq : pc + 3 = q) (h : own_End p e below s Q K N (T.setTop (mkF m q l' (rest))) E) : own_End p e below s Q K N (T.setTop (mkF m pc Ls (rest))) E := by
  subst hq hz; exact own_back (fun _ k => XS.iinc X.here hx rfl hd hl hl' k) h
theorem own_iconst (X : Stand p l e R s' m args below meth c T locs cells slots) (hx : p.tables.exec = Jvm.exec) {pc q : Nat} {Ls : Array Slot} {rest : List Value} {i : Int} {z : Int32} (hd : decode c.code pc = .ok (.iconst i, 1)) (hz : Int32.ofInt i = z) (hq : pc + 1 = q) (h : own_End p e below s Q K N (T.setTop (mkF m q Ls (.int z :: rest))) E) : own_End p e below s Q K N (T.setTop (mkF m pc Ls (rest))) E := by
  subst hq hz; exact own_back (fun _ k => XS.iconst X.here hx rfl hd k) h
theorem own_bipush (X : Stand p l e R s' m args below meth c T locs cells slots) (hx : p.tables.exec = Jvm.exec) {pc q : Nat} {Ls : Array Slot} {rest : List Value} {i : Int} {z : Int32} (hd : decode c.code pc = .ok (.bipush i, 2)) (hz : (Int8.ofInt i).toInt32 = z) (hq : pc + 2 = q) (h : own_End p e below s Q K N (T.setTop (mkF m q Ls (.int z :: rest))) E) : own_End p e below s Q K N (T.setTop (mkF m pc Ls (rest))) E := by
  subst hq hz; exact own_back (fun _ k => XS.bipush X.here hx rfl hd k) h
theorem own_sipush (X : Stand p l e R s' m args below meth c T locs cells slots) (hx : p.tables.exec = Jvm.exec) {pc q : Nat} {Ls : Array Slot} {rest : List Value} {i : Int} {z : Int32} (hd : decode c.code pc = .ok (.sipush i, 3)) (hz : (Int16.ofInt i).toInt32 = z) (hq : pc + 3 = q) (h : own_End p e below s Q K N (T.setTop (mkF m q Ls (.int z :: rest))) E) : own_End p e below s Q K N (T.setTop (mkF m pc Ls (rest))) E := by
  subst hq hz; exact own_back (fun _ k => XS.sipush X.here hx rfl hd k) h
theorem own_lconst (X : Stand p l e R s' m args below meth c T locs cells slots) (hx : p.tables.exec = Jvm.exec) {pc q : Nat} {Ls : Array Slot} {rest : List Value} {i : Fin 2} {z : Int64} (hd : decode c.code pc = .ok (.lconst i, 1)) (hz : Int64.ofNat i = z) (hq : pc + 1 = q) (h : own_End p e below s Q K N (T.setTop (mkF m q Ls (.long z :: rest))) E) : own_End p e below s Q K N (T.setTop (mkF m pc Ls (rest))) E := by
  subst hq hz; exact own_back (fun _ k => XS.lconst X.here hx rfl hd k) h
theorem own_goto (X : Stand p l e R s' m args below meth c T locs cells slots) (hx : p.tables.exec = Jvm.exec) {pc q : Nat} {Ls : Array Slot} {rest : List Value} {o : Int} (hd : decode c.code pc = .ok (.goto o, 3)) (ho : 0 ≤ (pc : Int) + o) (hp : ((pc : Int) + o).toNat = q) (h : own_End p e below s Q K N (T.setTop (mkF m q Ls (rest))) E) : own_End p e below s Q K N (T.setTop (mkF m pc Ls (rest))) E := by
  exact own_back (fun _ k => XS.goto X.here hx rfl (pc0 := pc) (pc' := q) rfl hd ho hp k) h
theorem own_ifY (X : Stand p l e R s' m args below meth c T locs cells slots) (hx : p.tables.exec = Jvm.exec) {pc q : Nat} {Ls : Array Slot} {rest : List Value} {cd : ClassFile.Cond} {x : Int32} {o : Int} (hd : decode c.code pc = .ok (.ifCond cd o, 3)) (hc : if_icmp.holds cd x 0 = true) (ho : 0 ≤ (pc : Int) + o) (hp : ((pc : Int) + o).toNat = q) (h : own_End p e below s Q K N (T.setTop (mkF m q Ls (rest))) E) : own_End p e below s Q K N (T.setTop (mkF m pc Ls (.int x :: rest))) E := by
  exact own_back (fun _ k => XS.ifYes X.here hx rfl (pc0 := pc) (pc' := q) rfl hd rfl ((if0 _ _).trans hc) ho hp k) h
theorem own_ifN (X : Stand p l e R s' m args below meth c T locs cells slots) (hx : p.tables.exec = Jvm.exec) {pc q : Nat} {Ls : Array Slot} {rest : List Value} {cd : ClassFile.Cond} {x : Int32} {o : Int} (hd : decode c.code pc = .ok (.ifCond cd o, 3)) (hc : if_icmp.holds cd x 0 = false) (hq : pc + 3 = q) (h : own_End p e below s Q K N (T.setTop (mkF m q Ls (rest))) E) : own_End p e below s Q K N (T.setTop (mkF m pc Ls (.int x :: rest))) E := by
  subst hq; exact own_back (fun _ k => XS.ifNo X.here hx rfl hd rfl ((if0 _ _).trans hc) k) h
theorem own_icY (X : Stand p l e R s' m args below meth c T locs cells slots) (hx : p.tables.exec = Jvm.exec) {pc q : Nat} {Ls : Array Slot} {rest : List Value} {cd : ClassFile.Cond} {x y : Int32} {o : Int} (hd : decode c.code pc = .ok (.if_icmp cd o, 3)) (hc : if_icmp.holds cd x y = true) (ho : 0 ≤ (pc : Int) + o) (hp : ((pc : Int) + o).toNat = q) (h : own_End p e below s Q K N (T.setTop (mkF m q Ls (rest))) E) : own_End p e below s Q K N (T.setTop (mkF m pc Ls (.int y :: .int x :: rest))) E := by
  exact own_back (fun _ k => XS.icmpYes X.here hx rfl (pc0 := pc) (pc' := q) rfl hd rfl hc ho hp k) h
theorem own_icN (X : Stand p l e R s' m args below meth c T locs cells slots) (hx : p.tables.exec = Jvm.exec) {pc q : Nat} {Ls : Array Slot} {rest : List Value} {cd : ClassFile.Cond} {x y : Int32} {o : Int} (hd : decode c.code pc = .ok (.if_icmp cd o, 3)) (hc : if_icmp.holds cd x y = false) (hq : pc + 3 = q) (h : own_End p e below s Q K N (T.setTop (mkF m q Ls (rest))) E) : own_End p e below s Q K N (T.setTop (mkF m pc Ls (.int y :: .int x :: rest))) E := by
  subst hq; exact own_back (fun _ k => XS.icmpNo X.here hx rfl hd rfl hc k) h
theorem own_lcY (X : Stand p l e R s' m args below meth c T locs cells slots) (hx : p.tables.exec = Jvm.exec) {pc r q : Nat} {Ls : Array Slot} {rest : List Value} {cd : ClassFile.Cond} {x y : Int64} {o : Int} (hd : decode c.code pc = .ok (.lcmp, 1)) (hr : pc + 1 = r) (hd' : decode c.code r = .ok (.ifCond cd o, 3)) (hc : if_icmp.holds cd (lcmpW x y) 0 = true) (ho : 0 ≤ (r : Int) + o) (hp : ((r : Int) + o).toNat = q) (h : own_End p e below s Q K N (T.setTop (mkF m q Ls (rest))) E) : own_End p e below s Q K N (T.setTop (mkF m pc Ls (.long y :: .long x :: rest))) E := own_lcmp X hx hd hr (own_ifY X hx hd' hc ho hp h)
theorem own_lcN (X : Stand p l e R s' m args below meth c T locs cells slots) (hx : p.tables.exec = Jvm.exec) {pc r q : Nat} {Ls : Array Slot} {rest : List Value} {cd : ClassFile.Cond} {x y : Int64} {o : Int} (hd : decode c.code pc = .ok (.lcmp, 1)) (hr : pc + 1 = r) (hd' : decode c.code r = .ok (.ifCond cd o, 3)) (hc : if_icmp.holds cd (lcmpW x y) 0 = false) (hq : r + 3 = q) (h : own_End p e below s Q K N (T.setTop (mkF m q Ls (rest))) E) : own_End p e below s Q K N (T.setTop (mkF m pc Ls (.long y :: .long x :: rest))) E := own_lcmp X hx hd hr (own_ifN X hx hd' hc hq h)
theorem own_tlt {x y : Int64} (h : x < y) : if_icmp.holds .lt (lcmpW x y) 0 = true ∧ if_icmp.holds .ge (lcmpW x y) 0 = false ∧ if_icmp.holds .gt (lcmpW y x) 0 = true ∧ if_icmp.holds .le (lcmpW y x) 0 = false :=
  ⟨(tlt ((lw_lt x y).mpr h)).1, (tlt ((lw_lt x y).mpr h)).2.1, (tlt ((lw_gt y x).mpr h)).2.2.1, (tlt ((lw_gt y x).mpr h)).2.2.2⟩
theorem own_flt {x y : Int64} (h : ¬ x < y) : if_icmp.holds .lt (lcmpW x y) 0 = false ∧ if_icmp.holds .ge (lcmpW x y) 0 = true ∧ if_icmp.holds .gt (lcmpW y x) 0 = false ∧ if_icmp.holds .le (lcmpW y x) 0 = true :=
  ⟨(flt (fun q => h ((lw_lt x y).mp q))).1, (flt (fun q => h ((lw_lt x y).mp q))).2.1, (flt (fun q => h ((lw_gt y x).mp q))).2.2.1, (flt (fun q => h ((lw_gt y x).mp q))).2.2.2⟩
theorem own_teq {x y : Int64} (h : x = y) : if_icmp.holds .eq (lcmpW x y) 0 = true ∧ if_icmp.holds .ne (lcmpW x y) 0 = false := teq ((lw_eq x y).mpr h)
theorem own_feq {x y : Int64} (h : ¬ x = y) : if_icmp.holds .eq (lcmpW x y) 0 = false ∧ if_icmp.holds .ne (lcmpW x y) 0 = true := feq (fun q => h ((lw_eq x y).mp q))
theorem own_retV (X : Stand p l e R s m args below meth c T locs cells slots) (hx : p.tables.exec = Jvm.exec) {pc : Nat} {Ls : Array Slot}  (hret : meth.sig.returnType = none) (hlk : meth.locks = false) (hc : cells ≤ K) (hs : slots ≤ N) (hd : decode c.code pc = .ok (.return_, 1)) (hQ : Q none T.heap locs) : own_End p e below s Q K N (T.setTop (mkF m pc Ls [])) := by
  obtain ⟨fs, hr, hrun, hended, hW, hsame⟩ := X.leave (v := none) (fun _ => rfl) hlk
  refine ⟨_, _, ?_, hrun, hended, _, _, rfl, hQ, ⟨_, rfl⟩, hW, hsame.mono hc hs⟩
  exact X.returnOut hx hret hd hr
theorem own_retI (X : Stand p l e R s m args below meth c T locs cells slots) (hx : p.tables.exec = Jvm.exec) {pc : Nat} {Ls : Array Slot} {rest : List Value} {z : Int32} (hret : meth.sig.returnType = some .int) (hlk : meth.locks = false) (hc : cells ≤ K) (hs : slots ≤ N) (hd : decode c.code pc = .ok (.ireturn, 1)) (hQ : Q (some (.int z)) T.heap locs) : own_End p e below s Q K N (T.setTop (mkF m pc Ls (.int z :: rest))) := by
  obtain ⟨fs, hr, hrun, hended, hW, hsame⟩ := X.leave (v := (some (.int z))) (fun h => by rw [hret] at h; cases h) hlk
  refine ⟨_, _, ?_, hrun, hended, _, _, rfl, hQ, ⟨_, rfl⟩, hW, hsame.mono hc hs⟩
  have hm' : T.vm.method? m = some meth := X.method'
  have hn : narrow .int (.int z) = .int z := rfl
  show Steps p.tables e below (T.setTop { method := m, pc := pc, locals := Ls, stack := _ :: rest, locked := none }) _
  jvm_step X.here [X.here.top, hx, hd, hm', hret, hn]
  first | (intro acts; rw [hr _ acts rfl rfl rfl]) | rw [hr _ _ rfl rfl rfl]
  exact Steps.refl _
theorem own_retJ (X : Stand p l e R s m args below meth c T locs cells slots) (hx : p.tables.exec = Jvm.exec) {pc : Nat} {Ls : Array Slot} {rest : List Value} {z : Int64} (hret : meth.sig.returnType = some .long) (hlk : meth.locks = false) (hc : cells ≤ K) (hs : slots ≤ N) (hd : decode c.code pc = .ok (.lreturn, 1)) (hQ : Q (some (.long z)) T.heap locs) : own_End p e below s Q K N (T.setTop (mkF m pc Ls (.long z :: rest))) := by
  obtain ⟨fs, hr, hrun, hended, hW, hsame⟩ := X.leave (v := (some (.long z))) (fun h => by rw [hret] at h; cases h) hlk
  refine ⟨_, _, ?_, hrun, hended, _, _, rfl, hQ, ⟨_, rfl⟩, hW, hsame.mono hc hs⟩
  have hm' : T.vm.method? m = some meth := X.method'
  have hn : narrow .long (.long z) = .long z := rfl
  show Steps p.tables e below (T.setTop { method := m, pc := pc, locals := Ls, stack := _ :: rest, locked := none }) _
  jvm_step X.here [X.here.top, hx, hd, hm', hret, hn]
  first | (intro acts; rw [hr _ acts rfl rfl rfl]) | rw [hr _ _ rfl rfl rfl]
  exact Steps.refl _
theorem own_retN (X : Stand p l e R s m args below meth c T locs cells slots) (hx : p.tables.exec = Jvm.exec) {pc : Nat} {Ls : Array Slot} {rest : List Value} {z : Int32} {t : FieldType} (ht : t = .boolean ∨ t = .byte ∨ t = .char ∨ t = .short) (hret : meth.sig.returnType = some t) (hlk : meth.locks = false) (hc : cells ≤ K) (hs : slots ≤ N) (hd : decode c.code pc = .ok (.ireturn, 1)) (hQ : Q (some (.int (nar t z))) T.heap locs) : own_End p e below s Q K N (T.setTop (mkF m pc Ls (.int z :: rest))) := by
  obtain ⟨fs, hr, hrun, hended, hW, hsame⟩ := X.leave (v := (some (.int (nar t z)))) (fun h => by rw [hret] at h; cases h) hlk
  refine ⟨_, _, ?_, hrun, hended, _, _, rfl, hQ, ⟨_, rfl⟩, hW, hsame.mono hc hs⟩
  exact retN X hx hret ht hd hr
theorem own_b (P : Prop) [Decidable P] : nar .boolean (if P then (1 : Int32) else 0) = if P then (1 : Int32) else 0 := by
  split <;> rfl
end Own
theorem own_d1_0 : decode prog_30_method_2_code 0 = .ok (.bipush 8, 2) := by decide +kernel
theorem own_d1_2 : decode prog_30_method_2_code 2 = .ok (.iload_n 2, 1) := by decide +kernel
theorem own_d1_3 : decode prog_30_method_2_code 3 = .ok (.ifCond .eq 7, 3) := by decide +kernel
theorem own_d1_10 : decode prog_30_method_2_code 10 = .ok (.iconst 0, 1) := by decide +kernel
theorem own_d1_6 : decode prog_30_method_2_code 6 = .ok (.iconst 4, 1) := by decide +kernel
theorem own_d1_7 : decode prog_30_method_2_code 7 = .ok (.goto 4, 3) := by decide +kernel
def own_M1_3 (p2 : Int32) : Int32 := (if p2 = (0 : Int32) then (0 : Int32) else (4 : Int32))
theorem own_d1_11 : decode prog_30_method_2_code 11 = .ok (.ior, 1) := by decide +kernel
theorem own_d1_12 : decode prog_30_method_2_code 12 = .ok (.iload_n 0, 1) := by decide +kernel
theorem own_d1_13 : decode prog_30_method_2_code 13 = .ok (.ior, 1) := by decide +kernel
theorem own_d1_14 : decode prog_30_method_2_code 14 = .ok (.istore_n 3, 1) := by decide +kernel
theorem own_d1_15 : decode prog_30_method_2_code 15 = .ok (.iload_n 1, 1) := by decide +kernel
theorem own_d1_16 : decode prog_30_method_2_code 16 = .ok (.ifCond .eq 7, 3) := by decide +kernel
theorem own_d1_23 : decode prog_30_method_2_code 23 = .ok (.iload_n 3, 1) := by decide +kernel
theorem own_d1_24 : decode prog_30_method_2_code 24 = .ok (.iload_n 3, 1) := by decide +kernel
theorem own_d1_25 : decode prog_30_method_2_code 25 = .ok (.iconst 4, 1) := by decide +kernel
theorem own_d1_26 : decode prog_30_method_2_code 26 = .ok (.ishl, 1) := by decide +kernel
theorem own_d1_27 : decode prog_30_method_2_code 27 = .ok (.ior, 1) := by decide +kernel
theorem own_d1_19 : decode prog_30_method_2_code 19 = .ok (.iload_n 3, 1) := by decide +kernel
theorem own_d1_20 : decode prog_30_method_2_code 20 = .ok (.goto 8, 3) := by decide +kernel
def own_M1_16 (p0 : Int32) (p1 : Int32) (p2 : Int32) : Int32 := (if p1 = (0 : Int32) then ((((8 : Int32) ||| (own_M1_3 p2)) ||| p0) ||| ((((8 : Int32) ||| (own_M1_3 p2)) ||| p0) <<< ((4 : Int32) &&& 31))) else (((8 : Int32) ||| (own_M1_3 p2)) ||| p0))
theorem own_d1_28 : decode prog_30_method_2_code 28 = .ok (.ireturn, 1) := by decide +kernel
def own_Q1 (Z : State) (p0 : Int32) (p1 : Int32) (p2 : Int32) (h0 : Heap) (n0 : Nat) (v : Option Value) (h : Heap) (L : List Loc) : Prop := v = some (.int (own_M1_16 p0 p1 p2)) ∧ Fr n0 L ∧ h = h0
theorem own_pn_rm1 : plainName "com/example/dawdling_reader/dawdlingreader/mqtt/Grant" = true := by first | (simp [plainName, overriddenIn]; done) | decide +kernel
theorem own_ef_rm1 (m : MethodId) (p0 : Int32) (p1 : Int32) (p2 : Int32) : entryFrame m #[(.int p0), (.int p1), (.int p2)] 4 = mkF m 0 #[.val (.int p0), .val (.int p1), .val (.int p2), .unset] [] := by first | (simp [entryFrame, mkF, argsToLocals, Value.category]; done) | rfl
set_option maxRecDepth 65536 in
set_option maxHeartbeats 40000000 in
theorem own_rm1 (l : Launch) (Z : State) (a0 : Array Value) (hw : ∀ d ∈ tables_1, d.before a0 Z = true) (ws : List Jvm.Cond) (p0 : Int32) (p1 : Int32) (p2 : Int32) (h0 : Heap) (n0 : Nat) (Z0 : n0 ≤ h0.size) :
    MetFree l (⟨"com/example/dawdling_reader/dawdlingreader/mqtt/Grant", "of", "(IZZ)I"⟩ : MethodName) (head1 (Jvm.Cond.code (⟨"com/example/dawdling_reader/dawdlingreader/mqtt/Grant", "of", "(IZZ)I"⟩ : MethodName) prog_30_method_2_code 4 (some .int) :: ws) ({ frames := 0, cells := 0, slots := 0, locals := 0 } : Room)) (fun a U => a = #[(.int p0), (.int p1), (.int p2)] ∧ Z.Warmed39 U.vm ∧ U.heap = h0) (fun _ _ _ _ _ => True) (fun _ U o U' => ∃ v L, o = .returned v ∧ own_Q1 Z p0 p1 p2 h0 n0 v U'.heap L ∧ FrameEnd U o U' L ({ frames := 0, cells := 0, slots := 0, locals := 0 } : Room).cells ({ frames := 0, cells := 0, slots := 0, locals := 0 } : Room).slots) := by
  refine MetFree.of_bodySF (plainFor_of_name own_pn_rm1) hisR ?_
  intro p e s m args below meth c s₁ Bd hml0 hP hK
  obtain ⟨rfl, hZ, hh⟩ := hP
  have hx := Bd.exec
  have hby := Bd.bytes
  have hml : c.maxLocals = 4 := hml0
  have hown : s.vm.findClass "com/example/dawdling_reader/dawdlingreader/mqtt/Grant" = some m.cls := findClass_of_methodNamed Bd.named
  have hnm := (name_of_methodNamed Bd.named Bd.method).1
  have X0 : Stand p l e ({ frames := 0, cells := 0, slots := 0, locals := 0 } : Room) s m #[(.int p0), (.int p1), (.int p2)] below meth c s₁ [] 0 0 := Stand.of_body Bd
  have e0 : s₁.heap = h0 := by rw [← hh, Bd.state]; rfl
  have N0 := Fr.nil n0
  show own_End p e below s (own_Q1 Z p0 p1 p2 h0 n0) ({ frames := 0, cells := 0, slots := 0, locals := 0 } : Room).cells ({ frames := 0, cells := 0, slots := 0, locals := 0 } : Room).slots (s₁.setTop (entryFrame m #[(.int p0), (.int p1), (.int p2)] 4))
  rw [own_ef_rm1]
  refine own_bipush X0 hx (hb hby own_d1_0) (z := 8) rfl (q := 2) rfl ?_
  refine own_iloadN X0 hx (hb hby own_d1_2) rfl (q := 3) rfl ?_
  suffices J4 : own_End p e below s (own_Q1 Z p0 p1 p2 h0 n0) ({ frames := 0, cells := 0, slots := 0, locals := 0 } : Room).cells ({ frames := 0, cells := 0, slots := 0, locals := 0 } : Room).slots (s₁.setTop (mkF m 11 #[.val (.int p0), .val (.int p1), .val (.int p2), .unset] [(.int (own_M1_3 p2)), (.int (8 : Int32))])) by
    by_cases hc3_1 : p2 = (0 : Int32)
    · refine own_ifY X0 hx (hb hby own_d1_3) (teq hc3_1).1 (q := 10) (by decide) (by decide) ?_
      refine own_iconst X0 hx (hb hby own_d1_10) (z := 0) rfl (q := 11) rfl ?_
      simp only [own_M1_3, if_pos hc3_1] at J4
      exact J4
    · refine own_ifN X0 hx (hb hby own_d1_3) (feq hc3_1).1 (q := 6) rfl ?_
      refine own_iconst X0 hx (hb hby own_d1_6) (z := 4) rfl (q := 7) rfl ?_
      refine own_goto X0 hx (hb hby own_d1_7) (q := 11) (by decide) (by decide) ?_
      simp only [own_M1_3, if_neg hc3_1] at J4
      exact J4
  refine own_ior X0 hx (hb hby own_d1_11) (q := 12) rfl ?_
  refine own_iloadN X0 hx (hb hby own_d1_12) rfl (q := 13) rfl ?_
  refine own_ior X0 hx (hb hby own_d1_13) (q := 14) rfl ?_
  refine own_istoreN X0 hx (hb hby own_d1_14) (l' := #[.val (.int p0), .val (.int p1), .val (.int p2), .val (.int (((8 : Int32) ||| (own_M1_3 p2)) ||| p0))]) rfl (q := 15) rfl ?_
  refine own_iloadN X0 hx (hb hby own_d1_15) rfl (q := 16) rfl ?_
  suffices J8 : own_End p e below s (own_Q1 Z p0 p1 p2 h0 n0) ({ frames := 0, cells := 0, slots := 0, locals := 0 } : Room).cells ({ frames := 0, cells := 0, slots := 0, locals := 0 } : Room).slots (s₁.setTop (mkF m 28 #[.val (.int p0), .val (.int p1), .val (.int p2), .val (.int (((8 : Int32) ||| (own_M1_3 p2)) ||| p0))] [(.int (own_M1_16 p0 p1 p2))])) by
    by_cases hc16_5 : p1 = (0 : Int32)
    · refine own_ifY X0 hx (hb hby own_d1_16) (teq hc16_5).1 (q := 23) (by decide) (by decide) ?_
      refine own_iloadN X0 hx (hb hby own_d1_23) rfl (q := 24) rfl ?_
      refine own_iloadN X0 hx (hb hby own_d1_24) rfl (q := 25) rfl ?_
      refine own_iconst X0 hx (hb hby own_d1_25) (z := 4) rfl (q := 26) rfl ?_
      refine own_ishl X0 hx (hb hby own_d1_26) (q := 27) rfl ?_
      refine own_ior X0 hx (hb hby own_d1_27) (q := 28) rfl ?_
      simp only [own_M1_16, if_pos hc16_5] at J8
      exact J8
    · refine own_ifN X0 hx (hb hby own_d1_16) (feq hc16_5).1 (q := 19) rfl ?_
      refine own_iloadN X0 hx (hb hby own_d1_19) rfl (q := 20) rfl ?_
      refine own_goto X0 hx (hb hby own_d1_20) (q := 28) (by decide) (by decide) ?_
      simp only [own_M1_16, if_neg hc16_5] at J8
      exact J8
  refine own_retI X0 hx Bd.returns Bd.notSynchronized (by decide) (by decide) (hb hby own_d1_28) ?_
  show own_Q1 Z p0 p1 p2 h0 n0 _ s₁.heap _
  exact ⟨rfl, N0, e0⟩
theorem own_d3_0 : decode prog_30_method_7_code 0 = .ok (.iload_n 1, 1) := by decide +kernel
theorem own_d3_1 : decode prog_30_method_7_code 1 = .ok (.ifCond .eq 9, 3) := by decide +kernel
theorem own_d3_10 : decode prog_30_method_7_code 10 = .ok (.iload_n 0, 1) := by decide +kernel
theorem own_d3_4 : decode prog_30_method_7_code 4 = .ok (.iload_n 0, 1) := by decide +kernel
theorem own_d3_5 : decode prog_30_method_7_code 5 = .ok (.iconst 4, 1) := by decide +kernel
theorem own_d3_6 : decode prog_30_method_7_code 6 = .ok (.iushr, 1) := by decide +kernel
theorem own_d3_7 : decode prog_30_method_7_code 7 = .ok (.goto 4, 3) := by decide +kernel
def own_M3_1 (p0 : Int32) (p1 : Int32) : Int32 := (if p1 = (0 : Int32) then p0 else ((p0.toUInt32 >>> ((4 : Int32) &&& 31).toUInt32).toInt32))
theorem own_d3_11 : decode prog_30_method_7_code 11 = .ok (.bipush 15, 2) := by decide +kernel
theorem own_d3_13 : decode prog_30_method_7_code 13 = .ok (.iand, 1) := by decide +kernel
theorem own_d3_14 : decode prog_30_method_7_code 14 = .ok (.ireturn, 1) := by decide +kernel
def own_Q3 (Z : State) (p0 : Int32) (p1 : Int32) (h0 : Heap) (n0 : Nat) (v : Option Value) (h : Heap) (L : List Loc) : Prop := v = some (.int ((own_M3_1 p0 p1) &&& (15 : Int32))) ∧ Fr n0 L ∧ h = h0
theorem own_pn_rm3 : plainName "com/example/dawdling_reader/dawdlingreader/mqtt/Grant" = true := by first | (simp [plainName, overriddenIn]; done) | decide +kernel
theorem own_ef_rm3 (m : MethodId) (p0 : Int32) (p1 : Int32) : entryFrame m #[(.int p0), (.int p1)] 2 = mkF m 0 #[.val (.int p0), .val (.int p1)] [] := by first | (simp [entryFrame, mkF, argsToLocals, Value.category]; done) | rfl
set_option maxRecDepth 65536 in
set_option maxHeartbeats 40000000 in
theorem own_rm3 (l : Launch) (Z : State) (a0 : Array Value) (hw : ∀ d ∈ tables_1, d.before a0 Z = true) (ws : List Jvm.Cond) (p0 : Int32) (p1 : Int32) (h0 : Heap) (n0 : Nat) (Z0 : n0 ≤ h0.size) :
    MetFree l (⟨"com/example/dawdling_reader/dawdlingreader/mqtt/Grant", "bits", "(IZ)I"⟩ : MethodName) (head1 (Jvm.Cond.code (⟨"com/example/dawdling_reader/dawdlingreader/mqtt/Grant", "bits", "(IZ)I"⟩ : MethodName) prog_30_method_7_code 2 (some .int) :: ws) ({ frames := 0, cells := 0, slots := 0, locals := 0 } : Room)) (fun a U => a = #[(.int p0), (.int p1)] ∧ Z.Warmed39 U.vm ∧ U.heap = h0) (fun _ _ _ _ _ => True) (fun _ U o U' => ∃ v L, o = .returned v ∧ own_Q3 Z p0 p1 h0 n0 v U'.heap L ∧ FrameEnd U o U' L ({ frames := 0, cells := 0, slots := 0, locals := 0 } : Room).cells ({ frames := 0, cells := 0, slots := 0, locals := 0 } : Room).slots) := by
  refine MetFree.of_bodySF (plainFor_of_name own_pn_rm3) hisR ?_
  intro p e s m args below meth c s₁ Bd hml0 hP hK
  obtain ⟨rfl, hZ, hh⟩ := hP
  have hx := Bd.exec
  have hby := Bd.bytes
  have hml : c.maxLocals = 2 := hml0
  have hown : s.vm.findClass "com/example/dawdling_reader/dawdlingreader/mqtt/Grant" = some m.cls := findClass_of_methodNamed Bd.named
  have hnm := (name_of_methodNamed Bd.named Bd.method).1
  have X0 : Stand p l e ({ frames := 0, cells := 0, slots := 0, locals := 0 } : Room) s m #[(.int p0), (.int p1)] below meth c s₁ [] 0 0 := Stand.of_body Bd
  have e0 : s₁.heap = h0 := by rw [← hh, Bd.state]; rfl
  have N0 := Fr.nil n0
  show own_End p e below s (own_Q3 Z p0 p1 h0 n0) ({ frames := 0, cells := 0, slots := 0, locals := 0 } : Room).cells ({ frames := 0, cells := 0, slots := 0, locals := 0 } : Room).slots (s₁.setTop (entryFrame m #[(.int p0), (.int p1)] 2))
  rw [own_ef_rm3]
  refine own_iloadN X0 hx (hb hby own_d3_0) rfl (q := 1) rfl ?_
  suffices J13 : own_End p e below s (own_Q3 Z p0 p1 h0 n0) ({ frames := 0, cells := 0, slots := 0, locals := 0 } : Room).cells ({ frames := 0, cells := 0, slots := 0, locals := 0 } : Room).slots (s₁.setTop (mkF m 11 #[.val (.int p0), .val (.int p1)] [(.int (own_M3_1 p0 p1))])) by
    by_cases hc1_10 : p1 = (0 : Int32)
    · refine own_ifY X0 hx (hb hby own_d3_1) (teq hc1_10).1 (q := 10) (by decide) (by decide) ?_
      refine own_iloadN X0 hx (hb hby own_d3_10) rfl (q := 11) rfl ?_
      simp only [own_M3_1, if_pos hc1_10] at J13
      exact J13
    · refine own_ifN X0 hx (hb hby own_d3_1) (feq hc1_10).1 (q := 4) rfl ?_
      refine own_iloadN X0 hx (hb hby own_d3_4) rfl (q := 5) rfl ?_
      refine own_iconst X0 hx (hb hby own_d3_5) (z := 4) rfl (q := 6) rfl ?_
      refine own_iushr X0 hx (hb hby own_d3_6) (q := 7) rfl ?_
      refine own_goto X0 hx (hb hby own_d3_7) (q := 11) (by decide) (by decide) ?_
      simp only [own_M3_1, if_neg hc1_10] at J13
      exact J13
  refine own_bipush X0 hx (hb hby own_d3_11) (z := 15) rfl (q := 13) rfl ?_
  refine own_iand X0 hx (hb hby own_d3_13) (q := 14) rfl ?_
  refine own_retI X0 hx Bd.returns Bd.notSynchronized (by decide) (by decide) (hb hby own_d3_14) ?_
  show own_Q3 Z p0 p1 h0 n0 _ s₁.heap _
  exact ⟨rfl, N0, e0⟩
theorem own_d2_0 : decode prog_30_method_5_code 0 = .ok (.iload_n 0, 1) := by decide +kernel
theorem own_d2_1 : decode prog_30_method_5_code 1 = .ok (.iload_n 1, 1) := by decide +kernel
theorem own_d2_2 : decode prog_30_method_5_code 2 = .ok (.invokestatic 18, 3) := by decide +kernel
theorem own_pd0 : parseMethodDescriptor "(IZ)I" = some ⟨[.int, .boolean], some .int⟩ := by decide +kernel
theorem own_d2_5 : decode prog_30_method_5_code 5 = .ok (.istore_n 2, 1) := by decide +kernel
theorem own_d2_6 : decode prog_30_method_5_code 6 = .ok (.iload_n 2, 1) := by decide +kernel
theorem own_d2_7 : decode prog_30_method_5_code 7 = .ok (.bipush 8, 2) := by decide +kernel
theorem own_d2_9 : decode prog_30_method_5_code 9 = .ok (.iand, 1) := by decide +kernel
theorem own_d2_10 : decode prog_30_method_5_code 10 = .ok (.ifCond .ne 7, 3) := by decide +kernel
theorem own_d2_13 : decode prog_30_method_5_code 13 = .ok (.iconst (-1), 1) := by decide +kernel
theorem own_d2_14 : decode prog_30_method_5_code 14 = .ok (.goto 6, 3) := by decide +kernel
theorem own_d2_17 : decode prog_30_method_5_code 17 = .ok (.iload_n 2, 1) := by decide +kernel
theorem own_d2_18 : decode prog_30_method_5_code 18 = .ok (.iconst 3, 1) := by decide +kernel
theorem own_d2_19 : decode prog_30_method_5_code 19 = .ok (.iand, 1) := by decide +kernel
def own_M2_10 (p0 : Int32) (p1 : Int32) : Int32 := (if (((own_M3_1 p0 p1) &&& (15 : Int32)) &&& (8 : Int32)) = (0 : Int32) then (-1 : Int32) else (((own_M3_1 p0 p1) &&& (15 : Int32)) &&& (3 : Int32)))
theorem own_d2_20 : decode prog_30_method_5_code 20 = .ok (.ireturn, 1) := by decide +kernel
def own_Q2 (Z : State) (p0 : Int32) (p1 : Int32) (h0 : Heap) (n0 : Nat) (v : Option Value) (h : Heap) (L : List Loc) : Prop := v = some (.int (own_M2_10 p0 p1)) ∧ Fr n0 L ∧ h = h0
theorem own_pn_rm2 : plainName "com/example/dawdling_reader/dawdlingreader/mqtt/Grant" = true := by first | (simp [plainName, overriddenIn]; done) | decide +kernel
theorem own_ef_rm2 (m : MethodId) (p0 : Int32) (p1 : Int32) : entryFrame m #[(.int p0), (.int p1)] 3 = mkF m 0 #[.val (.int p0), .val (.int p1), .unset] [] := by first | (simp [entryFrame, mkF, argsToLocals, Value.category]; done) | rfl
set_option maxRecDepth 65536 in
set_option maxHeartbeats 40000000 in
theorem own_rm2 (l : Launch) (Z : State) (a0 : Array Value) (hw : ∀ d ∈ tables_1, d.before a0 Z = true) (ws : List Jvm.Cond) (p0 : Int32) (p1 : Int32) (h0 : Heap) (n0 : Nat) (Z0 : n0 ≤ h0.size) :
    MetFree l (⟨"com/example/dawdling_reader/dawdlingreader/mqtt/Grant", "qos", "(IZ)I"⟩ : MethodName) (head1 (Jvm.Cond.code (⟨"com/example/dawdling_reader/dawdlingreader/mqtt/Grant", "qos", "(IZ)I"⟩ : MethodName) prog_30_method_5_code 3 (some .int) :: ws) ({ frames := 1, cells := 0, slots := 0, locals := 13 } : Room)) (fun a U => a = #[(.int p0), (.int p1)] ∧ Z.Warmed39 U.vm ∧ U.heap = h0) (fun _ _ _ _ _ => True) (fun _ U o U' => ∃ v L, o = .returned v ∧ own_Q2 Z p0 p1 h0 n0 v U'.heap L ∧ FrameEnd U o U' L ({ frames := 1, cells := 0, slots := 0, locals := 13 } : Room).cells ({ frames := 1, cells := 0, slots := 0, locals := 13 } : Room).slots) := by
  refine MetFree.of_bodySF (plainFor_of_name own_pn_rm2) hisR ?_
  intro p e s m args below meth c s₁ Bd hml0 hP hK
  obtain ⟨rfl, hZ, hh⟩ := hP
  have hx := Bd.exec
  have hby := Bd.bytes
  have hml : c.maxLocals = 3 := hml0
  have hown : s.vm.findClass "com/example/dawdling_reader/dawdlingreader/mqtt/Grant" = some m.cls := findClass_of_methodNamed Bd.named
  have hnm := (name_of_methodNamed Bd.named Bd.method).1
  have X0 : Stand p l e ({ frames := 1, cells := 0, slots := 0, locals := 13 } : Room) s m #[(.int p0), (.int p1)] below meth c s₁ [] 0 0 := Stand.of_body Bd
  have e0 : s₁.heap = h0 := by rw [← hh, Bd.state]; rfl
  have N0 := Fr.nil n0
  show own_End p e below s (own_Q2 Z p0 p1 h0 n0) ({ frames := 1, cells := 0, slots := 0, locals := 13 } : Room).cells ({ frames := 1, cells := 0, slots := 0, locals := 13 } : Room).slots (s₁.setTop (entryFrame m #[(.int p0), (.int p1)] 3))
  rw [own_ef_rm2]
  refine own_iloadN X0 hx (hb hby own_d2_0) rfl (q := 1) rfl ?_
  refine own_iloadN X0 hx (hb hby own_d2_1) rfl (q := 2) rfl ?_
  obtain ⟨_, _, ⟨T15, L15, k15, n15⟩, -, X15, ⟨Lc15, hQ15, l15, y15, z15⟩, st15⟩ := Jvm.LawKit.callS X0 hx (y := (⟨"com/example/dawdling_reader/dawdlingreader/mqtt/Grant", "bits", "(IZ)I"⟩ : MethodName)) hown (mvT hZ (hw _ (List.mem_of_getElem? (i := 8) rfl))) (mvT hZ (hw _ (List.mem_of_getElem? (i := 9) rfl))) (mvT hZ (hw _ (List.mem_of_getElem? (i := 3) rfl))) (mvT hZ (hw _ (List.mem_of_getElem? (i := 10) rfl))) (by decide) (backOf (W := 0) (own_rm3 l Z a0 hw [] p0 p1 h0 n0 Z0 ) hZ (hw _ (List.mem_of_getElem? (i := 10) rfl)) (hw _ (List.mem_of_getElem? (i := 3) rfl)) (by decide) (by decide)) (g := (mkF m 2 #[.val (.int p0), .val (.int p1), .unset] [(.int p1), (.int p0)])) rfl (by rw [hml]; rfl) (argsL := [(.int p0), (.int p1)]) (rest := []) (lenOf own_pd0 rfl) rfl (by show 2 * 0 + _ ≤ _; exact Nat.le_of_eq rfl) (hb hby own_d2_2) (fun _ _ => ⟨rfl, e0, (by decide : 0 + 0 ≤ _), (by decide : 0 + 0 ≤ _)⟩)
  dsimp only [Pt.U, Pt.locs, Pt.cells, Pt.slots] at X15 l15 y15 z15 st15 hQ15
  subst l15 y15 z15
  obtain ⟨rfl, N15q, e15⟩ := hQ15
  have N15 := Fr.app N0 N15q
  refine own_back st15 ?_
  show own_End p e below s _ _ _ (T15.setTop (mkF m 5 #[.val (.int p0), .val (.int p1), .unset] [(.int ((own_M3_1 p0 p1) &&& (15 : Int32)))]))
  refine own_istoreN X15 hx (hb hby own_d2_5) (l' := #[.val (.int p0), .val (.int p1), .val (.int ((own_M3_1 p0 p1) &&& (15 : Int32)))]) rfl (q := 6) rfl ?_
  refine own_iloadN X15 hx (hb hby own_d2_6) rfl (q := 7) rfl ?_
  refine own_bipush X15 hx (hb hby own_d2_7) (z := 8) rfl (q := 9) rfl ?_
  refine own_iand X15 hx (hb hby own_d2_9) (q := 10) rfl ?_
  suffices J19 : own_End p e below s (own_Q2 Z p0 p1 h0 n0) ({ frames := 1, cells := 0, slots := 0, locals := 13 } : Room).cells ({ frames := 1, cells := 0, slots := 0, locals := 13 } : Room).slots (T15.setTop (mkF m 20 #[.val (.int p0), .val (.int p1), .val (.int ((own_M3_1 p0 p1) &&& (15 : Int32)))] [(.int (own_M2_10 p0 p1))])) by
    by_cases hc10_16 : (((own_M3_1 p0 p1) &&& (15 : Int32)) &&& (8 : Int32)) = (0 : Int32)
    · refine own_ifN X15 hx (hb hby own_d2_10) (teq hc10_16).2 (q := 13) rfl ?_
      refine own_iconst X15 hx (hb hby own_d2_13) (z := -1) rfl (q := 14) rfl ?_
      refine own_goto X15 hx (hb hby own_d2_14) (q := 20) (by decide) (by decide) ?_
      simp only [own_M2_10, if_pos hc10_16] at J19
      exact J19
    · refine own_ifY X15 hx (hb hby own_d2_10) (feq hc10_16).2 (q := 17) (by decide) (by decide) ?_
      refine own_iloadN X15 hx (hb hby own_d2_17) rfl (q := 18) rfl ?_
      refine own_iconst X15 hx (hb hby own_d2_18) (z := 3) rfl (q := 19) rfl ?_
      refine own_iand X15 hx (hb hby own_d2_19) (q := 20) rfl ?_
      simp only [own_M2_10, if_neg hc10_16] at J19
      exact J19
  refine own_retI X15 hx Bd.returns Bd.notSynchronized (by decide) (by decide) (hb hby own_d2_20) ?_
  show own_Q2 Z p0 p1 h0 n0 _ T15.heap _
  exact ⟨rfl, N15, e15⟩
theorem own_d4_0 : decode prog_30_method_6_code 0 = .ok (.iload_n 0, 1) := by decide +kernel
theorem own_d4_1 : decode prog_30_method_6_code 1 = .ok (.iload_n 1, 1) := by decide +kernel
theorem own_d4_2 : decode prog_30_method_6_code 2 = .ok (.invokestatic 18, 3) := by decide +kernel
theorem own_d4_5 : decode prog_30_method_6_code 5 = .ok (.iconst 4, 1) := by decide +kernel
theorem own_d4_6 : decode prog_30_method_6_code 6 = .ok (.iand, 1) := by decide +kernel
theorem own_d4_7 : decode prog_30_method_6_code 7 = .ok (.ifCond .eq 7, 3) := by decide +kernel
theorem own_d4_14 : decode prog_30_method_6_code 14 = .ok (.iconst 0, 1) := by decide +kernel
theorem own_d4_10 : decode prog_30_method_6_code 10 = .ok (.iconst 1, 1) := by decide +kernel
theorem own_d4_11 : decode prog_30_method_6_code 11 = .ok (.goto 4, 3) := by decide +kernel
def own_M4_7 (p0 : Int32) (p1 : Int32) : Int32 := (if (((own_M3_1 p0 p1) &&& (15 : Int32)) &&& (4 : Int32)) = (0 : Int32) then (0 : Int32) else (1 : Int32))
theorem own_d4_15 : decode prog_30_method_6_code 15 = .ok (.ireturn, 1) := by decide +kernel
def own_Q4 (Z : State) (p0 : Int32) (p1 : Int32) (h0 : Heap) (n0 : Nat) (v : Option Value) (h : Heap) (L : List Loc) : Prop := v = some (.int ((own_M4_7 p0 p1) &&& 1)) ∧ Fr n0 L ∧ h = h0
theorem own_pn_rm4 : plainName "com/example/dawdling_reader/dawdlingreader/mqtt/Grant" = true := by first | (simp [plainName, overriddenIn]; done) | decide +kernel
theorem own_ef_rm4 (m : MethodId) (p0 : Int32) (p1 : Int32) : entryFrame m #[(.int p0), (.int p1)] 2 = mkF m 0 #[.val (.int p0), .val (.int p1)] [] := by first | (simp [entryFrame, mkF, argsToLocals, Value.category]; done) | rfl
set_option maxRecDepth 65536 in
set_option maxHeartbeats 40000000 in
theorem own_rm4 (l : Launch) (Z : State) (a0 : Array Value) (hw : ∀ d ∈ tables_1, d.before a0 Z = true) (ws : List Jvm.Cond) (p0 : Int32) (p1 : Int32) (h0 : Heap) (n0 : Nat) (Z0 : n0 ≤ h0.size) :
    MetFree l (⟨"com/example/dawdling_reader/dawdlingreader/mqtt/Grant", "retainAsPublished", "(IZ)Z"⟩ : MethodName) (head1 (Jvm.Cond.code (⟨"com/example/dawdling_reader/dawdlingreader/mqtt/Grant", "retainAsPublished", "(IZ)Z"⟩ : MethodName) prog_30_method_6_code 2 (some .boolean) :: ws) ({ frames := 1, cells := 0, slots := 0, locals := 13 } : Room)) (fun a U => a = #[(.int p0), (.int p1)] ∧ Z.Warmed39 U.vm ∧ U.heap = h0) (fun _ _ _ _ _ => True) (fun _ U o U' => ∃ v L, o = .returned v ∧ own_Q4 Z p0 p1 h0 n0 v U'.heap L ∧ FrameEnd U o U' L ({ frames := 1, cells := 0, slots := 0, locals := 13 } : Room).cells ({ frames := 1, cells := 0, slots := 0, locals := 13 } : Room).slots) := by
  refine MetFree.of_bodySF (plainFor_of_name own_pn_rm4) hisR ?_
  intro p e s m args below meth c s₁ Bd hml0 hP hK
  obtain ⟨rfl, hZ, hh⟩ := hP
  have hx := Bd.exec
  have hby := Bd.bytes
  have hml : c.maxLocals = 2 := hml0
  have hown : s.vm.findClass "com/example/dawdling_reader/dawdlingreader/mqtt/Grant" = some m.cls := findClass_of_methodNamed Bd.named
  have hnm := (name_of_methodNamed Bd.named Bd.method).1
  have X0 : Stand p l e ({ frames := 1, cells := 0, slots := 0, locals := 13 } : Room) s m #[(.int p0), (.int p1)] below meth c s₁ [] 0 0 := Stand.of_body Bd
  have e0 : s₁.heap = h0 := by rw [← hh, Bd.state]; rfl
  have N0 := Fr.nil n0
  show own_End p e below s (own_Q4 Z p0 p1 h0 n0) ({ frames := 1, cells := 0, slots := 0, locals := 13 } : Room).cells ({ frames := 1, cells := 0, slots := 0, locals := 13 } : Room).slots (s₁.setTop (entryFrame m #[(.int p0), (.int p1)] 2))
  rw [own_ef_rm4]
  refine own_iloadN X0 hx (hb hby own_d4_0) rfl (q := 1) rfl ?_
  refine own_iloadN X0 hx (hb hby own_d4_1) rfl (q := 2) rfl ?_
  obtain ⟨_, _, ⟨T21, L21, k21, n21⟩, -, X21, ⟨Lc21, hQ21, l21, y21, z21⟩, st21⟩ := Jvm.LawKit.callS X0 hx (y := (⟨"com/example/dawdling_reader/dawdlingreader/mqtt/Grant", "bits", "(IZ)I"⟩ : MethodName)) hown (mvT hZ (hw _ (List.mem_of_getElem? (i := 8) rfl))) (mvT hZ (hw _ (List.mem_of_getElem? (i := 9) rfl))) (mvT hZ (hw _ (List.mem_of_getElem? (i := 3) rfl))) (mvT hZ (hw _ (List.mem_of_getElem? (i := 10) rfl))) (by decide) (backOf (W := 0) (own_rm3 l Z a0 hw [] p0 p1 h0 n0 Z0 ) hZ (hw _ (List.mem_of_getElem? (i := 10) rfl)) (hw _ (List.mem_of_getElem? (i := 3) rfl)) (by decide) (by decide)) (g := (mkF m 2 #[.val (.int p0), .val (.int p1)] [(.int p1), (.int p0)])) rfl (by rw [hml]; rfl) (argsL := [(.int p0), (.int p1)]) (rest := []) (lenOf own_pd0 rfl) rfl (by show 2 * 0 + _ ≤ _; exact Nat.le_of_eq rfl) (hb hby own_d4_2) (fun _ _ => ⟨rfl, e0, (by decide : 0 + 0 ≤ _), (by decide : 0 + 0 ≤ _)⟩)
  dsimp only [Pt.U, Pt.locs, Pt.cells, Pt.slots] at X21 l21 y21 z21 st21 hQ21
  subst l21 y21 z21
  obtain ⟨rfl, N21q, e21⟩ := hQ21
  have N21 := Fr.app N0 N21q
  refine own_back st21 ?_
  show own_End p e below s _ _ _ (T21.setTop (mkF m 5 #[.val (.int p0), .val (.int p1)] [(.int ((own_M3_1 p0 p1) &&& (15 : Int32)))]))
  refine own_iconst X21 hx (hb hby own_d4_5) (z := 4) rfl (q := 6) rfl ?_
  refine own_iand X21 hx (hb hby own_d4_6) (q := 7) rfl ?_
  suffices J25 : own_End p e below s (own_Q4 Z p0 p1 h0 n0) ({ frames := 1, cells := 0, slots := 0, locals := 13 } : Room).cells ({ frames := 1, cells := 0, slots := 0, locals := 13 } : Room).slots (T21.setTop (mkF m 15 #[.val (.int p0), .val (.int p1)] [(.int (own_M4_7 p0 p1))])) by
    by_cases hc7_22 : (((own_M3_1 p0 p1) &&& (15 : Int32)) &&& (4 : Int32)) = (0 : Int32)
    · refine own_ifY X21 hx (hb hby own_d4_7) (teq hc7_22).1 (q := 14) (by decide) (by decide) ?_
      refine own_iconst X21 hx (hb hby own_d4_14) (z := 0) rfl (q := 15) rfl ?_
      simp only [own_M4_7, if_pos hc7_22] at J25
      exact J25
    · refine own_ifN X21 hx (hb hby own_d4_7) (feq hc7_22).1 (q := 10) rfl ?_
      refine own_iconst X21 hx (hb hby own_d4_10) (z := 1) rfl (q := 11) rfl ?_
      refine own_goto X21 hx (hb hby own_d4_11) (q := 15) (by decide) (by decide) ?_
      simp only [own_M4_7, if_neg hc7_22] at J25
      exact J25
  refine own_retN X21 hx (t := .boolean) (by simp) Bd.returns Bd.notSynchronized (by decide) (by decide) (hb hby own_d4_15) ?_
  show own_Q4 Z p0 p1 h0 n0 _ T21.heap _
  exact ⟨rfl, N21, e21⟩
def own_M0_10 (p1 : Int32) : Int32 := (if (p1 &&& (1 : Int32)) = (0 : Int32) then (0 : Int32) else (1 : Int32))
def own_M0_22 (p1 : Int32) : Int32 := (if (p1 &&& (2 : Int32)) = (0 : Int32) then (0 : Int32) else (1 : Int32))
theorem own_pd1 : parseMethodDescriptor "(IZZ)I" = some ⟨[.int, .boolean, .boolean], some .int⟩ := by decide +kernel
def own_M0_45 (p1 : Int32) : Int32 := (if (own_M0_22 p1) = (0 : Int32) then (0 : Int32) else (4 : Int32))
def own_M0_59 (p0 : Int32) (p1 : Int32) : Int32 := (if (own_M0_10 p1) = (0 : Int32) then ((((8 : Int32) + (own_M0_45 p1)) + ((p0 &&& (2147483647 : Int32)) % (3 : Int32))) * (17 : Int32)) else (((8 : Int32) + (own_M0_45 p1)) + ((p0 &&& (2147483647 : Int32)) % (3 : Int32))))
def own_M0_96 (p0 : Int32) (p1 : Int32) : Int32 := (if (own_M0_10 p1) = (0 : Int32) then ((p0 &&& (2147483647 : Int32)) % (3 : Int32)) else (-1 : Int32))
theorem own_pd2 : parseMethodDescriptor "(IZ)Z" = some ⟨[.int, .boolean], some .boolean⟩ := by decide +kernel
def own_M0_138 (p1 : Int32) : Int32 := (if (own_M0_22 p1) = (0 : Int32) then (0 : Int32) else (1 : Int32))
def own_M0_133 (p1 : Int32) : Int32 := (if (own_M0_10 p1) = (0 : Int32) then (own_M0_138 p1) else (0 : Int32))
def own_F0 (p0 : Int32) (p1 : Int32) : Int32 := (if (own_M1_16 ((p0 &&& (2147483647 : Int32)) % (3 : Int32)) (own_M0_10 p1) (own_M0_22 p1)) = (own_M0_59 p0 p1) then (if (own_M2_10 (own_M1_16 ((p0 &&& (2147483647 : Int32)) % (3 : Int32)) (own_M0_10 p1) (own_M0_22 p1)) (0 : Int32)) = ((p0 &&& (2147483647 : Int32)) % (3 : Int32)) then (if (own_M2_10 (own_M1_16 ((p0 &&& (2147483647 : Int32)) % (3 : Int32)) (own_M0_10 p1) (own_M0_22 p1)) (1 : Int32)) = (own_M0_96 p0 p1) then (if ((own_M4_7 (own_M1_16 ((p0 &&& (2147483647 : Int32)) % (3 : Int32)) (own_M0_10 p1) (own_M0_22 p1)) (0 : Int32)) &&& 1) = (own_M0_22 p1) then (if ((own_M4_7 (own_M1_16 ((p0 &&& (2147483647 : Int32)) % (3 : Int32)) (own_M0_10 p1) (own_M0_22 p1)) (1 : Int32)) &&& 1) = (own_M0_133 p1) then (1 : Int32) else (0 : Int32)) else (0 : Int32)) else (0 : Int32)) else (0 : Int32)) else (0 : Int32))
def own_Q0 (Z : State) (p0 : Int32) (p1 : Int32) (h0 : Heap) (n0 : Nat) (v : Option Value) (h : Heap) (L : List Loc) : Prop := v = some (.int (own_F0 p0 p1)) ∧ Fr n0 L
theorem own_pn_rm0 : plainName "com/example/dawdling_reader/dawdlingreader/mqtt/GrantOfPinLaw" = true := by first | (simp [plainName, overriddenIn]; done) | decide +kernel
theorem own_ef_rm0 (m : MethodId) (p0 : Int32) (p1 : Int32) : entryFrame m #[(.int p0), (.int p1)] maxLocals = mkF m 0 #[.val (.int p0), .val (.int p1), .unset, .unset, .unset, .unset, .unset, .unset, .unset, .unset] [] := by first | (simp [entryFrame, mkF, argsToLocals, Value.category, maxLocals]; done) | rfl
set_option maxRecDepth 65536 in
set_option maxHeartbeats 40000000 in
theorem own_rm0 (l : Launch) (Z : State) (a0 : Array Value) (hw : ∀ d ∈ tables_1, d.before a0 Z = true) (ws : List Jvm.Cond) (p0 : Int32) (p1 : Int32) (h0 : Heap) (n0 : Nat) (Z0 : n0 ≤ h0.size) :
    MetFree l x (head1 (Jvm.Cond.code x code maxLocals ret :: ws) room_1) (fun a U => a = #[(.int p0), (.int p1)] ∧ Z.Warmed39 U.vm ∧ U.heap = h0) (fun _ _ _ _ _ => True) (fun _ U o U' => ∃ v L, o = .returned v ∧ own_Q0 Z p0 p1 h0 n0 v U'.heap L ∧ FrameEnd U o U' L room_1.cells room_1.slots) := by
  refine MetFree.of_bodySF (plainFor_of_name own_pn_rm0) hisR ?_
  intro p e s m args below meth c s₁ Bd hml0 hP hK
  obtain ⟨rfl, hZ, hh⟩ := hP
  have hx := Bd.exec
  have hby := Bd.bytes
  have hml : c.maxLocals = 10 := hml0
  have hown : s.vm.findClass "com/example/dawdling_reader/dawdlingreader/mqtt/GrantOfPinLaw" = some m.cls := findClass_of_methodNamed Bd.named
  have hnm := (name_of_methodNamed Bd.named Bd.method).1
  have X0 : Stand p l e room_1 s m #[(.int p0), (.int p1)] below meth c s₁ [] 0 0 := Stand.of_body Bd
  have e0 : s₁.heap = h0 := by rw [← hh, Bd.state]; rfl
  have N0 := Fr.nil n0
  show own_End p e below s (own_Q0 Z p0 p1 h0 n0) room_1.cells room_1.slots (s₁.setTop (entryFrame m #[(.int p0), (.int p1)] maxLocals))
  rw [own_ef_rm0]
  refine own_iloadN X0 hx (hb hby at_0) rfl (q := 1) rfl ?_
  refine own_back (X0.ldcInt hx hown (mvT hZ (hw _ (List.mem_of_getElem? (i := 0) rfl))) (g := (mkF m 1 #[.val (.int p0), .val (.int p1), .unset, .unset, .unset, .unset, .unset, .unset, .unset, .unset] [(.int p0)])) rfl (hb hby at_1)) ?_
  show own_End p e below s _ _ _ (s₁.setTop (mkF m 3 #[.val (.int p0), .val (.int p1), .unset, .unset, .unset, .unset, .unset, .unset, .unset, .unset] [(.int (2147483647 : Int32)), (.int p0)]))
  refine own_iand X0 hx (hb hby at_3) (q := 4) rfl ?_
  refine own_iconst X0 hx (hb hby at_4) (z := 3) rfl (q := 5) rfl ?_
  refine own_irem X0 hx (hb hby at_5) (by decide) (q := 6) rfl ?_
  refine own_istoreN X0 hx (hb hby at_6) (l' := #[.val (.int p0), .val (.int p1), .val (.int ((p0 &&& (2147483647 : Int32)) % (3 : Int32))), .unset, .unset, .unset, .unset, .unset, .unset, .unset]) rfl (q := 7) rfl ?_
  refine own_iloadN X0 hx (hb hby at_7) rfl (q := 8) rfl ?_
  refine own_iconst X0 hx (hb hby at_8) (z := 1) rfl (q := 9) rfl ?_
  refine own_iand X0 hx (hb hby at_9) (q := 10) rfl ?_
  suffices J30 : own_End p e below s (own_Q0 Z p0 p1 h0 n0) room_1.cells room_1.slots (s₁.setTop (mkF m 18 #[.val (.int p0), .val (.int p1), .val (.int ((p0 &&& (2147483647 : Int32)) % (3 : Int32))), .unset, .unset, .unset, .unset, .unset, .unset, .unset] [(.int (own_M0_10 p1))])) by
    by_cases hc10_27 : (p1 &&& (1 : Int32)) = (0 : Int32)
    · refine own_ifY X0 hx (hb hby at_10) (teq hc10_27).1 (q := 17) (by decide) (by decide) ?_
      refine own_iconst X0 hx (hb hby at_17) (z := 0) rfl (q := 18) rfl ?_
      simp only [own_M0_10, if_pos hc10_27] at J30
      exact J30
    · refine own_ifN X0 hx (hb hby at_10) (feq hc10_27).1 (q := 13) rfl ?_
      refine own_iconst X0 hx (hb hby at_13) (z := 1) rfl (q := 14) rfl ?_
      refine own_goto X0 hx (hb hby at_14) (q := 18) (by decide) (by decide) ?_
      simp only [own_M0_10, if_neg hc10_27] at J30
      exact J30
  refine own_istoreN X0 hx (hb hby at_18) (l' := #[.val (.int p0), .val (.int p1), .val (.int ((p0 &&& (2147483647 : Int32)) % (3 : Int32))), .val (.int (own_M0_10 p1)), .unset, .unset, .unset, .unset, .unset, .unset]) rfl (q := 19) rfl ?_
  refine own_iloadN X0 hx (hb hby at_19) rfl (q := 20) rfl ?_
  refine own_iconst X0 hx (hb hby at_20) (z := 2) rfl (q := 21) rfl ?_
  refine own_iand X0 hx (hb hby at_21) (q := 22) rfl ?_
  suffices J34 : own_End p e below s (own_Q0 Z p0 p1 h0 n0) room_1.cells room_1.slots (s₁.setTop (mkF m 30 #[.val (.int p0), .val (.int p1), .val (.int ((p0 &&& (2147483647 : Int32)) % (3 : Int32))), .val (.int (own_M0_10 p1)), .unset, .unset, .unset, .unset, .unset, .unset] [(.int (own_M0_22 p1))])) by
    by_cases hc22_31 : (p1 &&& (2 : Int32)) = (0 : Int32)
    · refine own_ifY X0 hx (hb hby at_22) (teq hc22_31).1 (q := 29) (by decide) (by decide) ?_
      refine own_iconst X0 hx (hb hby at_29) (z := 0) rfl (q := 30) rfl ?_
      simp only [own_M0_22, if_pos hc22_31] at J34
      exact J34
    · refine own_ifN X0 hx (hb hby at_22) (feq hc22_31).1 (q := 25) rfl ?_
      refine own_iconst X0 hx (hb hby at_25) (z := 1) rfl (q := 26) rfl ?_
      refine own_goto X0 hx (hb hby at_26) (q := 30) (by decide) (by decide) ?_
      simp only [own_M0_22, if_neg hc22_31] at J34
      exact J34
  refine own_istore X0 hx (hb hby at_30) (l' := #[.val (.int p0), .val (.int p1), .val (.int ((p0 &&& (2147483647 : Int32)) % (3 : Int32))), .val (.int (own_M0_10 p1)), .val (.int (own_M0_22 p1)), .unset, .unset, .unset, .unset, .unset]) rfl (q := 32) rfl ?_
  refine own_iloadN X0 hx (hb hby at_32) rfl (q := 33) rfl ?_
  refine own_iloadN X0 hx (hb hby at_33) rfl (q := 34) rfl ?_
  refine own_iload X0 hx (hb hby at_34) rfl (q := 36) rfl ?_
  obtain ⟨_, _, ⟨T35, L35, k35, n35⟩, -, X35, ⟨Lc35, hQ35, l35, y35, z35⟩, st35⟩ := Jvm.LawKit.callS X0 hx (y := (⟨"com/example/dawdling_reader/dawdlingreader/mqtt/Grant", "of", "(IZZ)I"⟩ : MethodName)) hown (mvT hZ (hw _ (List.mem_of_getElem? (i := 1) rfl))) (mvT hZ (hw _ (List.mem_of_getElem? (i := 2) rfl))) (mvT hZ (hw _ (List.mem_of_getElem? (i := 3) rfl))) (mvT hZ (hw _ (List.mem_of_getElem? (i := 4) rfl))) (by decide) (backOf (W := 0) (own_rm1 l Z a0 hw [] ((p0 &&& (2147483647 : Int32)) % (3 : Int32)) (own_M0_10 p1) (own_M0_22 p1) h0 n0 Z0 ) hZ (hw _ (List.mem_of_getElem? (i := 4) rfl)) (hw _ (List.mem_of_getElem? (i := 3) rfl)) (by decide) (by decide)) (g := (mkF m 36 #[.val (.int p0), .val (.int p1), .val (.int ((p0 &&& (2147483647 : Int32)) % (3 : Int32))), .val (.int (own_M0_10 p1)), .val (.int (own_M0_22 p1)), .unset, .unset, .unset, .unset, .unset] [(.int (own_M0_22 p1)), (.int (own_M0_10 p1)), (.int ((p0 &&& (2147483647 : Int32)) % (3 : Int32)))])) rfl (by rw [hml]; rfl) (argsL := [(.int ((p0 &&& (2147483647 : Int32)) % (3 : Int32))), (.int (own_M0_10 p1)), (.int (own_M0_22 p1))]) (rest := []) (lenOf own_pd1 rfl) rfl (by show 2 * 0 + _ ≤ _; exact Nat.le_of_eq rfl) (hb hby at_36) (fun _ _ => ⟨rfl, e0, (by decide : 0 + 0 ≤ _), (by decide : 0 + 0 ≤ _)⟩)
  dsimp only [Pt.U, Pt.locs, Pt.cells, Pt.slots] at X35 l35 y35 z35 st35 hQ35
  subst l35 y35 z35
  obtain ⟨rfl, N35q, e35⟩ := hQ35
  have N35 := Fr.app N0 N35q
  refine own_back st35 ?_
  show own_End p e below s _ _ _ (T35.setTop (mkF m 39 #[.val (.int p0), .val (.int p1), .val (.int ((p0 &&& (2147483647 : Int32)) % (3 : Int32))), .val (.int (own_M0_10 p1)), .val (.int (own_M0_22 p1)), .unset, .unset, .unset, .unset, .unset] [(.int (own_M1_16 ((p0 &&& (2147483647 : Int32)) % (3 : Int32)) (own_M0_10 p1) (own_M0_22 p1)))]))
  refine own_istore X35 hx (hb hby at_39) (l' := #[.val (.int p0), .val (.int p1), .val (.int ((p0 &&& (2147483647 : Int32)) % (3 : Int32))), .val (.int (own_M0_10 p1)), .val (.int (own_M0_22 p1)), .val (.int (own_M1_16 ((p0 &&& (2147483647 : Int32)) % (3 : Int32)) (own_M0_10 p1) (own_M0_22 p1))), .unset, .unset, .unset, .unset]) rfl (q := 41) rfl ?_
  refine own_bipush X35 hx (hb hby at_41) (z := 8) rfl (q := 43) rfl ?_
  refine own_iload X35 hx (hb hby at_43) rfl (q := 45) rfl ?_
  suffices J39 : own_End p e below s (own_Q0 Z p0 p1 h0 n0) room_1.cells room_1.slots (T35.setTop (mkF m 53 #[.val (.int p0), .val (.int p1), .val (.int ((p0 &&& (2147483647 : Int32)) % (3 : Int32))), .val (.int (own_M0_10 p1)), .val (.int (own_M0_22 p1)), .val (.int (own_M1_16 ((p0 &&& (2147483647 : Int32)) % (3 : Int32)) (own_M0_10 p1) (own_M0_22 p1))), .unset, .unset, .unset, .unset] [(.int (own_M0_45 p1)), (.int (8 : Int32))])) by
    by_cases hc45_36 : (own_M0_22 p1) = (0 : Int32)
    · refine own_ifY X35 hx (hb hby at_45) (teq hc45_36).1 (q := 52) (by decide) (by decide) ?_
      refine own_iconst X35 hx (hb hby at_52) (z := 0) rfl (q := 53) rfl ?_
      simp only [own_M0_45, if_pos hc45_36] at J39
      exact J39
    · refine own_ifN X35 hx (hb hby at_45) (feq hc45_36).1 (q := 48) rfl ?_
      refine own_iconst X35 hx (hb hby at_48) (z := 4) rfl (q := 49) rfl ?_
      refine own_goto X35 hx (hb hby at_49) (q := 53) (by decide) (by decide) ?_
      simp only [own_M0_45, if_neg hc45_36] at J39
      exact J39
  refine own_iadd X35 hx (hb hby at_53) (q := 54) rfl ?_
  refine own_iloadN X35 hx (hb hby at_54) rfl (q := 55) rfl ?_
  refine own_iadd X35 hx (hb hby at_55) (q := 56) rfl ?_
  refine own_istore X35 hx (hb hby at_56) (l' := #[.val (.int p0), .val (.int p1), .val (.int ((p0 &&& (2147483647 : Int32)) % (3 : Int32))), .val (.int (own_M0_10 p1)), .val (.int (own_M0_22 p1)), .val (.int (own_M1_16 ((p0 &&& (2147483647 : Int32)) % (3 : Int32)) (own_M0_10 p1) (own_M0_22 p1))), .val (.int (((8 : Int32) + (own_M0_45 p1)) + ((p0 &&& (2147483647 : Int32)) % (3 : Int32)))), .unset, .unset, .unset]) rfl (q := 58) rfl ?_
  refine own_iloadN X35 hx (hb hby at_58) rfl (q := 59) rfl ?_
  suffices J43 : own_End p e below s (own_Q0 Z p0 p1 h0 n0) room_1.cells room_1.slots (T35.setTop (mkF m 72 #[.val (.int p0), .val (.int p1), .val (.int ((p0 &&& (2147483647 : Int32)) % (3 : Int32))), .val (.int (own_M0_10 p1)), .val (.int (own_M0_22 p1)), .val (.int (own_M1_16 ((p0 &&& (2147483647 : Int32)) % (3 : Int32)) (own_M0_10 p1) (own_M0_22 p1))), .val (.int (((8 : Int32) + (own_M0_45 p1)) + ((p0 &&& (2147483647 : Int32)) % (3 : Int32)))), .unset, .unset, .unset] [(.int (own_M0_59 p0 p1))])) by
    by_cases hc59_40 : (own_M0_10 p1) = (0 : Int32)
    · refine own_ifY X35 hx (hb hby at_59) (teq hc59_40).1 (q := 67) (by decide) (by decide) ?_
      refine own_iload X35 hx (hb hby at_67) rfl (q := 69) rfl ?_
      refine own_bipush X35 hx (hb hby at_69) (z := 17) rfl (q := 71) rfl ?_
      refine own_imul X35 hx (hb hby at_71) (q := 72) rfl ?_
      simp only [own_M0_59, if_pos hc59_40] at J43
      exact J43
    · refine own_ifN X35 hx (hb hby at_59) (feq hc59_40).1 (q := 62) rfl ?_
      refine own_iload X35 hx (hb hby at_62) rfl (q := 64) rfl ?_
      refine own_goto X35 hx (hb hby at_64) (q := 72) (by decide) (by decide) ?_
      simp only [own_M0_59, if_neg hc59_40] at J43
      exact J43
  refine own_istore X35 hx (hb hby at_72) (l' := #[.val (.int p0), .val (.int p1), .val (.int ((p0 &&& (2147483647 : Int32)) % (3 : Int32))), .val (.int (own_M0_10 p1)), .val (.int (own_M0_22 p1)), .val (.int (own_M1_16 ((p0 &&& (2147483647 : Int32)) % (3 : Int32)) (own_M0_10 p1) (own_M0_22 p1))), .val (.int (((8 : Int32) + (own_M0_45 p1)) + ((p0 &&& (2147483647 : Int32)) % (3 : Int32)))), .val (.int (own_M0_59 p0 p1)), .unset, .unset]) rfl (q := 74) rfl ?_
  refine own_iload X35 hx (hb hby at_74) rfl (q := 76) rfl ?_
  refine own_iload X35 hx (hb hby at_76) rfl (q := 78) rfl ?_
  by_cases hc78_44 : (own_M1_16 ((p0 &&& (2147483647 : Int32)) % (3 : Int32)) (own_M0_10 p1) (own_M0_22 p1)) = (own_M0_59 p0 p1)
  · refine own_icY X35 hx (hb hby at_78) (teq hc78_44).1 (q := 83) (by decide) (by decide) ?_
    refine own_iload X35 hx (hb hby at_83) rfl (q := 85) rfl ?_
    refine own_iconst X35 hx (hb hby at_85) (z := 0) rfl (q := 86) rfl ?_
    obtain ⟨_, _, ⟨T45, L45, k45, n45⟩, -, X45, ⟨Lc45, hQ45, l45, y45, z45⟩, st45⟩ := Jvm.LawKit.callS X35 hx (y := (⟨"com/example/dawdling_reader/dawdlingreader/mqtt/Grant", "qos", "(IZ)I"⟩ : MethodName)) hown (mvT hZ (hw _ (List.mem_of_getElem? (i := 5) rfl))) (mvT hZ (hw _ (List.mem_of_getElem? (i := 6) rfl))) (mvT hZ (hw _ (List.mem_of_getElem? (i := 3) rfl))) (mvT hZ (hw _ (List.mem_of_getElem? (i := 7) rfl))) (by decide) (backOf (W := 0) (own_rm2 l Z a0 hw [] (own_M1_16 ((p0 &&& (2147483647 : Int32)) % (3 : Int32)) (own_M0_10 p1) (own_M0_22 p1)) (0 : Int32) h0 n0 Z0 ) hZ (hw _ (List.mem_of_getElem? (i := 7) rfl)) (hw _ (List.mem_of_getElem? (i := 3) rfl)) (by decide) (by decide)) (g := (mkF m 86 #[.val (.int p0), .val (.int p1), .val (.int ((p0 &&& (2147483647 : Int32)) % (3 : Int32))), .val (.int (own_M0_10 p1)), .val (.int (own_M0_22 p1)), .val (.int (own_M1_16 ((p0 &&& (2147483647 : Int32)) % (3 : Int32)) (own_M0_10 p1) (own_M0_22 p1))), .val (.int (((8 : Int32) + (own_M0_45 p1)) + ((p0 &&& (2147483647 : Int32)) % (3 : Int32)))), .val (.int (own_M0_59 p0 p1)), .unset, .unset] [(.int (0 : Int32)), (.int (own_M1_16 ((p0 &&& (2147483647 : Int32)) % (3 : Int32)) (own_M0_10 p1) (own_M0_22 p1)))])) rfl (by rw [hml]; rfl) (argsL := [(.int (own_M1_16 ((p0 &&& (2147483647 : Int32)) % (3 : Int32)) (own_M0_10 p1) (own_M0_22 p1))), (.int (0 : Int32))]) (rest := []) (lenOf own_pd0 rfl) rfl (by show 2 * 0 + _ ≤ _; exact Nat.le_of_eq rfl) (hb hby at_86) (fun _ _ => ⟨rfl, e35, (by decide : 0 + 0 ≤ _), (by decide : 0 + 0 ≤ _)⟩)
    dsimp only [Pt.U, Pt.locs, Pt.cells, Pt.slots] at X45 l45 y45 z45 st45 hQ45
    subst l45 y45 z45
    obtain ⟨rfl, N45q, e45⟩ := hQ45
    have N45 := Fr.app N35 N45q
    refine own_back st45 ?_
    show own_End p e below s _ _ _ (T45.setTop (mkF m 89 #[.val (.int p0), .val (.int p1), .val (.int ((p0 &&& (2147483647 : Int32)) % (3 : Int32))), .val (.int (own_M0_10 p1)), .val (.int (own_M0_22 p1)), .val (.int (own_M1_16 ((p0 &&& (2147483647 : Int32)) % (3 : Int32)) (own_M0_10 p1) (own_M0_22 p1))), .val (.int (((8 : Int32) + (own_M0_45 p1)) + ((p0 &&& (2147483647 : Int32)) % (3 : Int32)))), .val (.int (own_M0_59 p0 p1)), .unset, .unset] [(.int (own_M2_10 (own_M1_16 ((p0 &&& (2147483647 : Int32)) % (3 : Int32)) (own_M0_10 p1) (own_M0_22 p1)) (0 : Int32)))]))
    refine own_iloadN X45 hx (hb hby at_89) rfl (q := 90) rfl ?_
    by_cases hc90_46 : (own_M2_10 (own_M1_16 ((p0 &&& (2147483647 : Int32)) % (3 : Int32)) (own_M0_10 p1) (own_M0_22 p1)) (0 : Int32)) = ((p0 &&& (2147483647 : Int32)) % (3 : Int32))
    · refine own_icY X45 hx (hb hby at_90) (teq hc90_46).1 (q := 95) (by decide) (by decide) ?_
      refine own_iloadN X45 hx (hb hby at_95) rfl (q := 96) rfl ?_
      suffices J50 : own_End p e below s (own_Q0 Z p0 p1 h0 n0) room_1.cells room_1.slots (T45.setTop (mkF m 104 #[.val (.int p0), .val (.int p1), .val (.int ((p0 &&& (2147483647 : Int32)) % (3 : Int32))), .val (.int (own_M0_10 p1)), .val (.int (own_M0_22 p1)), .val (.int (own_M1_16 ((p0 &&& (2147483647 : Int32)) % (3 : Int32)) (own_M0_10 p1) (own_M0_22 p1))), .val (.int (((8 : Int32) + (own_M0_45 p1)) + ((p0 &&& (2147483647 : Int32)) % (3 : Int32)))), .val (.int (own_M0_59 p0 p1)), .unset, .unset] [(.int (own_M0_96 p0 p1))])) by
        by_cases hc96_47 : (own_M0_10 p1) = (0 : Int32)
        · refine own_ifY X45 hx (hb hby at_96) (teq hc96_47).1 (q := 103) (by decide) (by decide) ?_
          refine own_iloadN X45 hx (hb hby at_103) rfl (q := 104) rfl ?_
          simp only [own_M0_96, if_pos hc96_47] at J50
          exact J50
        · refine own_ifN X45 hx (hb hby at_96) (feq hc96_47).1 (q := 99) rfl ?_
          refine own_iconst X45 hx (hb hby at_99) (z := -1) rfl (q := 100) rfl ?_
          refine own_goto X45 hx (hb hby at_100) (q := 104) (by decide) (by decide) ?_
          simp only [own_M0_96, if_neg hc96_47] at J50
          exact J50
      refine own_istore X45 hx (hb hby at_104) (l' := #[.val (.int p0), .val (.int p1), .val (.int ((p0 &&& (2147483647 : Int32)) % (3 : Int32))), .val (.int (own_M0_10 p1)), .val (.int (own_M0_22 p1)), .val (.int (own_M1_16 ((p0 &&& (2147483647 : Int32)) % (3 : Int32)) (own_M0_10 p1) (own_M0_22 p1))), .val (.int (((8 : Int32) + (own_M0_45 p1)) + ((p0 &&& (2147483647 : Int32)) % (3 : Int32)))), .val (.int (own_M0_59 p0 p1)), .val (.int (own_M0_96 p0 p1)), .unset]) rfl (q := 106) rfl ?_
      refine own_iload X45 hx (hb hby at_106) rfl (q := 108) rfl ?_
      refine own_iconst X45 hx (hb hby at_108) (z := 1) rfl (q := 109) rfl ?_
      obtain ⟨_, _, ⟨T51, L51, k51, n51⟩, -, X51, ⟨Lc51, hQ51, l51, y51, z51⟩, st51⟩ := Jvm.LawKit.callS X45 hx (y := (⟨"com/example/dawdling_reader/dawdlingreader/mqtt/Grant", "qos", "(IZ)I"⟩ : MethodName)) hown (mvT hZ (hw _ (List.mem_of_getElem? (i := 5) rfl))) (mvT hZ (hw _ (List.mem_of_getElem? (i := 6) rfl))) (mvT hZ (hw _ (List.mem_of_getElem? (i := 3) rfl))) (mvT hZ (hw _ (List.mem_of_getElem? (i := 7) rfl))) (by decide) (backOf (W := 0) (own_rm2 l Z a0 hw [] (own_M1_16 ((p0 &&& (2147483647 : Int32)) % (3 : Int32)) (own_M0_10 p1) (own_M0_22 p1)) (1 : Int32) h0 n0 Z0 ) hZ (hw _ (List.mem_of_getElem? (i := 7) rfl)) (hw _ (List.mem_of_getElem? (i := 3) rfl)) (by decide) (by decide)) (g := (mkF m 109 #[.val (.int p0), .val (.int p1), .val (.int ((p0 &&& (2147483647 : Int32)) % (3 : Int32))), .val (.int (own_M0_10 p1)), .val (.int (own_M0_22 p1)), .val (.int (own_M1_16 ((p0 &&& (2147483647 : Int32)) % (3 : Int32)) (own_M0_10 p1) (own_M0_22 p1))), .val (.int (((8 : Int32) + (own_M0_45 p1)) + ((p0 &&& (2147483647 : Int32)) % (3 : Int32)))), .val (.int (own_M0_59 p0 p1)), .val (.int (own_M0_96 p0 p1)), .unset] [(.int (1 : Int32)), (.int (own_M1_16 ((p0 &&& (2147483647 : Int32)) % (3 : Int32)) (own_M0_10 p1) (own_M0_22 p1)))])) rfl (by rw [hml]; rfl) (argsL := [(.int (own_M1_16 ((p0 &&& (2147483647 : Int32)) % (3 : Int32)) (own_M0_10 p1) (own_M0_22 p1))), (.int (1 : Int32))]) (rest := []) (lenOf own_pd0 rfl) rfl (by show 2 * 0 + _ ≤ _; exact Nat.le_of_eq rfl) (hb hby at_109) (fun _ _ => ⟨rfl, e45, (by decide : 0 + 0 ≤ _), (by decide : 0 + 0 ≤ _)⟩)
      dsimp only [Pt.U, Pt.locs, Pt.cells, Pt.slots] at X51 l51 y51 z51 st51 hQ51
      subst l51 y51 z51
      obtain ⟨rfl, N51q, e51⟩ := hQ51
      have N51 := Fr.app N45 N51q
      refine own_back st51 ?_
      show own_End p e below s _ _ _ (T51.setTop (mkF m 112 #[.val (.int p0), .val (.int p1), .val (.int ((p0 &&& (2147483647 : Int32)) % (3 : Int32))), .val (.int (own_M0_10 p1)), .val (.int (own_M0_22 p1)), .val (.int (own_M1_16 ((p0 &&& (2147483647 : Int32)) % (3 : Int32)) (own_M0_10 p1) (own_M0_22 p1))), .val (.int (((8 : Int32) + (own_M0_45 p1)) + ((p0 &&& (2147483647 : Int32)) % (3 : Int32)))), .val (.int (own_M0_59 p0 p1)), .val (.int (own_M0_96 p0 p1)), .unset] [(.int (own_M2_10 (own_M1_16 ((p0 &&& (2147483647 : Int32)) % (3 : Int32)) (own_M0_10 p1) (own_M0_22 p1)) (1 : Int32)))]))
      refine own_iload X51 hx (hb hby at_112) rfl (q := 114) rfl ?_
      by_cases hc114_52 : (own_M2_10 (own_M1_16 ((p0 &&& (2147483647 : Int32)) % (3 : Int32)) (own_M0_10 p1) (own_M0_22 p1)) (1 : Int32)) = (own_M0_96 p0 p1)
      · refine own_icY X51 hx (hb hby at_114) (teq hc114_52).1 (q := 119) (by decide) (by decide) ?_
        refine own_iload X51 hx (hb hby at_119) rfl (q := 121) rfl ?_
        refine own_iconst X51 hx (hb hby at_121) (z := 0) rfl (q := 122) rfl ?_
        obtain ⟨_, _, ⟨T53, L53, k53, n53⟩, -, X53, ⟨Lc53, hQ53, l53, y53, z53⟩, st53⟩ := Jvm.LawKit.callS X51 hx (y := (⟨"com/example/dawdling_reader/dawdlingreader/mqtt/Grant", "retainAsPublished", "(IZ)Z"⟩ : MethodName)) hown (mvT hZ (hw _ (List.mem_of_getElem? (i := 11) rfl))) (mvT hZ (hw _ (List.mem_of_getElem? (i := 12) rfl))) (mvT hZ (hw _ (List.mem_of_getElem? (i := 3) rfl))) (mvT hZ (hw _ (List.mem_of_getElem? (i := 13) rfl))) (by decide) (backOf (W := 0) (own_rm4 l Z a0 hw [] (own_M1_16 ((p0 &&& (2147483647 : Int32)) % (3 : Int32)) (own_M0_10 p1) (own_M0_22 p1)) (0 : Int32) h0 n0 Z0 ) hZ (hw _ (List.mem_of_getElem? (i := 13) rfl)) (hw _ (List.mem_of_getElem? (i := 3) rfl)) (by decide) (by decide)) (g := (mkF m 122 #[.val (.int p0), .val (.int p1), .val (.int ((p0 &&& (2147483647 : Int32)) % (3 : Int32))), .val (.int (own_M0_10 p1)), .val (.int (own_M0_22 p1)), .val (.int (own_M1_16 ((p0 &&& (2147483647 : Int32)) % (3 : Int32)) (own_M0_10 p1) (own_M0_22 p1))), .val (.int (((8 : Int32) + (own_M0_45 p1)) + ((p0 &&& (2147483647 : Int32)) % (3 : Int32)))), .val (.int (own_M0_59 p0 p1)), .val (.int (own_M0_96 p0 p1)), .unset] [(.int (0 : Int32)), (.int (own_M1_16 ((p0 &&& (2147483647 : Int32)) % (3 : Int32)) (own_M0_10 p1) (own_M0_22 p1)))])) rfl (by rw [hml]; rfl) (argsL := [(.int (own_M1_16 ((p0 &&& (2147483647 : Int32)) % (3 : Int32)) (own_M0_10 p1) (own_M0_22 p1))), (.int (0 : Int32))]) (rest := []) (lenOf own_pd2 rfl) rfl (by show 2 * 0 + _ ≤ _; exact Nat.le_of_eq rfl) (hb hby at_122) (fun _ _ => ⟨rfl, e51, (by decide : 0 + 0 ≤ _), (by decide : 0 + 0 ≤ _)⟩)
        dsimp only [Pt.U, Pt.locs, Pt.cells, Pt.slots] at X53 l53 y53 z53 st53 hQ53
        subst l53 y53 z53
        obtain ⟨rfl, N53q, e53⟩ := hQ53
        have N53 := Fr.app N51 N53q
        refine own_back st53 ?_
        show own_End p e below s _ _ _ (T53.setTop (mkF m 125 #[.val (.int p0), .val (.int p1), .val (.int ((p0 &&& (2147483647 : Int32)) % (3 : Int32))), .val (.int (own_M0_10 p1)), .val (.int (own_M0_22 p1)), .val (.int (own_M1_16 ((p0 &&& (2147483647 : Int32)) % (3 : Int32)) (own_M0_10 p1) (own_M0_22 p1))), .val (.int (((8 : Int32) + (own_M0_45 p1)) + ((p0 &&& (2147483647 : Int32)) % (3 : Int32)))), .val (.int (own_M0_59 p0 p1)), .val (.int (own_M0_96 p0 p1)), .unset] [(.int ((own_M4_7 (own_M1_16 ((p0 &&& (2147483647 : Int32)) % (3 : Int32)) (own_M0_10 p1) (own_M0_22 p1)) (0 : Int32)) &&& 1))]))
        refine own_iload X53 hx (hb hby at_125) rfl (q := 127) rfl ?_
        by_cases hc127_54 : ((own_M4_7 (own_M1_16 ((p0 &&& (2147483647 : Int32)) % (3 : Int32)) (own_M0_10 p1) (own_M0_22 p1)) (0 : Int32)) &&& 1) = (own_M0_22 p1)
        · refine own_icY X53 hx (hb hby at_127) (teq hc127_54).1 (q := 132) (by decide) (by decide) ?_
          refine own_iloadN X53 hx (hb hby at_132) rfl (q := 133) rfl ?_
          suffices J62 : own_End p e below s (own_Q0 Z p0 p1 h0 n0) room_1.cells room_1.slots (T53.setTop (mkF m 146 #[.val (.int p0), .val (.int p1), .val (.int ((p0 &&& (2147483647 : Int32)) % (3 : Int32))), .val (.int (own_M0_10 p1)), .val (.int (own_M0_22 p1)), .val (.int (own_M1_16 ((p0 &&& (2147483647 : Int32)) % (3 : Int32)) (own_M0_10 p1) (own_M0_22 p1))), .val (.int (((8 : Int32) + (own_M0_45 p1)) + ((p0 &&& (2147483647 : Int32)) % (3 : Int32)))), .val (.int (own_M0_59 p0 p1)), .val (.int (own_M0_96 p0 p1)), .unset] [(.int (own_M0_133 p1))])) by
            by_cases hc133_55 : (own_M0_10 p1) = (0 : Int32)
            · refine own_ifN X53 hx (hb hby at_133) (teq hc133_55).2 (q := 136) rfl ?_
              refine own_iload X53 hx (hb hby at_136) rfl (q := 138) rfl ?_
              suffices J59 : own_End p e below s (own_Q0 Z p0 p1 h0 n0) room_1.cells room_1.slots (T53.setTop (mkF m 146 #[.val (.int p0), .val (.int p1), .val (.int ((p0 &&& (2147483647 : Int32)) % (3 : Int32))), .val (.int (own_M0_10 p1)), .val (.int (own_M0_22 p1)), .val (.int (own_M1_16 ((p0 &&& (2147483647 : Int32)) % (3 : Int32)) (own_M0_10 p1) (own_M0_22 p1))), .val (.int (((8 : Int32) + (own_M0_45 p1)) + ((p0 &&& (2147483647 : Int32)) % (3 : Int32)))), .val (.int (own_M0_59 p0 p1)), .val (.int (own_M0_96 p0 p1)), .unset] [(.int (own_M0_138 p1))])) by
                by_cases hc138_56 : (own_M0_22 p1) = (0 : Int32)
                · refine own_ifY X53 hx (hb hby at_138) (teq hc138_56).1 (q := 145) (by decide) (by decide) ?_
                  refine own_iconst X53 hx (hb hby at_145) (z := 0) rfl (q := 146) rfl ?_
                  simp only [own_M0_138, if_pos hc138_56] at J59
                  exact J59
                · refine own_ifN X53 hx (hb hby at_138) (feq hc138_56).1 (q := 141) rfl ?_
                  refine own_iconst X53 hx (hb hby at_141) (z := 1) rfl (q := 142) rfl ?_
                  refine own_goto X53 hx (hb hby at_142) (q := 146) (by decide) (by decide) ?_
                  simp only [own_M0_138, if_neg hc138_56] at J59
                  exact J59
              simp only [own_M0_133, if_pos hc133_55] at J62
              exact J62
            · refine own_ifY X53 hx (hb hby at_133) (feq hc133_55).2 (q := 145) (by decide) (by decide) ?_
              refine own_iconst X53 hx (hb hby at_145) (z := 0) rfl (q := 146) rfl ?_
              simp only [own_M0_133, if_neg hc133_55] at J62
              exact J62
          refine own_istore X53 hx (hb hby at_146) (l' := #[.val (.int p0), .val (.int p1), .val (.int ((p0 &&& (2147483647 : Int32)) % (3 : Int32))), .val (.int (own_M0_10 p1)), .val (.int (own_M0_22 p1)), .val (.int (own_M1_16 ((p0 &&& (2147483647 : Int32)) % (3 : Int32)) (own_M0_10 p1) (own_M0_22 p1))), .val (.int (((8 : Int32) + (own_M0_45 p1)) + ((p0 &&& (2147483647 : Int32)) % (3 : Int32)))), .val (.int (own_M0_59 p0 p1)), .val (.int (own_M0_96 p0 p1)), .val (.int (own_M0_133 p1))]) rfl (q := 148) rfl ?_
          refine own_iload X53 hx (hb hby at_148) rfl (q := 150) rfl ?_
          refine own_iconst X53 hx (hb hby at_150) (z := 1) rfl (q := 151) rfl ?_
          obtain ⟨_, _, ⟨T63, L63, k63, n63⟩, -, X63, ⟨Lc63, hQ63, l63, y63, z63⟩, st63⟩ := Jvm.LawKit.callS X53 hx (y := (⟨"com/example/dawdling_reader/dawdlingreader/mqtt/Grant", "retainAsPublished", "(IZ)Z"⟩ : MethodName)) hown (mvT hZ (hw _ (List.mem_of_getElem? (i := 11) rfl))) (mvT hZ (hw _ (List.mem_of_getElem? (i := 12) rfl))) (mvT hZ (hw _ (List.mem_of_getElem? (i := 3) rfl))) (mvT hZ (hw _ (List.mem_of_getElem? (i := 13) rfl))) (by decide) (backOf (W := 0) (own_rm4 l Z a0 hw [] (own_M1_16 ((p0 &&& (2147483647 : Int32)) % (3 : Int32)) (own_M0_10 p1) (own_M0_22 p1)) (1 : Int32) h0 n0 Z0 ) hZ (hw _ (List.mem_of_getElem? (i := 13) rfl)) (hw _ (List.mem_of_getElem? (i := 3) rfl)) (by decide) (by decide)) (g := (mkF m 151 #[.val (.int p0), .val (.int p1), .val (.int ((p0 &&& (2147483647 : Int32)) % (3 : Int32))), .val (.int (own_M0_10 p1)), .val (.int (own_M0_22 p1)), .val (.int (own_M1_16 ((p0 &&& (2147483647 : Int32)) % (3 : Int32)) (own_M0_10 p1) (own_M0_22 p1))), .val (.int (((8 : Int32) + (own_M0_45 p1)) + ((p0 &&& (2147483647 : Int32)) % (3 : Int32)))), .val (.int (own_M0_59 p0 p1)), .val (.int (own_M0_96 p0 p1)), .val (.int (own_M0_133 p1))] [(.int (1 : Int32)), (.int (own_M1_16 ((p0 &&& (2147483647 : Int32)) % (3 : Int32)) (own_M0_10 p1) (own_M0_22 p1)))])) rfl (by rw [hml]; rfl) (argsL := [(.int (own_M1_16 ((p0 &&& (2147483647 : Int32)) % (3 : Int32)) (own_M0_10 p1) (own_M0_22 p1))), (.int (1 : Int32))]) (rest := []) (lenOf own_pd2 rfl) rfl (by show 2 * 0 + _ ≤ _; exact Nat.le_of_eq rfl) (hb hby at_151) (fun _ _ => ⟨rfl, e53, (by decide : 0 + 0 ≤ _), (by decide : 0 + 0 ≤ _)⟩)
          dsimp only [Pt.U, Pt.locs, Pt.cells, Pt.slots] at X63 l63 y63 z63 st63 hQ63
          subst l63 y63 z63
          obtain ⟨rfl, N63q, e63⟩ := hQ63
          have N63 := Fr.app N53 N63q
          refine own_back st63 ?_
          show own_End p e below s _ _ _ (T63.setTop (mkF m 154 #[.val (.int p0), .val (.int p1), .val (.int ((p0 &&& (2147483647 : Int32)) % (3 : Int32))), .val (.int (own_M0_10 p1)), .val (.int (own_M0_22 p1)), .val (.int (own_M1_16 ((p0 &&& (2147483647 : Int32)) % (3 : Int32)) (own_M0_10 p1) (own_M0_22 p1))), .val (.int (((8 : Int32) + (own_M0_45 p1)) + ((p0 &&& (2147483647 : Int32)) % (3 : Int32)))), .val (.int (own_M0_59 p0 p1)), .val (.int (own_M0_96 p0 p1)), .val (.int (own_M0_133 p1))] [(.int ((own_M4_7 (own_M1_16 ((p0 &&& (2147483647 : Int32)) % (3 : Int32)) (own_M0_10 p1) (own_M0_22 p1)) (1 : Int32)) &&& 1))]))
          refine own_iload X63 hx (hb hby at_154) rfl (q := 156) rfl ?_
          by_cases hc156_64 : ((own_M4_7 (own_M1_16 ((p0 &&& (2147483647 : Int32)) % (3 : Int32)) (own_M0_10 p1) (own_M0_22 p1)) (1 : Int32)) &&& 1) = (own_M0_133 p1)
          · refine own_icN X63 hx (hb hby at_156) (teq hc156_64).2 (q := 159) rfl ?_
            refine own_iconst X63 hx (hb hby at_159) (z := 1) rfl (q := 160) rfl ?_
            refine own_goto X63 hx (hb hby at_160) (q := 164) (by decide) (by decide) ?_
            refine own_retN X63 hx (t := .boolean) (by simp) Bd.returns Bd.notSynchronized (by decide) (by decide) (hb hby at_164) ?_
            show own_Q0 Z p0 p1 h0 n0 _ T63.heap _
            exact ⟨(by rw [show own_F0 p0 p1 = _ from (by simp only [own_F0, if_pos hc78_44, if_pos hc90_46, if_pos hc114_52, if_pos hc127_54, if_pos hc156_64] : _ = (1 : Int32))]; rfl), N63⟩
          · refine own_icY X63 hx (hb hby at_156) (feq hc156_64).2 (q := 163) (by decide) (by decide) ?_
            refine own_iconst X63 hx (hb hby at_163) (z := 0) rfl (q := 164) rfl ?_
            refine own_retN X63 hx (t := .boolean) (by simp) Bd.returns Bd.notSynchronized (by decide) (by decide) (hb hby at_164) ?_
            show own_Q0 Z p0 p1 h0 n0 _ T63.heap _
            exact ⟨(by rw [show own_F0 p0 p1 = _ from (by simp only [own_F0, if_pos hc78_44, if_pos hc90_46, if_pos hc114_52, if_pos hc127_54, if_neg hc156_64] : _ = (0 : Int32))]; rfl), N63⟩
        · refine own_icN X53 hx (hb hby at_127) (feq hc127_54).1 (q := 130) rfl ?_
          refine own_iconst X53 hx (hb hby at_130) (z := 0) rfl (q := 131) rfl ?_
          refine own_retN X53 hx (t := .boolean) (by simp) Bd.returns Bd.notSynchronized (by decide) (by decide) (hb hby at_131) ?_
          show own_Q0 Z p0 p1 h0 n0 _ T53.heap _
          exact ⟨(by rw [show own_F0 p0 p1 = _ from (by simp only [own_F0, if_pos hc78_44, if_pos hc90_46, if_pos hc114_52, if_neg hc127_54] : _ = (0 : Int32))]; rfl), N53⟩
      · refine own_icN X51 hx (hb hby at_114) (feq hc114_52).1 (q := 117) rfl ?_
        refine own_iconst X51 hx (hb hby at_117) (z := 0) rfl (q := 118) rfl ?_
        refine own_retN X51 hx (t := .boolean) (by simp) Bd.returns Bd.notSynchronized (by decide) (by decide) (hb hby at_118) ?_
        show own_Q0 Z p0 p1 h0 n0 _ T51.heap _
        exact ⟨(by rw [show own_F0 p0 p1 = _ from (by simp only [own_F0, if_pos hc78_44, if_pos hc90_46, if_neg hc114_52] : _ = (0 : Int32))]; rfl), N51⟩
    · refine own_icN X45 hx (hb hby at_90) (feq hc90_46).1 (q := 93) rfl ?_
      refine own_iconst X45 hx (hb hby at_93) (z := 0) rfl (q := 94) rfl ?_
      refine own_retN X45 hx (t := .boolean) (by simp) Bd.returns Bd.notSynchronized (by decide) (by decide) (hb hby at_94) ?_
      show own_Q0 Z p0 p1 h0 n0 _ T45.heap _
      exact ⟨(by rw [show own_F0 p0 p1 = _ from (by simp only [own_F0, if_pos hc78_44, if_neg hc90_46] : _ = (0 : Int32))]; rfl), N45⟩
  · refine own_icN X35 hx (hb hby at_78) (feq hc78_44).1 (q := 81) rfl ?_
    refine own_iconst X35 hx (hb hby at_81) (z := 0) rfl (q := 82) rfl ?_
    refine own_retN X35 hx (t := .boolean) (by simp) Bd.returns Bd.notSynchronized (by decide) (by decide) (hb hby at_82) ?_
    show own_Q0 Z p0 p1 h0 n0 _ T35.heap _
    exact ⟨(by rw [show own_F0 p0 p1 = _ from (by simp only [own_F0, if_neg hc78_44] : _ = (0 : Int32))]; rfl), N35⟩
theorem own_mod (x k : Int32) (n : Int) (hk : k.toInt = n) : ((x &&& 2147483647) % k).toInt = (x.toInt % 2147483648) % n := by
  have e1 : (x &&& 2147483647).toInt = x.toInt % 2 ^ 31 := Jvm.Kit.i32_mask x 2147483647 (k := 31) (by decide) (by decide)
  rw [Jvm.Kit.i32_rem_nonneg (by rw [e1]; omega), e1, hk]; rfl
theorem own_law (a b : Int32) : own_F0 a b = 1 := by
  have hr := own_mod a 3 3 (by decide)
  have hq : (a &&& 2147483647) % 3 = 0 ∨ (a &&& 2147483647) % 3 = 1 ∨ (a &&& 2147483647) % 3 = 2 := by
    have : ((a &&& 2147483647) % 3).toInt = 0 ∨ ((a &&& 2147483647) % 3).toInt = 1 ∨ ((a &&& 2147483647) % 3).toInt = 2 := by omega
    rcases this with h | h | h
    · exact Or.inl (Int32.toInt_inj.mp (by rw [h]; decide))
    · exact Or.inr (Or.inl (Int32.toInt_inj.mp (by rw [h]; decide)))
    · exact Or.inr (Or.inr (Int32.toInt_inj.mp (by rw [h]; decide)))
  have h10 : own_M0_10 b = 0 ∨ own_M0_10 b = 1 := by rw [own_M0_10]; split <;> simp
  have h22 : own_M0_22 b = 0 ∨ own_M0_22 b = 1 := by rw [own_M0_22]; split <;> simp
  rw [own_F0, own_M0_133, own_M0_138, own_M0_96, own_M0_59, own_M0_45]
  rcases hq with q | q | q <;> rcases h10 with x | x <;> rcases h22 with y | y <;> rw [q, x, y] <;> decide
set_option maxRecDepth 65536 in
set_option maxHeartbeats 40000000 in
theorem comes_1 {Post : Tables → Env → Array Value → State → Outcome → State → Prop} (hpost : ∀ tb e args s v u, (limb_1_1.after args s (.returned v) u = true ∧ limb_1_2.after args s (.returned v) u = true ∧ True) → FrameEnd s (.returned v) u (Jvm.fieldLocs frame_1_writes args s ++ Jvm.arrayLocs frame_1_arrays args s ++ Jvm.staticLocs frame_1_statics s) 0 0 → Post tb e args s (.returned v) u) :
    ArmFor flags0 classFile x code maxLocals ret World_1 tables_1 room_1 Calls_1 rest_1 Pre_1 Post := by
  intro l hfl _ _ p e ha hc hk s m args below hf hA hF happ hP
  obtain ⟨hcalls, hrest, hpre⟩ := hP
  obtain ⟨-, -, -, hnamed, -, -, -, hat⟩ := (Spec.applies_iff hf).mp happ
  obtain ⟨hg, hn⟩ := and_e (Cond.before_iff.mp (show (Jvm.Cond.and given_1 narrow_1).before args s = true from hpre))
  obtain ⟨g71, g72⟩ := and_e hg
  obtain ⟨g73, g74⟩ := and_e g72
  obtain ⟨w0, w1, rfl⟩ : ∃ w0 w1 : Value, args = #[w0, w1] := by
    have hs : args.size = 2 := by simpa [Cond.value, given_1] using g71
    obtain ⟨L⟩ := args
    match L, hs with
    | [w0, w1], _ => exact ⟨w0, w1, rfl⟩
  have hw := fun d (hd : d ∈ tables_1) => atoms_spec (ws := Jvm.Cond.code x code maxLocals ret :: tables_1) hat d (List.mem_cons_of_mem _ hd)
  have hfit : Fit s := fun {y c} hc i hi => by
    obtain ⟨ha, rfl⟩ := Array.getElem?_eq_some_iff.mp hc
    have q := List.all_eq_true.mp ((Array.all_eq_true_iff_forall_mem.mp hF) _ (Array.getElem_mem ha)) i (List.mem_range.mpr hi)
    simpa [Array.getElem?_eq_getElem hi] using q
  obtain ⟨i0, ei0⟩ := is_v g73
  obtain rfl : w0 = (.int i0) := Option.some.inj ei0
  obtain ⟨i1, ei1⟩ := is_v g74
  obtain rfl : w1 = (.int i1) := Option.some.inj ei1
  obtain ⟨n, o, h1, h2, h3, _, L, rfl, ⟨hv, N⟩, hq⟩ := own_rm0 l s _ hw tables_1 i0 i1 s.heap s.heap.size (Nat.le_refl _)  p e ha hc hk s m _ below hf ((Spec.applies_iff_loose hf).mp happ).1 ⟨rfl, State.Warmed39.refl s, rfl⟩ trivial
  rw [own_law] at hv
  subst hv
  refine ⟨n, _, h1, h2, h3, hpost _ _ _ _ _ _ ⟨Cond.after_iff.mpr rfl, Cond.after_iff.mpr (eq_i res_at (Term.int_eval (1)) rfl), trivial⟩ ⟨hq.1, hq.2.1, (hq.2.2.sift fun y hy => Or.inr (N y hy)).mono (by decide) (by decide)⟩⟩
theorem main_1_1 : Claimed_1_1 := comes_1 fun _ _ _ _ _ _ h hF => ⟨h.1, hF⟩
theorem main_1_2 : Claimed_1_2 := comes_1 fun _ _ _ _ _ _ h hF => ⟨h.2.1, hF⟩
end Jvm.Pilot.@@N@@
namespace Jvm.Pilot.@@N@@
open Jvm Jvm.ClassFile Sem Op Lib Jvm.Free Jvm.Stand Jvm.Pilot.@@N@@.Jvm.D
/-! MADE BY PROGRAM (witnessworld.py) out of the Statement's table words and the real class files: 9 classes; the members and pool entries that the words name. The judged class is class 1, her method 1. -/
namespace start1
open Jvm.ClassFile
def u (s : String) : CpInfo := .utf8 (stringToUtf16 s)
/-- a pool by its gaps: so many unusable entries, then the entry; so many at the end -/
def gap : Nat → List CpInfo → List CpInfo
  | 0, r => r
  | n + 1, r => .unusable :: gap n r
def poolList (es : List (Nat × CpInfo)) (last : Nat) : List CpInfo := es.foldr (fun e r => gap e.1 (e.2 :: r)) (gap last [])
def pool (es : List (Nat × CpInfo)) (last : Nat) : Array CpInfo := ⟨poolList es last⟩
def fileOf (pool : Array CpInfo) (this : Nat) (attrs : Array Attribute := #[]) (ms : Array MethodInfo := #[]) (fl : Nat := 33) (sup : Nat := 0) (ifs : Array Nat := #[]) (fds : Array FieldInfo := #[]) : ClassFile where
  minorVersion := 0
  majorVersion := 65
  constantPool := pool
  accessFlags := fl
  thisClass := this
  superClass := sup
  interfaces := ifs
  fields := fds
  methods := ms
  attributes := attrs
def plain (name : String) (sup : Option ClassId) : Class where
  name := name
  kind := .ordinary
  loader := none
  accessFlags := 33
  super := sup
  interfaces := #[]
  cf := none
  fields := #[]
  methods := #[]
  instanceTypes := #[]
  staticTypes := #[]
  resolved := #[]
  callSites := []
  init := .initialized
  statics := none
  mirror := none

def pool0 : Array CpInfo := pool [(5, u "<init>"), (0, u "()V"), (1, .class_ 10), (1, u "java/lang/Object")] 113

def k0m0 : Method := { name := "<init>", desc := "()V", sig := { parameters := [], returnType := none }, accessFlags := 1, code := none }
/-- java/lang/Object -/
def k0 : Class := { plain "java/lang/Object" none with
  accessFlags := 33
  interfaces := #[]
  cf := some (fileOf pool0 8 #[] #[{ accessFlags := 1, nameIndex := 5, descriptorIndex := 6, attributes := #[] }] 33 0 #[] #[])
  fields := #[]
  methods := #[k0m0]
  instanceTypes := #[]
  staticTypes := #[]
  resolved := Array.replicate 124 none
  statics := none }

def pool1 : Array CpInfo := pool [(2, .class_ 4), (1, u "java/lang/Object"), (0, u "<init>"), (0, u "()V"), (0, .integer 2147483647), (0, .methodref 9 10), (0, .class_ 11), (0, .nameAndType 12 13), (0, u "com/example/dawdling_reader/dawdlingreader/mqtt/Grant"), (0, u "of"), (0, u "(IZZ)I"), (0, .methodref 9 15), (0, .nameAndType 16 17), (0, u "qos"), (0, u "(IZ)I"), (0, .methodref 9 19), (0, .nameAndType 20 21), (0, u "retainAsPublished"), (0, u "(IZ)Z"), (0, .class_ 23), (0, u "com/example/dawdling_reader/dawdlingreader/mqtt/GrantOfPinLaw"), (2, u "law"), (0, u "(II)Z")] 3

def k1m0 : Method := { name := "<init>", desc := "()V", sig := { parameters := [], returnType := none }, accessFlags := 2, code := none }
def k1c1 : Code := { maxStack := 3, maxLocals := 10, code := code, exceptionTable := #[], attributes := #[] }
def k1m1 : Method := { name := "law", desc := "(II)Z", sig := { parameters := [.int, .int], returnType := some .boolean }, accessFlags := 9, code := some k1c1 }
/-- com/example/dawdling_reader/dawdlingreader/mqtt/GrantOfPinLaw -/
def k1 : Class := { plain "com/example/dawdling_reader/dawdlingreader/mqtt/GrantOfPinLaw" (some 0) with
  accessFlags := 49
  interfaces := #[]
  cf := some (fileOf pool1 22 #[] #[{ accessFlags := 2, nameIndex := 5, descriptorIndex := 6, attributes := #[] }, { accessFlags := 9, nameIndex := 26, descriptorIndex := 27, attributes := #[] }] 49 2 #[] #[])
  fields := #[]
  methods := #[k1m0, k1m1]
  instanceTypes := #[]
  staticTypes := #[]
  resolved := Array.replicate 31 none
  statics := none }

def pool2 : Array CpInfo := pool [(2, .class_ 4), (1, u "java/lang/Object"), (0, u "<init>"), (0, u "()V"), (0, .class_ 8), (0, u "com/example/dawdling_reader/dawdlingreader/mqtt/Grant"), (9, .methodref 7 19), (0, .nameAndType 20 21), (0, u "bits"), (0, u "(IZ)I"), (0, u "GRANTED"), (0, u "I"), (2, u "RETAIN_AS_PUBLISHED"), (1, u "QOS"), (1, u "ALL"), (1, u "OWN_SHIFT"), (2, u "of"), (0, u "(IZZ)I"), (2, u "qos"), (0, u "retainAsPublished"), (0, u "(IZ)Z")] 2

def k2m0 : Method := { name := "<init>", desc := "()V", sig := { parameters := [], returnType := none }, accessFlags := 2, code := none }
def k2c1 : Code := { maxStack := 3, maxLocals := 4, code := prog_30_method_2_code, exceptionTable := #[], attributes := #[] }
def k2m1 : Method := { name := "of", desc := "(IZZ)I", sig := { parameters := [.int, .boolean, .boolean], returnType := some .int }, accessFlags := 8, code := some k2c1 }
def k2c2 : Code := { maxStack := 2, maxLocals := 3, code := prog_30_method_5_code, exceptionTable := #[], attributes := #[] }
def k2m2 : Method := { name := "qos", desc := "(IZ)I", sig := { parameters := [.int, .boolean], returnType := some .int }, accessFlags := 8, code := some k2c2 }
def k2c3 : Code := { maxStack := 2, maxLocals := 2, code := prog_30_method_6_code, exceptionTable := #[], attributes := #[] }
def k2m3 : Method := { name := "retainAsPublished", desc := "(IZ)Z", sig := { parameters := [.int, .boolean], returnType := some .boolean }, accessFlags := 8, code := some k2c3 }
def k2c4 : Code := { maxStack := 2, maxLocals := 2, code := prog_30_method_7_code, exceptionTable := #[], attributes := #[] }
def k2m4 : Method := { name := "bits", desc := "(IZ)I", sig := { parameters := [.int, .boolean], returnType := some .int }, accessFlags := 10, code := some k2c4 }
/-- com/example/dawdling_reader/dawdlingreader/mqtt/Grant -/
def k2 : Class := { plain "com/example/dawdling_reader/dawdlingreader/mqtt/Grant" (some 0) with
  accessFlags := 48
  interfaces := #[]
  cf := some (fileOf pool2 7 #[] #[{ accessFlags := 2, nameIndex := 5, descriptorIndex := 6, attributes := #[] }, { accessFlags := 8, nameIndex := 35, descriptorIndex := 36, attributes := #[] }, { accessFlags := 8, nameIndex := 39, descriptorIndex := 21, attributes := #[] }, { accessFlags := 8, nameIndex := 40, descriptorIndex := 41, attributes := #[] }, { accessFlags := 10, nameIndex := 20, descriptorIndex := 21, attributes := #[] }] 48 2 #[] #[{ accessFlags := 26, nameIndex := 22, descriptorIndex := 23, attributes := #[] }, { accessFlags := 26, nameIndex := 26, descriptorIndex := 23, attributes := #[] }, { accessFlags := 26, nameIndex := 28, descriptorIndex := 23, attributes := #[] }, { accessFlags := 26, nameIndex := 30, descriptorIndex := 23, attributes := #[] }, { accessFlags := 26, nameIndex := 32, descriptorIndex := 23, attributes := #[] }])
  fields := #[{ name := "GRANTED", type := .int, accessFlags := 26, slot := 0, constantValue := 0 }, { name := "RETAIN_AS_PUBLISHED", type := .int, accessFlags := 26, slot := 1, constantValue := 0 }, { name := "QOS", type := .int, accessFlags := 26, slot := 2, constantValue := 0 }, { name := "ALL", type := .int, accessFlags := 26, slot := 3, constantValue := 0 }, { name := "OWN_SHIFT", type := .int, accessFlags := 26, slot := 4, constantValue := 0 }]
  methods := #[k2m0, k2m1, k2m2, k2m3, k2m4]
  instanceTypes := #[]
  staticTypes := #[.int, .int, .int, .int, .int]
  resolved := Array.replicate 44 none
  statics := none }

def pool3 : Array CpInfo := pool [(1, u "java/lang/Cloneable"), (0, .class_ 1), (0, u "java/lang/Object"), (0, .class_ 3)] 3

/-- java/lang/Cloneable -/
def k3 : Class := { plain "java/lang/Cloneable" (some 0) with
  accessFlags := 1537
  interfaces := #[]
  cf := some (fileOf pool3 2 #[] #[] 1537 4 #[] #[])
  fields := #[]
  methods := #[]
  instanceTypes := #[]
  staticTypes := #[]
  resolved := Array.replicate 8 none
  statics := none }

def pool4 : Array CpInfo := pool [(1, u "java/io/Serializable"), (0, .class_ 1), (0, u "java/lang/Object"), (0, .class_ 3)] 3

/-- java/io/Serializable -/
def k4 : Class := { plain "java/io/Serializable" (some 0) with
  accessFlags := 1537
  interfaces := #[]
  cf := some (fileOf pool4 2 #[] #[] 1537 4 #[] #[])
  fields := #[]
  methods := #[]
  instanceTypes := #[]
  staticTypes := #[]
  resolved := Array.replicate 8 none
  statics := none }

/-- the primitive byte -/
def k5 : Class := { plain "byte" none with kind := .primitive 'B', accessFlags := 0x411 }
/-- [B -/
def k6 : Class := { plain "[B" (some 0) with kind := .array 5 .byte, interfaces := #[3, 4], accessFlags := 1041 }

/-- the primitive int -/
def k7 : Class := { plain "int" none with kind := .primitive 'I', accessFlags := 0x411 }
/-- [I -/
def k8 : Class := { plain "[I" (some 0) with kind := .array 7 .int, interfaces := #[3, 4], accessFlags := 1041 }

def heap : Heap := #[]
def classes : Array Class := #[k0, k1, k2, k3, k4, k5, k6, k7, k8]
def interned : List (Array UInt16 × Addr) := []
def slotsUsed : Nat := 0
def theMethod : MethodId := ⟨1, 1⟩
def args0 : Array Value := #[.int 3, .int 4]
def aboutOver (below : List Frame) : State where
  vm := { classes := classes, interned := interned.toArray }
  heap := heap
  slotsUsed := slotsUsed
  threads := #[{ frames := .invoking theMethod args0 :: below }]
def below0 : List Frame := [.native { method := ⟨0, 0⟩, args := #[] }]
def about1 : State := aboutOver below0
def p0 : Program := .bare "" "" ""
def e0 : Env := launch0.env 0 0 0
theorem w_frames : about1.frames = Frame.invoking theMethod args0 :: below0 := rfl
set_option maxRecDepth 65536 in
theorem w_args : argsFit about1.vm theMethod args0 = true := by decide +kernel
set_option maxRecDepth 65536 in
theorem w_heap : heapFits about1 = true := by decide +kernel
set_option maxRecDepth 65536 in
theorem w_runnable : about1.curStatus? = some .runnable := by decide +kernel
set_option maxRecDepth 65536 in
theorem w_alone : about1.alone = true := by decide +kernel
set_option maxRecDepth 65536 in
theorem w_named : about1.methodNamed? x = some theMethod := by decide +kernel
set_option maxRecDepth 65536 in
theorem w_hears : about1.hears theMethod below0 = true := by decide +kernel
set_option maxRecDepth 65536 in
theorem w_ripe : about1.ripe theMethod args0 below0 = true := by decide +kernel
theorem w_running : about1.status = .running := rfl
set_option maxRecDepth 65536 in
theorem w_room : about1.hasRoom e0.platform room_1 = true :=
  launch0.hasRoom_least _ room_1 (by decide +kernel) (by decide +kernel) (by decide +kernel) (by decide +kernel) (by decide +kernel) (by decide +kernel)
theorem allAtoms_all (ts : List Jvm.Cond) (a : Array Jvm.Value) (st : Jvm.State) : (allAtoms ts).before a st = ts.all (fun c => c.before a st) := by
  induction ts with
  | nil => rfl
  | cons c t ih =>
    show (Jvm.Cond.and c (allAtoms t)).before a st = _
    rw [Jvm.Cond.before_and, ih, List.all_cons]
def words1 : List Jvm.Cond := Jvm.Cond.code x code maxLocals ret :: tables_1
/-- a 'code' word, met by the world's own term for the bytes: nothing is compared byte by byte -/
theorem code_word {y : MethodName} {bytes : ByteArray} {mx : Nat} {rt : Option FieldType} {a : Array Value} {s : State} {m : MethodId} {meth : Method} {c : Code} (h1 : s.methodNamed? y = some m) (h2 : s.vm.method? m = some meth) (h3 : meth.code = some c) (h4 : c.code = bytes)
    (h5 : (c.maxLocals == mx && c.exceptionTable.isEmpty && decide (c.maxStack ≤ mostOperands) && decide (meth.sig.returnType = rt) && !meth.locks && decide (parseMethodDescriptor y.desc = some meth.sig)) = true) : (Jvm.Cond.code y bytes mx rt).before a s = true := by
  simp only [Bool.and_eq_true, beq_iff_eq, Bool.not_eq_true', decide_eq_true_eq] at h5
  obtain ⟨⟨⟨⟨⟨g1, g2⟩, g3⟩, g4⟩, g5⟩, g6⟩ := h5
  simp [Cond.before, Cond.holds, Cond.value, h1, h2, h3, h4, g1, g2, g3, g4, g5, g6]
def isCode : Jvm.Cond → Bool
  | .code _ _ _ _ => true
  | _ => false
theorem all_split {L : List Jvm.Cond} {P : Jvm.Cond → Bool} (h1 : L.all (fun c => isCode c || P c) = true) (h2 : ∀ c ∈ L.filter isCode, P c = true) : L.all P = true := by
  refine List.all_eq_true.mpr fun c hc => ?_
  have h := List.all_eq_true.mp h1 c hc
  rcases Bool.eq_false_or_eq_true (isCode c) with hi | hi
  · exact h2 c (List.mem_filter.mpr ⟨hc, hi⟩)
  · simpa [hi] using h
set_option maxRecDepth 65536 in
theorem w_c0 : (Jvm.Cond.code x code maxLocals ret).before args0 about1 = true := code_word (m := ⟨1, 1⟩) (meth := k1m1) (c := k1c1) (by decide +kernel) rfl rfl rfl (by decide +kernel)
set_option maxRecDepth 65536 in
theorem w_c1 : (Jvm.Cond.code ({ cls := "com/example/dawdling_reader/dawdlingreader/mqtt/Grant", name := "of", desc := "(IZZ)I" } : Jvm.MethodName) prog_30_method_2_code (4 : Nat) (Option.some Jvm.ClassFile.FieldType.int)).before args0 about1 = true := code_word (m := ⟨2, 1⟩) (meth := k2m1) (c := k2c1) (by decide +kernel) rfl rfl rfl (by decide +kernel)
set_option maxRecDepth 65536 in
theorem w_c2 : (Jvm.Cond.code ({ cls := "com/example/dawdling_reader/dawdlingreader/mqtt/Grant", name := "qos", desc := "(IZ)I" } : Jvm.MethodName) prog_30_method_5_code (3 : Nat) (Option.some Jvm.ClassFile.FieldType.int)).before args0 about1 = true := code_word (m := ⟨2, 2⟩) (meth := k2m2) (c := k2c2) (by decide +kernel) rfl rfl rfl (by decide +kernel)
set_option maxRecDepth 65536 in
theorem w_c3 : (Jvm.Cond.code ({ cls := "com/example/dawdling_reader/dawdlingreader/mqtt/Grant", name := "bits", desc := "(IZ)I" } : Jvm.MethodName) prog_30_method_7_code (2 : Nat) (Option.some Jvm.ClassFile.FieldType.int)).before args0 about1 = true := code_word (m := ⟨2, 4⟩) (meth := k2m4) (c := k2c4) (by decide +kernel) rfl rfl rfl (by decide +kernel)
set_option maxRecDepth 65536 in
theorem w_c4 : (Jvm.Cond.code ({ cls := "com/example/dawdling_reader/dawdlingreader/mqtt/Grant", name := "retainAsPublished", desc := "(IZ)Z" } : Jvm.MethodName) prog_30_method_6_code (2 : Nat) (Option.some Jvm.ClassFile.FieldType.boolean)).before args0 about1 = true := code_word (m := ⟨2, 3⟩) (meth := k2m3) (c := k2c3) (by decide +kernel) rfl rfl rfl (by decide +kernel)
def codes1 : List Jvm.Cond := [Jvm.Cond.code x code maxLocals ret, Jvm.Cond.code ({ cls := "com/example/dawdling_reader/dawdlingreader/mqtt/Grant", name := "of", desc := "(IZZ)I" } : Jvm.MethodName) prog_30_method_2_code (4 : Nat) (Option.some Jvm.ClassFile.FieldType.int), Jvm.Cond.code ({ cls := "com/example/dawdling_reader/dawdlingreader/mqtt/Grant", name := "qos", desc := "(IZ)I" } : Jvm.MethodName) prog_30_method_5_code (3 : Nat) (Option.some Jvm.ClassFile.FieldType.int), Jvm.Cond.code ({ cls := "com/example/dawdling_reader/dawdlingreader/mqtt/Grant", name := "bits", desc := "(IZ)I" } : Jvm.MethodName) prog_30_method_7_code (2 : Nat) (Option.some Jvm.ClassFile.FieldType.int), Jvm.Cond.code ({ cls := "com/example/dawdling_reader/dawdlingreader/mqtt/Grant", name := "retainAsPublished", desc := "(IZ)Z" } : Jvm.MethodName) prog_30_method_6_code (2 : Nat) (Option.some Jvm.ClassFile.FieldType.boolean)]
set_option maxRecDepth 65536 in
theorem codes_eq : words1.filter isCode = codes1 := rfl
theorem w_codes : ∀ c ∈ words1.filter isCode, c.before args0 about1 = true := by
  rw [codes_eq]
  intro c hc
  simp only [codes1, List.mem_cons, List.not_mem_nil, or_false] at hc
  rcases hc with rfl | rfl | rfl | rfl | rfl
  · exact w_c0
  · exact w_c1
  · exact w_c2
  · exact w_c3
  · exact w_c4
set_option maxRecDepth 65536 in
theorem w_t1 : words1.all (fun c => isCode c || c.before args0 about1) = true := by decide +kernel
theorem w_tables : (allAtoms (Jvm.Cond.code x code maxLocals ret :: tables_1)).before args0 about1 = true := by
  rw [allAtoms_all]
  show words1.all (fun c => c.before args0 about1) = true
  refine all_split ?_ w_codes
  rw [w_t1]
set_option maxRecDepth 65536 in
theorem w_case : (Jvm.Cond.and given_1 narrow_1).before args0 about1 = true := by decide +kernel
theorem w_applies : (headSpec (Jvm.Cond.code x code maxLocals ret :: tables_1) room_1).applies x e0.platform about1 = true :=
  (Spec.applies_iff w_frames).mpr ⟨w_running, w_runnable, w_alone, w_named, w_hears, w_ripe, w_room, w_tables⟩
theorem atStart : AtStart classFile x code maxLocals ret World_1 tables_1 room_1 Calls_1 rest_1 Pre_1 launch0 p0 e0 about1 theMethod args0 below0 :=
  ⟨lists_1, trivial, launch0.admits_env _ _ _, launch0.least_env, fairChoices_fair.cas, fairChoices_fair.clock, w_frames, w_args, w_heap, w_applies, trivial, trivial, w_case⟩
end start1
theorem witness_1 : WitnessClaimed_1 := ⟨start1.p0, start1.e0, start1.about1, start1.theMethod, start1.args0, start1.below0, start1.atStart⟩
end Jvm.Pilot.@@N@@
