import JvmDerived
import JvmDerived.Pilot.@@N@@Statement
import JvmDerived.Pilot.@@N@@Code
set_option linter.unusedVariables false
set_option linter.unusedSimpArgs false
@@BLOCK:NumsL.lean.txt@@
namespace Jvm.Pilot.@@N@@
open Jvm Jvm.ClassFile Sem Op Lib Jvm.Free Jvm.Stand Jvm.LawKit Jvm.RoadKit Bundle Jvm.Pilot.@@N@@.Jvm.D
section Own
variable {p : Program} {l : Launch} {e : Env} {R : Room} {s : State} {m : MethodId} {args : Array Value} {below : List Frame} {meth : Method} {c : Code} {T : State} {locs : List Loc} {cells slots : Nat} {Q : Option Value → Heap → List Loc → Prop} {K N : Nat} {s' : State} {E : State → Outcome → State → List Loc → Nat → Nat → Prop}
/-- the run from a ends in a return of which Q holds, within the frame -/
def own_End (p : Program) (e : Env) (below : List Frame) (s : State) (Q : Option Value → Heap → List Loc → Prop) (K N : Nat) (a : State) (E : State → Outcome → State → List Loc → Nat → Nat → Prop := FrameEnd) : Prop :=
  ∃ s₂ o, Steps p.tables e below a s₂ ∧ s₂.status = .running ∧ Ended s₂ below o ∧ ∃ v L, o = .returned v ∧ Q v s₂.heap L ∧ E s o s₂ L K N
theorem own_back {a b : State} (k : ∀ t, Steps p.tables e below b t → Steps p.tables e below a t) (h : own_End p e below s Q K N b E) : own_End p e below s Q K N a E := by
  obtain ⟨s₂, o, h1, h2⟩ := h
  exact ⟨s₂, o, k _ h1, h2⟩
theorem own_via {a b : State} (k : Steps p.tables e below a b) (h : own_End p e below s Q K N b E) : own_End p e below s Q K N a E :=
  own_back (fun _ j => k.trans j) h
theorem own_selfsel {y : MethodName} {n : Nat} (wi : (Jvm.Cond.instantiable y.cls n).before args s = true) (hp : s.PrivateAt y) (hi : (Jvm.Cond.instanceMethod y).before args s = true) (hy : y.cls ≠ "java/lang/invoke/MethodHandle" ∧ y.cls ≠ "java/lang/invoke/VarHandle") : (Jvm.Cond.selects y.cls y y).before args s = true := by
  obtain ⟨c, k, h1, h2, -, h4, -⟩ := Cond.instantiable_spec wi
  exact selects_self_of_private h1 h2 (Bool.or_eq_false_iff.mp h4).1 hp hi hy
theorem own_cast {a b : State} (q : a = b) (h : own_End p e below s Q K N b E) : own_End p e below s Q K N a E := q ▸ h
theorem own_iadd (X : Stand p l e R s' m args below meth c T locs cells slots) (hx : p.tables.exec = Jvm.exec) {pc q : Nat} {Ls : Array Slot} {rest : List Value} (hd : decode c.code pc = .ok (.iadd, 1)) {x y : Int32} (hq : pc + 1 = q) (h : own_End p e below s Q K N (T.setTop (mkF m q Ls (.int (x + y) :: rest))) E) : own_End p e below s Q K N (T.setTop (mkF m pc Ls (.int y :: .int x :: rest))) E := by
  subst hq; exact own_back (fun _ k => XS.iadd X.here hx rfl hd rfl k) h
theorem own_isub (X : Stand p l e R s' m args below meth c T locs cells slots) (hx : p.tables.exec = Jvm.exec) {pc q : Nat} {Ls : Array Slot} {rest : List Value} (hd : decode c.code pc = .ok (.isub, 1)) {x y : Int32} (hq : pc + 1 = q) (h : own_End p e below s Q K N (T.setTop (mkF m q Ls (.int (x - y) :: rest))) E) : own_End p e below s Q K N (T.setTop (mkF m pc Ls (.int y :: .int x :: rest))) E := by
  subst hq; exact own_back (fun _ k => XS.isub X.here hx rfl hd rfl k) h
theorem own_imul (X : Stand p l e R s' m args below meth c T locs cells slots) (hx : p.tables.exec = Jvm.exec) {pc q : Nat} {Ls : Array Slot} {rest : List Value} (hd : decode c.code pc = .ok (.imul, 1)) {x y : Int32} (hq : pc + 1 = q) (h : own_End p e below s Q K N (T.setTop (mkF m q Ls (.int (x * y) :: rest))) E) : own_End p e below s Q K N (T.setTop (mkF m pc Ls (.int y :: .int x :: rest))) E := by
  subst hq; exact own_back (fun _ k => XS.imul X.here hx rfl hd rfl k) h
theorem own_iand (X : Stand p l e R s' m args below meth c T locs cells slots) (hx : p.tables.exec = Jvm.exec) {pc q : Nat} {Ls : Array Slot} {rest : List Value} (hd : decode c.code pc = .ok (.iand, 1)) {x y : Int32} (hq : pc + 1 = q) (h : own_End p e below s Q K N (T.setTop (mkF m q Ls (.int (x &&& y) :: rest))) E) : own_End p e below s Q K N (T.setTop (mkF m pc Ls (.int y :: .int x :: rest))) E := by
  subst hq; exact own_back (fun _ k => XS.iand X.here hx rfl hd rfl k) h
theorem own_ior (X : Stand p l e R s' m args below meth c T locs cells slots) (hx : p.tables.exec = Jvm.exec) {pc q : Nat} {Ls : Array Slot} {rest : List Value} (hd : decode c.code pc = .ok (.ior, 1)) {x y : Int32} (hq : pc + 1 = q) (h : own_End p e below s Q K N (T.setTop (mkF m q Ls (.int (x ||| y) :: rest))) E) : own_End p e below s Q K N (T.setTop (mkF m pc Ls (.int y :: .int x :: rest))) E := by
  subst hq; exact own_back (fun _ k => XS.ior X.here hx rfl hd rfl k) h
theorem own_ixor (X : Stand p l e R s' m args below meth c T locs cells slots) (hx : p.tables.exec = Jvm.exec) {pc q : Nat} {Ls : Array Slot} {rest : List Value} (hd : decode c.code pc = .ok (.ixor, 1)) {x y : Int32} (hq : pc + 1 = q) (h : own_End p e below s Q K N (T.setTop (mkF m q Ls (.int (x ^^^ y) :: rest))) E) : own_End p e below s Q K N (T.setTop (mkF m pc Ls (.int y :: .int x :: rest))) E := by
  subst hq; exact own_back (fun _ k => XS.ixor X.here hx rfl hd rfl k) h
theorem own_ishl (X : Stand p l e R s' m args below meth c T locs cells slots) (hx : p.tables.exec = Jvm.exec) {pc q : Nat} {Ls : Array Slot} {rest : List Value} (hd : decode c.code pc = .ok (.ishl, 1)) {x y : Int32} (hq : pc + 1 = q) (h : own_End p e below s Q K N (T.setTop (mkF m q Ls (.int (x <<< (y &&& 31)) :: rest))) E) : own_End p e below s Q K N (T.setTop (mkF m pc Ls (.int y :: .int x :: rest))) E := by
  subst hq; exact own_back (fun _ k => XS.ishl X.here hx rfl hd rfl k) h
theorem own_ishr (X : Stand p l e R s' m args below meth c T locs cells slots) (hx : p.tables.exec = Jvm.exec) {pc q : Nat} {Ls : Array Slot} {rest : List Value} (hd : decode c.code pc = .ok (.ishr, 1)) {x y : Int32} (hq : pc + 1 = q) (h : own_End p e below s Q K N (T.setTop (mkF m q Ls (.int (x >>> (y &&& 31)) :: rest))) E) : own_End p e below s Q K N (T.setTop (mkF m pc Ls (.int y :: .int x :: rest))) E := by
  subst hq; exact own_back (fun _ k => XS.ishr X.here hx rfl hd rfl k) h
theorem own_iushr (X : Stand p l e R s' m args below meth c T locs cells slots) (hx : p.tables.exec = Jvm.exec) {pc q : Nat} {Ls : Array Slot} {rest : List Value} (hd : decode c.code pc = .ok (.iushr, 1)) {x y : Int32} (hq : pc + 1 = q) (h : own_End p e below s Q K N (T.setTop (mkF m q Ls (.int ((x.toUInt32 >>> (y &&& 31).toUInt32).toInt32) :: rest))) E) : own_End p e below s Q K N (T.setTop (mkF m pc Ls (.int y :: .int x :: rest))) E := by
  subst hq; exact own_back (fun _ k => XS.iushr X.here hx rfl hd rfl k) h
theorem own_ladd (X : Stand p l e R s' m args below meth c T locs cells slots) (hx : p.tables.exec = Jvm.exec) {pc q : Nat} {Ls : Array Slot} {rest : List Value} (hd : decode c.code pc = .ok (.ladd, 1)) {x y : Int64} (hq : pc + 1 = q) (h : own_End p e below s Q K N (T.setTop (mkF m q Ls (.long (x + y) :: rest))) E) : own_End p e below s Q K N (T.setTop (mkF m pc Ls (.long y :: .long x :: rest))) E := by
  subst hq; exact own_back (fun _ k => XS.ladd X.here hx rfl hd rfl k) h
theorem own_lsub (X : Stand p l e R s' m args below meth c T locs cells slots) (hx : p.tables.exec = Jvm.exec) {pc q : Nat} {Ls : Array Slot} {rest : List Value} (hd : decode c.code pc = .ok (.lsub, 1)) {x y : Int64} (hq : pc + 1 = q) (h : own_End p e below s Q K N (T.setTop (mkF m q Ls (.long (x - y) :: rest))) E) : own_End p e below s Q K N (T.setTop (mkF m pc Ls (.long y :: .long x :: rest))) E := by
  subst hq; exact own_back (fun _ k => XS.lsub X.here hx rfl hd rfl k) h
theorem own_lmul (X : Stand p l e R s' m args below meth c T locs cells slots) (hx : p.tables.exec = Jvm.exec) {pc q : Nat} {Ls : Array Slot} {rest : List Value} (hd : decode c.code pc = .ok (.lmul, 1)) {x y : Int64} (hq : pc + 1 = q) (h : own_End p e below s Q K N (T.setTop (mkF m q Ls (.long (x * y) :: rest))) E) : own_End p e below s Q K N (T.setTop (mkF m pc Ls (.long y :: .long x :: rest))) E := by
  subst hq; exact own_back (fun _ k => XS.lmul X.here hx rfl hd rfl k) h
theorem own_land (X : Stand p l e R s' m args below meth c T locs cells slots) (hx : p.tables.exec = Jvm.exec) {pc q : Nat} {Ls : Array Slot} {rest : List Value} (hd : decode c.code pc = .ok (.land, 1)) {x y : Int64} (hq : pc + 1 = q) (h : own_End p e below s Q K N (T.setTop (mkF m q Ls (.long (x &&& y) :: rest))) E) : own_End p e below s Q K N (T.setTop (mkF m pc Ls (.long y :: .long x :: rest))) E := by
  subst hq; exact own_back (fun _ k => XS.land X.here hx rfl hd rfl k) h
theorem own_lor (X : Stand p l e R s' m args below meth c T locs cells slots) (hx : p.tables.exec = Jvm.exec) {pc q : Nat} {Ls : Array Slot} {rest : List Value} (hd : decode c.code pc = .ok (.lor, 1)) {x y : Int64} (hq : pc + 1 = q) (h : own_End p e below s Q K N (T.setTop (mkF m q Ls (.long (x ||| y) :: rest))) E) : own_End p e below s Q K N (T.setTop (mkF m pc Ls (.long y :: .long x :: rest))) E := by
  subst hq; exact own_back (fun _ k => XS.lor X.here hx rfl hd rfl k) h
theorem own_lxor (X : Stand p l e R s' m args below meth c T locs cells slots) (hx : p.tables.exec = Jvm.exec) {pc q : Nat} {Ls : Array Slot} {rest : List Value} (hd : decode c.code pc = .ok (.lxor, 1)) {x y : Int64} (hq : pc + 1 = q) (h : own_End p e below s Q K N (T.setTop (mkF m q Ls (.long (x ^^^ y) :: rest))) E) : own_End p e below s Q K N (T.setTop (mkF m pc Ls (.long y :: .long x :: rest))) E := by
  subst hq; exact own_back (fun _ k => XS.lxor X.here hx rfl hd rfl k) h
theorem own_lshl (X : Stand p l e R s' m args below meth c T locs cells slots) (hx : p.tables.exec = Jvm.exec) {pc q : Nat} {Ls : Array Slot} {rest : List Value} (hd : decode c.code pc = .ok (.lshl, 1)) {x : Int64} {y : Int32} (hq : pc + 1 = q) (h : own_End p e below s Q K N (T.setTop (mkF m q Ls (.long (x <<< (y &&& 0x3f).toInt64) :: rest))) E) : own_End p e below s Q K N (T.setTop (mkF m pc Ls (.int y :: .long x :: rest))) E := by
  subst hq; exact own_back (fun _ k => XS.lshl X.here hx rfl hd rfl k) h
theorem own_lshr (X : Stand p l e R s' m args below meth c T locs cells slots) (hx : p.tables.exec = Jvm.exec) {pc q : Nat} {Ls : Array Slot} {rest : List Value} (hd : decode c.code pc = .ok (.lshr, 1)) {x : Int64} {y : Int32} (hq : pc + 1 = q) (h : own_End p e below s Q K N (T.setTop (mkF m q Ls (.long (x >>> (y &&& 0x3f).toInt64) :: rest))) E) : own_End p e below s Q K N (T.setTop (mkF m pc Ls (.int y :: .long x :: rest))) E := by
  subst hq; exact own_back (fun _ k => XS.lshr X.here hx rfl hd rfl k) h
theorem own_lushr (X : Stand p l e R s' m args below meth c T locs cells slots) (hx : p.tables.exec = Jvm.exec) {pc q : Nat} {Ls : Array Slot} {rest : List Value} (hd : decode c.code pc = .ok (.lushr, 1)) {x : Int64} {y : Int32} (hq : pc + 1 = q) (h : own_End p e below s Q K N (T.setTop (mkF m q Ls (.long ((x.toUInt64 >>> (y &&& 0x3f).toInt64.toUInt64).toInt64) :: rest))) E) : own_End p e below s Q K N (T.setTop (mkF m pc Ls (.int y :: .long x :: rest))) E := by
  subst hq; exact own_back (fun _ k => XS.lushr X.here hx rfl hd rfl k) h
theorem own_idiv (X : Stand p l e R s' m args below meth c T locs cells slots) (hx : p.tables.exec = Jvm.exec) {pc q : Nat} {Ls : Array Slot} {rest : List Value} (hd : decode c.code pc = .ok (.idiv, 1)) {x y : Int32} (hy : y ≠ 0) (hq : pc + 1 = q) (h : own_End p e below s Q K N (T.setTop (mkF m q Ls (.int (x / y) :: rest))) E) : own_End p e below s Q K N (T.setTop (mkF m pc Ls (.int y :: .int x :: rest))) E := by
  subst hq; exact own_back (fun _ k => XS.idiv X.here hx rfl hd rfl hy k) h
theorem own_irem (X : Stand p l e R s' m args below meth c T locs cells slots) (hx : p.tables.exec = Jvm.exec) {pc q : Nat} {Ls : Array Slot} {rest : List Value} (hd : decode c.code pc = .ok (.irem, 1)) {x y : Int32} (hy : y ≠ 0) (hq : pc + 1 = q) (h : own_End p e below s Q K N (T.setTop (mkF m q Ls (.int (x % y) :: rest))) E) : own_End p e below s Q K N (T.setTop (mkF m pc Ls (.int y :: .int x :: rest))) E := by
  subst hq; exact own_back (fun _ k => iremM X hx rfl hd rfl hy k) h
theorem own_ldiv (X : Stand p l e R s' m args below meth c T locs cells slots) (hx : p.tables.exec = Jvm.exec) {pc q : Nat} {Ls : Array Slot} {rest : List Value} (hd : decode c.code pc = .ok (.ldiv, 1)) {x y : Int64} (hy : y ≠ 0) (hq : pc + 1 = q) (h : own_End p e below s Q K N (T.setTop (mkF m q Ls (.long (x / y) :: rest))) E) : own_End p e below s Q K N (T.setTop (mkF m pc Ls (.long y :: .long x :: rest))) E := by
  subst hq; exact own_back (fun _ k => XS.ldiv X.here hx rfl hd rfl hy k) h
theorem own_lrem (X : Stand p l e R s' m args below meth c T locs cells slots) (hx : p.tables.exec = Jvm.exec) {pc q : Nat} {Ls : Array Slot} {rest : List Value} (hd : decode c.code pc = .ok (.lrem, 1)) {x y : Int64} (hy : y ≠ 0) (hq : pc + 1 = q) (h : own_End p e below s Q K N (T.setTop (mkF m q Ls (.long (x - (x / y) * y) :: rest))) E) : own_End p e below s Q K N (T.setTop (mkF m pc Ls (.long y :: .long x :: rest))) E := by
  subst hq; exact own_back (fun _ k => XS.lrem X.here hx rfl hd rfl hy k) h
theorem own_ineg (X : Stand p l e R s' m args below meth c T locs cells slots) (hx : p.tables.exec = Jvm.exec) {pc q : Nat} {Ls : Array Slot} {rest : List Value} (hd : decode c.code pc = .ok (.ineg, 1)) {x : Int32} (hq : pc + 1 = q) (h : own_End p e below s Q K N (T.setTop (mkF m q Ls (.int (-x) :: rest))) E) : own_End p e below s Q K N (T.setTop (mkF m pc Ls (.int x :: rest))) E := by
  subst hq; exact own_back (fun _ k => XS.ineg X.here hx rfl hd rfl k) h
theorem own_lneg (X : Stand p l e R s' m args below meth c T locs cells slots) (hx : p.tables.exec = Jvm.exec) {pc q : Nat} {Ls : Array Slot} {rest : List Value} (hd : decode c.code pc = .ok (.lneg, 1)) {x : Int64} (hq : pc + 1 = q) (h : own_End p e below s Q K N (T.setTop (mkF m q Ls (.long (-x) :: rest))) E) : own_End p e below s Q K N (T.setTop (mkF m pc Ls (.long x :: rest))) E := by
  subst hq; exact own_back (fun _ k => XS.lneg X.here hx rfl hd rfl k) h
theorem own_i2l (X : Stand p l e R s' m args below meth c T locs cells slots) (hx : p.tables.exec = Jvm.exec) {pc q : Nat} {Ls : Array Slot} {rest : List Value} (hd : decode c.code pc = .ok (.i2l, 1)) {x : Int32} (hq : pc + 1 = q) (h : own_End p e below s Q K N (T.setTop (mkF m q Ls (.long (x.toInt64) :: rest))) E) : own_End p e below s Q K N (T.setTop (mkF m pc Ls (.int x :: rest))) E := by
  subst hq; exact own_back (fun _ k => XS.i2l X.here hx rfl hd rfl k) h
theorem own_l2i (X : Stand p l e R s' m args below meth c T locs cells slots) (hx : p.tables.exec = Jvm.exec) {pc q : Nat} {Ls : Array Slot} {rest : List Value} (hd : decode c.code pc = .ok (.l2i, 1)) {x : Int64} (hq : pc + 1 = q) (h : own_End p e below s Q K N (T.setTop (mkF m q Ls (.int (x.toInt32) :: rest))) E) : own_End p e below s Q K N (T.setTop (mkF m pc Ls (.long x :: rest))) E := by
  subst hq; exact own_back (fun _ k => XS.l2i X.here hx rfl hd rfl k) h
theorem own_i2c (X : Stand p l e R s' m args below meth c T locs cells slots) (hx : p.tables.exec = Jvm.exec) {pc q : Nat} {Ls : Array Slot} {rest : List Value} (hd : decode c.code pc = .ok (.i2c, 1)) {x : Int32} (hq : pc + 1 = q) (h : own_End p e below s Q K N (T.setTop (mkF m q Ls (.int (x.toUInt32.toUInt16.toUInt32.toInt32) :: rest))) E) : own_End p e below s Q K N (T.setTop (mkF m pc Ls (.int x :: rest))) E := by
  subst hq; exact own_back (fun _ k => XS.i2c X.here hx rfl hd rfl k) h
theorem own_i2b (X : Stand p l e R s' m args below meth c T locs cells slots) (hx : p.tables.exec = Jvm.exec) {pc q : Nat} {Ls : Array Slot} {rest : List Value} (hd : decode c.code pc = .ok (.i2b, 1)) {x : Int32} (hq : pc + 1 = q) (h : own_End p e below s Q K N (T.setTop (mkF m q Ls (.int (x.toInt8.toInt32) :: rest))) E) : own_End p e below s Q K N (T.setTop (mkF m pc Ls (.int x :: rest))) E := by
  subst hq; exact own_back (fun _ k => XS.i2b X.here hx rfl hd rfl k) h
theorem own_i2s (X : Stand p l e R s' m args below meth c T locs cells slots) (hx : p.tables.exec = Jvm.exec) {pc q : Nat} {Ls : Array Slot} {rest : List Value} (hd : decode c.code pc = .ok (.i2s, 1)) {x : Int32} (hq : pc + 1 = q) (h : own_End p e below s Q K N (T.setTop (mkF m q Ls (.int (x.toInt16.toInt32) :: rest))) E) : own_End p e below s Q K N (T.setTop (mkF m pc Ls (.int x :: rest))) E := by
  subst hq; exact own_back (fun _ k => XS.i2s X.here hx rfl hd rfl k) h
theorem own_lcmp (X : Stand p l e R s' m args below meth c T locs cells slots) (hx : p.tables.exec = Jvm.exec) {pc q : Nat} {Ls : Array Slot} {rest : List Value} (hd : decode c.code pc = .ok (.lcmp, 1)) {x y : Int64} (hq : pc + 1 = q) (h : own_End p e below s Q K N (T.setTop (mkF m q Ls (.int (lcmpW x y) :: rest))) E) : own_End p e below s Q K N (T.setTop (mkF m pc Ls (.long y :: .long x :: rest))) E := by
  subst hq; exact own_back (fun _ k => XS.lcmp X.here hx rfl hd rfl k) h
theorem own_dup (X : Stand p l e R s' m args below meth c T locs cells slots) (hx : p.tables.exec = Jvm.exec) {pc q : Nat} {Ls : Array Slot} {rest : List Value} (hd : decode c.code pc = .ok (.dup, 1)) {v : Value} (hv : v.category = 1) (hq : pc + 1 = q) (h : own_End p e below s Q K N (T.setTop (mkF m q Ls (v :: v :: rest))) E) : own_End p e below s Q K N (T.setTop (mkF m pc Ls (v :: rest))) E := by
  subst hq; exact own_back (fun _ k => XS.dup X.here hx rfl hd rfl hv k) h
theorem own_dupx1 (X : Stand p l e R s' m args below meth c T locs cells slots) (hx : p.tables.exec = Jvm.exec) {pc q : Nat} {Ls : Array Slot} {rest : List Value} (hd : decode c.code pc = .ok (.dup_x1, 1)) {v w : Value} (hv : v.category = 1) (hw : w.category = 1) (hq : pc + 1 = q) (h : own_End p e below s Q K N (T.setTop (mkF m q Ls (v :: w :: v :: rest))) E) : own_End p e below s Q K N (T.setTop (mkF m pc Ls (v :: w :: rest))) E := by
  subst hq; exact own_back (fun _ k => XS.dupX1 X.here hx rfl hd rfl hv hw k) h
theorem own_pop (X : Stand p l e R s' m args below meth c T locs cells slots) (hx : p.tables.exec = Jvm.exec) {pc q : Nat} {Ls : Array Slot} {rest : List Value} (hd : decode c.code pc = .ok (.pop, 1)) {v : Value} (hv : v.category = 1) (hq : pc + 1 = q) (h : own_End p e below s Q K N (T.setTop (mkF m q Ls (rest))) E) : own_End p e below s Q K N (T.setTop (mkF m pc Ls (v :: rest))) E := by
  subst hq; exact own_back (fun _ k => XS.pop X.here hx rfl hd rfl hv k) h
theorem own_anull (X : Stand p l e R s' m args below meth c T locs cells slots) (hx : p.tables.exec = Jvm.exec) {pc q : Nat} {Ls : Array Slot} {rest : List Value} (hd : decode c.code pc = .ok (.aconst_null, 1))  (hq : pc + 1 = q) (h : own_End p e below s Q K N (T.setTop (mkF m q Ls (.null :: rest))) E) : own_End p e below s Q K N (T.setTop (mkF m pc Ls (rest))) E := by
  subst hq; exact own_back (fun _ k => XS.aconstNull X.here hx rfl hd k) h
theorem own_iload (X : Stand p l e R s' m args below meth c T locs cells slots) (hx : p.tables.exec = Jvm.exec) {pc q : Nat} {Ls : Array Slot} {rest : List Value} {k : Nat} {v : Int32} (hd : decode c.code pc = .ok (.iload k, 2)) (hl : Ls[k]? = some (.val (.int v))) (hq : pc + 2 = q) (h : own_End p e below s Q K N (T.setTop (mkF m q Ls (.int v :: rest))) E) : own_End p e below s Q K N (T.setTop (mkF m pc Ls (rest))) E := by
  subst hq; exact own_back (fun _ k => XS.iload X.here hx rfl hd hl k) h
theorem own_iloadN (X : Stand p l e R s' m args below meth c T locs cells slots) (hx : p.tables.exec = Jvm.exec) {pc q : Nat} {Ls : Array Slot} {rest : List Value} {k : Fin 4} {v : Int32} (hd : decode c.code pc = .ok (.iload_n k, 1)) (hl : Ls[k.val]? = some (.val (.int v))) (hq : pc + 1 = q) (h : own_End p e below s Q K N (T.setTop (mkF m q Ls (.int v :: rest))) E) : own_End p e below s Q K N (T.setTop (mkF m pc Ls (rest))) E := by
  subst hq; exact own_back (fun _ k => XS.iloadN X.here hx rfl hd hl k) h
theorem own_istore (X : Stand p l e R s' m args below meth c T locs cells slots) (hx : p.tables.exec = Jvm.exec) {pc q : Nat} {Ls : Array Slot} {rest : List Value} {k : Nat} {v : Int32} {l' : Array Slot} (hd : decode c.code pc = .ok (.istore k, 2)) (hl : storeLocals Ls k (.int v) = some l') (hq : pc + 2 = q) (h : own_End p e below s Q K N (T.setTop (mkF m q l' (rest))) E) : own_End p e below s Q K N (T.setTop (mkF m pc Ls (.int v :: rest))) E := by
  subst hq; exact own_back (fun _ k => XS.istore X.here hx rfl hd rfl hl k) h
theorem own_istoreN (X : Stand p l e R s' m args below meth c T locs cells slots) (hx : p.tables.exec = Jvm.exec) {pc q : Nat} {Ls : Array Slot} {rest : List Value} {k : Fin 4} {v : Int32} {l' : Array Slot} (hd : decode c.code pc = .ok (.istore_n k, 1)) (hl : storeLocals Ls k.val (.int v) = some l') (hq : pc + 1 = q) (h : own_End p e below s Q K N (T.setTop (mkF m q l' (rest))) E) : own_End p e below s Q K N (T.setTop (mkF m pc Ls (.int v :: rest))) E := by
  subst hq; exact own_back (fun _ k => XS.istoreN X.here hx rfl hd rfl hl k) h
theorem own_lload (X : Stand p l e R s' m args below meth c T locs cells slots) (hx : p.tables.exec = Jvm.exec) {pc q : Nat} {Ls : Array Slot} {rest : List Value} {k : Nat} {v : Int64} (hd : decode c.code pc = .ok (.lload k, 2)) (hl : Ls[k]? = some (.val (.long v))) (hq : pc + 2 = q) (h : own_End p e below s Q K N (T.setTop (mkF m q Ls (.long v :: rest))) E) : own_End p e below s Q K N (T.setTop (mkF m pc Ls (rest))) E := by
  subst hq; exact own_back (fun _ k => XS.lload X.here hx rfl hd hl k) h
theorem own_lloadN (X : Stand p l e R s' m args below meth c T locs cells slots) (hx : p.tables.exec = Jvm.exec) {pc q : Nat} {Ls : Array Slot} {rest : List Value} {k : Fin 4} {v : Int64} (hd : decode c.code pc = .ok (.lload_n k, 1)) (hl : Ls[k.val]? = some (.val (.long v))) (hq : pc + 1 = q) (h : own_End p e below s Q K N (T.setTop (mkF m q Ls (.long v :: rest))) E) : own_End p e below s Q K N (T.setTop (mkF m pc Ls (rest))) E := by
  subst hq; exact own_back (fun _ k => XS.lloadN X.here hx rfl hd hl k) h
theorem own_lstore (X : Stand p l e R s' m args below meth c T locs cells slots) (hx : p.tables.exec = Jvm.exec) {pc q : Nat} {Ls : Array Slot} {rest : List Value} {k : Nat} {v : Int64} {l' : Array Slot} (hd : decode c.code pc = .ok (.lstore k, 2)) (hl : storeLocals Ls k (.long v) = some l') (hq : pc + 2 = q) (h : own_End p e below s Q K N (T.setTop (mkF m q l' (rest))) E) : own_End p e below s Q K N (T.setTop (mkF m pc Ls (.long v :: rest))) E := by
  subst hq; exact own_back (fun _ k => XS.lstore X.here hx rfl hd rfl hl k) h
theorem own_lstoreN (X : Stand p l e R s' m args below meth c T locs cells slots) (hx : p.tables.exec = Jvm.exec) {pc q : Nat} {Ls : Array Slot} {rest : List Value} {k : Fin 4} {v : Int64} {l' : Array Slot} (hd : decode c.code pc = .ok (.lstore_n k, 1)) (hl : storeLocals Ls k.val (.long v) = some l') (hq : pc + 1 = q) (h : own_End p e below s Q K N (T.setTop (mkF m q l' (rest))) E) : own_End p e below s Q K N (T.setTop (mkF m pc Ls (.long v :: rest))) E := by
  subst hq; exact own_back (fun _ k => XS.lstoreN X.here hx rfl hd rfl hl k) h
theorem own_aload (X : Stand p l e R s' m args below meth c T locs cells slots) (hx : p.tables.exec = Jvm.exec) {pc q : Nat} {Ls : Array Slot} {rest : List Value} {k : Nat} {v : Value} (hd : decode c.code pc = .ok (.aload k, 2)) (hl : Ls[k]? = some (.val v)) (hv : v.isRef = true) (hq : pc + 2 = q) (h : own_End p e below s Q K N (T.setTop (mkF m q Ls (v :: rest))) E) : own_End p e below s Q K N (T.setTop (mkF m pc Ls (rest))) E := by
  subst hq; exact own_back (fun _ k => XS.aload X.here hx rfl hd hl hv k) h
theorem own_aloadN (X : Stand p l e R s' m args below meth c T locs cells slots) (hx : p.tables.exec = Jvm.exec) {pc q : Nat} {Ls : Array Slot} {rest : List Value} {k : Fin 4} {v : Value} (hd : decode c.code pc = .ok (.aload_n k, 1)) (hl : Ls[k.val]? = some (.val v)) (hv : v.isRef = true) (hq : pc + 1 = q) (h : own_End p e below s Q K N (T.setTop (mkF m q Ls (v :: rest))) E) : own_End p e below s Q K N (T.setTop (mkF m pc Ls (rest))) E := by
  subst hq; exact own_back (fun _ k => XS.aloadN X.here hx rfl hd hl hv k) h
theorem own_astore (X : Stand p l e R s' m args below meth c T locs cells slots) (hx : p.tables.exec = Jvm.exec) {pc q : Nat} {Ls : Array Slot} {rest : List Value} {k : Nat} {v : Value} {l' : Array Slot} (hd : decode c.code pc = .ok (.astore k, 2)) (hv : v.isRef = true) (hl : storeLocals Ls k v = some l') (hq : pc + 2 = q) (h : own_End p e below s Q K N (T.setTop (mkF m q l' (rest))) E) : own_End p e below s Q K N (T.setTop (mkF m pc Ls (v :: rest))) E := by
  subst hq; exact own_back (fun _ k => XS.astore X.here hx rfl hd rfl hv hl k) h
theorem own_astoreN (X : Stand p l e R s' m args below meth c T locs cells slots) (hx : p.tables.exec = Jvm.exec) {pc q : Nat} {Ls : Array Slot} {rest : List Value} {k : Fin 4} {v : Value} {l' : Array Slot} (hd : decode c.code pc = .ok (.astore_n k, 1)) (hv : v.isRef = true) (hl : storeLocals Ls k.val v = some l') (hq : pc + 1 = q) (h : own_End p e below s Q K N (T.setTop (mkF m q l' (rest))) E) : own_End p e below s Q K N (T.setTop (mkF m pc Ls (v :: rest))) E := by
  subst hq; exact own_back (fun _ k => XS.astoreN X.here hx rfl hd rfl hv hl k) h
theorem own_iinc (X : Stand p l e R s' m args below meth c T locs cells slots) (hx : p.tables.exec = Jvm.exec) {pc q : Nat} {Ls : Array Slot} {rest : List Value} {k : Nat} {cst : Int} {x z : Int32} {l' : Array Slot} (hd : decode c.code pc = .ok (.iinc k cst, 3)) (hl : Ls[k]? = some (.val (.int x))) (hz : Int32.ofInt cst = z) (hl' : storeLocals Ls k (.int (x + z)) = some l') (hq : pc + 3 = q) (h : own_End p e below s Q K N (T.setTop (mkF m q l' (rest))) E) : own_End p e below s Q K N (T.setTop (mkF m pc Ls (rest))) E := by
  subst hq hz; exact own_back (fun _ k => XS.iinc X.here hx rfl hd hl hl' k) h
theorem own_iconst (X : Stand p l e R s' m args below meth c T locs cells slots) (hx : p.tables.exec = Jvm.exec) {pc q : Nat} {Ls : Array Slot} {rest : List Value} {i : Int} {z : Int32} (hd : decode c.code pc = .ok (.iconst i, 1)) (hz : Int32.ofInt i = z) (hq : pc + 1 = q) (h : own_End p e below s Q K N (T.setTop (mkF m q Ls (.int z :: rest))) E) : own_End p e below s Q K N (T.setTop (mkF m pc Ls (rest))) E := by
  subst hq hz; exact own_back (fun _ k => XS.iconst X.here hx rfl hd k) h
theorem own_bipush (X : Stand p l e R s' m args below meth c T locs cells slots) (hx : p.tables.exec = Jvm.exec) {pc q : Nat} {Ls : Array Slot} {rest : List Value} {i : Int} {z : Int32} (hd : decode c.code pc = .ok (.bipush i, 2)) (hz : (Int8.ofInt i).toInt32 = z) (hq : pc + 2 = q) (h : own_End p e below s Q K N (T.setTop (mkF m q Ls (.int z :: rest))) E) : own_End p e below s Q K N (T.setTop (mkF m pc Ls (rest))) E := by
  subst hq hz; exact own_back (fun _ k => XS.bipush X.here hx rfl hd k) h
theorem own_sipush (X : Stand p l e R s' m args below meth c T locs cells slots) (hx : p.tables.exec = Jvm.exec) {pc q : Nat} {Ls : Array Slot} {rest : List Value} {i : Int} {z : Int32} (hd : decode c.code pc = .ok (.sipush i, 3)) (hz : (Int16.ofInt i).toInt32 = z) (hq : pc + 3 = q) (h : own_End p e below s Q K N (T.setTop (mkF m q Ls (.int z :: rest))) E) : own_End p e below s Q K N (T.setTop (mkF m pc Ls (rest))) E := by
  subst hq hz; exact own_back (fun _ k => XS.sipush X.here hx rfl hd k) h
theorem own_lconst (X : Stand p l e R s' m args below meth c T locs cells slots) (hx : p.tables.exec = Jvm.exec) {pc q : Nat} {Ls : Array Slot} {rest : List Value} {i : Fin 2} {z : Int64} (hd : decode c.code pc = .ok (.lconst i, 1)) (hz : Int64.ofNat i = z) (hq : pc + 1 = q) (h : own_End p e below s Q K N (T.setTop (mkF m q Ls (.long z :: rest))) E) : own_End p e below s Q K N (T.setTop (mkF m pc Ls (rest))) E := by
  subst hq hz; exact own_back (fun _ k => XS.lconst X.here hx rfl hd k) h
theorem own_goto (X : Stand p l e R s' m args below meth c T locs cells slots) (hx : p.tables.exec = Jvm.exec) {pc q : Nat} {Ls : Array Slot} {rest : List Value} {o : Int} (hd : decode c.code pc = .ok (.goto o, 3)) (ho : 0 ≤ (pc : Int) + o) (hp : ((pc : Int) + o).toNat = q) (h : own_End p e below s Q K N (T.setTop (mkF m q Ls (rest))) E) : own_End p e below s Q K N (T.setTop (mkF m pc Ls (rest))) E := by
  exact own_back (fun _ k => XS.goto X.here hx rfl (pc0 := pc) (pc' := q) rfl hd ho hp k) h
theorem own_ifY (X : Stand p l e R s' m args below meth c T locs cells slots) (hx : p.tables.exec = Jvm.exec) {pc q : Nat} {Ls : Array Slot} {rest : List Value} {cd : ClassFile.Cond} {x : Int32} {o : Int} (hd : decode c.code pc = .ok (.ifCond cd o, 3)) (hc : if_icmp.holds cd x 0 = true) (ho : 0 ≤ (pc : Int) + o) (hp : ((pc : Int) + o).toNat = q) (h : own_End p e below s Q K N (T.setTop (mkF m q Ls (rest))) E) : own_End p e below s Q K N (T.setTop (mkF m pc Ls (.int x :: rest))) E := by
  exact own_back (fun _ k => XS.ifYes X.here hx rfl (pc0 := pc) (pc' := q) rfl hd rfl ((if0 _ _).trans hc) ho hp k) h
theorem own_ifN (X : Stand p l e R s' m args below meth c T locs cells slots) (hx : p.tables.exec = Jvm.exec) {pc q : Nat} {Ls : Array Slot} {rest : List Value} {cd : ClassFile.Cond} {x : Int32} {o : Int} (hd : decode c.code pc = .ok (.ifCond cd o, 3)) (hc : if_icmp.holds cd x 0 = false) (hq : pc + 3 = q) (h : own_End p e below s Q K N (T.setTop (mkF m q Ls (rest))) E) : own_End p e below s Q K N (T.setTop (mkF m pc Ls (.int x :: rest))) E := by
  subst hq; exact own_back (fun _ k => XS.ifNo X.here hx rfl hd rfl ((if0 _ _).trans hc) k) h
theorem own_icY (X : Stand p l e R s' m args below meth c T locs cells slots) (hx : p.tables.exec = Jvm.exec) {pc q : Nat} {Ls : Array Slot} {rest : List Value} {cd : ClassFile.Cond} {x y : Int32} {o : Int} (hd : decode c.code pc = .ok (.if_icmp cd o, 3)) (hc : if_icmp.holds cd x y = true) (ho : 0 ≤ (pc : Int) + o) (hp : ((pc : Int) + o).toNat = q) (h : own_End p e below s Q K N (T.setTop (mkF m q Ls (rest))) E) : own_End p e below s Q K N (T.setTop (mkF m pc Ls (.int y :: .int x :: rest))) E := by
  exact own_back (fun _ k => XS.icmpYes X.here hx rfl (pc0 := pc) (pc' := q) rfl hd rfl hc ho hp k) h
theorem own_icN (X : Stand p l e R s' m args below meth c T locs cells slots) (hx : p.tables.exec = Jvm.exec) {pc q : Nat} {Ls : Array Slot} {rest : List Value} {cd : ClassFile.Cond} {x y : Int32} {o : Int} (hd : decode c.code pc = .ok (.if_icmp cd o, 3)) (hc : if_icmp.holds cd x y = false) (hq : pc + 3 = q) (h : own_End p e below s Q K N (T.setTop (mkF m q Ls (rest))) E) : own_End p e below s Q K N (T.setTop (mkF m pc Ls (.int y :: .int x :: rest))) E := by
  subst hq; exact own_back (fun _ k => XS.icmpNo X.here hx rfl hd rfl hc k) h
theorem own_lcY (X : Stand p l e R s' m args below meth c T locs cells slots) (hx : p.tables.exec = Jvm.exec) {pc r q : Nat} {Ls : Array Slot} {rest : List Value} {cd : ClassFile.Cond} {x y : Int64} {o : Int} (hd : decode c.code pc = .ok (.lcmp, 1)) (hr : pc + 1 = r) (hd' : decode c.code r = .ok (.ifCond cd o, 3)) (hc : if_icmp.holds cd (lcmpW x y) 0 = true) (ho : 0 ≤ (r : Int) + o) (hp : ((r : Int) + o).toNat = q) (h : own_End p e below s Q K N (T.setTop (mkF m q Ls (rest))) E) : own_End p e below s Q K N (T.setTop (mkF m pc Ls (.long y :: .long x :: rest))) E := own_lcmp X hx hd hr (own_ifY X hx hd' hc ho hp h)
theorem own_lcN (X : Stand p l e R s' m args below meth c T locs cells slots) (hx : p.tables.exec = Jvm.exec) {pc r q : Nat} {Ls : Array Slot} {rest : List Value} {cd : ClassFile.Cond} {x y : Int64} {o : Int} (hd : decode c.code pc = .ok (.lcmp, 1)) (hr : pc + 1 = r) (hd' : decode c.code r = .ok (.ifCond cd o, 3)) (hc : if_icmp.holds cd (lcmpW x y) 0 = false) (hq : r + 3 = q) (h : own_End p e below s Q K N (T.setTop (mkF m q Ls (rest))) E) : own_End p e below s Q K N (T.setTop (mkF m pc Ls (.long y :: .long x :: rest))) E := own_lcmp X hx hd hr (own_ifN X hx hd' hc hq h)
theorem own_tlt {x y : Int64} (h : x < y) : if_icmp.holds .lt (lcmpW x y) 0 = true ∧ if_icmp.holds .ge (lcmpW x y) 0 = false ∧ if_icmp.holds .gt (lcmpW y x) 0 = true ∧ if_icmp.holds .le (lcmpW y x) 0 = false :=
  ⟨(tlt ((lw_lt x y).mpr h)).1, (tlt ((lw_lt x y).mpr h)).2.1, (tlt ((lw_gt y x).mpr h)).2.2.1, (tlt ((lw_gt y x).mpr h)).2.2.2⟩
theorem own_flt {x y : Int64} (h : ¬ x < y) : if_icmp.holds .lt (lcmpW x y) 0 = false ∧ if_icmp.holds .ge (lcmpW x y) 0 = true ∧ if_icmp.holds .gt (lcmpW y x) 0 = false ∧ if_icmp.holds .le (lcmpW y x) 0 = true :=
  ⟨(flt (fun q => h ((lw_lt x y).mp q))).1, (flt (fun q => h ((lw_lt x y).mp q))).2.1, (flt (fun q => h ((lw_gt y x).mp q))).2.2.1, (flt (fun q => h ((lw_gt y x).mp q))).2.2.2⟩
theorem own_teq {x y : Int64} (h : x = y) : if_icmp.holds .eq (lcmpW x y) 0 = true ∧ if_icmp.holds .ne (lcmpW x y) 0 = false := teq ((lw_eq x y).mpr h)
theorem own_feq {x y : Int64} (h : ¬ x = y) : if_icmp.holds .eq (lcmpW x y) 0 = false ∧ if_icmp.holds .ne (lcmpW x y) 0 = true := feq (fun q => h ((lw_eq x y).mp q))
theorem own_retV (X : Stand p l e R s m args below meth c T locs cells slots) (hx : p.tables.exec = Jvm.exec) {pc : Nat} {Ls : Array Slot}  (hret : meth.sig.returnType = none) (hlk : meth.locks = false) (hc : cells ≤ K) (hs : slots ≤ N) (hd : decode c.code pc = .ok (.return_, 1)) (hQ : Q none T.heap locs) : own_End p e below s Q K N (T.setTop (mkF m pc Ls [])) := by
  obtain ⟨fs, hr, hrun, hended, hW, hsame⟩ := X.leave (v := none) (fun _ => rfl) hlk
  refine ⟨_, _, ?_, hrun, hended, _, _, rfl, hQ, ⟨_, rfl⟩, hW, hsame.mono hc hs⟩
  exact X.returnOut hx hret hd hr
theorem own_retI (X : Stand p l e R s m args below meth c T locs cells slots) (hx : p.tables.exec = Jvm.exec) {pc : Nat} {Ls : Array Slot} {rest : List Value} {z : Int32} (hret : meth.sig.returnType = some .int) (hlk : meth.locks = false) (hc : cells ≤ K) (hs : slots ≤ N) (hd : decode c.code pc = .ok (.ireturn, 1)) (hQ : Q (some (.int z)) T.heap locs) : own_End p e below s Q K N (T.setTop (mkF m pc Ls (.int z :: rest))) := by
  obtain ⟨fs, hr, hrun, hended, hW, hsame⟩ := X.leave (v := (some (.int z))) (fun h => by rw [hret] at h; cases h) hlk
  refine ⟨_, _, ?_, hrun, hended, _, _, rfl, hQ, ⟨_, rfl⟩, hW, hsame.mono hc hs⟩
  have hm' : T.vm.method? m = some meth := X.method'
  have hn : narrow .int (.int z) = .int z := rfl
  show Steps p.tables e below (T.setTop { method := m, pc := pc, locals := Ls, stack := _ :: rest, locked := none }) _
  jvm_step X.here [X.here.top, hx, hd, hm', hret, hn]
  first | (intro acts; rw [hr _ acts rfl rfl rfl]) | rw [hr _ _ rfl rfl rfl]
  exact Steps.refl _
theorem own_retJ (X : Stand p l e R s m args below meth c T locs cells slots) (hx : p.tables.exec = Jvm.exec) {pc : Nat} {Ls : Array Slot} {rest : List Value} {z : Int64} (hret : meth.sig.returnType = some .long) (hlk : meth.locks = false) (hc : cells ≤ K) (hs : slots ≤ N) (hd : decode c.code pc = .ok (.lreturn, 1)) (hQ : Q (some (.long z)) T.heap locs) : own_End p e below s Q K N (T.setTop (mkF m pc Ls (.long z :: rest))) := by
  obtain ⟨fs, hr, hrun, hended, hW, hsame⟩ := X.leave (v := (some (.long z))) (fun h => by rw [hret] at h; cases h) hlk
  refine ⟨_, _, ?_, hrun, hended, _, _, rfl, hQ, ⟨_, rfl⟩, hW, hsame.mono hc hs⟩
  have hm' : T.vm.method? m = some meth := X.method'
  have hn : narrow .long (.long z) = .long z := rfl
  show Steps p.tables e below (T.setTop { method := m, pc := pc, locals := Ls, stack := _ :: rest, locked := none }) _
  jvm_step X.here [X.here.top, hx, hd, hm', hret, hn]
  first | (intro acts; rw [hr _ acts rfl rfl rfl]) | rw [hr _ _ rfl rfl rfl]
  exact Steps.refl _
theorem own_retN (X : Stand p l e R s m args below meth c T locs cells slots) (hx : p.tables.exec = Jvm.exec) {pc : Nat} {Ls : Array Slot} {rest : List Value} {z : Int32} {t : FieldType} (ht : t = .boolean ∨ t = .byte ∨ t = .char ∨ t = .short) (hret : meth.sig.returnType = some t) (hlk : meth.locks = false) (hc : cells ≤ K) (hs : slots ≤ N) (hd : decode c.code pc = .ok (.ireturn, 1)) (hQ : Q (some (.int (nar t z))) T.heap locs) : own_End p e below s Q K N (T.setTop (mkF m pc Ls (.int z :: rest))) := by
  obtain ⟨fs, hr, hrun, hended, hW, hsame⟩ := X.leave (v := (some (.int (nar t z)))) (fun h => by rw [hret] at h; cases h) hlk
  refine ⟨_, _, ?_, hrun, hended, _, _, rfl, hQ, ⟨_, rfl⟩, hW, hsame.mono hc hs⟩
  exact retN X hx hret ht hd hr
theorem own_b (P : Prop) [Decidable P] : nar .boolean (if P then (1 : Int32) else 0) = if P then (1 : Int32) else 0 := by
  split <;> rfl
end Own
theorem own_d1_0 : decode prog_21_method_4_code 0 = .ok (.iload_n 0, 1) := by decide +kernel
theorem own_d1_1 : decode prog_21_method_4_code 1 = .ok (.bipush 7, 2) := by decide +kernel
theorem own_d1_3 : decode prog_21_method_4_code 3 = .ok (.irem, 1) := by decide +kernel
theorem own_d1_4 : decode prog_21_method_4_code 4 = .ok (.bipush 6, 2) := by decide +kernel
theorem own_d1_6 : decode prog_21_method_4_code 6 = .ok (.if_icmp .ne 7, 3) := by decide +kernel
theorem own_d1_9 : decode prog_21_method_4_code 9 = .ok (.iconst 1, 1) := by decide +kernel
theorem own_d1_10 : decode prog_21_method_4_code 10 = .ok (.goto 4, 3) := by decide +kernel
theorem own_d1_14 : decode prog_21_method_4_code 14 = .ok (.ireturn, 1) := by decide +kernel
theorem own_d1_13 : decode prog_21_method_4_code 13 = .ok (.iconst 0, 1) := by decide +kernel
def own_F1 (p0 : Int32) : Int32 := (if (p0 % (7 : Int32)) = (6 : Int32) then (1 : Int32) else (0 : Int32))
def own_Q1 (Z : State) (p0 : Int32) (h0 : Heap) (n0 : Nat) (v : Option Value) (h : Heap) (L : List Loc) : Prop := v = some (.int (own_F1 p0)) ∧ Fr n0 L ∧ h = h0
theorem own_pn_rm1 : plainName "com/example/shiftwright/shiftwright/engine/Weekends" = true := by first | (simp [plainName, overriddenIn]; done) | decide +kernel
theorem own_ef_rm1 (m : MethodId) (p0 : Int32) : entryFrame m #[(.int p0)] 1 = mkF m 0 #[.val (.int p0)] [] := by first | (simp [entryFrame, mkF, argsToLocals, Value.category]; done) | rfl
set_option maxRecDepth 65536 in
set_option maxHeartbeats 40000000 in
theorem own_rm1 (l : Launch) (Z : State) (a0 : Array Value) (hw : ∀ d ∈ tables_1, d.before a0 Z = true) (ws : List Jvm.Cond) (p0 : Int32) (h0 : Heap) (n0 : Nat) (Z0 : n0 ≤ h0.size) :
    MetFree l (⟨"com/example/shiftwright/shiftwright/engine/Weekends", "isSunday", "(I)Z"⟩ : MethodName) (head1 (Jvm.Cond.code (⟨"com/example/shiftwright/shiftwright/engine/Weekends", "isSunday", "(I)Z"⟩ : MethodName) prog_21_method_4_code 1 (some .boolean) :: ws) ({ frames := 0, cells := 0, slots := 0, locals := 0 } : Room)) (fun a U => a = #[(.int p0)] ∧ Z.Warmed39 U.vm ∧ U.heap = h0) (fun _ _ _ _ _ => True) (fun _ U o U' => ∃ v L, o = .returned v ∧ own_Q1 Z p0 h0 n0 v U'.heap L ∧ FrameEnd U o U' L ({ frames := 0, cells := 0, slots := 0, locals := 0 } : Room).cells ({ frames := 0, cells := 0, slots := 0, locals := 0 } : Room).slots) := by
  refine MetFree.of_bodySF (plainFor_of_name own_pn_rm1) hisR ?_
  intro p e s m args below meth c s₁ Bd hml0 hP hK
  obtain ⟨rfl, hZ, hh⟩ := hP
  have hx := Bd.exec
  have hby := Bd.bytes
  have hml : c.maxLocals = 1 := hml0
  have hown : s.vm.findClass "com/example/shiftwright/shiftwright/engine/Weekends" = some m.cls := findClass_of_methodNamed Bd.named
  have hnm := (name_of_methodNamed Bd.named Bd.method).1
  have X0 : Stand p l e ({ frames := 0, cells := 0, slots := 0, locals := 0 } : Room) s m #[(.int p0)] below meth c s₁ [] 0 0 := Stand.of_body Bd
  have e0 : s₁.heap = h0 := by rw [← hh, Bd.state]; rfl
  have N0 := Fr.nil n0
  show own_End p e below s (own_Q1 Z p0 h0 n0) ({ frames := 0, cells := 0, slots := 0, locals := 0 } : Room).cells ({ frames := 0, cells := 0, slots := 0, locals := 0 } : Room).slots (s₁.setTop (entryFrame m #[(.int p0)] 1))
  rw [own_ef_rm1]
  refine own_iloadN X0 hx (hb hby own_d1_0) rfl (q := 1) rfl ?_
  refine own_bipush X0 hx (hb hby own_d1_1) (z := 7) rfl (q := 3) rfl ?_
  refine own_irem X0 hx (hb hby own_d1_3) (by decide) (q := 4) rfl ?_
  refine own_bipush X0 hx (hb hby own_d1_4) (z := 6) rfl (q := 6) rfl ?_
  by_cases hc6_1 : (p0 % (7 : Int32)) = (6 : Int32)
  · refine own_icN X0 hx (hb hby own_d1_6) (teq hc6_1).2 (q := 9) rfl ?_
    refine own_iconst X0 hx (hb hby own_d1_9) (z := 1) rfl (q := 10) rfl ?_
    refine own_goto X0 hx (hb hby own_d1_10) (q := 14) (by decide) (by decide) ?_
    refine own_retN X0 hx (t := .boolean) (by simp) Bd.returns Bd.notSynchronized (by decide) (by decide) (hb hby own_d1_14) ?_
    show own_Q1 Z p0 h0 n0 _ s₁.heap _
    exact ⟨(by rw [show own_F1 p0 = _ from (by simp only [own_F1, if_pos hc6_1] : _ = (1 : Int32))]; rfl), N0, e0⟩
  · refine own_icY X0 hx (hb hby own_d1_6) (feq hc6_1).2 (q := 13) (by decide) (by decide) ?_
    refine own_iconst X0 hx (hb hby own_d1_13) (z := 0) rfl (q := 14) rfl ?_
    refine own_retN X0 hx (t := .boolean) (by simp) Bd.returns Bd.notSynchronized (by decide) (by decide) (hb hby own_d1_14) ?_
    show own_Q1 Z p0 h0 n0 _ s₁.heap _
    exact ⟨(by rw [show own_F1 p0 = _ from (by simp only [own_F1, if_neg hc6_1] : _ = (0 : Int32))]; rfl), N0, e0⟩
def own_M0_27 (p1 : Int32) : Int32 := (if ((p1 &&& (2147483647 : Int32)) % (7 : Int32)) = (6 : Int32) then (1 : Int32) else (0 : Int32))
theorem own_pd0 : parseMethodDescriptor "(I)Z" = some ⟨[.int], some .boolean⟩ := by decide +kernel
def own_F0 (p0 : Int32) (p1 : Int32) : Int32 := (if (own_F1 (((7 : Int32) * ((p0 &&& (2147483647 : Int32)) % (306783378 : Int32))) + ((p1 &&& (2147483647 : Int32)) % (7 : Int32)))) = (own_M0_27 p1) then (1 : Int32) else (0 : Int32))
def own_Q0 (Z : State) (p0 : Int32) (p1 : Int32) (h0 : Heap) (n0 : Nat) (v : Option Value) (h : Heap) (L : List Loc) : Prop := v = some (.int (own_F0 p0 p1)) ∧ Fr n0 L
theorem own_pn_rm0 : plainName "com/example/shiftwright/shiftwright/engine/WeekendsIsSundayPinLaw" = true := by first | (simp [plainName, overriddenIn]; done) | decide +kernel
theorem own_ef_rm0 (m : MethodId) (p0 : Int32) (p1 : Int32) : entryFrame m #[(.int p0), (.int p1)] maxLocals = mkF m 0 #[.val (.int p0), .val (.int p1), .unset, .unset, .unset, .unset] [] := by first | (simp [entryFrame, mkF, argsToLocals, Value.category, maxLocals]; done) | rfl
set_option maxRecDepth 65536 in
set_option maxHeartbeats 40000000 in
theorem own_rm0 (l : Launch) (Z : State) (a0 : Array Value) (hw : ∀ d ∈ tables_1, d.before a0 Z = true) (ws : List Jvm.Cond) (p0 : Int32) (p1 : Int32) (h0 : Heap) (n0 : Nat) (Z0 : n0 ≤ h0.size) :
    MetFree l x (head1 (Jvm.Cond.code x code maxLocals ret :: ws) room_1) (fun a U => a = #[(.int p0), (.int p1)] ∧ Z.Warmed39 U.vm ∧ U.heap = h0) (fun _ _ _ _ _ => True) (fun _ U o U' => ∃ v L, o = .returned v ∧ own_Q0 Z p0 p1 h0 n0 v U'.heap L ∧ FrameEnd U o U' L room_1.cells room_1.slots) := by
  refine MetFree.of_bodySF (plainFor_of_name own_pn_rm0) hisR ?_
  intro p e s m args below meth c s₁ Bd hml0 hP hK
  obtain ⟨rfl, hZ, hh⟩ := hP
  have hx := Bd.exec
  have hby := Bd.bytes
  have hml : c.maxLocals = 6 := hml0
  have hown : s.vm.findClass "com/example/shiftwright/shiftwright/engine/WeekendsIsSundayPinLaw" = some m.cls := findClass_of_methodNamed Bd.named
  have hnm := (name_of_methodNamed Bd.named Bd.method).1
  have X0 : Stand p l e room_1 s m #[(.int p0), (.int p1)] below meth c s₁ [] 0 0 := Stand.of_body Bd
  have e0 : s₁.heap = h0 := by rw [← hh, Bd.state]; rfl
  have N0 := Fr.nil n0
  show own_End p e below s (own_Q0 Z p0 p1 h0 n0) room_1.cells room_1.slots (s₁.setTop (entryFrame m #[(.int p0), (.int p1)] maxLocals))
  rw [own_ef_rm0]
  refine own_iloadN X0 hx (hb hby at_0) rfl (q := 1) rfl ?_
  refine own_back (X0.ldcInt hx hown (mvT hZ (hw _ (List.mem_of_getElem? (i := 0) rfl))) (g := (mkF m 1 #[.val (.int p0), .val (.int p1), .unset, .unset, .unset, .unset] [(.int p0)])) rfl (hb hby at_1)) ?_
  show own_End p e below s _ _ _ (s₁.setTop (mkF m 3 #[.val (.int p0), .val (.int p1), .unset, .unset, .unset, .unset] [(.int (2147483647 : Int32)), (.int p0)]))
  refine own_iand X0 hx (hb hby at_3) (q := 4) rfl ?_
  refine own_back (X0.ldcInt hx hown (mvT hZ (hw _ (List.mem_of_getElem? (i := 1) rfl))) (g := (mkF m 4 #[.val (.int p0), .val (.int p1), .unset, .unset, .unset, .unset] [(.int (p0 &&& (2147483647 : Int32)))])) rfl (hb hby at_4)) ?_
  show own_End p e below s _ _ _ (s₁.setTop (mkF m 6 #[.val (.int p0), .val (.int p1), .unset, .unset, .unset, .unset] [(.int (306783378 : Int32)), (.int (p0 &&& (2147483647 : Int32)))]))
  refine own_irem X0 hx (hb hby at_6) (by decide) (q := 7) rfl ?_
  refine own_istoreN X0 hx (hb hby at_7) (l' := #[.val (.int p0), .val (.int p1), .val (.int ((p0 &&& (2147483647 : Int32)) % (306783378 : Int32))), .unset, .unset, .unset]) rfl (q := 8) rfl ?_
  refine own_iloadN X0 hx (hb hby at_8) rfl (q := 9) rfl ?_
  refine own_back (X0.ldcInt hx hown (mvT hZ (hw _ (List.mem_of_getElem? (i := 0) rfl))) (g := (mkF m 9 #[.val (.int p0), .val (.int p1), .val (.int ((p0 &&& (2147483647 : Int32)) % (306783378 : Int32))), .unset, .unset, .unset] [(.int p1)])) rfl (hb hby at_9)) ?_
  show own_End p e below s _ _ _ (s₁.setTop (mkF m 11 #[.val (.int p0), .val (.int p1), .val (.int ((p0 &&& (2147483647 : Int32)) % (306783378 : Int32))), .unset, .unset, .unset] [(.int (2147483647 : Int32)), (.int p1)]))
  refine own_iand X0 hx (hb hby at_11) (q := 12) rfl ?_
  refine own_bipush X0 hx (hb hby at_12) (z := 7) rfl (q := 14) rfl ?_
  refine own_irem X0 hx (hb hby at_14) (by decide) (q := 15) rfl ?_
  refine own_istoreN X0 hx (hb hby at_15) (l' := #[.val (.int p0), .val (.int p1), .val (.int ((p0 &&& (2147483647 : Int32)) % (306783378 : Int32))), .val (.int ((p1 &&& (2147483647 : Int32)) % (7 : Int32))), .unset, .unset]) rfl (q := 16) rfl ?_
  refine own_bipush X0 hx (hb hby at_16) (z := 7) rfl (q := 18) rfl ?_
  refine own_iloadN X0 hx (hb hby at_18) rfl (q := 19) rfl ?_
  refine own_imul X0 hx (hb hby at_19) (q := 20) rfl ?_
  refine own_iloadN X0 hx (hb hby at_20) rfl (q := 21) rfl ?_
  refine own_iadd X0 hx (hb hby at_21) (q := 22) rfl ?_
  refine own_istore X0 hx (hb hby at_22) (l' := #[.val (.int p0), .val (.int p1), .val (.int ((p0 &&& (2147483647 : Int32)) % (306783378 : Int32))), .val (.int ((p1 &&& (2147483647 : Int32)) % (7 : Int32))), .val (.int (((7 : Int32) * ((p0 &&& (2147483647 : Int32)) % (306783378 : Int32))) + ((p1 &&& (2147483647 : Int32)) % (7 : Int32)))), .unset]) rfl (q := 24) rfl ?_
  refine own_iloadN X0 hx (hb hby at_24) rfl (q := 25) rfl ?_
  refine own_bipush X0 hx (hb hby at_25) (z := 6) rfl (q := 27) rfl ?_
  suffices J7 : own_End p e below s (own_Q0 Z p0 p1 h0 n0) room_1.cells room_1.slots (s₁.setTop (mkF m 35 #[.val (.int p0), .val (.int p1), .val (.int ((p0 &&& (2147483647 : Int32)) % (306783378 : Int32))), .val (.int ((p1 &&& (2147483647 : Int32)) % (7 : Int32))), .val (.int (((7 : Int32) * ((p0 &&& (2147483647 : Int32)) % (306783378 : Int32))) + ((p1 &&& (2147483647 : Int32)) % (7 : Int32)))), .unset] [(.int (own_M0_27 p1))])) by
    by_cases hc27_4 : ((p1 &&& (2147483647 : Int32)) % (7 : Int32)) = (6 : Int32)
    · refine own_icN X0 hx (hb hby at_27) (teq hc27_4).2 (q := 30) rfl ?_
      refine own_iconst X0 hx (hb hby at_30) (z := 1) rfl (q := 31) rfl ?_
      refine own_goto X0 hx (hb hby at_31) (q := 35) (by decide) (by decide) ?_
      simp only [own_M0_27, if_pos hc27_4] at J7
      exact J7
    · refine own_icY X0 hx (hb hby at_27) (feq hc27_4).2 (q := 34) (by decide) (by decide) ?_
      refine own_iconst X0 hx (hb hby at_34) (z := 0) rfl (q := 35) rfl ?_
      simp only [own_M0_27, if_neg hc27_4] at J7
      exact J7
  refine own_istore X0 hx (hb hby at_35) (l' := #[.val (.int p0), .val (.int p1), .val (.int ((p0 &&& (2147483647 : Int32)) % (306783378 : Int32))), .val (.int ((p1 &&& (2147483647 : Int32)) % (7 : Int32))), .val (.int (((7 : Int32) * ((p0 &&& (2147483647 : Int32)) % (306783378 : Int32))) + ((p1 &&& (2147483647 : Int32)) % (7 : Int32)))), .val (.int (own_M0_27 p1))]) rfl (q := 37) rfl ?_
  refine own_iload X0 hx (hb hby at_37) rfl (q := 39) rfl ?_
  obtain ⟨_, _, ⟨T8, L8, k8, n8⟩, -, X8, ⟨Lc8, hQ8, l8, y8, z8⟩, st8⟩ := Jvm.LawKit.callS X0 hx (y := (⟨"com/example/shiftwright/shiftwright/engine/Weekends", "isSunday", "(I)Z"⟩ : MethodName)) hown (mvT hZ (hw _ (List.mem_of_getElem? (i := 2) rfl))) (mvT hZ (hw _ (List.mem_of_getElem? (i := 3) rfl))) (mvT hZ (hw _ (List.mem_of_getElem? (i := 4) rfl))) (mvT hZ (hw _ (List.mem_of_getElem? (i := 5) rfl))) (by decide) (backOf (W := 0) (own_rm1 l Z a0 hw [] (((7 : Int32) * ((p0 &&& (2147483647 : Int32)) % (306783378 : Int32))) + ((p1 &&& (2147483647 : Int32)) % (7 : Int32))) h0 n0 Z0 ) hZ (hw _ (List.mem_of_getElem? (i := 5) rfl)) (hw _ (List.mem_of_getElem? (i := 4) rfl)) (by decide) (by decide)) (g := (mkF m 39 #[.val (.int p0), .val (.int p1), .val (.int ((p0 &&& (2147483647 : Int32)) % (306783378 : Int32))), .val (.int ((p1 &&& (2147483647 : Int32)) % (7 : Int32))), .val (.int (((7 : Int32) * ((p0 &&& (2147483647 : Int32)) % (306783378 : Int32))) + ((p1 &&& (2147483647 : Int32)) % (7 : Int32)))), .val (.int (own_M0_27 p1))] [(.int (((7 : Int32) * ((p0 &&& (2147483647 : Int32)) % (306783378 : Int32))) + ((p1 &&& (2147483647 : Int32)) % (7 : Int32))))])) rfl (by rw [hml]; rfl) (argsL := [(.int (((7 : Int32) * ((p0 &&& (2147483647 : Int32)) % (306783378 : Int32))) + ((p1 &&& (2147483647 : Int32)) % (7 : Int32))))]) (rest := []) (lenOf own_pd0 rfl) rfl (by show 2 * 0 + _ ≤ _; exact Nat.le_of_eq rfl) (hb hby at_39) (fun _ _ => ⟨rfl, e0, (by decide : 0 + 0 ≤ _), (by decide : 0 + 0 ≤ _)⟩)
  dsimp only [Pt.U, Pt.locs, Pt.cells, Pt.slots] at X8 l8 y8 z8 st8 hQ8
  subst l8 y8 z8
  obtain ⟨rfl, N8q, e8⟩ := hQ8
  have N8 := Fr.app N0 N8q
  refine own_back st8 ?_
  show own_End p e below s _ _ _ (T8.setTop (mkF m 42 #[.val (.int p0), .val (.int p1), .val (.int ((p0 &&& (2147483647 : Int32)) % (306783378 : Int32))), .val (.int ((p1 &&& (2147483647 : Int32)) % (7 : Int32))), .val (.int (((7 : Int32) * ((p0 &&& (2147483647 : Int32)) % (306783378 : Int32))) + ((p1 &&& (2147483647 : Int32)) % (7 : Int32)))), .val (.int (own_M0_27 p1))] [(.int (own_F1 (((7 : Int32) * ((p0 &&& (2147483647 : Int32)) % (306783378 : Int32))) + ((p1 &&& (2147483647 : Int32)) % (7 : Int32)))))]))
  refine own_iload X8 hx (hb hby at_42) rfl (q := 44) rfl ?_
  by_cases hc44_9 : (own_F1 (((7 : Int32) * ((p0 &&& (2147483647 : Int32)) % (306783378 : Int32))) + ((p1 &&& (2147483647 : Int32)) % (7 : Int32)))) = (own_M0_27 p1)
  · refine own_icN X8 hx (hb hby at_44) (teq hc44_9).2 (q := 47) rfl ?_
    refine own_iconst X8 hx (hb hby at_47) (z := 1) rfl (q := 48) rfl ?_
    refine own_goto X8 hx (hb hby at_48) (q := 52) (by decide) (by decide) ?_
    refine own_retN X8 hx (t := .boolean) (by simp) Bd.returns Bd.notSynchronized (by decide) (by decide) (hb hby at_52) ?_
    show own_Q0 Z p0 p1 h0 n0 _ T8.heap _
    exact ⟨(by rw [show own_F0 p0 p1 = _ from (by simp only [own_F0, if_pos hc44_9] : _ = (1 : Int32))]; rfl), N8⟩
  · refine own_icY X8 hx (hb hby at_44) (feq hc44_9).2 (q := 51) (by decide) (by decide) ?_
    refine own_iconst X8 hx (hb hby at_51) (z := 0) rfl (q := 52) rfl ?_
    refine own_retN X8 hx (t := .boolean) (by simp) Bd.returns Bd.notSynchronized (by decide) (by decide) (hb hby at_52) ?_
    show own_Q0 Z p0 p1 h0 n0 _ T8.heap _
    exact ⟨(by rw [show own_F0 p0 p1 = _ from (by simp only [own_F0, if_neg hc44_9] : _ = (0 : Int32))]; rfl), N8⟩
theorem own_mod (x k : Int32) (n : Int) (hk : k.toInt = n) : ((x &&& 2147483647) % k).toInt = (x.toInt % 2147483648) % n := by
  have e1 : (x &&& 2147483647).toInt = x.toInt % 2 ^ 31 := Jvm.Kit.i32_mask x 2147483647 (k := 31) (by decide) (by decide)
  rw [Jvm.Kit.i32_rem_nonneg (by rw [e1]; omega), e1, hk]; rfl
theorem own_seven (w r : Int32) (h1 : 0 ≤ w.toInt) (h2 : 0 ≤ r.toInt) (h3 : r.toInt < 7) (h4 : 7 * w.toInt + r.toInt < 2147483648) : (7 * w + r) % 7 = r := by
  have e7 : (7 : Int32).toInt = 7 := by decide
  have e2 : (7 * w).toInt = 7 * w.toInt := by rw [Jvm.Kit.i32_mul (by rw [e7]; omega) (by rw [e7]; omega), e7]
  have e3 : (7 * w + r).toInt = 7 * w.toInt + r.toInt := by rw [Jvm.Kit.i32_add (by omega) (by omega), e2]
  have e4 : ((7 * w + r) % 7).toInt = r.toInt := by rw [Jvm.Kit.i32_rem_nonneg (by omega), e3, e7]; omega
  exact Int32.toInt_inj.mp e4
theorem own_law (a b : Int32) : own_F0 a b = 1 := by
  have hw := own_mod a 306783378 306783378 (by decide)
  have hr := own_mod b 7 7 (by decide)
  rw [own_F0, own_F1, own_M0_27, own_seven _ _ (by omega) (by omega) (by omega) (by omega), if_pos rfl]
set_option maxRecDepth 65536 in
set_option maxHeartbeats 40000000 in
theorem comes_1 {Post : Tables → Env → Array Value → State → Outcome → State → Prop} (hpost : ∀ tb e args s v u, (limb_1_1.after args s (.returned v) u = true ∧ limb_1_2.after args s (.returned v) u = true ∧ True) → FrameEnd s (.returned v) u (Jvm.fieldLocs frame_1_writes args s ++ Jvm.arrayLocs frame_1_arrays args s ++ Jvm.staticLocs frame_1_statics s) 0 0 → Post tb e args s (.returned v) u) :
    ArmFor flags0 classFile x code maxLocals ret World_1 tables_1 room_1 Calls_1 rest_1 Pre_1 Post := by
  intro l hfl _ _ p e ha hc hk s m args below hf hA hF happ hP
  obtain ⟨hcalls, hrest, hpre⟩ := hP
  obtain ⟨-, -, -, hnamed, -, -, -, hat⟩ := (Spec.applies_iff hf).mp happ
  obtain ⟨hg, hn⟩ := and_e (Cond.before_iff.mp (show (Jvm.Cond.and given_1 narrow_1).before args s = true from hpre))
  obtain ⟨g12, g13⟩ := and_e hg
  obtain ⟨g14, g15⟩ := and_e g13
  obtain ⟨w0, w1, rfl⟩ : ∃ w0 w1 : Value, args = #[w0, w1] := by
    have hs : args.size = 2 := by simpa [Cond.value, given_1] using g12
    obtain ⟨L⟩ := args
    match L, hs with
    | [w0, w1], _ => exact ⟨w0, w1, rfl⟩
  have hw := fun d (hd : d ∈ tables_1) => atoms_spec (ws := Jvm.Cond.code x code maxLocals ret :: tables_1) hat d (List.mem_cons_of_mem _ hd)
  have hfit : Fit s := fun {y c} hc i hi => by
    obtain ⟨ha, rfl⟩ := Array.getElem?_eq_some_iff.mp hc
    have q := List.all_eq_true.mp ((Array.all_eq_true_iff_forall_mem.mp hF) _ (Array.getElem_mem ha)) i (List.mem_range.mpr hi)
    simpa [Array.getElem?_eq_getElem hi] using q
  obtain ⟨i0, ei0⟩ := is_v g14
  obtain rfl : w0 = (.int i0) := Option.some.inj ei0
  obtain ⟨i1, ei1⟩ := is_v g15
  obtain rfl : w1 = (.int i1) := Option.some.inj ei1
  obtain ⟨n, o, h1, h2, h3, _, L, rfl, ⟨hv, N⟩, hq⟩ := own_rm0 l s _ hw tables_1 i0 i1 s.heap s.heap.size (Nat.le_refl _)  p e ha hc hk s m _ below hf ((Spec.applies_iff_loose hf).mp happ).1 ⟨rfl, State.Warmed39.refl s, rfl⟩ trivial
  rw [own_law] at hv
  subst hv
  refine ⟨n, _, h1, h2, h3, hpost _ _ _ _ _ _ ⟨Cond.after_iff.mpr rfl, Cond.after_iff.mpr (eq_i res_at (Term.int_eval (1)) rfl), trivial⟩ ⟨hq.1, hq.2.1, (hq.2.2.sift fun y hy => Or.inr (N y hy)).mono (by decide) (by decide)⟩⟩
theorem main_1_1 : Claimed_1_1 := comes_1 fun _ _ _ _ _ _ h hF => ⟨h.1, hF⟩
theorem main_1_2 : Claimed_1_2 := comes_1 fun _ _ _ _ _ _ h hF => ⟨h.2.1, hF⟩
end Jvm.Pilot.@@N@@
namespace Jvm.Pilot.@@N@@
open Jvm Jvm.ClassFile Sem Op Lib Jvm.Free Jvm.Stand Jvm.Pilot.@@N@@.Jvm.D
/-! MADE BY PROGRAM (witnessworld.py) out of the Statement's table words and the real class files: 9 classes; the members and pool entries that the words name. The judged class is class 1, her method 1. -/
namespace start1
open Jvm.ClassFile
def u (s : String) : CpInfo := .utf8 (stringToUtf16 s)
/-- a pool by its gaps: so many unusable entries, then the entry; so many at the end -/
def gap : Nat → List CpInfo → List CpInfo
  | 0, r => r
  | n + 1, r => .unusable :: gap n r
def poolList (es : List (Nat × CpInfo)) (last : Nat) : List CpInfo := es.foldr (fun e r => gap e.1 (e.2 :: r)) (gap last [])
def pool (es : List (Nat × CpInfo)) (last : Nat) : Array CpInfo := ⟨poolList es last⟩
def fileOf (pool : Array CpInfo) (this : Nat) (attrs : Array Attribute := #[]) (ms : Array MethodInfo := #[]) (fl : Nat := 33) (sup : Nat := 0) (ifs : Array Nat := #[]) (fds : Array FieldInfo := #[]) : ClassFile where
  minorVersion := 0
  majorVersion := 65
  constantPool := pool
  accessFlags := fl
  thisClass := this
  superClass := sup
  interfaces := ifs
  fields := fds
  methods := ms
  attributes := attrs
def plain (name : String) (sup : Option ClassId) : Class where
  name := name
  kind := .ordinary
  loader := none
  accessFlags := 33
  super := sup
  interfaces := #[]
  cf := none
  fields := #[]
  methods := #[]
  instanceTypes := #[]
  staticTypes := #[]
  resolved := #[]
  callSites := []
  init := .initialized
  statics := none
  mirror := none

def pool0 : Array CpInfo := pool [(5, u "<init>"), (0, u "()V"), (1, .class_ 10), (1, u "java/lang/Object")] 113

def k0m0 : Method := { name := "<init>", desc := "()V", sig := { parameters := [], returnType := none }, accessFlags := 1, code := none }
/-- java/lang/Object -/
def k0 : Class := { plain "java/lang/Object" none with
  accessFlags := 33
  interfaces := #[]
  cf := some (fileOf pool0 8 #[] #[{ accessFlags := 1, nameIndex := 5, descriptorIndex := 6, attributes := #[] }] 33 0 #[] #[])
  fields := #[]
  methods := #[k0m0]
  instanceTypes := #[]
  staticTypes := #[]
  resolved := Array.replicate 124 none
  statics := none }

def pool1 : Array CpInfo := pool [(2, .class_ 4), (1, u "java/lang/Object"), (0, u "<init>"), (0, u "()V"), (0, .integer 2147483647), (0, .integer 306783378), (0, .methodref 10 11), (0, .class_ 12), (0, .nameAndType 13 14), (0, u "com/example/shiftwright/shiftwright/engine/Weekends"), (0, u "isSunday"), (0, u "(I)Z"), (0, .class_ 16), (0, u "com/example/shiftwright/shiftwright/engine/WeekendsIsSundayPinLaw"), (2, u "law"), (0, u "(II)Z")] 3

def k1m0 : Method := { name := "<init>", desc := "()V", sig := { parameters := [], returnType := none }, accessFlags := 2, code := none }
def k1c1 : Code := { maxStack := 2, maxLocals := 6, code := code, exceptionTable := #[], attributes := #[] }
def k1m1 : Method := { name := "law", desc := "(II)Z", sig := { parameters := [.int, .int], returnType := some .boolean }, accessFlags := 9, code := some k1c1 }
/-- com/example/shiftwright/shiftwright/engine/WeekendsIsSundayPinLaw -/
def k1 : Class := { plain "com/example/shiftwright/shiftwright/engine/WeekendsIsSundayPinLaw" (some 0) with
  accessFlags := 49
  interfaces := #[]
  cf := some (fileOf pool1 15 #[] #[{ accessFlags := 2, nameIndex := 5, descriptorIndex := 6, attributes := #[] }, { accessFlags := 9, nameIndex := 19, descriptorIndex := 20, attributes := #[] }] 49 2 #[] #[])
  fields := #[]
  methods := #[k1m0, k1m1]
  instanceTypes := #[]
  staticTypes := #[]
  resolved := Array.replicate 24 none
  statics := none }

def pool2 : Array CpInfo := pool [(2, .class_ 4), (1, u "java/lang/Object"), (0, u "<init>"), (0, u "()V"), (0, .class_ 8), (0, u "com/example/shiftwright/shiftwright/engine/Weekends"), (5, u "(I)Z"), (0, u "FIRST_SATURDAY"), (0, u "I"), (2, u "WEEK"), (6, u "isSunday")] 6

def k2m0 : Method := { name := "<init>", desc := "()V", sig := { parameters := [], returnType := none }, accessFlags := 2, code := none }
def k2c1 : Code := { maxStack := 2, maxLocals := 1, code := prog_21_method_4_code, exceptionTable := #[], attributes := #[] }
def k2m1 : Method := { name := "isSunday", desc := "(I)Z", sig := { parameters := [.int], returnType := some .boolean }, accessFlags := 8, code := some k2c1 }
/-- com/example/shiftwright/shiftwright/engine/Weekends -/
def k2 : Class := { plain "com/example/shiftwright/shiftwright/engine/Weekends" (some 0) with
  accessFlags := 48
  interfaces := #[]
  cf := some (fileOf pool2 7 #[] #[{ accessFlags := 2, nameIndex := 5, descriptorIndex := 6, attributes := #[] }, { accessFlags := 8, nameIndex := 26, descriptorIndex := 14, attributes := #[] }] 48 2 #[] #[{ accessFlags := 24, nameIndex := 15, descriptorIndex := 16, attributes := #[] }, { accessFlags := 24, nameIndex := 19, descriptorIndex := 16, attributes := #[] }])
  fields := #[{ name := "FIRST_SATURDAY", type := .int, accessFlags := 24, slot := 0, constantValue := 0 }, { name := "WEEK", type := .int, accessFlags := 24, slot := 1, constantValue := 0 }]
  methods := #[k2m0, k2m1]
  instanceTypes := #[]
  staticTypes := #[.int, .int]
  resolved := Array.replicate 33 none
  statics := none }

def pool3 : Array CpInfo := pool [(1, u "java/lang/Cloneable"), (0, .class_ 1), (0, u "java/lang/Object"), (0, .class_ 3)] 3

/-- java/lang/Cloneable -/
def k3 : Class := { plain "java/lang/Cloneable" (some 0) with
  accessFlags := 1537
  interfaces := #[]
  cf := some (fileOf pool3 2 #[] #[] 1537 4 #[] #[])
  fields := #[]
  methods := #[]
  instanceTypes := #[]
  staticTypes := #[]
  resolved := Array.replicate 8 none
  statics := none }

def pool4 : Array CpInfo := pool [(1, u "java/io/Serializable"), (0, .class_ 1), (0, u "java/lang/Object"), (0, .class_ 3)] 3

/-- java/io/Serializable -/
def k4 : Class := { plain "java/io/Serializable" (some 0) with
  accessFlags := 1537
  interfaces := #[]
  cf := some (fileOf pool4 2 #[] #[] 1537 4 #[] #[])
  fields := #[]
  methods := #[]
  instanceTypes := #[]
  staticTypes := #[]
  resolved := Array.replicate 8 none
  statics := none }

/-- the primitive byte -/
def k5 : Class := { plain "byte" none with kind := .primitive 'B', accessFlags := 0x411 }
/-- [B -/
def k6 : Class := { plain "[B" (some 0) with kind := .array 5 .byte, interfaces := #[3, 4], accessFlags := 1041 }

/-- the primitive int -/
def k7 : Class := { plain "int" none with kind := .primitive 'I', accessFlags := 0x411 }
/-- [I -/
def k8 : Class := { plain "[I" (some 0) with kind := .array 7 .int, interfaces := #[3, 4], accessFlags := 1041 }

def heap : Heap := #[]
def classes : Array Class := #[k0, k1, k2, k3, k4, k5, k6, k7, k8]
def interned : List (Array UInt16 × Addr) := []
def slotsUsed : Nat := 0
def theMethod : MethodId := ⟨1, 1⟩
def args0 : Array Value := #[.int 3, .int 4]
def aboutOver (below : List Frame) : State where
  vm := { classes := classes, interned := interned.toArray }
  heap := heap
  slotsUsed := slotsUsed
  threads := #[{ frames := .invoking theMethod args0 :: below }]
def below0 : List Frame := [.native { method := ⟨0, 0⟩, args := #[] }]
def about1 : State := aboutOver below0
def p0 : Program := .bare "" "" ""
def e0 : Env := launch0.env 0 0 0
theorem w_frames : about1.frames = Frame.invoking theMethod args0 :: below0 := rfl
set_option maxRecDepth 65536 in
theorem w_args : argsFit about1.vm theMethod args0 = true := by decide +kernel
set_option maxRecDepth 65536 in
theorem w_heap : heapFits about1 = true := by decide +kernel
set_option maxRecDepth 65536 in
theorem w_runnable : about1.curStatus? = some .runnable := by decide +kernel
set_option maxRecDepth 65536 in
theorem w_alone : about1.alone = true := by decide +kernel
set_option maxRecDepth 65536 in
theorem w_named : about1.methodNamed? x = some theMethod := by decide +kernel
set_option maxRecDepth 65536 in
theorem w_hears : about1.hears theMethod below0 = true := by decide +kernel
set_option maxRecDepth 65536 in
theorem w_ripe : about1.ripe theMethod args0 below0 = true := by decide +kernel
theorem w_running : about1.status = .running := rfl
set_option maxRecDepth 65536 in
theorem w_room : about1.hasRoom e0.platform room_1 = true :=
  launch0.hasRoom_least _ room_1 (by decide +kernel) (by decide +kernel) (by decide +kernel) (by decide +kernel) (by decide +kernel) (by decide +kernel)
theorem allAtoms_all (ts : List Jvm.Cond) (a : Array Jvm.Value) (st : Jvm.State) : (allAtoms ts).before a st = ts.all (fun c => c.before a st) := by
  induction ts with
  | nil => rfl
  | cons c t ih =>
    show (Jvm.Cond.and c (allAtoms t)).before a st = _
    rw [Jvm.Cond.before_and, ih, List.all_cons]
def words1 : List Jvm.Cond := Jvm.Cond.code x code maxLocals ret :: tables_1
/-- a 'code' word, met by the world's own term for the bytes: nothing is compared byte by byte -/
theorem code_word {y : MethodName} {bytes : ByteArray} {mx : Nat} {rt : Option FieldType} {a : Array Value} {s : State} {m : MethodId} {meth : Method} {c : Code} (h1 : s.methodNamed? y = some m) (h2 : s.vm.method? m = some meth) (h3 : meth.code = some c) (h4 : c.code = bytes)
    (h5 : (c.maxLocals == mx && c.exceptionTable.isEmpty && decide (c.maxStack ≤ mostOperands) && decide (meth.sig.returnType = rt) && !meth.locks && decide (parseMethodDescriptor y.desc = some meth.sig)) = true) : (Jvm.Cond.code y bytes mx rt).before a s = true := by
  simp only [Bool.and_eq_true, beq_iff_eq, Bool.not_eq_true', decide_eq_true_eq] at h5
  obtain ⟨⟨⟨⟨⟨g1, g2⟩, g3⟩, g4⟩, g5⟩, g6⟩ := h5
  simp [Cond.before, Cond.holds, Cond.value, h1, h2, h3, h4, g1, g2, g3, g4, g5, g6]
def isCode : Jvm.Cond → Bool
  | .code _ _ _ _ => true
  | _ => false
theorem all_split {L : List Jvm.Cond} {P : Jvm.Cond → Bool} (h1 : L.all (fun c => isCode c || P c) = true) (h2 : ∀ c ∈ L.filter isCode, P c = true) : L.all P = true := by
  refine List.all_eq_true.mpr fun c hc => ?_
  have h := List.all_eq_true.mp h1 c hc
  rcases Bool.eq_false_or_eq_true (isCode c) with hi | hi
  · exact h2 c (List.mem_filter.mpr ⟨hc, hi⟩)
  · simpa [hi] using h
set_option maxRecDepth 65536 in
theorem w_c0 : (Jvm.Cond.code x code maxLocals ret).before args0 about1 = true := code_word (m := ⟨1, 1⟩) (meth := k1m1) (c := k1c1) (by decide +kernel) rfl rfl rfl (by decide +kernel)
set_option maxRecDepth 65536 in
theorem w_c1 : (Jvm.Cond.code ({ cls := "com/example/shiftwright/shiftwright/engine/Weekends", name := "isSunday", desc := "(I)Z" } : Jvm.MethodName) prog_21_method_4_code (1 : Nat) (Option.some Jvm.ClassFile.FieldType.boolean)).before args0 about1 = true := code_word (m := ⟨2, 1⟩) (meth := k2m1) (c := k2c1) (by decide +kernel) rfl rfl rfl (by decide +kernel)
def codes1 : List Jvm.Cond := [Jvm.Cond.code x code maxLocals ret, Jvm.Cond.code ({ cls := "com/example/shiftwright/shiftwright/engine/Weekends", name := "isSunday", desc := "(I)Z" } : Jvm.MethodName) prog_21_method_4_code (1 : Nat) (Option.some Jvm.ClassFile.FieldType.boolean)]
set_option maxRecDepth 65536 in
theorem codes_eq : words1.filter isCode = codes1 := rfl
theorem w_codes : ∀ c ∈ words1.filter isCode, c.before args0 about1 = true := by
  rw [codes_eq]
  intro c hc
  simp only [codes1, List.mem_cons, List.not_mem_nil, or_false] at hc
  rcases hc with rfl | rfl
  · exact w_c0
  · exact w_c1
set_option maxRecDepth 65536 in
theorem w_t1 : words1.all (fun c => isCode c || c.before args0 about1) = true := by decide +kernel
theorem w_tables : (allAtoms (Jvm.Cond.code x code maxLocals ret :: tables_1)).before args0 about1 = true := by
  rw [allAtoms_all]
  show words1.all (fun c => c.before args0 about1) = true
  refine all_split ?_ w_codes
  rw [w_t1]
set_option maxRecDepth 65536 in
theorem w_case : (Jvm.Cond.and given_1 narrow_1).before args0 about1 = true := by decide +kernel
theorem w_applies : (headSpec (Jvm.Cond.code x code maxLocals ret :: tables_1) room_1).applies x e0.platform about1 = true :=
  (Spec.applies_iff w_frames).mpr ⟨w_running, w_runnable, w_alone, w_named, w_hears, w_ripe, w_room, w_tables⟩
theorem atStart : AtStart classFile x code maxLocals ret World_1 tables_1 room_1 Calls_1 rest_1 Pre_1 launch0 p0 e0 about1 theMethod args0 below0 :=
  ⟨lists_1, trivial, launch0.admits_env _ _ _, launch0.least_env, fairChoices_fair.cas, fairChoices_fair.clock, w_frames, w_args, w_heap, w_applies, trivial, trivial, w_case⟩
end start1
theorem witness_1 : WitnessClaimed_1 := ⟨start1.p0, start1.e0, start1.about1, start1.theMethod, start1.args0, start1.below0, start1.atStart⟩
end Jvm.Pilot.@@N@@
