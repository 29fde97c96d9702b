import JvmDerived
import JvmDerived.Pilot.@@N@@Statement
import JvmDerived.Pilot.@@N@@Code
set_option linter.unusedVariables false
set_option linter.unusedSimpArgs false
namespace Jvm.Pilot.@@N@@
open Jvm Jvm.ClassFile Sem Op Lib Jvm.Free Jvm.Stand Jvm.LawKit Jvm.RoadKit Bundle Jvm.Pilot.@@N@@.Jvm.D
section Own
variable {p : Program} {l : Launch} {e : Env} {R : Room} {s : State} {m : MethodId} {args : Array Value} {below : List Frame} {meth : Method} {c : Code} {T : State} {locs : List Loc} {cells slots : Nat} {Q : Option Value → Heap → List Loc → Prop} {K N : Nat} {s' : State} {E : State → Outcome → State → List Loc → Nat → Nat → Prop}
/-- the run from a ends in a return of which Q holds, within the frame -/
def own_End (p : Program) (e : Env) (below : List Frame) (s : State) (Q : Option Value → Heap → List Loc → Prop) (K N : Nat) (a : State) (E : State → Outcome → State → List Loc → Nat → Nat → Prop := FrameEnd) : Prop :=
  ∃ s₂ o, Steps p.tables e below a s₂ ∧ s₂.status = .running ∧ Ended s₂ below o ∧ ∃ v L, o = .returned v ∧ Q v s₂.heap L ∧ E s o s₂ L K N
theorem own_back {a b : State} (k : ∀ t, Steps p.tables e below b t → Steps p.tables e below a t) (h : own_End p e below s Q K N b E) : own_End p e below s Q K N a E := by
  obtain ⟨s₂, o, h1, h2⟩ := h
  exact ⟨s₂, o, k _ h1, h2⟩
theorem own_via {a b : State} (k : Steps p.tables e below a b) (h : own_End p e below s Q K N b E) : own_End p e below s Q K N a E :=
  own_back (fun _ j => k.trans j) h
theorem own_selfsel {y : MethodName} {n : Nat} (wi : (Jvm.Cond.instantiable y.cls n).before args s = true) (hp : s.PrivateAt y) (hi : (Jvm.Cond.instanceMethod y).before args s = true) (hy : y.cls ≠ "java/lang/invoke/MethodHandle" ∧ y.cls ≠ "java/lang/invoke/VarHandle") : (Jvm.Cond.selects y.cls y y).before args s = true := by
  obtain ⟨c, k, h1, h2, -, h4, -⟩ := Cond.instantiable_spec wi
  exact selects_self_of_private h1 h2 (Bool.or_eq_false_iff.mp h4).1 hp hi hy
theorem own_cast {a b : State} (q : a = b) (h : own_End p e below s Q K N b E) : own_End p e below s Q K N a E := q ▸ h
theorem own_iadd (X : Stand p l e R s' m args below meth c T locs cells slots) (hx : p.tables.exec = Jvm.exec) {pc q : Nat} {Ls : Array Slot} {rest : List Value} (hd : decode c.code pc = .ok (.iadd, 1)) {x y : Int32} (hq : pc + 1 = q) (h : own_End p e below s Q K N (T.setTop (mkF m q Ls (.int (x + y) :: rest))) E) : own_End p e below s Q K N (T.setTop (mkF m pc Ls (.int y :: .int x :: rest))) E := by
  subst hq; exact own_back (fun _ k => XS.iadd X.here hx rfl hd rfl k) h
theorem own_isub (X : Stand p l e R s' m args below meth c T locs cells slots) (hx : p.tables.exec = Jvm.exec) {pc q : Nat} {Ls : Array Slot} {rest : List Value} (hd : decode c.code pc = .ok (.isub, 1)) {x y : Int32} (hq : pc + 1 = q) (h : own_End p e below s Q K N (T.setTop (mkF m q Ls (.int (x - y) :: rest))) E) : own_End p e below s Q K N (T.setTop (mkF m pc Ls (.int y :: .int x :: rest))) E := by
  subst hq; exact own_back (fun _ k => XS.isub X.here hx rfl hd rfl k) h
theorem own_imul (X : Stand p l e R s' m args below meth c T locs cells slots) (hx : p.tables.exec = Jvm.exec) {pc q : Nat} {Ls : Array Slot} {rest : List Value} (hd : decode c.code pc = .ok (.imul, 1)) {x y : Int32} (hq : pc + 1 = q) (h : own_End p e below s Q K N (T.setTop (mkF m q Ls (.int (x * y) :: rest))) E) : own_End p e below s Q K N (T.setTop (mkF m pc Ls (.int y :: .int x :: rest))) E := by
  subst hq; exact own_back (fun _ k => XS.imul X.here hx rfl hd rfl k) h
theorem own_iand (X : Stand p l e R s' m args below meth c T locs cells slots) (hx : p.tables.exec = Jvm.exec) {pc q : Nat} {Ls : Array Slot} {rest : List Value} (hd : decode c.code pc = .ok (.iand, 1)) {x y : Int32} (hq : pc + 1 = q) (h : own_End p e below s Q K N (T.setTop (mkF m q Ls (.int (x &&& y) :: rest))) E) : own_End p e below s Q K N (T.setTop (mkF m pc Ls (.int y :: .int x :: rest))) E := by
  subst hq; exact own_back (fun _ k => XS.iand X.here hx rfl hd rfl k) h
theorem own_ior (X : Stand p l e R s' m args below meth c T locs cells slots) (hx : p.tables.exec = Jvm.exec) {pc q : Nat} {Ls : Array Slot} {rest : List Value} (hd : decode c.code pc = .ok (.ior, 1)) {x y : Int32} (hq : pc + 1 = q) (h : own_End p e below s Q K N (T.setTop (mkF m q Ls (.int (x ||| y) :: rest))) E) : own_End p e below s Q K N (T.setTop (mkF m pc Ls (.int y :: .int x :: rest))) E := by
  subst hq; exact own_back (fun _ k => XS.ior X.here hx rfl hd rfl k) h
theorem own_ixor (X : Stand p l e R s' m args below meth c T locs cells slots) (hx : p.tables.exec = Jvm.exec) {pc q : Nat} {Ls : Array Slot} {rest : List Value} (hd : decode c.code pc = .ok (.ixor, 1)) {x y : Int32} (hq : pc + 1 = q) (h : own_End p e below s Q K N (T.setTop (mkF m q Ls (.int (x ^^^ y) :: rest))) E) : own_End p e below s Q K N (T.setTop (mkF m pc Ls (.int y :: .int x :: rest))) E := by
  subst hq; exact own_back (fun _ k => XS.ixor X.here hx rfl hd rfl k) h
theorem own_ishl (X : Stand p l e R s' m args below meth c T locs cells slots) (hx : p.tables.exec = Jvm.exec) {pc q : Nat} {Ls : Array Slot} {rest : List Value} (hd : decode c.code pc = .ok (.ishl, 1)) {x y : Int32} (hq : pc + 1 = q) (h : own_End p e below s Q K N (T.setTop (mkF m q Ls (.int (x <<< (y &&& 31)) :: rest))) E) : own_End p e below s Q K N (T.setTop (mkF m pc Ls (.int y :: .int x :: rest))) E := by
  subst hq; exact own_back (fun _ k => XS.ishl X.here hx rfl hd rfl k) h
theorem own_ishr (X : Stand p l e R s' m args below meth c T locs cells slots) (hx : p.tables.exec = Jvm.exec) {pc q : Nat} {Ls : Array Slot} {rest : List Value} (hd : decode c.code pc = .ok (.ishr, 1)) {x y : Int32} (hq : pc + 1 = q) (h : own_End p e below s Q K N (T.setTop (mkF m q Ls (.int (x >>> (y &&& 31)) :: rest))) E) : own_End p e below s Q K N (T.setTop (mkF m pc Ls (.int y :: .int x :: rest))) E := by
  subst hq; exact own_back (fun _ k => XS.ishr X.here hx rfl hd rfl k) h
theorem own_iushr (X : Stand p l e R s' m args below meth c T locs cells slots) (hx : p.tables.exec = Jvm.exec) {pc q : Nat} {Ls : Array Slot} {rest : List Value} (hd : decode c.code pc = .ok (.iushr, 1)) {x y : Int32} (hq : pc + 1 = q) (h : own_End p e below s Q K N (T.setTop (mkF m q Ls (.int ((x.toUInt32 >>> (y &&& 31).toUInt32).toInt32) :: rest))) E) : own_End p e below s Q K N (T.setTop (mkF m pc Ls (.int y :: .int x :: rest))) E := by
  subst hq; exact own_back (fun _ k => XS.iushr X.here hx rfl hd rfl k) h
theorem own_ladd (X : Stand p l e R s' m args below meth c T locs cells slots) (hx : p.tables.exec = Jvm.exec) {pc q : Nat} {Ls : Array Slot} {rest : List Value} (hd : decode c.code pc = .ok (.ladd, 1)) {x y : Int64} (hq : pc + 1 = q) (h : own_End p e below s Q K N (T.setTop (mkF m q Ls (.long (x + y) :: rest))) E) : own_End p e below s Q K N (T.setTop (mkF m pc Ls (.long y :: .long x :: rest))) E := by
  subst hq; exact own_back (fun _ k => XS.ladd X.here hx rfl hd rfl k) h
theorem own_lsub (X : Stand p l e R s' m args below meth c T locs cells slots) (hx : p.tables.exec = Jvm.exec) {pc q : Nat} {Ls : Array Slot} {rest : List Value} (hd : decode c.code pc = .ok (.lsub, 1)) {x y : Int64} (hq : pc + 1 = q) (h : own_End p e below s Q K N (T.setTop (mkF m q Ls (.long (x - y) :: rest))) E) : own_End p e below s Q K N (T.setTop (mkF m pc Ls (.long y :: .long x :: rest))) E := by
  subst hq; exact own_back (fun _ k => XS.lsub X.here hx rfl hd rfl k) h
theorem own_lmul (X : Stand p l e R s' m args below meth c T locs cells slots) (hx : p.tables.exec = Jvm.exec) {pc q : Nat} {Ls : Array Slot} {rest : List Value} (hd : decode c.code pc = .ok (.lmul, 1)) {x y : Int64} (hq : pc + 1 = q) (h : own_End p e below s Q K N (T.setTop (mkF m q Ls (.long (x * y) :: rest))) E) : own_End p e below s Q K N (T.setTop (mkF m pc Ls (.long y :: .long x :: rest))) E := by
  subst hq; exact own_back (fun _ k => XS.lmul X.here hx rfl hd rfl k) h
theorem own_land (X : Stand p l e R s' m args below meth c T locs cells slots) (hx : p.tables.exec = Jvm.exec) {pc q : Nat} {Ls : Array Slot} {rest : List Value} (hd : decode c.code pc = .ok (.land, 1)) {x y : Int64} (hq : pc + 1 = q) (h : own_End p e below s Q K N (T.setTop (mkF m q Ls (.long (x &&& y) :: rest))) E) : own_End p e below s Q K N (T.setTop (mkF m pc Ls (.long y :: .long x :: rest))) E := by
  subst hq; exact own_back (fun _ k => XS.land X.here hx rfl hd rfl k) h
theorem own_lor (X : Stand p l e R s' m args below meth c T locs cells slots) (hx : p.tables.exec = Jvm.exec) {pc q : Nat} {Ls : Array Slot} {rest : List Value} (hd : decode c.code pc = .ok (.lor, 1)) {x y : Int64} (hq : pc + 1 = q) (h : own_End p e below s Q K N (T.setTop (mkF m q Ls (.long (x ||| y) :: rest))) E) : own_End p e below s Q K N (T.setTop (mkF m pc Ls (.long y :: .long x :: rest))) E := by
  subst hq; exact own_back (fun _ k => XS.lor X.here hx rfl hd rfl k) h
theorem own_lxor (X : Stand p l e R s' m args below meth c T locs cells slots) (hx : p.tables.exec = Jvm.exec) {pc q : Nat} {Ls : Array Slot} {rest : List Value} (hd : decode c.code pc = .ok (.lxor, 1)) {x y : Int64} (hq : pc + 1 = q) (h : own_End p e below s Q K N (T.setTop (mkF m q Ls (.long (x ^^^ y) :: rest))) E) : own_End p e below s Q K N (T.setTop (mkF m pc Ls (.long y :: .long x :: rest))) E := by
  subst hq; exact own_back (fun _ k => XS.lxor X.here hx rfl hd rfl k) h
theorem own_lshl (X : Stand p l e R s' m args below meth c T locs cells slots) (hx : p.tables.exec = Jvm.exec) {pc q : Nat} {Ls : Array Slot} {rest : List Value} (hd : decode c.code pc = .ok (.lshl, 1)) {x : Int64} {y : Int32} (hq : pc + 1 = q) (h : own_End p e below s Q K N (T.setTop (mkF m q Ls (.long (x <<< (y &&& 0x3f).toInt64) :: rest))) E) : own_End p e below s Q K N (T.setTop (mkF m pc Ls (.int y :: .long x :: rest))) E := by
  subst hq; exact own_back (fun _ k => XS.lshl X.here hx rfl hd rfl k) h
theorem own_lshr (X : Stand p l e R s' m args below meth c T locs cells slots) (hx : p.tables.exec = Jvm.exec) {pc q : Nat} {Ls : Array Slot} {rest : List Value} (hd : decode c.code pc = .ok (.lshr, 1)) {x : Int64} {y : Int32} (hq : pc + 1 = q) (h : own_End p e below s Q K N (T.setTop (mkF m q Ls (.long (x >>> (y &&& 0x3f).toInt64) :: rest))) E) : own_End p e below s Q K N (T.setTop (mkF m pc Ls (.int y :: .long x :: rest))) E := by
  subst hq; exact own_back (fun _ k => XS.lshr X.here hx rfl hd rfl k) h
theorem own_lushr (X : Stand p l e R s' m args below meth c T locs cells slots) (hx : p.tables.exec = Jvm.exec) {pc q : Nat} {Ls : Array Slot} {rest : List Value} (hd : decode c.code pc = .ok (.lushr, 1)) {x : Int64} {y : Int32} (hq : pc + 1 = q) (h : own_End p e below s Q K N (T.setTop (mkF m q Ls (.long ((x.toUInt64 >>> (y &&& 0x3f).toInt64.toUInt64).toInt64) :: rest))) E) : own_End p e below s Q K N (T.setTop (mkF m pc Ls (.int y :: .long x :: rest))) E := by
  subst hq; exact own_back (fun _ k => XS.lushr X.here hx rfl hd rfl k) h
theorem own_idiv (X : Stand p l e R s' m args below meth c T locs cells slots) (hx : p.tables.exec = Jvm.exec) {pc q : Nat} {Ls : Array Slot} {rest : List Value} (hd : decode c.code pc = .ok (.idiv, 1)) {x y : Int32} (hy : y ≠ 0) (hq : pc + 1 = q) (h : own_End p e below s Q K N (T.setTop (mkF m q Ls (.int (x / y) :: rest))) E) : own_End p e below s Q K N (T.setTop (mkF m pc Ls (.int y :: .int x :: rest))) E := by
  subst hq; exact own_back (fun _ k => XS.idiv X.here hx rfl hd rfl hy k) h
theorem own_irem (X : Stand p l e R s' m args below meth c T locs cells slots) (hx : p.tables.exec = Jvm.exec) {pc q : Nat} {Ls : Array Slot} {rest : List Value} (hd : decode c.code pc = .ok (.irem, 1)) {x y : Int32} (hy : y ≠ 0) (hq : pc + 1 = q) (h : own_End p e below s Q K N (T.setTop (mkF m q Ls (.int (x % y) :: rest))) E) : own_End p e below s Q K N (T.setTop (mkF m pc Ls (.int y :: .int x :: rest))) E := by
  subst hq; exact own_back (fun _ k => iremM X hx rfl hd rfl hy k) h
theorem own_ldiv (X : Stand p l e R s' m args below meth c T locs cells slots) (hx : p.tables.exec = Jvm.exec) {pc q : Nat} {Ls : Array Slot} {rest : List Value} (hd : decode c.code pc = .ok (.ldiv, 1)) {x y : Int64} (hy : y ≠ 0) (hq : pc + 1 = q) (h : own_End p e below s Q K N (T.setTop (mkF m q Ls (.long (x / y) :: rest))) E) : own_End p e below s Q K N (T.setTop (mkF m pc Ls (.long y :: .long x :: rest))) E := by
  subst hq; exact own_back (fun _ k => XS.ldiv X.here hx rfl hd rfl hy k) h
theorem own_lrem (X : Stand p l e R s' m args below meth c T locs cells slots) (hx : p.tables.exec = Jvm.exec) {pc q : Nat} {Ls : Array Slot} {rest : List Value} (hd : decode c.code pc = .ok (.lrem, 1)) {x y : Int64} (hy : y ≠ 0) (hq : pc + 1 = q) (h : own_End p e below s Q K N (T.setTop (mkF m q Ls (.long (x - (x / y) * y) :: rest))) E) : own_End p e below s Q K N (T.setTop (mkF m pc Ls (.long y :: .long x :: rest))) E := by
  subst hq; exact own_back (fun _ k => XS.lrem X.here hx rfl hd rfl hy k) h
theorem own_ineg (X : Stand p l e R s' m args below meth c T locs cells slots) (hx : p.tables.exec = Jvm.exec) {pc q : Nat} {Ls : Array Slot} {rest : List Value} (hd : decode c.code pc = .ok (.ineg, 1)) {x : Int32} (hq : pc + 1 = q) (h : own_End p e below s Q K N (T.setTop (mkF m q Ls (.int (-x) :: rest))) E) : own_End p e below s Q K N (T.setTop (mkF m pc Ls (.int x :: rest))) E := by
  subst hq; exact own_back (fun _ k => XS.ineg X.here hx rfl hd rfl k) h
theorem own_lneg (X : Stand p l e R s' m args below meth c T locs cells slots) (hx : p.tables.exec = Jvm.exec) {pc q : Nat} {Ls : Array Slot} {rest : List Value} (hd : decode c.code pc = .ok (.lneg, 1)) {x : Int64} (hq : pc + 1 = q) (h : own_End p e below s Q K N (T.setTop (mkF m q Ls (.long (-x) :: rest))) E) : own_End p e below s Q K N (T.setTop (mkF m pc Ls (.long x :: rest))) E := by
  subst hq; exact own_back (fun _ k => XS.lneg X.here hx rfl hd rfl k) h
theorem own_i2l (X : Stand p l e R s' m args below meth c T locs cells slots) (hx : p.tables.exec = Jvm.exec) {pc q : Nat} {Ls : Array Slot} {rest : List Value} (hd : decode c.code pc = .ok (.i2l, 1)) {x : Int32} (hq : pc + 1 = q) (h : own_End p e below s Q K N (T.setTop (mkF m q Ls (.long (x.toInt64) :: rest))) E) : own_End p e below s Q K N (T.setTop (mkF m pc Ls (.int x :: rest))) E := by
  subst hq; exact own_back (fun _ k => XS.i2l X.here hx rfl hd rfl k) h
theorem own_l2i (X : Stand p l e R s' m args below meth c T locs cells slots) (hx : p.tables.exec = Jvm.exec) {pc q : Nat} {Ls : Array Slot} {rest : List Value} (hd : decode c.code pc = .ok (.l2i, 1)) {x : Int64} (hq : pc + 1 = q) (h : own_End p e below s Q K N (T.setTop (mkF m q Ls (.int (x.toInt32) :: rest))) E) : own_End p e below s Q K N (T.setTop (mkF m pc Ls (.long x :: rest))) E := by
  subst hq; exact own_back (fun _ k => XS.l2i X.here hx rfl hd rfl k) h
theorem own_i2c (X : Stand p l e R s' m args below meth c T locs cells slots) (hx : p.tables.exec = Jvm.exec) {pc q : Nat} {Ls : Array Slot} {rest : List Value} (hd : decode c.code pc = .ok (.i2c, 1)) {x : Int32} (hq : pc + 1 = q) (h : own_End p e below s Q K N (T.setTop (mkF m q Ls (.int (x.toUInt32.toUInt16.toUInt32.toInt32) :: rest))) E) : own_End p e below s Q K N (T.setTop (mkF m pc Ls (.int x :: rest))) E := by
  subst hq; exact own_back (fun _ k => XS.i2c X.here hx rfl hd rfl k) h
theorem own_i2b (X : Stand p l e R s' m args below meth c T locs cells slots) (hx : p.tables.exec = Jvm.exec) {pc q : Nat} {Ls : Array Slot} {rest : List Value} (hd : decode c.code pc = .ok (.i2b, 1)) {x : Int32} (hq : pc + 1 = q) (h : own_End p e below s Q K N (T.setTop (mkF m q Ls (.int (x.toInt8.toInt32) :: rest))) E) : own_End p e below s Q K N (T.setTop (mkF m pc Ls (.int x :: rest))) E := by
  subst hq; exact own_back (fun _ k => XS.i2b X.here hx rfl hd rfl k) h
theorem own_i2s (X : Stand p l e R s' m args below meth c T locs cells slots) (hx : p.tables.exec = Jvm.exec) {pc q : Nat} {Ls : Array Slot} {rest : List Value} (hd : decode c.code pc = .ok (.i2s, 1)) {x : Int32} (hq : pc + 1 = q) (h : own_End p e below s Q K N (T.setTop (mkF m q Ls (.int (x.toInt16.toInt32) :: rest))) E) : own_End p e below s Q K N (T.setTop (mkF m pc Ls (.int x :: rest))) E := by
  subst hq; exact own_back (fun _ k => XS.i2s X.here hx rfl hd rfl k) h
theorem own_lcmp (X : Stand p l e R s' m args below meth c T locs cells slots) (hx : p.tables.exec = Jvm.exec) {pc q : Nat} {Ls : Array Slot} {rest : List Value} (hd : decode c.code pc = .ok (.lcmp, 1)) {x y : Int64} (hq : pc + 1 = q) (h : own_End p e below s Q K N (T.setTop (mkF m q Ls (.int (lcmpW x y) :: rest))) E) : own_End p e below s Q K N (T.setTop (mkF m pc Ls (.long y :: .long x :: rest))) E := by
  subst hq; exact own_back (fun _ k => XS.lcmp X.here hx rfl hd rfl k) h
theorem own_dup (X : Stand p l e R s' m args below meth c T locs cells slots) (hx : p.tables.exec = Jvm.exec) {pc q : Nat} {Ls : Array Slot} {rest : List Value} (hd : decode c.code pc = .ok (.dup, 1)) {v : Value} (hv : v.category = 1) (hq : pc + 1 = q) (h : own_End p e below s Q K N (T.setTop (mkF m q Ls (v :: v :: rest))) E) : own_End p e below s Q K N (T.setTop (mkF m pc Ls (v :: rest))) E := by
  subst hq; exact own_back (fun _ k => XS.dup X.here hx rfl hd rfl hv k) h
theorem own_dupx1 (X : Stand p l e R s' m args below meth c T locs cells slots) (hx : p.tables.exec = Jvm.exec) {pc q : Nat} {Ls : Array Slot} {rest : List Value} (hd : decode c.code pc = .ok (.dup_x1, 1)) {v w : Value} (hv : v.category = 1) (hw : w.category = 1) (hq : pc + 1 = q) (h : own_End p e below s Q K N (T.setTop (mkF m q Ls (v :: w :: v :: rest))) E) : own_End p e below s Q K N (T.setTop (mkF m pc Ls (v :: w :: rest))) E := by
  subst hq; exact own_back (fun _ k => XS.dupX1 X.here hx rfl hd rfl hv hw k) h
theorem own_pop (X : Stand p l e R s' m args below meth c T locs cells slots) (hx : p.tables.exec = Jvm.exec) {pc q : Nat} {Ls : Array Slot} {rest : List Value} (hd : decode c.code pc = .ok (.pop, 1)) {v : Value} (hv : v.category = 1) (hq : pc + 1 = q) (h : own_End p e below s Q K N (T.setTop (mkF m q Ls (rest))) E) : own_End p e below s Q K N (T.setTop (mkF m pc Ls (v :: rest))) E := by
  subst hq; exact own_back (fun _ k => XS.pop X.here hx rfl hd rfl hv k) h
theorem own_anull (X : Stand p l e R s' m args below meth c T locs cells slots) (hx : p.tables.exec = Jvm.exec) {pc q : Nat} {Ls : Array Slot} {rest : List Value} (hd : decode c.code pc = .ok (.aconst_null, 1))  (hq : pc + 1 = q) (h : own_End p e below s Q K N (T.setTop (mkF m q Ls (.null :: rest))) E) : own_End p e below s Q K N (T.setTop (mkF m pc Ls (rest))) E := by
  subst hq; exact own_back (fun _ k => XS.aconstNull X.here hx rfl hd k) h
theorem own_iload (X : Stand p l e R s' m args below meth c T locs cells slots) (hx : p.tables.exec = Jvm.exec) {pc q : Nat} {Ls : Array Slot} {rest : List Value} {k : Nat} {v : Int32} (hd : decode c.code pc = .ok (.iload k, 2)) (hl : Ls[k]? = some (.val (.int v))) (hq : pc + 2 = q) (h : own_End p e below s Q K N (T.setTop (mkF m q Ls (.int v :: rest))) E) : own_End p e below s Q K N (T.setTop (mkF m pc Ls (rest))) E := by
  subst hq; exact own_back (fun _ k => XS.iload X.here hx rfl hd hl k) h
theorem own_iloadN (X : Stand p l e R s' m args below meth c T locs cells slots) (hx : p.tables.exec = Jvm.exec) {pc q : Nat} {Ls : Array Slot} {rest : List Value} {k : Fin 4} {v : Int32} (hd : decode c.code pc = .ok (.iload_n k, 1)) (hl : Ls[k.val]? = some (.val (.int v))) (hq : pc + 1 = q) (h : own_End p e below s Q K N (T.setTop (mkF m q Ls (.int v :: rest))) E) : own_End p e below s Q K N (T.setTop (mkF m pc Ls (rest))) E := by
  subst hq; exact own_back (fun _ k => XS.iloadN X.here hx rfl hd hl k) h
theorem own_istore (X : Stand p l e R s' m args below meth c T locs cells slots) (hx : p.tables.exec = Jvm.exec) {pc q : Nat} {Ls : Array Slot} {rest : List Value} {k : Nat} {v : Int32} {l' : Array Slot} (hd : decode c.code pc = .ok (.istore k, 2)) (hl : storeLocals Ls k (.int v) = some l') (hq : pc + 2 = q) (h : own_End p e below s Q K N (T.setTop (mkF m q l' (rest))) E) : own_End p e below s Q K N (T.setTop (mkF m pc Ls (.int v :: rest))) E := by
  subst hq; exact own_back (fun _ k => XS.istore X.here hx rfl hd rfl hl k) h
theorem own_istoreN (X : Stand p l e R s' m args below meth c T locs cells slots) (hx : p.tables.exec = Jvm.exec) {pc q : Nat} {Ls : Array Slot} {rest : List Value} {k : Fin 4} {v : Int32} {l' : Array Slot} (hd : decode c.code pc = .ok (.istore_n k, 1)) (hl : storeLocals Ls k.val (.int v) = some l') (hq : pc + 1 = q) (h : own_End p e below s Q K N (T.setTop (mkF m q l' (rest))) E) : own_End p e below s Q K N (T.setTop (mkF m pc Ls (.int v :: rest))) E := by
  subst hq; exact own_back (fun _ k => XS.istoreN X.here hx rfl hd rfl hl k) h
theorem own_lload (X : Stand p l e R s' m args below meth c T locs cells slots) (hx : p.tables.exec = Jvm.exec) {pc q : Nat} {Ls : Array Slot} {rest : List Value} {k : Nat} {v : Int64} (hd : decode c.code pc = .ok (.lload k, 2)) (hl : Ls[k]? = some (.val (.long v))) (hq : pc + 2 = q) (h : own_End p e below s Q K N (T.setTop (mkF m q Ls (.long v :: rest))) E) : own_End p e below s Q K N (T.setTop (mkF m pc Ls (rest))) E := by
  subst hq; exact own_back (fun _ k => XS.lload X.here hx rfl hd hl k) h
theorem own_lloadN (X : Stand p l e R s' m args below meth c T locs cells slots) (hx : p.tables.exec = Jvm.exec) {pc q : Nat} {Ls : Array Slot} {rest : List Value} {k : Fin 4} {v : Int64} (hd : decode c.code pc = .ok (.lload_n k, 1)) (hl : Ls[k.val]? = some (.val (.long v))) (hq : pc + 1 = q) (h : own_End p e below s Q K N (T.setTop (mkF m q Ls (.long v :: rest))) E) : own_End p e below s Q K N (T.setTop (mkF m pc Ls (rest))) E := by
  subst hq; exact own_back (fun _ k => XS.lloadN X.here hx rfl hd hl k) h
theorem own_lstore (X : Stand p l e R s' m args below meth c T locs cells slots) (hx : p.tables.exec = Jvm.exec) {pc q : Nat} {Ls : Array Slot} {rest : List Value} {k : Nat} {v : Int64} {l' : Array Slot} (hd : decode c.code pc = .ok (.lstore k, 2)) (hl : storeLocals Ls k (.long v) = some l') (hq : pc + 2 = q) (h : own_End p e below s Q K N (T.setTop (mkF m q l' (rest))) E) : own_End p e below s Q K N (T.setTop (mkF m pc Ls (.long v :: rest))) E := by
  subst hq; exact own_back (fun _ k => XS.lstore X.here hx rfl hd rfl hl k) h
theorem own_lstoreN (X : Stand p l e R s' m args below meth c T locs cells slots) (hx : p.tables.exec = Jvm.exec) {pc q : Nat} {Ls : Array Slot} {rest : List Value} {k : Fin 4} {v : Int64} {l' : Array Slot} (hd : decode c.code pc = .ok (.lstore_n k, 1)) (hl : storeLocals Ls k.val (.long v) = some l') (hq : pc + 1 = q) (h : own_End p e below s Q K N (T.setTop (mkF m q l' (rest))) E) : own_End p e below s Q K N (T.setTop (mkF m pc Ls (.long v :: rest))) E := by
  subst hq; exact own_back (fun _ k => XS.lstoreN X.here hx rfl hd rfl hl k) h
theorem own_aload (X : Stand p l e R s' m args below meth c T locs cells slots) (hx : p.tables.exec = Jvm.exec) {pc q : Nat} {Ls : Array Slot} {rest : List Value} {k : Nat} {v : Value} (hd : decode c.code pc = .ok (.aload k, 2)) (hl : Ls[k]? = some (.val v)) (hv : v.isRef = true) (hq : pc + 2 = q) (h : own_End p e below s Q K N (T.setTop (mkF m q Ls (v :: rest))) E) : own_End p e below s Q K N (T.setTop (mkF m pc Ls (rest))) E := by
  subst hq; exact own_back (fun _ k => XS.aload X.here hx rfl hd hl hv k) h
theorem own_aloadN (X : Stand p l e R s' m args below meth c T locs cells slots) (hx : p.tables.exec = Jvm.exec) {pc q : Nat} {Ls : Array Slot} {rest : List Value} {k : Fin 4} {v : Value} (hd : decode c.code pc = .ok (.aload_n k, 1)) (hl : Ls[k.val]? = some (.val v)) (hv : v.isRef = true) (hq : pc + 1 = q) (h : own_End p e below s Q K N (T.setTop (mkF m q Ls (v :: rest))) E) : own_End p e below s Q K N (T.setTop (mkF m pc Ls (rest))) E := by
  subst hq; exact own_back (fun _ k => XS.aloadN X.here hx rfl hd hl hv k) h
theorem own_astore (X : Stand p l e R s' m args below meth c T locs cells slots) (hx : p.tables.exec = Jvm.exec) {pc q : Nat} {Ls : Array Slot} {rest : List Value} {k : Nat} {v : Value} {l' : Array Slot} (hd : decode c.code pc = .ok (.astore k, 2)) (hv : v.isRef = true) (hl : storeLocals Ls k v = some l') (hq : pc + 2 = q) (h : own_End p e below s Q K N (T.setTop (mkF m q l' (rest))) E) : own_End p e below s Q K N (T.setTop (mkF m pc Ls (v :: rest))) E := by
  subst hq; exact own_back (fun _ k => XS.astore X.here hx rfl hd rfl hv hl k) h
theorem own_astoreN (X : Stand p l e R s' m args below meth c T locs cells slots) (hx : p.tables.exec = Jvm.exec) {pc q : Nat} {Ls : Array Slot} {rest : List Value} {k : Fin 4} {v : Value} {l' : Array Slot} (hd : decode c.code pc = .ok (.astore_n k, 1)) (hv : v.isRef = true) (hl : storeLocals Ls k.val v = some l') (hq : pc + 1 = q) (h : own_End p e below s Q K N (T.setTop (mkF m q l' (rest))) E) : own_End p e below s Q K N (T.setTop (mkF m pc Ls (v :: rest))) E := by
  subst hq; exact own_back (fun _ k => XS.astoreN X.here hx rfl hd rfl hv hl k) h
theorem own_iinc (X : Stand p l e R s' m args below meth c T locs cells slots) (hx : p.tables.exec = Jvm.exec) {pc q : Nat} {Ls : Array Slot} {rest : List Value} {k : Nat} {cst : Int} {x z : Int32} {l' : Array Slot} (hd : decode c.code pc = .ok (.iinc k cst, 3)) (hl : Ls[k]? = some (.val (.int x))) (hz : Int32.ofInt cst = z) (hl' : storeLocals Ls k (.int (x + z)) = some l') (hq : pc + 3 = q) (h : own_End p e below s Q K N (T.setTop (mkF m q l' (rest))) E) : own_End p e below s Q K N (T.setTop (mkF m pc Ls (rest))) E := by
  subst hq hz; exact own_back (fun _ k => XS.iinc X.here hx rfl hd hl hl' k) h
theorem own_iconst (X : Stand p l e R s' m args below meth c T locs cells slots) (hx : p.tables.exec = Jvm.exec) {pc q : Nat} {Ls : Array Slot} {rest : List Value} {i : Int} {z : Int32} (hd : decode c.code pc = .ok (.iconst i, 1)) (hz : Int32.ofInt i = z) (hq : pc + 1 = q) (h : own_End p e below s Q K N (T.setTop (mkF m q Ls (.int z :: rest))) E) : own_End p e below s Q K N (T.setTop (mkF m pc Ls (rest))) E := by
  subst hq hz; exact own_back (fun _ k => XS.iconst X.here hx rfl hd k) h
theorem own_bipush (X : Stand p l e R s' m args below meth c T locs cells slots) (hx : p.tables.exec = Jvm.exec) {pc q : Nat} {Ls : Array Slot} {rest : List Value} {i : Int} {z : Int32} (hd : decode c.code pc = .ok (.bipush i, 2)) (hz : (Int8.ofInt i).toInt32 = z) (hq : pc + 2 = q) (h : own_End p e below s Q K N (T.setTop (mkF m q Ls (.int z :: rest))) E) : own_End p e below s Q K N (T.setTop (mkF m pc Ls (rest))) E := by
  subst hq hz; exact own_back (fun _ k => XS.bipush X.here hx rfl hd k) h
theorem own_sipush (X : Stand p l e R s' m args below meth c T locs cells slots) (hx : p.tables.exec = Jvm.exec) {pc q : Nat} {Ls : Array Slot} {rest : List Value} {i : Int} {z : Int32} (hd : decode c.code pc = .ok (.sipush i, 3)) (hz : (Int16.ofInt i).toInt32 = z) (hq : pc + 3 = q) (h : own_End p e below s Q K N (T.setTop (mkF m q Ls (.int z :: rest))) E) : own_End p e below s Q K N (T.setTop (mkF m pc Ls (rest))) E := by
  subst hq hz; exact own_back (fun _ k => XS.sipush X.here hx rfl hd k) h
theorem own_lconst (X : Stand p l e R s' m args below meth c T locs cells slots) (hx : p.tables.exec = Jvm.exec) {pc q : Nat} {Ls : Array Slot} {rest : List Value} {i : Fin 2} {z : Int64} (hd : decode c.code pc = .ok (.lconst i, 1)) (hz : Int64.ofNat i = z) (hq : pc + 1 = q) (h : own_End p e below s Q K N (T.setTop (mkF m q Ls (.long z :: rest))) E) : own_End p e below s Q K N (T.setTop (mkF m pc Ls (rest))) E := by
  subst hq hz; exact own_back (fun _ k => XS.lconst X.here hx rfl hd k) h
theorem own_goto (X : Stand p l e R s' m args below meth c T locs cells slots) (hx : p.tables.exec = Jvm.exec) {pc q : Nat} {Ls : Array Slot} {rest : List Value} {o : Int} (hd : decode c.code pc = .ok (.goto o, 3)) (ho : 0 ≤ (pc : Int) + o) (hp : ((pc : Int) + o).toNat = q) (h : own_End p e below s Q K N (T.setTop (mkF m q Ls (rest))) E) : own_End p e below s Q K N (T.setTop (mkF m pc Ls (rest))) E := by
  exact own_back (fun _ k => XS.goto X.here hx rfl (pc0 := pc) (pc' := q) rfl hd ho hp k) h
theorem own_ifY (X : Stand p l e R s' m args below meth c T locs cells slots) (hx : p.tables.exec = Jvm.exec) {pc q : Nat} {Ls : Array Slot} {rest : List Value} {cd : ClassFile.Cond} {x : Int32} {o : Int} (hd : decode c.code pc = .ok (.ifCond cd o, 3)) (hc : if_icmp.holds cd x 0 = true) (ho : 0 ≤ (pc : Int) + o) (hp : ((pc : Int) + o).toNat = q) (h : own_End p e below s Q K N (T.setTop (mkF m q Ls (rest))) E) : own_End p e below s Q K N (T.setTop (mkF m pc Ls (.int x :: rest))) E := by
  exact own_back (fun _ k => XS.ifYes X.here hx rfl (pc0 := pc) (pc' := q) rfl hd rfl ((if0 _ _).trans hc) ho hp k) h
theorem own_ifN (X : Stand p l e R s' m args below meth c T locs cells slots) (hx : p.tables.exec = Jvm.exec) {pc q : Nat} {Ls : Array Slot} {rest : List Value} {cd : ClassFile.Cond} {x : Int32} {o : Int} (hd : decode c.code pc = .ok (.ifCond cd o, 3)) (hc : if_icmp.holds cd x 0 = false) (hq : pc + 3 = q) (h : own_End p e below s Q K N (T.setTop (mkF m q Ls (rest))) E) : own_End p e below s Q K N (T.setTop (mkF m pc Ls (.int x :: rest))) E := by
  subst hq; exact own_back (fun _ k => XS.ifNo X.here hx rfl hd rfl ((if0 _ _).trans hc) k) h
theorem own_icY (X : Stand p l e R s' m args below meth c T locs cells slots) (hx : p.tables.exec = Jvm.exec) {pc q : Nat} {Ls : Array Slot} {rest : List Value} {cd : ClassFile.Cond} {x y : Int32} {o : Int} (hd : decode c.code pc = .ok (.if_icmp cd o, 3)) (hc : if_icmp.holds cd x y = true) (ho : 0 ≤ (pc : Int) + o) (hp : ((pc : Int) + o).toNat = q) (h : own_End p e below s Q K N (T.setTop (mkF m q Ls (rest))) E) : own_End p e below s Q K N (T.setTop (mkF m pc Ls (.int y :: .int x :: rest))) E := by
  exact own_back (fun _ k => XS.icmpYes X.here hx rfl (pc0 := pc) (pc' := q) rfl hd rfl hc ho hp k) h
theorem own_icN (X : Stand p l e R s' m args below meth c T locs cells slots) (hx : p.tables.exec = Jvm.exec) {pc q : Nat} {Ls : Array Slot} {rest : List Value} {cd : ClassFile.Cond} {x y : Int32} {o : Int} (hd : decode c.code pc = .ok (.if_icmp cd o, 3)) (hc : if_icmp.holds cd x y = false) (hq : pc + 3 = q) (h : own_End p e below s Q K N (T.setTop (mkF m q Ls (rest))) E) : own_End p e below s Q K N (T.setTop (mkF m pc Ls (.int y :: .int x :: rest))) E := by
  subst hq; exact own_back (fun _ k => XS.icmpNo X.here hx rfl hd rfl hc k) h
theorem own_lcY (X : Stand p l e R s' m args below meth c T locs cells slots) (hx : p.tables.exec = Jvm.exec) {pc r q : Nat} {Ls : Array Slot} {rest : List Value} {cd : ClassFile.Cond} {x y : Int64} {o : Int} (hd : decode c.code pc = .ok (.lcmp, 1)) (hr : pc + 1 = r) (hd' : decode c.code r = .ok (.ifCond cd o, 3)) (hc : if_icmp.holds cd (lcmpW x y) 0 = true) (ho : 0 ≤ (r : Int) + o) (hp : ((r : Int) + o).toNat = q) (h : own_End p e below s Q K N (T.setTop (mkF m q Ls (rest))) E) : own_End p e below s Q K N (T.setTop (mkF m pc Ls (.long y :: .long x :: rest))) E := own_lcmp X hx hd hr (own_ifY X hx hd' hc ho hp h)
theorem own_lcN (X : Stand p l e R s' m args below meth c T locs cells slots) (hx : p.tables.exec = Jvm.exec) {pc r q : Nat} {Ls : Array Slot} {rest : List Value} {cd : ClassFile.Cond} {x y : Int64} {o : Int} (hd : decode c.code pc = .ok (.lcmp, 1)) (hr : pc + 1 = r) (hd' : decode c.code r = .ok (.ifCond cd o, 3)) (hc : if_icmp.holds cd (lcmpW x y) 0 = false) (hq : r + 3 = q) (h : own_End p e below s Q K N (T.setTop (mkF m q Ls (rest))) E) : own_End p e below s Q K N (T.setTop (mkF m pc Ls (.long y :: .long x :: rest))) E := own_lcmp X hx hd hr (own_ifN X hx hd' hc hq h)
theorem own_tlt {x y : Int64} (h : x < y) : if_icmp.holds .lt (lcmpW x y) 0 = true ∧ if_icmp.holds .ge (lcmpW x y) 0 = false ∧ if_icmp.holds .gt (lcmpW y x) 0 = true ∧ if_icmp.holds .le (lcmpW y x) 0 = false :=
  ⟨(tlt ((lw_lt x y).mpr h)).1, (tlt ((lw_lt x y).mpr h)).2.1, (tlt ((lw_gt y x).mpr h)).2.2.1, (tlt ((lw_gt y x).mpr h)).2.2.2⟩
theorem own_flt {x y : Int64} (h : ¬ x < y) : if_icmp.holds .lt (lcmpW x y) 0 = false ∧ if_icmp.holds .ge (lcmpW x y) 0 = true ∧ if_icmp.holds .gt (lcmpW y x) 0 = false ∧ if_icmp.holds .le (lcmpW y x) 0 = true :=
  ⟨(flt (fun q => h ((lw_lt x y).mp q))).1, (flt (fun q => h ((lw_lt x y).mp q))).2.1, (flt (fun q => h ((lw_gt y x).mp q))).2.2.1, (flt (fun q => h ((lw_gt y x).mp q))).2.2.2⟩
theorem own_teq {x y : Int64} (h : x = y) : if_icmp.holds .eq (lcmpW x y) 0 = true ∧ if_icmp.holds .ne (lcmpW x y) 0 = false := teq ((lw_eq x y).mpr h)
theorem own_feq {x y : Int64} (h : ¬ x = y) : if_icmp.holds .eq (lcmpW x y) 0 = false ∧ if_icmp.holds .ne (lcmpW x y) 0 = true := feq (fun q => h ((lw_eq x y).mp q))
theorem own_retV (X : Stand p l e R s m args below meth c T locs cells slots) (hx : p.tables.exec = Jvm.exec) {pc : Nat} {Ls : Array Slot}  (hret : meth.sig.returnType = none) (hlk : meth.locks = false) (hc : cells ≤ K) (hs : slots ≤ N) (hd : decode c.code pc = .ok (.return_, 1)) (hQ : Q none T.heap locs) : own_End p e below s Q K N (T.setTop (mkF m pc Ls [])) := by
  obtain ⟨fs, hr, hrun, hended, hW, hsame⟩ := X.leave (v := none) (fun _ => rfl) hlk
  refine ⟨_, _, ?_, hrun, hended, _, _, rfl, hQ, ⟨_, rfl⟩, hW, hsame.mono hc hs⟩
  exact X.returnOut hx hret hd hr
theorem own_retI (X : Stand p l e R s m args below meth c T locs cells slots) (hx : p.tables.exec = Jvm.exec) {pc : Nat} {Ls : Array Slot} {rest : List Value} {z : Int32} (hret : meth.sig.returnType = some .int) (hlk : meth.locks = false) (hc : cells ≤ K) (hs : slots ≤ N) (hd : decode c.code pc = .ok (.ireturn, 1)) (hQ : Q (some (.int z)) T.heap locs) : own_End p e below s Q K N (T.setTop (mkF m pc Ls (.int z :: rest))) := by
  obtain ⟨fs, hr, hrun, hended, hW, hsame⟩ := X.leave (v := (some (.int z))) (fun h => by rw [hret] at h; cases h) hlk
  refine ⟨_, _, ?_, hrun, hended, _, _, rfl, hQ, ⟨_, rfl⟩, hW, hsame.mono hc hs⟩
  have hm' : T.vm.method? m = some meth := X.method'
  have hn : narrow .int (.int z) = .int z := rfl
  show Steps p.tables e below (T.setTop { method := m, pc := pc, locals := Ls, stack := _ :: rest, locked := none }) _
  jvm_step X.here [X.here.top, hx, hd, hm', hret, hn]
  first | (intro acts; rw [hr _ acts rfl rfl rfl]) | rw [hr _ _ rfl rfl rfl]
  exact Steps.refl _
theorem own_retJ (X : Stand p l e R s m args below meth c T locs cells slots) (hx : p.tables.exec = Jvm.exec) {pc : Nat} {Ls : Array Slot} {rest : List Value} {z : Int64} (hret : meth.sig.returnType = some .long) (hlk : meth.locks = false) (hc : cells ≤ K) (hs : slots ≤ N) (hd : decode c.code pc = .ok (.lreturn, 1)) (hQ : Q (some (.long z)) T.heap locs) : own_End p e below s Q K N (T.setTop (mkF m pc Ls (.long z :: rest))) := by
  obtain ⟨fs, hr, hrun, hended, hW, hsame⟩ := X.leave (v := (some (.long z))) (fun h => by rw [hret] at h; cases h) hlk
  refine ⟨_, _, ?_, hrun, hended, _, _, rfl, hQ, ⟨_, rfl⟩, hW, hsame.mono hc hs⟩
  have hm' : T.vm.method? m = some meth := X.method'
  have hn : narrow .long (.long z) = .long z := rfl
  show Steps p.tables e below (T.setTop { method := m, pc := pc, locals := Ls, stack := _ :: rest, locked := none }) _
  jvm_step X.here [X.here.top, hx, hd, hm', hret, hn]
  first | (intro acts; rw [hr _ acts rfl rfl rfl]) | rw [hr _ _ rfl rfl rfl]
  exact Steps.refl _
theorem own_retN (X : Stand p l e R s m args below meth c T locs cells slots) (hx : p.tables.exec = Jvm.exec) {pc : Nat} {Ls : Array Slot} {rest : List Value} {z : Int32} {t : FieldType} (ht : t = .boolean ∨ t = .byte ∨ t = .char ∨ t = .short) (hret : meth.sig.returnType = some t) (hlk : meth.locks = false) (hc : cells ≤ K) (hs : slots ≤ N) (hd : decode c.code pc = .ok (.ireturn, 1)) (hQ : Q (some (.int (nar t z))) T.heap locs) : own_End p e below s Q K N (T.setTop (mkF m pc Ls (.int z :: rest))) := by
  obtain ⟨fs, hr, hrun, hended, hW, hsame⟩ := X.leave (v := (some (.int (nar t z)))) (fun h => by rw [hret] at h; cases h) hlk
  refine ⟨_, _, ?_, hrun, hended, _, _, rfl, hQ, ⟨_, rfl⟩, hW, hsame.mono hc hs⟩
  exact retN X hx hret ht hd hr
theorem own_b (P : Prop) [Decidable P] : nar .boolean (if P then (1 : Int32) else 0) = if P then (1 : Int32) else 0 := by
  split <;> rfl
end Own
theorem own_d2_0 : decode jdk_30_method_1_code 0 = .ok (.aload_n 0, 1) := by decide +kernel
theorem own_d2_1 : decode jdk_30_method_1_code 1 = .ok (.invokespecial 1, 3) := by decide +kernel
theorem own_d2_4 : decode jdk_30_method_1_code 4 = .ok (.return_, 1) := by decide +kernel
def own_Q2 (Z : State) (o0 : Addr) (h0 : Heap) (n0 : Nat) (v : Option Value) (h : Heap) (L : List Loc) : Prop := v = none ∧ Fr n0 L ∧ h = h0
theorem own_pn_rm2 : plainName "java/lang/Record" = true := by first | (simp [plainName, overriddenIn]; done) | decide +kernel
theorem own_ef_rm2 (m : MethodId) (o0 : Addr) : entryFrame m #[(.ref o0)] 1 = mkF m 0 #[.val (.ref o0)] [] := by first | (simp [entryFrame, mkF, argsToLocals, Value.category]; done) | rfl
set_option maxRecDepth 65536 in
set_option maxHeartbeats 40000000 in
theorem own_rm2 (l : Launch) (Z : State) (a0 : Array Value) (hw : ∀ d ∈ tables_1, d.before a0 Z = true) (ws : List Jvm.Cond) (o0 : Addr) (h0 : Heap) (n0 : Nat) (Z0 : n0 ≤ h0.size) :
    MetFree l (⟨"java/lang/Record", "<init>", "()V"⟩ : MethodName) (head1 (Jvm.Cond.code (⟨"java/lang/Record", "<init>", "()V"⟩ : MethodName) jdk_30_method_1_code 1 none :: ws) ({ frames := 1, cells := 0, slots := 0, locals := 12 } : Room)) (fun a U => a = #[(.ref o0)] ∧ Z.Warmed39 U.vm ∧ U.heap = h0) (fun _ _ _ _ _ => True) (fun _ U o U' => ∃ v L, o = .returned v ∧ own_Q2 Z o0 h0 n0 v U'.heap L ∧ FrameEnd U o U' L ({ frames := 1, cells := 0, slots := 0, locals := 12 } : Room).cells ({ frames := 1, cells := 0, slots := 0, locals := 12 } : Room).slots) := by
  refine MetFree.of_bodySF (plainFor_of_name own_pn_rm2) hisR ?_
  intro p e s m args below meth c s₁ Bd hml0 hP hK
  obtain ⟨rfl, hZ, hh⟩ := hP
  have hx := Bd.exec
  have hby := Bd.bytes
  have hml : c.maxLocals = 1 := hml0
  have hown : s.vm.findClass "java/lang/Record" = some m.cls := findClass_of_methodNamed Bd.named
  have hnm := (name_of_methodNamed Bd.named Bd.method).1
  have X0 : Stand p l e ({ frames := 1, cells := 0, slots := 0, locals := 12 } : Room) s m #[(.ref o0)] below meth c s₁ [] 0 0 := Stand.of_body Bd
  have e0 : s₁.heap = h0 := by rw [← hh, Bd.state]; rfl
  have N0 := Fr.nil n0
  show own_End p e below s (own_Q2 Z o0 h0 n0) ({ frames := 1, cells := 0, slots := 0, locals := 12 } : Room).cells ({ frames := 1, cells := 0, slots := 0, locals := 12 } : Room).slots (s₁.setTop (entryFrame m #[(.ref o0)] 1))
  rw [own_ef_rm2]
  refine own_aloadN X0 hx (hb hby own_d2_0) rfl rfl (q := 1) rfl ?_
  obtain ⟨T1, X1, e1, st1⟩ := initO X0 hx hZ hown (hw _ (List.mem_of_getElem? (i := 11) rfl)) (hw _ (List.mem_of_getElem? (i := 12) rfl)) (hw _ (List.mem_of_getElem? (i := 13) rfl)) e0 (g := (mkF m 1 #[.val (.ref o0)] [(.ref o0)])) rfl (by rw [hml]; rfl) rfl (hb hby own_d2_1) (by decide) (W := 0) (by show 2 * 0 + _ ≤ _; exact Nat.le_of_eq rfl) (by decide)
  refine own_back st1 ?_
  show own_End p e below s _ _ _ (T1.setTop (mkF m 4 #[.val (.ref o0)] []))
  refine own_retV X1 hx Bd.returns Bd.notSynchronized (by decide) (by decide) (hb hby own_d2_4) ?_
  show own_Q2 Z o0 h0 n0 _ T1.heap _
  exact ⟨rfl, N0, e1⟩
theorem own_d1_0 : decode prog_3_method_1_code 0 = .ok (.aload_n 0, 1) := by decide +kernel
theorem own_d1_1 : decode prog_3_method_1_code 1 = .ok (.invokespecial 1, 3) := by decide +kernel
theorem own_pd0 : parseMethodDescriptor "()V" = some ⟨[], none⟩ := by decide +kernel
theorem own_d1_4 : decode prog_3_method_1_code 4 = .ok (.aload_n 0, 1) := by decide +kernel
theorem own_d1_5 : decode prog_3_method_1_code 5 = .ok (.iload_n 1, 1) := by decide +kernel
theorem own_d1_6 : decode prog_3_method_1_code 6 = .ok (.putfield 7, 3) := by decide +kernel
theorem own_d1_9 : decode prog_3_method_1_code 9 = .ok (.aload_n 0, 1) := by decide +kernel
theorem own_d1_10 : decode prog_3_method_1_code 10 = .ok (.iload_n 2, 1) := by decide +kernel
theorem own_d1_11 : decode prog_3_method_1_code 11 = .ok (.putfield 13, 3) := by decide +kernel
theorem own_d1_14 : decode prog_3_method_1_code 14 = .ok (.aload_n 0, 1) := by decide +kernel
theorem own_d1_15 : decode prog_3_method_1_code 15 = .ok (.iload_n 3, 1) := by decide +kernel
theorem own_d1_16 : decode prog_3_method_1_code 16 = .ok (.putfield 16, 3) := by decide +kernel
theorem own_d1_19 : decode prog_3_method_1_code 19 = .ok (.aload_n 0, 1) := by decide +kernel
theorem own_d1_20 : decode prog_3_method_1_code 20 = .ok (.iload 4, 2) := by decide +kernel
theorem own_d1_22 : decode prog_3_method_1_code 22 = .ok (.putfield 19, 3) := by decide +kernel
theorem own_d1_25 : decode prog_3_method_1_code 25 = .ok (.aload_n 0, 1) := by decide +kernel
theorem own_d1_26 : decode prog_3_method_1_code 26 = .ok (.iload 5, 2) := by decide +kernel
theorem own_d1_28 : decode prog_3_method_1_code 28 = .ok (.putfield 22, 3) := by decide +kernel
theorem own_d1_31 : decode prog_3_method_1_code 31 = .ok (.return_, 1) := by decide +kernel
def own_Q1 (Z : State) (o0 : Addr) (p1 : Int32) (p2 : Int32) (p3 : Int32) (p4 : Int32) (p5 : Int32) (w_o0_field : Int32) (w_o0_component : Int32) (w_o0_repetition : Int32) (w_o0_escape : Int32) (w_o0_subcomponent : Int32) (h0 : Heap) (n0 : Nat) (v : Option Value) (h : Heap) (L : List Loc) : Prop := v = none ∧ Fr n0 L ∧ Keep h0 h [o0] ∧ Exa Z h o0 "com/example/renkei/renkei/codec/Delimiters" ∧ Fld Z h o0 "com/example/renkei/renkei/codec/Delimiters" "field" "C" (.int (p1.toUInt32.toUInt16.toUInt32.toInt32)) ∧ Fld Z h o0 "com/example/renkei/renkei/codec/Delimiters" "component" "C" (.int (p2.toUInt32.toUInt16.toUInt32.toInt32)) ∧ Fld Z h o0 "com/example/renkei/renkei/codec/Delimiters" "repetition" "C" (.int (p3.toUInt32.toUInt16.toUInt32.toInt32)) ∧ Fld Z h o0 "com/example/renkei/renkei/codec/Delimiters" "escape" "C" (.int (p4.toUInt32.toUInt16.toUInt32.toInt32)) ∧ Fld Z h o0 "com/example/renkei/renkei/codec/Delimiters" "subcomponent" "C" (.int (p5.toUInt32.toUInt16.toUInt32.toInt32))
theorem own_pn_rm1 : plainName "com/example/renkei/renkei/codec/Delimiters" = true := by first | (simp [plainName, overriddenIn]; done) | decide +kernel
theorem own_ef_rm1 (m : MethodId) (o0 : Addr) (p1 : Int32) (p2 : Int32) (p3 : Int32) (p4 : Int32) (p5 : Int32) : entryFrame m #[(.ref o0), (.int p1), (.int p2), (.int p3), (.int p4), (.int p5)] 6 = mkF m 0 #[.val (.ref o0), .val (.int p1), .val (.int p2), .val (.int p3), .val (.int p4), .val (.int p5)] [] := by first | (simp [entryFrame, mkF, argsToLocals, Value.category]; done) | rfl
set_option maxRecDepth 65536 in
set_option maxHeartbeats 40000000 in
theorem own_rm1 (l : Launch) (Z : State) (a0 : Array Value) (hw : ∀ d ∈ tables_1, d.before a0 Z = true) (ws : List Jvm.Cond) (o0 : Addr) (p1 : Int32) (p2 : Int32) (p3 : Int32) (p4 : Int32) (p5 : Int32) (w_o0_field : Int32) (w_o0_component : Int32) (w_o0_repetition : Int32) (w_o0_escape : Int32) (w_o0_subcomponent : Int32) (h0 : Heap) (n0 : Nat) (Z0 : n0 ≤ h0.size) (E_o0 : Exa Z h0 o0 "com/example/renkei/renkei/codec/Delimiters") (F_o0_field : Fld Z h0 o0 "com/example/renkei/renkei/codec/Delimiters" "field" "C" (.int w_o0_field)) (F_o0_component : Fld Z h0 o0 "com/example/renkei/renkei/codec/Delimiters" "component" "C" (.int w_o0_component)) (F_o0_repetition : Fld Z h0 o0 "com/example/renkei/renkei/codec/Delimiters" "repetition" "C" (.int w_o0_repetition)) (F_o0_escape : Fld Z h0 o0 "com/example/renkei/renkei/codec/Delimiters" "escape" "C" (.int w_o0_escape)) (F_o0_subcomponent : Fld Z h0 o0 "com/example/renkei/renkei/codec/Delimiters" "subcomponent" "C" (.int w_o0_subcomponent)) (g_o0 : n0 ≤ o0) :
    MetFree l (⟨"com/example/renkei/renkei/codec/Delimiters", "<init>", "(CCCCC)V"⟩ : MethodName) (head1 (Jvm.Cond.code (⟨"com/example/renkei/renkei/codec/Delimiters", "<init>", "(CCCCC)V"⟩ : MethodName) prog_3_method_1_code 6 none :: ws) ({ frames := 2, cells := 0, slots := 0, locals := 24 } : Room)) (fun a U => a = #[(.ref o0), (.int p1), (.int p2), (.int p3), (.int p4), (.int p5)] ∧ Z.Warmed39 U.vm ∧ U.heap = h0) (fun _ _ _ _ _ => True) (fun _ U o U' => ∃ v L, o = .returned v ∧ own_Q1 Z o0 p1 p2 p3 p4 p5 w_o0_field w_o0_component w_o0_repetition w_o0_escape w_o0_subcomponent h0 n0 v U'.heap L ∧ FrameEnd U o U' L ({ frames := 2, cells := 0, slots := 0, locals := 24 } : Room).cells ({ frames := 2, cells := 0, slots := 0, locals := 24 } : Room).slots) := by
  refine MetFree.of_bodySF (plainFor_of_name own_pn_rm1) hisR ?_
  intro p e s m args below meth c s₁ Bd hml0 hP hK
  obtain ⟨rfl, hZ, hh⟩ := hP
  have hx := Bd.exec
  have hby := Bd.bytes
  have hml : c.maxLocals = 6 := hml0
  have hown : s.vm.findClass "com/example/renkei/renkei/codec/Delimiters" = some m.cls := findClass_of_methodNamed Bd.named
  have hnm := (name_of_methodNamed Bd.named Bd.method).1
  have X0 : Stand p l e ({ frames := 2, cells := 0, slots := 0, locals := 24 } : Room) s m #[(.ref o0), (.int p1), (.int p2), (.int p3), (.int p4), (.int p5)] below meth c s₁ [] 0 0 := Stand.of_body Bd
  have e0 : s₁.heap = h0 := by rw [← hh, Bd.state]; rfl
  have N0 := Fr.nil n0
  show own_End p e below s (own_Q1 Z o0 p1 p2 p3 p4 p5 w_o0_field w_o0_component w_o0_repetition w_o0_escape w_o0_subcomponent h0 n0) ({ frames := 2, cells := 0, slots := 0, locals := 24 } : Room).cells ({ frames := 2, cells := 0, slots := 0, locals := 24 } : Room).slots (s₁.setTop (entryFrame m #[(.ref o0), (.int p1), (.int p2), (.int p3), (.int p4), (.int p5)] 6))
  rw [own_ef_rm1]
  refine own_aloadN X0 hx (hb hby own_d1_0) rfl rfl (q := 1) rfl ?_
  obtain ⟨_, _, ⟨T3, L3, k3, n3⟩, -, X3, ⟨Lc3, hQ3, l3, y3, z3⟩, st3⟩ := X0.specialBack hx (y := (⟨"java/lang/Record", "<init>", "()V"⟩ : MethodName)) rfl hown (mvT hZ (hw _ (List.mem_of_getElem? (i := 6) rfl))) (mvT hZ (hw _ (List.mem_of_getElem? (i := 7) rfl))) (mvT hZ (hw _ (List.mem_of_getElem? (i := 10) rfl))) (by decide) (backOf (W := 0) (own_rm2 l Z a0 hw [] o0 h0 n0 Z0 ) hZ (hw _ (List.mem_of_getElem? (i := 10) rfl)) (hw _ (List.mem_of_getElem? (i := 9) rfl)) (by decide) (by decide)) (g := (mkF m 1 #[.val (.ref o0), .val (.int p1), .val (.int p2), .val (.int p3), .val (.int p4), .val (.int p5)] [(.ref o0)])) rfl (by rw [hml]; rfl) (Steps.refl _) (a := o0) (argsL := []) (rest := []) (lenOf own_pd0 rfl) rfl (by show 2 * 0 + _ ≤ _; exact Nat.le_of_eq rfl) (hb hby own_d1_1) (fun _ _ => ⟨rfl, e0, (by decide : 0 + 0 ≤ _), (by decide : 0 + 0 ≤ _)⟩)
  dsimp only [Pt.U, Pt.locs, Pt.cells, Pt.slots] at X3 l3 y3 z3 st3 hQ3
  subst l3 y3 z3
  obtain ⟨rfl, N3q, e3⟩ := hQ3
  have N3 := Fr.app N0 N3q
  refine own_via st3 ?_
  show own_End p e below s _ _ _ (T3.setTop (mkF m 4 #[.val (.ref o0), .val (.int p1), .val (.int p2), .val (.int p3), .val (.int p4), .val (.int p5)] []))
  refine own_aloadN X3 hx (hb hby own_d1_4) rfl rfl (q := 5) rfl ?_
  refine own_iloadN X3 hx (hb hby own_d1_5) rfl (q := 6) rfl ?_
  obtain ⟨T4, h4, X4, e4, W4, st4⟩ := putFN X3 hx hZ hown (hw _ (List.mem_of_getElem? (i := 14) rfl)) Via.refl e3 F_o0_field E_o0 (Or.inr ⟨(hw _ (List.mem_of_getElem? (i := 15) rfl)), rfl, hnm⟩) (hw _ (List.mem_of_getElem? (i := 1) rfl)) (ty := .char) (v' := (.int (p1.toUInt32.toUInt16.toUInt32.toInt32))) (by decide) rfl (fits_nar_char _) (g := (mkF m 6 #[.val (.ref o0), .val (.int p1), .val (.int p2), .val (.int p3), .val (.int p4), .val (.int p5)] [(.int p1), (.ref o0)])) rfl rfl (hb hby own_d1_6)
  have F_o0_field_4 := F_o0_field.same W4
  have E_o0_5 := E_o0.wr W4
  have F_o0_component_6 := F_o0_component.other W4 (Or.inr (slot_ne (Or.inr (hw _ (List.mem_of_getElem? (i := 17) rfl))) (Or.inr (hw _ (List.mem_of_getElem? (i := 15) rfl))) (by decide) (t := .char) (t' := .char) (by decide) (by decide)))
  have F_o0_repetition_7 := F_o0_repetition.other W4 (Or.inr (slot_ne (Or.inr (hw _ (List.mem_of_getElem? (i := 19) rfl))) (Or.inr (hw _ (List.mem_of_getElem? (i := 15) rfl))) (by decide) (t := .char) (t' := .char) (by decide) (by decide)))
  have F_o0_escape_8 := F_o0_escape.other W4 (Or.inr (slot_ne (Or.inr (hw _ (List.mem_of_getElem? (i := 21) rfl))) (Or.inr (hw _ (List.mem_of_getElem? (i := 15) rfl))) (by decide) (t := .char) (t' := .char) (by decide) (by decide)))
  have F_o0_subcomponent_9 := F_o0_subcomponent.other W4 (Or.inr (slot_ne (Or.inr (hw _ (List.mem_of_getElem? (i := 23) rfl))) (Or.inr (hw _ (List.mem_of_getElem? (i := 15) rfl))) (by decide) (t := .char) (t' := .char) (by decide) (by decide)))
  have Kp10 : Keep h0 _ [o0] := (Keep.refl h0 [o0]).wr W4 (Or.inl (List.mem_of_getElem? (i := 0) rfl))
  have Z11 := Nat.le_trans Z0 (Keep.of_wr W4).1
  have N4 := Fr.snoc X4 N3 g_o0
  refine own_back st4 ?_
  show own_End p e below s _ _ _ (T4.setTop (mkF m 9 #[.val (.ref o0), .val (.int p1), .val (.int p2), .val (.int p3), .val (.int p4), .val (.int p5)] []))
  refine own_aloadN X4 hx (hb hby own_d1_9) rfl rfl (q := 10) rfl ?_
  refine own_iloadN X4 hx (hb hby own_d1_10) rfl (q := 11) rfl ?_
  obtain ⟨T12, h12, X12, e12, W12, st12⟩ := putFN X4 hx hZ hown (hw _ (List.mem_of_getElem? (i := 16) rfl)) Via.refl e4 F_o0_component_6 E_o0_5 (Or.inr ⟨(hw _ (List.mem_of_getElem? (i := 17) rfl)), rfl, hnm⟩) (hw _ (List.mem_of_getElem? (i := 1) rfl)) (ty := .char) (v' := (.int (p2.toUInt32.toUInt16.toUInt32.toInt32))) (by decide) rfl (fits_nar_char _) (g := (mkF m 11 #[.val (.ref o0), .val (.int p1), .val (.int p2), .val (.int p3), .val (.int p4), .val (.int p5)] [(.int p2), (.ref o0)])) rfl rfl (hb hby own_d1_11)
  have F_o0_component_12 := F_o0_component_6.same W12
  have E_o0_13 := E_o0_5.wr W12
  have F_o0_field_14 := F_o0_field_4.other W12 (Or.inr (slot_ne (Or.inr (hw _ (List.mem_of_getElem? (i := 15) rfl))) (Or.inr (hw _ (List.mem_of_getElem? (i := 17) rfl))) (by decide) (t := .char) (t' := .char) (by decide) (by decide)))
  have F_o0_repetition_15 := F_o0_repetition_7.other W12 (Or.inr (slot_ne (Or.inr (hw _ (List.mem_of_getElem? (i := 19) rfl))) (Or.inr (hw _ (List.mem_of_getElem? (i := 17) rfl))) (by decide) (t := .char) (t' := .char) (by decide) (by decide)))
  have F_o0_escape_16 := F_o0_escape_8.other W12 (Or.inr (slot_ne (Or.inr (hw _ (List.mem_of_getElem? (i := 21) rfl))) (Or.inr (hw _ (List.mem_of_getElem? (i := 17) rfl))) (by decide) (t := .char) (t' := .char) (by decide) (by decide)))
  have F_o0_subcomponent_17 := F_o0_subcomponent_9.other W12 (Or.inr (slot_ne (Or.inr (hw _ (List.mem_of_getElem? (i := 23) rfl))) (Or.inr (hw _ (List.mem_of_getElem? (i := 17) rfl))) (by decide) (t := .char) (t' := .char) (by decide) (by decide)))
  have Kp18 : Keep h0 _ [o0] := Kp10.wr W12 (Or.inl (List.mem_of_getElem? (i := 0) rfl))
  have Z19 := Nat.le_trans Z11 (Keep.of_wr W12).1
  have N12 := Fr.snoc X12 N4 g_o0
  refine own_back st12 ?_
  show own_End p e below s _ _ _ (T12.setTop (mkF m 14 #[.val (.ref o0), .val (.int p1), .val (.int p2), .val (.int p3), .val (.int p4), .val (.int p5)] []))
  refine own_aloadN X12 hx (hb hby own_d1_14) rfl rfl (q := 15) rfl ?_
  refine own_iloadN X12 hx (hb hby own_d1_15) rfl (q := 16) rfl ?_
  obtain ⟨T20, h20, X20, e20, W20, st20⟩ := putFN X12 hx hZ hown (hw _ (List.mem_of_getElem? (i := 18) rfl)) Via.refl e12 F_o0_repetition_15 E_o0_13 (Or.inr ⟨(hw _ (List.mem_of_getElem? (i := 19) rfl)), rfl, hnm⟩) (hw _ (List.mem_of_getElem? (i := 1) rfl)) (ty := .char) (v' := (.int (p3.toUInt32.toUInt16.toUInt32.toInt32))) (by decide) rfl (fits_nar_char _) (g := (mkF m 16 #[.val (.ref o0), .val (.int p1), .val (.int p2), .val (.int p3), .val (.int p4), .val (.int p5)] [(.int p3), (.ref o0)])) rfl rfl (hb hby own_d1_16)
  have F_o0_repetition_20 := F_o0_repetition_15.same W20
  have E_o0_21 := E_o0_13.wr W20
  have F_o0_field_22 := F_o0_field_14.other W20 (Or.inr (slot_ne (Or.inr (hw _ (List.mem_of_getElem? (i := 15) rfl))) (Or.inr (hw _ (List.mem_of_getElem? (i := 19) rfl))) (by decide) (t := .char) (t' := .char) (by decide) (by decide)))
  have F_o0_component_23 := F_o0_component_12.other W20 (Or.inr (slot_ne (Or.inr (hw _ (List.mem_of_getElem? (i := 17) rfl))) (Or.inr (hw _ (List.mem_of_getElem? (i := 19) rfl))) (by decide) (t := .char) (t' := .char) (by decide) (by decide)))
  have F_o0_escape_24 := F_o0_escape_16.other W20 (Or.inr (slot_ne (Or.inr (hw _ (List.mem_of_getElem? (i := 21) rfl))) (Or.inr (hw _ (List.mem_of_getElem? (i := 19) rfl))) (by decide) (t := .char) (t' := .char) (by decide) (by decide)))
  have F_o0_subcomponent_25 := F_o0_subcomponent_17.other W20 (Or.inr (slot_ne (Or.inr (hw _ (List.mem_of_getElem? (i := 23) rfl))) (Or.inr (hw _ (List.mem_of_getElem? (i := 19) rfl))) (by decide) (t := .char) (t' := .char) (by decide) (by decide)))
  have Kp26 : Keep h0 _ [o0] := Kp18.wr W20 (Or.inl (List.mem_of_getElem? (i := 0) rfl))
  have Z27 := Nat.le_trans Z19 (Keep.of_wr W20).1
  have N20 := Fr.snoc X20 N12 g_o0
  refine own_back st20 ?_
  show own_End p e below s _ _ _ (T20.setTop (mkF m 19 #[.val (.ref o0), .val (.int p1), .val (.int p2), .val (.int p3), .val (.int p4), .val (.int p5)] []))
  refine own_aloadN X20 hx (hb hby own_d1_19) rfl rfl (q := 20) rfl ?_
  refine own_iload X20 hx (hb hby own_d1_20) rfl (q := 22) rfl ?_
  obtain ⟨T28, h28, X28, e28, W28, st28⟩ := putFN X20 hx hZ hown (hw _ (List.mem_of_getElem? (i := 20) rfl)) Via.refl e20 F_o0_escape_24 E_o0_21 (Or.inr ⟨(hw _ (List.mem_of_getElem? (i := 21) rfl)), rfl, hnm⟩) (hw _ (List.mem_of_getElem? (i := 1) rfl)) (ty := .char) (v' := (.int (p4.toUInt32.toUInt16.toUInt32.toInt32))) (by decide) rfl (fits_nar_char _) (g := (mkF m 22 #[.val (.ref o0), .val (.int p1), .val (.int p2), .val (.int p3), .val (.int p4), .val (.int p5)] [(.int p4), (.ref o0)])) rfl rfl (hb hby own_d1_22)
  have F_o0_escape_28 := F_o0_escape_24.same W28
  have E_o0_29 := E_o0_21.wr W28
  have F_o0_field_30 := F_o0_field_22.other W28 (Or.inr (slot_ne (Or.inr (hw _ (List.mem_of_getElem? (i := 15) rfl))) (Or.inr (hw _ (List.mem_of_getElem? (i := 21) rfl))) (by decide) (t := .char) (t' := .char) (by decide) (by decide)))
  have F_o0_component_31 := F_o0_component_23.other W28 (Or.inr (slot_ne (Or.inr (hw _ (List.mem_of_getElem? (i := 17) rfl))) (Or.inr (hw _ (List.mem_of_getElem? (i := 21) rfl))) (by decide) (t := .char) (t' := .char) (by decide) (by decide)))
  have F_o0_repetition_32 := F_o0_repetition_20.other W28 (Or.inr (slot_ne (Or.inr (hw _ (List.mem_of_getElem? (i := 19) rfl))) (Or.inr (hw _ (List.mem_of_getElem? (i := 21) rfl))) (by decide) (t := .char) (t' := .char) (by decide) (by decide)))
  have F_o0_subcomponent_33 := F_o0_subcomponent_25.other W28 (Or.inr (slot_ne (Or.inr (hw _ (List.mem_of_getElem? (i := 23) rfl))) (Or.inr (hw _ (List.mem_of_getElem? (i := 21) rfl))) (by decide) (t := .char) (t' := .char) (by decide) (by decide)))
  have Kp34 : Keep h0 _ [o0] := Kp26.wr W28 (Or.inl (List.mem_of_getElem? (i := 0) rfl))
  have Z35 := Nat.le_trans Z27 (Keep.of_wr W28).1
  have N28 := Fr.snoc X28 N20 g_o0
  refine own_back st28 ?_
  show own_End p e below s _ _ _ (T28.setTop (mkF m 25 #[.val (.ref o0), .val (.int p1), .val (.int p2), .val (.int p3), .val (.int p4), .val (.int p5)] []))
  refine own_aloadN X28 hx (hb hby own_d1_25) rfl rfl (q := 26) rfl ?_
  refine own_iload X28 hx (hb hby own_d1_26) rfl (q := 28) rfl ?_
  obtain ⟨T36, h36, X36, e36, W36, st36⟩ := putFN X28 hx hZ hown (hw _ (List.mem_of_getElem? (i := 22) rfl)) Via.refl e28 F_o0_subcomponent_33 E_o0_29 (Or.inr ⟨(hw _ (List.mem_of_getElem? (i := 23) rfl)), rfl, hnm⟩) (hw _ (List.mem_of_getElem? (i := 1) rfl)) (ty := .char) (v' := (.int (p5.toUInt32.toUInt16.toUInt32.toInt32))) (by decide) rfl (fits_nar_char _) (g := (mkF m 28 #[.val (.ref o0), .val (.int p1), .val (.int p2), .val (.int p3), .val (.int p4), .val (.int p5)] [(.int p5), (.ref o0)])) rfl rfl (hb hby own_d1_28)
  have F_o0_subcomponent_36 := F_o0_subcomponent_33.same W36
  have E_o0_37 := E_o0_29.wr W36
  have F_o0_field_38 := F_o0_field_30.other W36 (Or.inr (slot_ne (Or.inr (hw _ (List.mem_of_getElem? (i := 15) rfl))) (Or.inr (hw _ (List.mem_of_getElem? (i := 23) rfl))) (by decide) (t := .char) (t' := .char) (by decide) (by decide)))
  have F_o0_component_39 := F_o0_component_31.other W36 (Or.inr (slot_ne (Or.inr (hw _ (List.mem_of_getElem? (i := 17) rfl))) (Or.inr (hw _ (List.mem_of_getElem? (i := 23) rfl))) (by decide) (t := .char) (t' := .char) (by decide) (by decide)))
  have F_o0_repetition_40 := F_o0_repetition_32.other W36 (Or.inr (slot_ne (Or.inr (hw _ (List.mem_of_getElem? (i := 19) rfl))) (Or.inr (hw _ (List.mem_of_getElem? (i := 23) rfl))) (by decide) (t := .char) (t' := .char) (by decide) (by decide)))
  have F_o0_escape_41 := F_o0_escape_28.other W36 (Or.inr (slot_ne (Or.inr (hw _ (List.mem_of_getElem? (i := 21) rfl))) (Or.inr (hw _ (List.mem_of_getElem? (i := 23) rfl))) (by decide) (t := .char) (t' := .char) (by decide) (by decide)))
  have Kp42 : Keep h0 _ [o0] := Kp34.wr W36 (Or.inl (List.mem_of_getElem? (i := 0) rfl))
  have Z43 := Nat.le_trans Z35 (Keep.of_wr W36).1
  have N36 := Fr.snoc X36 N28 g_o0
  refine own_back st36 ?_
  show own_End p e below s _ _ _ (T36.setTop (mkF m 31 #[.val (.ref o0), .val (.int p1), .val (.int p2), .val (.int p3), .val (.int p4), .val (.int p5)] []))
  refine own_retV X36 hx Bd.returns Bd.notSynchronized (by decide) (by decide) (hb hby own_d1_31) ?_
  show own_Q1 Z o0 p1 p2 p3 p4 p5 w_o0_field w_o0_component w_o0_repetition w_o0_escape w_o0_subcomponent h0 n0 _ T36.heap _
  rw [e36]
  exact ⟨rfl, N36, Kp42, E_o0_37, F_o0_field_38, F_o0_component_39, F_o0_repetition_40, F_o0_escape_41, F_o0_subcomponent_36⟩
theorem own_d4_0 : decode prog_3_method_2_code 0 = .ok (.iload_n 1, 1) := by decide +kernel
theorem own_d4_1 : decode prog_3_method_2_code 1 = .ok (.aload_n 0, 1) := by decide +kernel
theorem own_d4_2 : decode prog_3_method_2_code 2 = .ok (.getfield 7, 3) := by decide +kernel
theorem own_d4_5 : decode prog_3_method_2_code 5 = .ok (.if_icmp .eq 35, 3) := by decide +kernel
theorem own_d4_40 : decode prog_3_method_2_code 40 = .ok (.iconst 1, 1) := by decide +kernel
theorem own_d4_41 : decode prog_3_method_2_code 41 = .ok (.goto 4, 3) := by decide +kernel
theorem own_d4_45 : decode prog_3_method_2_code 45 = .ok (.ireturn, 1) := by decide +kernel
theorem own_d4_8 : decode prog_3_method_2_code 8 = .ok (.iload_n 1, 1) := by decide +kernel
theorem own_d4_9 : decode prog_3_method_2_code 9 = .ok (.aload_n 0, 1) := by decide +kernel
theorem own_d4_10 : decode prog_3_method_2_code 10 = .ok (.getfield 13, 3) := by decide +kernel
theorem own_d4_13 : decode prog_3_method_2_code 13 = .ok (.if_icmp .eq 27, 3) := by decide +kernel
theorem own_d4_16 : decode prog_3_method_2_code 16 = .ok (.iload_n 1, 1) := by decide +kernel
theorem own_d4_17 : decode prog_3_method_2_code 17 = .ok (.aload_n 0, 1) := by decide +kernel
theorem own_d4_18 : decode prog_3_method_2_code 18 = .ok (.getfield 16, 3) := by decide +kernel
theorem own_d4_21 : decode prog_3_method_2_code 21 = .ok (.if_icmp .eq 19, 3) := by decide +kernel
theorem own_d4_24 : decode prog_3_method_2_code 24 = .ok (.iload_n 1, 1) := by decide +kernel
theorem own_d4_25 : decode prog_3_method_2_code 25 = .ok (.aload_n 0, 1) := by decide +kernel
theorem own_d4_26 : decode prog_3_method_2_code 26 = .ok (.getfield 19, 3) := by decide +kernel
theorem own_d4_29 : decode prog_3_method_2_code 29 = .ok (.if_icmp .eq 11, 3) := by decide +kernel
theorem own_d4_32 : decode prog_3_method_2_code 32 = .ok (.iload_n 1, 1) := by decide +kernel
theorem own_d4_33 : decode prog_3_method_2_code 33 = .ok (.aload_n 0, 1) := by decide +kernel
theorem own_d4_34 : decode prog_3_method_2_code 34 = .ok (.getfield 22, 3) := by decide +kernel
theorem own_d4_37 : decode prog_3_method_2_code 37 = .ok (.if_icmp .ne 7, 3) := by decide +kernel
theorem own_d4_44 : decode prog_3_method_2_code 44 = .ok (.iconst 0, 1) := by decide +kernel
def own_F4 (p1 : Int32) (w_o0_field : Int32) (w_o0_component : Int32) (w_o0_repetition : Int32) (w_o0_escape : Int32) (w_o0_subcomponent : Int32) : Int32 := (if p1 = w_o0_field then (1 : Int32) else (if p1 = w_o0_component then (1 : Int32) else (if p1 = w_o0_repetition then (1 : Int32) else (if p1 = w_o0_escape then (1 : Int32) else (if p1 = w_o0_subcomponent then (1 : Int32) else (0 : Int32))))))
def own_Q4 (Z : State) (o0 : Addr) (p1 : Int32) (w_o0_field : Int32) (w_o0_component : Int32) (w_o0_repetition : Int32) (w_o0_escape : Int32) (w_o0_subcomponent : Int32) (h0 : Heap) (n0 : Nat) (v : Option Value) (h : Heap) (L : List Loc) : Prop := v = some (.int (own_F4 p1 w_o0_field w_o0_component w_o0_repetition w_o0_escape w_o0_subcomponent)) ∧ Fr n0 L ∧ h = h0
theorem own_pn_rm4 : plainName "com/example/renkei/renkei/codec/Delimiters" = true := by first | (simp [plainName, overriddenIn]; done) | decide +kernel
theorem own_ef_rm4 (m : MethodId) (o0 : Addr) (p1 : Int32) : entryFrame m #[(.ref o0), (.int p1)] 2 = mkF m 0 #[.val (.ref o0), .val (.int p1)] [] := by first | (simp [entryFrame, mkF, argsToLocals, Value.category]; done) | rfl
set_option maxRecDepth 65536 in
set_option maxHeartbeats 40000000 in
theorem own_rm4 (l : Launch) (Z : State) (a0 : Array Value) (hw : ∀ d ∈ tables_1, d.before a0 Z = true) (ws : List Jvm.Cond) (o0 : Addr) (p1 : Int32) (w_o0_field : Int32) (w_o0_component : Int32) (w_o0_repetition : Int32) (w_o0_escape : Int32) (w_o0_subcomponent : Int32) (h0 : Heap) (n0 : Nat) (Z0 : n0 ≤ h0.size) (E_o0 : Exa Z h0 o0 "com/example/renkei/renkei/codec/Delimiters") (F_o0_field : Fld Z h0 o0 "com/example/renkei/renkei/codec/Delimiters" "field" "C" (.int w_o0_field)) (F_o0_component : Fld Z h0 o0 "com/example/renkei/renkei/codec/Delimiters" "component" "C" (.int w_o0_component)) (F_o0_repetition : Fld Z h0 o0 "com/example/renkei/renkei/codec/Delimiters" "repetition" "C" (.int w_o0_repetition)) (F_o0_escape : Fld Z h0 o0 "com/example/renkei/renkei/codec/Delimiters" "escape" "C" (.int w_o0_escape)) (F_o0_subcomponent : Fld Z h0 o0 "com/example/renkei/renkei/codec/Delimiters" "subcomponent" "C" (.int w_o0_subcomponent)) :
    MetFree l (⟨"com/example/renkei/renkei/codec/Delimiters", "contains", "(I)Z"⟩ : MethodName) (head1 (Jvm.Cond.code (⟨"com/example/renkei/renkei/codec/Delimiters", "contains", "(I)Z"⟩ : MethodName) prog_3_method_2_code 2 (some .boolean) :: ws) ({ frames := 0, cells := 0, slots := 0, locals := 0 } : Room)) (fun a U => a = #[(.ref o0), (.int p1)] ∧ Z.Warmed39 U.vm ∧ U.heap = h0) (fun _ _ _ _ _ => True) (fun _ U o U' => ∃ v L, o = .returned v ∧ own_Q4 Z o0 p1 w_o0_field w_o0_component w_o0_repetition w_o0_escape w_o0_subcomponent h0 n0 v U'.heap L ∧ FrameEnd U o U' L ({ frames := 0, cells := 0, slots := 0, locals := 0 } : Room).cells ({ frames := 0, cells := 0, slots := 0, locals := 0 } : Room).slots) := by
  refine MetFree.of_bodySF (plainFor_of_name own_pn_rm4) hisR ?_
  intro p e s m args below meth c s₁ Bd hml0 hP hK
  obtain ⟨rfl, hZ, hh⟩ := hP
  have hx := Bd.exec
  have hby := Bd.bytes
  have hml : c.maxLocals = 2 := hml0
  have hown : s.vm.findClass "com/example/renkei/renkei/codec/Delimiters" = some m.cls := findClass_of_methodNamed Bd.named
  have hnm := (name_of_methodNamed Bd.named Bd.method).1
  have X0 : Stand p l e ({ frames := 0, cells := 0, slots := 0, locals := 0 } : Room) s m #[(.ref o0), (.int p1)] below meth c s₁ [] 0 0 := Stand.of_body Bd
  have e0 : s₁.heap = h0 := by rw [← hh, Bd.state]; rfl
  have N0 := Fr.nil n0
  show own_End p e below s (own_Q4 Z o0 p1 w_o0_field w_o0_component w_o0_repetition w_o0_escape w_o0_subcomponent h0 n0) ({ frames := 0, cells := 0, slots := 0, locals := 0 } : Room).cells ({ frames := 0, cells := 0, slots := 0, locals := 0 } : Room).slots (s₁.setTop (entryFrame m #[(.ref o0), (.int p1)] 2))
  rw [own_ef_rm4]
  refine own_iloadN X0 hx (hb hby own_d4_0) rfl (q := 1) rfl ?_
  refine own_aloadN X0 hx (hb hby own_d4_1) rfl rfl (q := 2) rfl ?_
  obtain ⟨T45, X45, e45, st45⟩ := getF X0 hx hZ hown (host := "") (Or.inl (hw _ (List.mem_of_getElem? (i := 14) rfl))) Via.refl e0 F_o0_field (g := (mkF m 2 #[.val (.ref o0), .val (.int p1)] [(.ref o0), (.int p1)])) rfl rfl (hb hby own_d4_2)
  refine own_back st45 ?_
  show own_End p e below s _ _ _ (T45.setTop (mkF m 5 #[.val (.ref o0), .val (.int p1)] [(.int w_o0_field), (.int p1)]))
  by_cases hc5_46 : p1 = w_o0_field
  · refine own_icY X45 hx (hb hby own_d4_5) (teq hc5_46).1 (q := 40) (by decide) (by decide) ?_
    refine own_iconst X45 hx (hb hby own_d4_40) (z := 1) rfl (q := 41) rfl ?_
    refine own_goto X45 hx (hb hby own_d4_41) (q := 45) (by decide) (by decide) ?_
    refine own_retN X45 hx (t := .boolean) (by simp) Bd.returns Bd.notSynchronized (by decide) (by decide) (hb hby own_d4_45) ?_
    show own_Q4 Z o0 p1 w_o0_field w_o0_component w_o0_repetition w_o0_escape w_o0_subcomponent h0 n0 _ T45.heap _
    exact ⟨(by rw [show own_F4 p1 w_o0_field w_o0_component w_o0_repetition w_o0_escape w_o0_subcomponent = _ from (by simp only [own_F4, if_pos hc5_46] : _ = (1 : Int32))]; rfl), N0, e45⟩
  · refine own_icN X45 hx (hb hby own_d4_5) (feq hc5_46).1 (q := 8) rfl ?_
    refine own_iloadN X45 hx (hb hby own_d4_8) rfl (q := 9) rfl ?_
    refine own_aloadN X45 hx (hb hby own_d4_9) rfl rfl (q := 10) rfl ?_
    obtain ⟨T48, X48, e48, st48⟩ := getF X45 hx hZ hown (host := "") (Or.inl (hw _ (List.mem_of_getElem? (i := 16) rfl))) Via.refl e45 F_o0_component (g := (mkF m 10 #[.val (.ref o0), .val (.int p1)] [(.ref o0), (.int p1)])) rfl rfl (hb hby own_d4_10)
    refine own_back st48 ?_
    show own_End p e below s _ _ _ (T48.setTop (mkF m 13 #[.val (.ref o0), .val (.int p1)] [(.int w_o0_component), (.int p1)]))
    by_cases hc13_49 : p1 = w_o0_component
    · refine own_icY X48 hx (hb hby own_d4_13) (teq hc13_49).1 (q := 40) (by decide) (by decide) ?_
      refine own_iconst X48 hx (hb hby own_d4_40) (z := 1) rfl (q := 41) rfl ?_
      refine own_goto X48 hx (hb hby own_d4_41) (q := 45) (by decide) (by decide) ?_
      refine own_retN X48 hx (t := .boolean) (by simp) Bd.returns Bd.notSynchronized (by decide) (by decide) (hb hby own_d4_45) ?_
      show own_Q4 Z o0 p1 w_o0_field w_o0_component w_o0_repetition w_o0_escape w_o0_subcomponent h0 n0 _ T48.heap _
      exact ⟨(by rw [show own_F4 p1 w_o0_field w_o0_component w_o0_repetition w_o0_escape w_o0_subcomponent = _ from (by simp only [own_F4, if_neg hc5_46, if_pos hc13_49] : _ = (1 : Int32))]; rfl), N0, e48⟩
    · refine own_icN X48 hx (hb hby own_d4_13) (feq hc13_49).1 (q := 16) rfl ?_
      refine own_iloadN X48 hx (hb hby own_d4_16) rfl (q := 17) rfl ?_
      refine own_aloadN X48 hx (hb hby own_d4_17) rfl rfl (q := 18) rfl ?_
      obtain ⟨T51, X51, e51, st51⟩ := getF X48 hx hZ hown (host := "") (Or.inl (hw _ (List.mem_of_getElem? (i := 18) rfl))) Via.refl e48 F_o0_repetition (g := (mkF m 18 #[.val (.ref o0), .val (.int p1)] [(.ref o0), (.int p1)])) rfl rfl (hb hby own_d4_18)
      refine own_back st51 ?_
      show own_End p e below s _ _ _ (T51.setTop (mkF m 21 #[.val (.ref o0), .val (.int p1)] [(.int w_o0_repetition), (.int p1)]))
      by_cases hc21_52 : p1 = w_o0_repetition
      · refine own_icY X51 hx (hb hby own_d4_21) (teq hc21_52).1 (q := 40) (by decide) (by decide) ?_
        refine own_iconst X51 hx (hb hby own_d4_40) (z := 1) rfl (q := 41) rfl ?_
        refine own_goto X51 hx (hb hby own_d4_41) (q := 45) (by decide) (by decide) ?_
        refine own_retN X51 hx (t := .boolean) (by simp) Bd.returns Bd.notSynchronized (by decide) (by decide) (hb hby own_d4_45) ?_
        show own_Q4 Z o0 p1 w_o0_field w_o0_component w_o0_repetition w_o0_escape w_o0_subcomponent h0 n0 _ T51.heap _
        exact ⟨(by rw [show own_F4 p1 w_o0_field w_o0_component w_o0_repetition w_o0_escape w_o0_subcomponent = _ from (by simp only [own_F4, if_neg hc5_46, if_neg hc13_49, if_pos hc21_52] : _ = (1 : Int32))]; rfl), N0, e51⟩
      · refine own_icN X51 hx (hb hby own_d4_21) (feq hc21_52).1 (q := 24) rfl ?_
        refine own_iloadN X51 hx (hb hby own_d4_24) rfl (q := 25) rfl ?_
        refine own_aloadN X51 hx (hb hby own_d4_25) rfl rfl (q := 26) rfl ?_
        obtain ⟨T54, X54, e54, st54⟩ := getF X51 hx hZ hown (host := "") (Or.inl (hw _ (List.mem_of_getElem? (i := 20) rfl))) Via.refl e51 F_o0_escape (g := (mkF m 26 #[.val (.ref o0), .val (.int p1)] [(.ref o0), (.int p1)])) rfl rfl (hb hby own_d4_26)
        refine own_back st54 ?_
        show own_End p e below s _ _ _ (T54.setTop (mkF m 29 #[.val (.ref o0), .val (.int p1)] [(.int w_o0_escape), (.int p1)]))
        by_cases hc29_55 : p1 = w_o0_escape
        · refine own_icY X54 hx (hb hby own_d4_29) (teq hc29_55).1 (q := 40) (by decide) (by decide) ?_
          refine own_iconst X54 hx (hb hby own_d4_40) (z := 1) rfl (q := 41) rfl ?_
          refine own_goto X54 hx (hb hby own_d4_41) (q := 45) (by decide) (by decide) ?_
          refine own_retN X54 hx (t := .boolean) (by simp) Bd.returns Bd.notSynchronized (by decide) (by decide) (hb hby own_d4_45) ?_
          show own_Q4 Z o0 p1 w_o0_field w_o0_component w_o0_repetition w_o0_escape w_o0_subcomponent h0 n0 _ T54.heap _
          exact ⟨(by rw [show own_F4 p1 w_o0_field w_o0_component w_o0_repetition w_o0_escape w_o0_subcomponent = _ from (by simp only [own_F4, if_neg hc5_46, if_neg hc13_49, if_neg hc21_52, if_pos hc29_55] : _ = (1 : Int32))]; rfl), N0, e54⟩
        · refine own_icN X54 hx (hb hby own_d4_29) (feq hc29_55).1 (q := 32) rfl ?_
          refine own_iloadN X54 hx (hb hby own_d4_32) rfl (q := 33) rfl ?_
          refine own_aloadN X54 hx (hb hby own_d4_33) rfl rfl (q := 34) rfl ?_
          obtain ⟨T57, X57, e57, st57⟩ := getF X54 hx hZ hown (host := "") (Or.inl (hw _ (List.mem_of_getElem? (i := 22) rfl))) Via.refl e54 F_o0_subcomponent (g := (mkF m 34 #[.val (.ref o0), .val (.int p1)] [(.ref o0), (.int p1)])) rfl rfl (hb hby own_d4_34)
          refine own_back st57 ?_
          show own_End p e below s _ _ _ (T57.setTop (mkF m 37 #[.val (.ref o0), .val (.int p1)] [(.int w_o0_subcomponent), (.int p1)]))
          by_cases hc37_58 : p1 = w_o0_subcomponent
          · refine own_icN X57 hx (hb hby own_d4_37) (teq hc37_58).2 (q := 40) rfl ?_
            refine own_iconst X57 hx (hb hby own_d4_40) (z := 1) rfl (q := 41) rfl ?_
            refine own_goto X57 hx (hb hby own_d4_41) (q := 45) (by decide) (by decide) ?_
            refine own_retN X57 hx (t := .boolean) (by simp) Bd.returns Bd.notSynchronized (by decide) (by decide) (hb hby own_d4_45) ?_
            show own_Q4 Z o0 p1 w_o0_field w_o0_component w_o0_repetition w_o0_escape w_o0_subcomponent h0 n0 _ T57.heap _
            exact ⟨(by rw [show own_F4 p1 w_o0_field w_o0_component w_o0_repetition w_o0_escape w_o0_subcomponent = _ from (by simp only [own_F4, if_neg hc5_46, if_neg hc13_49, if_neg hc21_52, if_neg hc29_55, if_pos hc37_58] : _ = (1 : Int32))]; rfl), N0, e57⟩
          · refine own_icY X57 hx (hb hby own_d4_37) (feq hc37_58).2 (q := 44) (by decide) (by decide) ?_
            refine own_iconst X57 hx (hb hby own_d4_44) (z := 0) rfl (q := 45) rfl ?_
            refine own_retN X57 hx (t := .boolean) (by simp) Bd.returns Bd.notSynchronized (by decide) (by decide) (hb hby own_d4_45) ?_
            show own_Q4 Z o0 p1 w_o0_field w_o0_component w_o0_repetition w_o0_escape w_o0_subcomponent h0 n0 _ T57.heap _
            exact ⟨(by rw [show own_F4 p1 w_o0_field w_o0_component w_o0_repetition w_o0_escape w_o0_subcomponent = _ from (by simp only [own_F4, if_neg hc5_46, if_neg hc13_49, if_neg hc21_52, if_neg hc29_55, if_neg hc37_58] : _ = (0 : Int32))]; rfl), N0, e57⟩
theorem own_pd1 : parseMethodDescriptor "(CCCCC)V" = some ⟨[.char, .char, .char, .char, .char], none⟩ := by decide +kernel
theorem own_pd2 : parseMethodDescriptor "(I)Z" = some ⟨[.int], some .boolean⟩ := by decide +kernel
def own_M0_87 (p0 : Int32) (p1 : Int32) (p2 : Int32) (p3 : Int32) (p4 : Int32) : Int32 := (if (own_F4 (p4.toUInt32.toUInt16.toUInt32.toInt32) ((p0.toUInt32.toUInt16.toUInt32.toInt32).toUInt32.toUInt16.toUInt32.toInt32) ((p1.toUInt32.toUInt16.toUInt32.toInt32).toUInt32.toUInt16.toUInt32.toInt32) ((p2.toUInt32.toUInt16.toUInt32.toInt32).toUInt32.toUInt16.toUInt32.toInt32) ((p3.toUInt32.toUInt16.toUInt32.toInt32).toUInt32.toUInt16.toUInt32.toInt32) ((p4.toUInt32.toUInt16.toUInt32.toInt32).toUInt32.toUInt16.toUInt32.toInt32)) = (0 : Int32) then (0 : Int32) else (1 : Int32))
def own_M0_77 (p0 : Int32) (p1 : Int32) (p2 : Int32) (p3 : Int32) (p4 : Int32) : Int32 := (if (own_F4 (p3.toUInt32.toUInt16.toUInt32.toInt32) ((p0.toUInt32.toUInt16.toUInt32.toInt32).toUInt32.toUInt16.toUInt32.toInt32) ((p1.toUInt32.toUInt16.toUInt32.toInt32).toUInt32.toUInt16.toUInt32.toInt32) ((p2.toUInt32.toUInt16.toUInt32.toInt32).toUInt32.toUInt16.toUInt32.toInt32) ((p3.toUInt32.toUInt16.toUInt32.toInt32).toUInt32.toUInt16.toUInt32.toInt32) ((p4.toUInt32.toUInt16.toUInt32.toInt32).toUInt32.toUInt16.toUInt32.toInt32)) = (0 : Int32) then (0 : Int32) else (own_M0_87 p0 p1 p2 p3 p4))
def own_M0_67 (p0 : Int32) (p1 : Int32) (p2 : Int32) (p3 : Int32) (p4 : Int32) : Int32 := (if (own_F4 (p2.toUInt32.toUInt16.toUInt32.toInt32) ((p0.toUInt32.toUInt16.toUInt32.toInt32).toUInt32.toUInt16.toUInt32.toInt32) ((p1.toUInt32.toUInt16.toUInt32.toInt32).toUInt32.toUInt16.toUInt32.toInt32) ((p2.toUInt32.toUInt16.toUInt32.toInt32).toUInt32.toUInt16.toUInt32.toInt32) ((p3.toUInt32.toUInt16.toUInt32.toInt32).toUInt32.toUInt16.toUInt32.toInt32) ((p4.toUInt32.toUInt16.toUInt32.toInt32).toUInt32.toUInt16.toUInt32.toInt32)) = (0 : Int32) then (0 : Int32) else (own_M0_77 p0 p1 p2 p3 p4))
def own_M0_57 (p0 : Int32) (p1 : Int32) (p2 : Int32) (p3 : Int32) (p4 : Int32) : Int32 := (if (own_F4 (p1.toUInt32.toUInt16.toUInt32.toInt32) ((p0.toUInt32.toUInt16.toUInt32.toInt32).toUInt32.toUInt16.toUInt32.toInt32) ((p1.toUInt32.toUInt16.toUInt32.toInt32).toUInt32.toUInt16.toUInt32.toInt32) ((p2.toUInt32.toUInt16.toUInt32.toInt32).toUInt32.toUInt16.toUInt32.toInt32) ((p3.toUInt32.toUInt16.toUInt32.toInt32).toUInt32.toUInt16.toUInt32.toInt32) ((p4.toUInt32.toUInt16.toUInt32.toInt32).toUInt32.toUInt16.toUInt32.toInt32)) = (0 : Int32) then (0 : Int32) else (own_M0_67 p0 p1 p2 p3 p4))
def own_M0_47 (p0 : Int32) (p1 : Int32) (p2 : Int32) (p3 : Int32) (p4 : Int32) : Int32 := (if (own_F4 (p0.toUInt32.toUInt16.toUInt32.toInt32) ((p0.toUInt32.toUInt16.toUInt32.toInt32).toUInt32.toUInt16.toUInt32.toInt32) ((p1.toUInt32.toUInt16.toUInt32.toInt32).toUInt32.toUInt16.toUInt32.toInt32) ((p2.toUInt32.toUInt16.toUInt32.toInt32).toUInt32.toUInt16.toUInt32.toInt32) ((p3.toUInt32.toUInt16.toUInt32.toInt32).toUInt32.toUInt16.toUInt32.toInt32) ((p4.toUInt32.toUInt16.toUInt32.toInt32).toUInt32.toUInt16.toUInt32.toInt32)) = (0 : Int32) then (0 : Int32) else (own_M0_57 p0 p1 p2 p3 p4))
def own_M0_129 (p4 : Int32) (p5 : Int32) : Int32 := (if p5 = (p4.toUInt32.toUInt16.toUInt32.toInt32) then (1 : Int32) else (0 : Int32))
def own_M0_122 (p3 : Int32) (p4 : Int32) (p5 : Int32) : Int32 := (if p5 = (p3.toUInt32.toUInt16.toUInt32.toInt32) then (1 : Int32) else (own_M0_129 p4 p5))
def own_M0_115 (p2 : Int32) (p3 : Int32) (p4 : Int32) (p5 : Int32) : Int32 := (if p5 = (p2.toUInt32.toUInt16.toUInt32.toInt32) then (1 : Int32) else (own_M0_122 p3 p4 p5))
def own_M0_108 (p1 : Int32) (p2 : Int32) (p3 : Int32) (p4 : Int32) (p5 : Int32) : Int32 := (if p5 = (p1.toUInt32.toUInt16.toUInt32.toInt32) then (1 : Int32) else (own_M0_115 p2 p3 p4 p5))
def own_M0_101 (p0 : Int32) (p1 : Int32) (p2 : Int32) (p3 : Int32) (p4 : Int32) (p5 : Int32) : Int32 := (if p5 = (p0.toUInt32.toUInt16.toUInt32.toInt32) then (1 : Int32) else (own_M0_108 p1 p2 p3 p4 p5))
def own_M0_148 (p0 : Int32) (p1 : Int32) (p2 : Int32) (p3 : Int32) (p4 : Int32) (p5 : Int32) : Int32 := (if (own_F4 p5 ((p0.toUInt32.toUInt16.toUInt32.toInt32).toUInt32.toUInt16.toUInt32.toInt32) ((p1.toUInt32.toUInt16.toUInt32.toInt32).toUInt32.toUInt16.toUInt32.toInt32) ((p2.toUInt32.toUInt16.toUInt32.toInt32).toUInt32.toUInt16.toUInt32.toInt32) ((p3.toUInt32.toUInt16.toUInt32.toInt32).toUInt32.toUInt16.toUInt32.toInt32) ((p4.toUInt32.toUInt16.toUInt32.toInt32).toUInt32.toUInt16.toUInt32.toInt32)) = (own_M0_101 p0 p1 p2 p3 p4 p5) then (1 : Int32) else (0 : Int32))
def own_M0_168 (p0 : Int32) (p1 : Int32) (p2 : Int32) (p3 : Int32) (p4 : Int32) : Int32 := (if (own_F4 ((p4.toUInt32.toUInt16.toUInt32.toInt32) + (65536 : Int32)) ((p0.toUInt32.toUInt16.toUInt32.toInt32).toUInt32.toUInt16.toUInt32.toInt32) ((p1.toUInt32.toUInt16.toUInt32.toInt32).toUInt32.toUInt16.toUInt32.toInt32) ((p2.toUInt32.toUInt16.toUInt32.toInt32).toUInt32.toUInt16.toUInt32.toInt32) ((p3.toUInt32.toUInt16.toUInt32.toInt32).toUInt32.toUInt16.toUInt32.toInt32) ((p4.toUInt32.toUInt16.toUInt32.toInt32).toUInt32.toUInt16.toUInt32.toInt32)) = (0 : Int32) then (1 : Int32) else (0 : Int32))
def own_M0_188 (p0 : Int32) (p1 : Int32) (p2 : Int32) (p3 : Int32) (p4 : Int32) : Int32 := (if (own_F4 ((p0.toUInt32.toUInt16.toUInt32.toInt32) - (65536 : Int32)) ((p0.toUInt32.toUInt16.toUInt32.toInt32).toUInt32.toUInt16.toUInt32.toInt32) ((p1.toUInt32.toUInt16.toUInt32.toInt32).toUInt32.toUInt16.toUInt32.toInt32) ((p2.toUInt32.toUInt16.toUInt32.toInt32).toUInt32.toUInt16.toUInt32.toInt32) ((p3.toUInt32.toUInt16.toUInt32.toInt32).toUInt32.toUInt16.toUInt32.toInt32) ((p4.toUInt32.toUInt16.toUInt32.toInt32).toUInt32.toUInt16.toUInt32.toInt32)) = (0 : Int32) then (1 : Int32) else (0 : Int32))
def own_M0_215 (p0 : Int32) (p1 : Int32) (p2 : Int32) (p3 : Int32) (p4 : Int32) : Int32 := (if (own_M0_188 p0 p1 p2 p3 p4) = (0 : Int32) then (0 : Int32) else (1 : Int32))
def own_M0_210 (p0 : Int32) (p1 : Int32) (p2 : Int32) (p3 : Int32) (p4 : Int32) : Int32 := (if (own_M0_168 p0 p1 p2 p3 p4) = (0 : Int32) then (0 : Int32) else (own_M0_215 p0 p1 p2 p3 p4))
def own_M0_205 (p0 : Int32) (p1 : Int32) (p2 : Int32) (p3 : Int32) (p4 : Int32) (p5 : Int32) : Int32 := (if (own_M0_148 p0 p1 p2 p3 p4 p5) = (0 : Int32) then (0 : Int32) else (own_M0_210 p0 p1 p2 p3 p4))
def own_M0_200 (p0 : Int32) (p1 : Int32) (p2 : Int32) (p3 : Int32) (p4 : Int32) (p5 : Int32) : Int32 := (if (own_M0_47 p0 p1 p2 p3 p4) = (0 : Int32) then (0 : Int32) else (own_M0_205 p0 p1 p2 p3 p4 p5))
def own_Q0 (Z : State) (p0 : Int32) (p1 : Int32) (p2 : Int32) (p3 : Int32) (p4 : Int32) (p5 : Int32) (h0 : Heap) (n0 : Nat) (v : Option Value) (h : Heap) (L : List Loc) : Prop := v = some (.int ((own_M0_200 p0 p1 p2 p3 p4 p5) &&& 1)) ∧ Fr n0 L
theorem own_pn_rm0 : plainName "com/example/renkei/renkei/codec/DelimitersContainsPinLaw" = true := by first | (simp [plainName, overriddenIn]; done) | decide +kernel
theorem own_ef_rm0 (m : MethodId) (p0 : Int32) (p1 : Int32) (p2 : Int32) (p3 : Int32) (p4 : Int32) (p5 : Int32) : entryFrame m #[(.int p0), (.int p1), (.int p2), (.int p3), (.int p4), (.int p5)] maxLocals = mkF m 0 #[.val (.int p0), .val (.int p1), .val (.int p2), .val (.int p3), .val (.int p4), .val (.int p5), .unset, .unset, .unset, .unset, .unset, .unset, .unset, .unset, .unset, .unset, .unset] [] := by first | (simp [entryFrame, mkF, argsToLocals, Value.category, maxLocals]; done) | rfl
set_option maxRecDepth 65536 in
set_option maxHeartbeats 40000000 in
theorem own_rm0 (l : Launch) (Z : State) (a0 : Array Value) (hw : ∀ d ∈ tables_1, d.before a0 Z = true) (ws : List Jvm.Cond) (p0 : Int32) (p1 : Int32) (p2 : Int32) (p3 : Int32) (p4 : Int32) (p5 : Int32) (h0 : Heap) (n0 : Nat) (Z0 : n0 ≤ h0.size) :
    MetFree l x (head1 (Jvm.Cond.code x code maxLocals ret :: ws) room_1) (fun a U => a = #[(.int p0), (.int p1), (.int p2), (.int p3), (.int p4), (.int p5)] ∧ Z.Warmed39 U.vm ∧ U.heap = h0) (fun _ _ _ _ _ => True) (fun _ U o U' => ∃ v L, o = .returned v ∧ own_Q0 Z p0 p1 p2 p3 p4 p5 h0 n0 v U'.heap L ∧ FrameEnd U o U' L room_1.cells room_1.slots) := by
  refine MetFree.of_bodySF (plainFor_of_name own_pn_rm0) hisR ?_
  intro p e s m args below meth c s₁ Bd hml0 hP hK
  obtain ⟨rfl, hZ, hh⟩ := hP
  have hx := Bd.exec
  have hby := Bd.bytes
  have hml : c.maxLocals = 17 := hml0
  have hown : s.vm.findClass "com/example/renkei/renkei/codec/DelimitersContainsPinLaw" = some m.cls := findClass_of_methodNamed Bd.named
  have hnm := (name_of_methodNamed Bd.named Bd.method).1
  have X0 : Stand p l e room_1 s m #[(.int p0), (.int p1), (.int p2), (.int p3), (.int p4), (.int p5)] below meth c s₁ [] 0 0 := Stand.of_body Bd
  have e0 : s₁.heap = h0 := by rw [← hh, Bd.state]; rfl
  have N0 := Fr.nil n0
  show own_End p e below s (own_Q0 Z p0 p1 p2 p3 p4 p5 h0 n0) room_1.cells room_1.slots (s₁.setTop (entryFrame m #[(.int p0), (.int p1), (.int p2), (.int p3), (.int p4), (.int p5)] maxLocals))
  rw [own_ef_rm0]
  refine own_iloadN X0 hx (hb hby at_0) rfl (q := 1) rfl ?_
  refine own_i2c X0 hx (hb hby at_1) (q := 2) rfl ?_
  refine own_istore X0 hx (hb hby at_2) (l' := #[.val (.int p0), .val (.int p1), .val (.int p2), .val (.int p3), .val (.int p4), .val (.int p5), .val (.int (p0.toUInt32.toUInt16.toUInt32.toInt32)), .unset, .unset, .unset, .unset, .unset, .unset, .unset, .unset, .unset, .unset]) rfl (q := 4) rfl ?_
  refine own_iloadN X0 hx (hb hby at_4) rfl (q := 5) rfl ?_
  refine own_i2c X0 hx (hb hby at_5) (q := 6) rfl ?_
  refine own_istore X0 hx (hb hby at_6) (l' := #[.val (.int p0), .val (.int p1), .val (.int p2), .val (.int p3), .val (.int p4), .val (.int p5), .val (.int (p0.toUInt32.toUInt16.toUInt32.toInt32)), .val (.int (p1.toUInt32.toUInt16.toUInt32.toInt32)), .unset, .unset, .unset, .unset, .unset, .unset, .unset, .unset, .unset]) rfl (q := 8) rfl ?_
  refine own_iloadN X0 hx (hb hby at_8) rfl (q := 9) rfl ?_
  refine own_i2c X0 hx (hb hby at_9) (q := 10) rfl ?_
  refine own_istore X0 hx (hb hby at_10) (l' := #[.val (.int p0), .val (.int p1), .val (.int p2), .val (.int p3), .val (.int p4), .val (.int p5), .val (.int (p0.toUInt32.toUInt16.toUInt32.toInt32)), .val (.int (p1.toUInt32.toUInt16.toUInt32.toInt32)), .val (.int (p2.toUInt32.toUInt16.toUInt32.toInt32)), .unset, .unset, .unset, .unset, .unset, .unset, .unset, .unset]) rfl (q := 12) rfl ?_
  refine own_iloadN X0 hx (hb hby at_12) rfl (q := 13) rfl ?_
  refine own_i2c X0 hx (hb hby at_13) (q := 14) rfl ?_
  refine own_istore X0 hx (hb hby at_14) (l' := #[.val (.int p0), .val (.int p1), .val (.int p2), .val (.int p3), .val (.int p4), .val (.int p5), .val (.int (p0.toUInt32.toUInt16.toUInt32.toInt32)), .val (.int (p1.toUInt32.toUInt16.toUInt32.toInt32)), .val (.int (p2.toUInt32.toUInt16.toUInt32.toInt32)), .val (.int (p3.toUInt32.toUInt16.toUInt32.toInt32)), .unset, .unset, .unset, .unset, .unset, .unset, .unset]) rfl (q := 16) rfl ?_
  refine own_iload X0 hx (hb hby at_16) rfl (q := 18) rfl ?_
  refine own_i2c X0 hx (hb hby at_18) (q := 19) rfl ?_
  refine own_istore X0 hx (hb hby at_19) (l' := #[.val (.int p0), .val (.int p1), .val (.int p2), .val (.int p3), .val (.int p4), .val (.int p5), .val (.int (p0.toUInt32.toUInt16.toUInt32.toInt32)), .val (.int (p1.toUInt32.toUInt16.toUInt32.toInt32)), .val (.int (p2.toUInt32.toUInt16.toUInt32.toInt32)), .val (.int (p3.toUInt32.toUInt16.toUInt32.toInt32)), .val (.int (p4.toUInt32.toUInt16.toUInt32.toInt32)), .unset, .unset, .unset, .unset, .unset, .unset]) rfl (q := 21) rfl ?_
  obtain ⟨T61, h61, X61, e61, E61, A61, D61, -, st61⟩ := newO X0 hx hZ hown (hw _ (List.mem_of_getElem? (i := 0) rfl)) (hw _ (List.mem_of_getElem? (i := 1) rfl)) (hw _ (List.mem_of_getElem? (i := 2) rfl)) e0 (g := (mkF m 21 #[.val (.int p0), .val (.int p1), .val (.int p2), .val (.int p3), .val (.int p4), .val (.int p5), .val (.int (p0.toUInt32.toUInt16.toUInt32.toInt32)), .val (.int (p1.toUInt32.toUInt16.toUInt32.toInt32)), .val (.int (p2.toUInt32.toUInt16.toUInt32.toInt32)), .val (.int (p3.toUInt32.toUInt16.toUInt32.toInt32)), .val (.int (p4.toUInt32.toUInt16.toUInt32.toInt32)), .unset, .unset, .unset, .unset, .unset, .unset] [])) rfl (hb hby at_21) (by decide) (by decide)
  obtain ⟨b61, g61⟩ : ∃ z, z = h0.size := ⟨_, rfl⟩
  have g_b61 : n0 ≤ b61 := Nat.le_trans Z0 (Nat.le_of_eq g61.symm)
  have Z62 := Nat.le_trans Z0 E61.1
  rw [← g61] at A61 D61 st61
  have F_b61_field : Fld Z h61 b61 "com/example/renkei/renkei/codec/Delimiters" "field" "C" (.int (0 : Int32)) := D61 (Or.inr (hw _ (List.mem_of_getElem? (i := 15) rfl))) (ty := .char) (by decide)
  have F_b61_component : Fld Z h61 b61 "com/example/renkei/renkei/codec/Delimiters" "component" "C" (.int (0 : Int32)) := D61 (Or.inr (hw _ (List.mem_of_getElem? (i := 17) rfl))) (ty := .char) (by decide)
  have F_b61_repetition : Fld Z h61 b61 "com/example/renkei/renkei/codec/Delimiters" "repetition" "C" (.int (0 : Int32)) := D61 (Or.inr (hw _ (List.mem_of_getElem? (i := 19) rfl))) (ty := .char) (by decide)
  have F_b61_escape : Fld Z h61 b61 "com/example/renkei/renkei/codec/Delimiters" "escape" "C" (.int (0 : Int32)) := D61 (Or.inr (hw _ (List.mem_of_getElem? (i := 21) rfl))) (ty := .char) (by decide)
  have F_b61_subcomponent : Fld Z h61 b61 "com/example/renkei/renkei/codec/Delimiters" "subcomponent" "C" (.int (0 : Int32)) := D61 (Or.inr (hw _ (List.mem_of_getElem? (i := 23) rfl))) (ty := .char) (by decide)
  refine own_back st61 ?_
  show own_End p e below s _ _ _ (T61.setTop (mkF m 24 #[.val (.int p0), .val (.int p1), .val (.int p2), .val (.int p3), .val (.int p4), .val (.int p5), .val (.int (p0.toUInt32.toUInt16.toUInt32.toInt32)), .val (.int (p1.toUInt32.toUInt16.toUInt32.toInt32)), .val (.int (p2.toUInt32.toUInt16.toUInt32.toInt32)), .val (.int (p3.toUInt32.toUInt16.toUInt32.toInt32)), .val (.int (p4.toUInt32.toUInt16.toUInt32.toInt32)), .unset, .unset, .unset, .unset, .unset, .unset] [(.ref b61)]))
  refine own_dup X61 hx (hb hby at_24) rfl (q := 25) rfl ?_
  refine own_iload X61 hx (hb hby at_25) rfl (q := 27) rfl ?_
  refine own_iload X61 hx (hb hby at_27) rfl (q := 29) rfl ?_
  refine own_iload X61 hx (hb hby at_29) rfl (q := 31) rfl ?_
  refine own_iload X61 hx (hb hby at_31) rfl (q := 33) rfl ?_
  refine own_iload X61 hx (hb hby at_33) rfl (q := 35) rfl ?_
  obtain ⟨_, _, ⟨T63, L63, k63, n63⟩, -, X63, ⟨Lc63, hQ63, l63, y63, z63⟩, st63⟩ := X61.specialBack hx (y := (⟨"com/example/renkei/renkei/codec/Delimiters", "<init>", "(CCCCC)V"⟩ : MethodName)) rfl hown (mvT hZ (hw _ (List.mem_of_getElem? (i := 3) rfl))) (mvT hZ (hw _ (List.mem_of_getElem? (i := 4) rfl))) (mvT hZ (hw _ (List.mem_of_getElem? (i := 5) rfl))) (by decide) (backOf (W := 1) (own_rm1 l Z a0 hw [] b61 (p0.toUInt32.toUInt16.toUInt32.toInt32) (p1.toUInt32.toUInt16.toUInt32.toInt32) (p2.toUInt32.toUInt16.toUInt32.toInt32) (p3.toUInt32.toUInt16.toUInt32.toInt32) (p4.toUInt32.toUInt16.toUInt32.toInt32) (0 : Int32) (0 : Int32) (0 : Int32) (0 : Int32) (0 : Int32) h61 n0 Z62 A61 F_b61_field F_b61_component F_b61_repetition F_b61_escape F_b61_subcomponent g_b61) hZ (hw _ (List.mem_of_getElem? (i := 5) rfl)) (hw _ (List.mem_of_getElem? (i := 2) rfl)) (by decide) (by decide)) (g := (mkF m 35 #[.val (.int p0), .val (.int p1), .val (.int p2), .val (.int p3), .val (.int p4), .val (.int p5), .val (.int (p0.toUInt32.toUInt16.toUInt32.toInt32)), .val (.int (p1.toUInt32.toUInt16.toUInt32.toInt32)), .val (.int (p2.toUInt32.toUInt16.toUInt32.toInt32)), .val (.int (p3.toUInt32.toUInt16.toUInt32.toInt32)), .val (.int (p4.toUInt32.toUInt16.toUInt32.toInt32)), .unset, .unset, .unset, .unset, .unset, .unset] [(.int (p4.toUInt32.toUInt16.toUInt32.toInt32)), (.int (p3.toUInt32.toUInt16.toUInt32.toInt32)), (.int (p2.toUInt32.toUInt16.toUInt32.toInt32)), (.int (p1.toUInt32.toUInt16.toUInt32.toInt32)), (.int (p0.toUInt32.toUInt16.toUInt32.toInt32)), (.ref b61), (.ref b61)])) rfl (by rw [hml]; rfl) (Steps.refl _) (a := b61) (argsL := [(.int (p0.toUInt32.toUInt16.toUInt32.toInt32)), (.int (p1.toUInt32.toUInt16.toUInt32.toInt32)), (.int (p2.toUInt32.toUInt16.toUInt32.toInt32)), (.int (p3.toUInt32.toUInt16.toUInt32.toInt32)), (.int (p4.toUInt32.toUInt16.toUInt32.toInt32))]) (rest := [(.ref b61)]) (lenOf own_pd1 rfl) rfl (by show 2 * 0 + _ ≤ _; exact Nat.le_of_eq rfl) (hb hby at_35) (fun _ _ => ⟨rfl, e61, (by decide : 1 + 0 ≤ _), (by decide : 5 + 0 ≤ _)⟩)
  dsimp only [Pt.U, Pt.locs, Pt.cells, Pt.slots] at X63 l63 y63 z63 st63 hQ63
  subst l63 y63 z63
  obtain ⟨rfl, N63q, K63, Q63_0, Q63_1, Q63_2, Q63_3, Q63_4, Q63_5⟩ := hQ63
  have N63 := Fr.app N0 N63q
  have A61_64 := A61.keep K63
  have Z65 := Nat.le_trans Z62 K63.1
  refine own_via st63 ?_
  show own_End p e below s _ _ _ (T63.setTop (mkF m 38 #[.val (.int p0), .val (.int p1), .val (.int p2), .val (.int p3), .val (.int p4), .val (.int p5), .val (.int (p0.toUInt32.toUInt16.toUInt32.toInt32)), .val (.int (p1.toUInt32.toUInt16.toUInt32.toInt32)), .val (.int (p2.toUInt32.toUInt16.toUInt32.toInt32)), .val (.int (p3.toUInt32.toUInt16.toUInt32.toInt32)), .val (.int (p4.toUInt32.toUInt16.toUInt32.toInt32)), .unset, .unset, .unset, .unset, .unset, .unset] [(.ref b61)]))
  refine own_astore X63 hx (hb hby at_38) rfl (l' := #[.val (.int p0), .val (.int p1), .val (.int p2), .val (.int p3), .val (.int p4), .val (.int p5), .val (.int (p0.toUInt32.toUInt16.toUInt32.toInt32)), .val (.int (p1.toUInt32.toUInt16.toUInt32.toInt32)), .val (.int (p2.toUInt32.toUInt16.toUInt32.toInt32)), .val (.int (p3.toUInt32.toUInt16.toUInt32.toInt32)), .val (.int (p4.toUInt32.toUInt16.toUInt32.toInt32)), .val (.ref b61), .unset, .unset, .unset, .unset, .unset]) rfl (q := 40) rfl ?_
  refine own_aload X63 hx (hb hby at_40) rfl rfl (q := 42) rfl ?_
  refine own_iload X63 hx (hb hby at_42) rfl (q := 44) rfl ?_
  obtain ⟨cq66, kq66, q66a, q66b, q66c⟩ := isOf hZ rfl Q63_0
  obtain ⟨_, _, ⟨T66, L66, k66, n66⟩, -, X66, ⟨Lc66, hQ66, l66, y66, z66⟩, st66⟩ := X63.virtualBack hx (y := (⟨"com/example/renkei/renkei/codec/Delimiters", "contains", "(I)Z"⟩ : MethodName)) (z := (⟨"com/example/renkei/renkei/codec/Delimiters", "contains", "(I)Z"⟩ : MethodName)) hown (mvT hZ (hw _ (List.mem_of_getElem? (i := 24) rfl))) (mvT hZ (hw _ (List.mem_of_getElem? (i := 25) rfl))) (notFace_of_selects (args := #[]) (mvT hZ (hw _ (List.mem_of_getElem? (i := 27) rfl)))) (mvT hZ (hw _ (List.mem_of_getElem? (i := 27) rfl))) (mvT hZ (hw _ (List.mem_of_getElem? (i := 26) rfl))) (by decide) (backOf (W := 0) (own_rm4 l Z a0 hw [] b61 (p0.toUInt32.toUInt16.toUInt32.toInt32) ((p0.toUInt32.toUInt16.toUInt32.toInt32).toUInt32.toUInt16.toUInt32.toInt32) ((p1.toUInt32.toUInt16.toUInt32.toInt32).toUInt32.toUInt16.toUInt32.toInt32) ((p2.toUInt32.toUInt16.toUInt32.toInt32).toUInt32.toUInt16.toUInt32.toInt32) ((p3.toUInt32.toUInt16.toUInt32.toInt32).toUInt32.toUInt16.toUInt32.toInt32) ((p4.toUInt32.toUInt16.toUInt32.toInt32).toUInt32.toUInt16.toUInt32.toInt32) T63.heap n0 Z65 Q63_0 Q63_1 Q63_2 Q63_3 Q63_4 Q63_5) hZ (hw _ (List.mem_of_getElem? (i := 28) rfl)) (hw _ (List.mem_of_getElem? (i := 2) rfl)) (by decide) (by decide)) q66a q66c (g := (mkF m 44 #[.val (.int p0), .val (.int p1), .val (.int p2), .val (.int p3), .val (.int p4), .val (.int p5), .val (.int (p0.toUInt32.toUInt16.toUInt32.toInt32)), .val (.int (p1.toUInt32.toUInt16.toUInt32.toInt32)), .val (.int (p2.toUInt32.toUInt16.toUInt32.toInt32)), .val (.int (p3.toUInt32.toUInt16.toUInt32.toInt32)), .val (.int (p4.toUInt32.toUInt16.toUInt32.toInt32)), .val (.ref b61), .unset, .unset, .unset, .unset, .unset] [(.int (p0.toUInt32.toUInt16.toUInt32.toInt32)), (.ref b61)])) rfl (by rw [hml]; rfl) (Steps.refl _) (argsL := [(.int (p0.toUInt32.toUInt16.toUInt32.toInt32))]) (rest := []) (lenOf own_pd2 rfl) rfl (by show 2 * 0 + _ ≤ _; exact Nat.le_of_eq rfl) (hb hby at_44) (fun _ _ => ⟨rfl, rfl, (by decide : 1 + 0 ≤ _), (by decide : 5 + 0 ≤ _)⟩)
  dsimp only [Pt.U, Pt.locs, Pt.cells, Pt.slots] at X66 l66 y66 z66 st66 hQ66
  subst l66 y66 z66
  obtain ⟨rfl, N66q, e66⟩ := hQ66
  have N66 := Fr.app N63 N66q
  refine own_via st66 ?_
  show own_End p e below s _ _ _ (T66.setTop (mkF m 47 #[.val (.int p0), .val (.int p1), .val (.int p2), .val (.int p3), .val (.int p4), .val (.int p5), .val (.int (p0.toUInt32.toUInt16.toUInt32.toInt32)), .val (.int (p1.toUInt32.toUInt16.toUInt32.toInt32)), .val (.int (p2.toUInt32.toUInt16.toUInt32.toInt32)), .val (.int (p3.toUInt32.toUInt16.toUInt32.toInt32)), .val (.int (p4.toUInt32.toUInt16.toUInt32.toInt32)), .val (.ref b61), .unset, .unset, .unset, .unset, .unset] [(.int (own_F4 (p0.toUInt32.toUInt16.toUInt32.toInt32) ((p0.toUInt32.toUInt16.toUInt32.toInt32).toUInt32.toUInt16.toUInt32.toInt32) ((p1.toUInt32.toUInt16.toUInt32.toInt32).toUInt32.toUInt16.toUInt32.toInt32) ((p2.toUInt32.toUInt16.toUInt32.toInt32).toUInt32.toUInt16.toUInt32.toInt32) ((p3.toUInt32.toUInt16.toUInt32.toInt32).toUInt32.toUInt16.toUInt32.toInt32) ((p4.toUInt32.toUInt16.toUInt32.toInt32).toUInt32.toUInt16.toUInt32.toInt32)))]))
  suffices J90 : ∀ (T90 : State) (L90 : List Loc), Stand p l e room_1 s m #[(.int p0), (.int p1), (.int p2), (.int p3), (.int p4), (.int p5)] below meth c T90 L90 1 5 → T90.heap = T63.heap → Fr n0 L90 → own_End p e below s (own_Q0 Z p0 p1 p2 p3 p4 p5 h0 n0) room_1.cells room_1.slots (T90.setTop (mkF m 95 #[.val (.int p0), .val (.int p1), .val (.int p2), .val (.int p3), .val (.int p4), .val (.int p5), .val (.int (p0.toUInt32.toUInt16.toUInt32.toInt32)), .val (.int (p1.toUInt32.toUInt16.toUInt32.toInt32)), .val (.int (p2.toUInt32.toUInt16.toUInt32.toInt32)), .val (.int (p3.toUInt32.toUInt16.toUInt32.toInt32)), .val (.int (p4.toUInt32.toUInt16.toUInt32.toInt32)), .val (.ref b61), .unset, .unset, .unset, .unset, .unset] [(.int (own_M0_47 p0 p1 p2 p3 p4))])) by
    by_cases hc47_67 : (own_F4 (p0.toUInt32.toUInt16.toUInt32.toInt32) ((p0.toUInt32.toUInt16.toUInt32.toInt32).toUInt32.toUInt16.toUInt32.toInt32) ((p1.toUInt32.toUInt16.toUInt32.toInt32).toUInt32.toUInt16.toUInt32.toInt32) ((p2.toUInt32.toUInt16.toUInt32.toInt32).toUInt32.toUInt16.toUInt32.toInt32) ((p3.toUInt32.toUInt16.toUInt32.toInt32).toUInt32.toUInt16.toUInt32.toInt32) ((p4.toUInt32.toUInt16.toUInt32.toInt32).toUInt32.toUInt16.toUInt32.toInt32)) = (0 : Int32)
    · refine own_ifY X66 hx (hb hby at_47) (teq hc47_67).1 (q := 94) (by decide) (by decide) ?_
      refine own_iconst X66 hx (hb hby at_94) (z := 0) rfl (q := 95) rfl ?_
      have J := J90 T66 _ X66 e66 N66
      simp only [own_M0_47, if_pos hc47_67] at J
      exact J
    · refine own_ifN X66 hx (hb hby at_47) (feq hc47_67).1 (q := 50) rfl ?_
      refine own_aload X66 hx (hb hby at_50) rfl rfl (q := 52) rfl ?_
      refine own_iload X66 hx (hb hby at_52) rfl (q := 54) rfl ?_
      obtain ⟨cq69, kq69, q69a, q69b, q69c⟩ := isOf hZ e66 Q63_0
      obtain ⟨_, _, ⟨T69, L69, k69, n69⟩, -, X69, ⟨Lc69, hQ69, l69, y69, z69⟩, st69⟩ := X66.virtualBack hx (y := (⟨"com/example/renkei/renkei/codec/Delimiters", "contains", "(I)Z"⟩ : MethodName)) (z := (⟨"com/example/renkei/renkei/codec/Delimiters", "contains", "(I)Z"⟩ : MethodName)) hown (mvT hZ (hw _ (List.mem_of_getElem? (i := 24) rfl))) (mvT hZ (hw _ (List.mem_of_getElem? (i := 25) rfl))) (notFace_of_selects (args := #[]) (mvT hZ (hw _ (List.mem_of_getElem? (i := 27) rfl)))) (mvT hZ (hw _ (List.mem_of_getElem? (i := 27) rfl))) (mvT hZ (hw _ (List.mem_of_getElem? (i := 26) rfl))) (by decide) (backOf (W := 0) (own_rm4 l Z a0 hw [] b61 (p1.toUInt32.toUInt16.toUInt32.toInt32) ((p0.toUInt32.toUInt16.toUInt32.toInt32).toUInt32.toUInt16.toUInt32.toInt32) ((p1.toUInt32.toUInt16.toUInt32.toInt32).toUInt32.toUInt16.toUInt32.toInt32) ((p2.toUInt32.toUInt16.toUInt32.toInt32).toUInt32.toUInt16.toUInt32.toInt32) ((p3.toUInt32.toUInt16.toUInt32.toInt32).toUInt32.toUInt16.toUInt32.toInt32) ((p4.toUInt32.toUInt16.toUInt32.toInt32).toUInt32.toUInt16.toUInt32.toInt32) T63.heap n0 Z65 Q63_0 Q63_1 Q63_2 Q63_3 Q63_4 Q63_5) hZ (hw _ (List.mem_of_getElem? (i := 28) rfl)) (hw _ (List.mem_of_getElem? (i := 2) rfl)) (by decide) (by decide)) q69a q69c (g := (mkF m 54 #[.val (.int p0), .val (.int p1), .val (.int p2), .val (.int p3), .val (.int p4), .val (.int p5), .val (.int (p0.toUInt32.toUInt16.toUInt32.toInt32)), .val (.int (p1.toUInt32.toUInt16.toUInt32.toInt32)), .val (.int (p2.toUInt32.toUInt16.toUInt32.toInt32)), .val (.int (p3.toUInt32.toUInt16.toUInt32.toInt32)), .val (.int (p4.toUInt32.toUInt16.toUInt32.toInt32)), .val (.ref b61), .unset, .unset, .unset, .unset, .unset] [(.int (p1.toUInt32.toUInt16.toUInt32.toInt32)), (.ref b61)])) rfl (by rw [hml]; rfl) (Steps.refl _) (argsL := [(.int (p1.toUInt32.toUInt16.toUInt32.toInt32))]) (rest := []) (lenOf own_pd2 rfl) rfl (by show 2 * 0 + _ ≤ _; exact Nat.le_of_eq rfl) (hb hby at_54) (fun _ _ => ⟨rfl, e66, (by decide : 1 + 0 ≤ _), (by decide : 5 + 0 ≤ _)⟩)
      dsimp only [Pt.U, Pt.locs, Pt.cells, Pt.slots] at X69 l69 y69 z69 st69 hQ69
      subst l69 y69 z69
      obtain ⟨rfl, N69q, e69⟩ := hQ69
      have N69 := Fr.app N66 N69q
      refine own_via st69 ?_
      show own_End p e below s _ _ _ (T69.setTop (mkF m 57 #[.val (.int p0), .val (.int p1), .val (.int p2), .val (.int p3), .val (.int p4), .val (.int p5), .val (.int (p0.toUInt32.toUInt16.toUInt32.toInt32)), .val (.int (p1.toUInt32.toUInt16.toUInt32.toInt32)), .val (.int (p2.toUInt32.toUInt16.toUInt32.toInt32)), .val (.int (p3.toUInt32.toUInt16.toUInt32.toInt32)), .val (.int (p4.toUInt32.toUInt16.toUInt32.toInt32)), .val (.ref b61), .unset, .unset, .unset, .unset, .unset] [(.int (own_F4 (p1.toUInt32.toUInt16.toUInt32.toInt32) ((p0.toUInt32.toUInt16.toUInt32.toInt32).toUInt32.toUInt16.toUInt32.toInt32) ((p1.toUInt32.toUInt16.toUInt32.toInt32).toUInt32.toUInt16.toUInt32.toInt32) ((p2.toUInt32.toUInt16.toUInt32.toInt32).toUInt32.toUInt16.toUInt32.toInt32) ((p3.toUInt32.toUInt16.toUInt32.toInt32).toUInt32.toUInt16.toUInt32.toInt32) ((p4.toUInt32.toUInt16.toUInt32.toInt32).toUInt32.toUInt16.toUInt32.toInt32)))]))
      suffices J88 : ∀ (T88 : State) (L88 : List Loc), Stand p l e room_1 s m #[(.int p0), (.int p1), (.int p2), (.int p3), (.int p4), (.int p5)] below meth c T88 L88 1 5 → T88.heap = T63.heap → Fr n0 L88 → own_End p e below s (own_Q0 Z p0 p1 p2 p3 p4 p5 h0 n0) room_1.cells room_1.slots (T88.setTop (mkF m 95 #[.val (.int p0), .val (.int p1), .val (.int p2), .val (.int p3), .val (.int p4), .val (.int p5), .val (.int (p0.toUInt32.toUInt16.toUInt32.toInt32)), .val (.int (p1.toUInt32.toUInt16.toUInt32.toInt32)), .val (.int (p2.toUInt32.toUInt16.toUInt32.toInt32)), .val (.int (p3.toUInt32.toUInt16.toUInt32.toInt32)), .val (.int (p4.toUInt32.toUInt16.toUInt32.toInt32)), .val (.ref b61), .unset, .unset, .unset, .unset, .unset] [(.int (own_M0_57 p0 p1 p2 p3 p4))])) by
        by_cases hc57_70 : (own_F4 (p1.toUInt32.toUInt16.toUInt32.toInt32) ((p0.toUInt32.toUInt16.toUInt32.toInt32).toUInt32.toUInt16.toUInt32.toInt32) ((p1.toUInt32.toUInt16.toUInt32.toInt32).toUInt32.toUInt16.toUInt32.toInt32) ((p2.toUInt32.toUInt16.toUInt32.toInt32).toUInt32.toUInt16.toUInt32.toInt32) ((p3.toUInt32.toUInt16.toUInt32.toInt32).toUInt32.toUInt16.toUInt32.toInt32) ((p4.toUInt32.toUInt16.toUInt32.toInt32).toUInt32.toUInt16.toUInt32.toInt32)) = (0 : Int32)
        · refine own_ifY X69 hx (hb hby at_57) (teq hc57_70).1 (q := 94) (by decide) (by decide) ?_
          refine own_iconst X69 hx (hb hby at_94) (z := 0) rfl (q := 95) rfl ?_
          have J := J88 T69 _ X69 e69 N69
          simp only [own_M0_57, if_pos hc57_70] at J
          exact J
        · refine own_ifN X69 hx (hb hby at_57) (feq hc57_70).1 (q := 60) rfl ?_
          refine own_aload X69 hx (hb hby at_60) rfl rfl (q := 62) rfl ?_
          refine own_iload X69 hx (hb hby at_62) rfl (q := 64) rfl ?_
          obtain ⟨cq72, kq72, q72a, q72b, q72c⟩ := isOf hZ e69 Q63_0
          obtain ⟨_, _, ⟨T72, L72, k72, n72⟩, -, X72, ⟨Lc72, hQ72, l72, y72, z72⟩, st72⟩ := X69.virtualBack hx (y := (⟨"com/example/renkei/renkei/codec/Delimiters", "contains", "(I)Z"⟩ : MethodName)) (z := (⟨"com/example/renkei/renkei/codec/Delimiters", "contains", "(I)Z"⟩ : MethodName)) hown (mvT hZ (hw _ (List.mem_of_getElem? (i := 24) rfl))) (mvT hZ (hw _ (List.mem_of_getElem? (i := 25) rfl))) (notFace_of_selects (args := #[]) (mvT hZ (hw _ (List.mem_of_getElem? (i := 27) rfl)))) (mvT hZ (hw _ (List.mem_of_getElem? (i := 27) rfl))) (mvT hZ (hw _ (List.mem_of_getElem? (i := 26) rfl))) (by decide) (backOf (W := 0) (own_rm4 l Z a0 hw [] b61 (p2.toUInt32.toUInt16.toUInt32.toInt32) ((p0.toUInt32.toUInt16.toUInt32.toInt32).toUInt32.toUInt16.toUInt32.toInt32) ((p1.toUInt32.toUInt16.toUInt32.toInt32).toUInt32.toUInt16.toUInt32.toInt32) ((p2.toUInt32.toUInt16.toUInt32.toInt32).toUInt32.toUInt16.toUInt32.toInt32) ((p3.toUInt32.toUInt16.toUInt32.toInt32).toUInt32.toUInt16.toUInt32.toInt32) ((p4.toUInt32.toUInt16.toUInt32.toInt32).toUInt32.toUInt16.toUInt32.toInt32) T63.heap n0 Z65 Q63_0 Q63_1 Q63_2 Q63_3 Q63_4 Q63_5) hZ (hw _ (List.mem_of_getElem? (i := 28) rfl)) (hw _ (List.mem_of_getElem? (i := 2) rfl)) (by decide) (by decide)) q72a q72c (g := (mkF m 64 #[.val (.int p0), .val (.int p1), .val (.int p2), .val (.int p3), .val (.int p4), .val (.int p5), .val (.int (p0.toUInt32.toUInt16.toUInt32.toInt32)), .val (.int (p1.toUInt32.toUInt16.toUInt32.toInt32)), .val (.int (p2.toUInt32.toUInt16.toUInt32.toInt32)), .val (.int (p3.toUInt32.toUInt16.toUInt32.toInt32)), .val (.int (p4.toUInt32.toUInt16.toUInt32.toInt32)), .val (.ref b61), .unset, .unset, .unset, .unset, .unset] [(.int (p2.toUInt32.toUInt16.toUInt32.toInt32)), (.ref b61)])) rfl (by rw [hml]; rfl) (Steps.refl _) (argsL := [(.int (p2.toUInt32.toUInt16.toUInt32.toInt32))]) (rest := []) (lenOf own_pd2 rfl) rfl (by show 2 * 0 + _ ≤ _; exact Nat.le_of_eq rfl) (hb hby at_64) (fun _ _ => ⟨rfl, e69, (by decide : 1 + 0 ≤ _), (by decide : 5 + 0 ≤ _)⟩)
          dsimp only [Pt.U, Pt.locs, Pt.cells, Pt.slots] at X72 l72 y72 z72 st72 hQ72
          subst l72 y72 z72
          obtain ⟨rfl, N72q, e72⟩ := hQ72
          have N72 := Fr.app N69 N72q
          refine own_via st72 ?_
          show own_End p e below s _ _ _ (T72.setTop (mkF m 67 #[.val (.int p0), .val (.int p1), .val (.int p2), .val (.int p3), .val (.int p4), .val (.int p5), .val (.int (p0.toUInt32.toUInt16.toUInt32.toInt32)), .val (.int (p1.toUInt32.toUInt16.toUInt32.toInt32)), .val (.int (p2.toUInt32.toUInt16.toUInt32.toInt32)), .val (.int (p3.toUInt32.toUInt16.toUInt32.toInt32)), .val (.int (p4.toUInt32.toUInt16.toUInt32.toInt32)), .val (.ref b61), .unset, .unset, .unset, .unset, .unset] [(.int (own_F4 (p2.toUInt32.toUInt16.toUInt32.toInt32) ((p0.toUInt32.toUInt16.toUInt32.toInt32).toUInt32.toUInt16.toUInt32.toInt32) ((p1.toUInt32.toUInt16.toUInt32.toInt32).toUInt32.toUInt16.toUInt32.toInt32) ((p2.toUInt32.toUInt16.toUInt32.toInt32).toUInt32.toUInt16.toUInt32.toInt32) ((p3.toUInt32.toUInt16.toUInt32.toInt32).toUInt32.toUInt16.toUInt32.toInt32) ((p4.toUInt32.toUInt16.toUInt32.toInt32).toUInt32.toUInt16.toUInt32.toInt32)))]))
          suffices J86 : ∀ (T86 : State) (L86 : List Loc), Stand p l e room_1 s m #[(.int p0), (.int p1), (.int p2), (.int p3), (.int p4), (.int p5)] below meth c T86 L86 1 5 → T86.heap = T63.heap → Fr n0 L86 → own_End p e below s (own_Q0 Z p0 p1 p2 p3 p4 p5 h0 n0) room_1.cells room_1.slots (T86.setTop (mkF m 95 #[.val (.int p0), .val (.int p1), .val (.int p2), .val (.int p3), .val (.int p4), .val (.int p5), .val (.int (p0.toUInt32.toUInt16.toUInt32.toInt32)), .val (.int (p1.toUInt32.toUInt16.toUInt32.toInt32)), .val (.int (p2.toUInt32.toUInt16.toUInt32.toInt32)), .val (.int (p3.toUInt32.toUInt16.toUInt32.toInt32)), .val (.int (p4.toUInt32.toUInt16.toUInt32.toInt32)), .val (.ref b61), .unset, .unset, .unset, .unset, .unset] [(.int (own_M0_67 p0 p1 p2 p3 p4))])) by
            by_cases hc67_73 : (own_F4 (p2.toUInt32.toUInt16.toUInt32.toInt32) ((p0.toUInt32.toUInt16.toUInt32.toInt32).toUInt32.toUInt16.toUInt32.toInt32) ((p1.toUInt32.toUInt16.toUInt32.toInt32).toUInt32.toUInt16.toUInt32.toInt32) ((p2.toUInt32.toUInt16.toUInt32.toInt32).toUInt32.toUInt16.toUInt32.toInt32) ((p3.toUInt32.toUInt16.toUInt32.toInt32).toUInt32.toUInt16.toUInt32.toInt32) ((p4.toUInt32.toUInt16.toUInt32.toInt32).toUInt32.toUInt16.toUInt32.toInt32)) = (0 : Int32)
            · refine own_ifY X72 hx (hb hby at_67) (teq hc67_73).1 (q := 94) (by decide) (by decide) ?_
              refine own_iconst X72 hx (hb hby at_94) (z := 0) rfl (q := 95) rfl ?_
              have J := J86 T72 _ X72 e72 N72
              simp only [own_M0_67, if_pos hc67_73] at J
              exact J
            · refine own_ifN X72 hx (hb hby at_67) (feq hc67_73).1 (q := 70) rfl ?_
              refine own_aload X72 hx (hb hby at_70) rfl rfl (q := 72) rfl ?_
              refine own_iload X72 hx (hb hby at_72) rfl (q := 74) rfl ?_
              obtain ⟨cq75, kq75, q75a, q75b, q75c⟩ := isOf hZ e72 Q63_0
              obtain ⟨_, _, ⟨T75, L75, k75, n75⟩, -, X75, ⟨Lc75, hQ75, l75, y75, z75⟩, st75⟩ := X72.virtualBack hx (y := (⟨"com/example/renkei/renkei/codec/Delimiters", "contains", "(I)Z"⟩ : MethodName)) (z := (⟨"com/example/renkei/renkei/codec/Delimiters", "contains", "(I)Z"⟩ : MethodName)) hown (mvT hZ (hw _ (List.mem_of_getElem? (i := 24) rfl))) (mvT hZ (hw _ (List.mem_of_getElem? (i := 25) rfl))) (notFace_of_selects (args := #[]) (mvT hZ (hw _ (List.mem_of_getElem? (i := 27) rfl)))) (mvT hZ (hw _ (List.mem_of_getElem? (i := 27) rfl))) (mvT hZ (hw _ (List.mem_of_getElem? (i := 26) rfl))) (by decide) (backOf (W := 0) (own_rm4 l Z a0 hw [] b61 (p3.toUInt32.toUInt16.toUInt32.toInt32) ((p0.toUInt32.toUInt16.toUInt32.toInt32).toUInt32.toUInt16.toUInt32.toInt32) ((p1.toUInt32.toUInt16.toUInt32.toInt32).toUInt32.toUInt16.toUInt32.toInt32) ((p2.toUInt32.toUInt16.toUInt32.toInt32).toUInt32.toUInt16.toUInt32.toInt32) ((p3.toUInt32.toUInt16.toUInt32.toInt32).toUInt32.toUInt16.toUInt32.toInt32) ((p4.toUInt32.toUInt16.toUInt32.toInt32).toUInt32.toUInt16.toUInt32.toInt32) T63.heap n0 Z65 Q63_0 Q63_1 Q63_2 Q63_3 Q63_4 Q63_5) hZ (hw _ (List.mem_of_getElem? (i := 28) rfl)) (hw _ (List.mem_of_getElem? (i := 2) rfl)) (by decide) (by decide)) q75a q75c (g := (mkF m 74 #[.val (.int p0), .val (.int p1), .val (.int p2), .val (.int p3), .val (.int p4), .val (.int p5), .val (.int (p0.toUInt32.toUInt16.toUInt32.toInt32)), .val (.int (p1.toUInt32.toUInt16.toUInt32.toInt32)), .val (.int (p2.toUInt32.toUInt16.toUInt32.toInt32)), .val (.int (p3.toUInt32.toUInt16.toUInt32.toInt32)), .val (.int (p4.toUInt32.toUInt16.toUInt32.toInt32)), .val (.ref b61), .unset, .unset, .unset, .unset, .unset] [(.int (p3.toUInt32.toUInt16.toUInt32.toInt32)), (.ref b61)])) rfl (by rw [hml]; rfl) (Steps.refl _) (argsL := [(.int (p3.toUInt32.toUInt16.toUInt32.toInt32))]) (rest := []) (lenOf own_pd2 rfl) rfl (by show 2 * 0 + _ ≤ _; exact Nat.le_of_eq rfl) (hb hby at_74) (fun _ _ => ⟨rfl, e72, (by decide : 1 + 0 ≤ _), (by decide : 5 + 0 ≤ _)⟩)
              dsimp only [Pt.U, Pt.locs, Pt.cells, Pt.slots] at X75 l75 y75 z75 st75 hQ75
              subst l75 y75 z75
              obtain ⟨rfl, N75q, e75⟩ := hQ75
              have N75 := Fr.app N72 N75q
              refine own_via st75 ?_
              show own_End p e below s _ _ _ (T75.setTop (mkF m 77 #[.val (.int p0), .val (.int p1), .val (.int p2), .val (.int p3), .val (.int p4), .val (.int p5), .val (.int (p0.toUInt32.toUInt16.toUInt32.toInt32)), .val (.int (p1.toUInt32.toUInt16.toUInt32.toInt32)), .val (.int (p2.toUInt32.toUInt16.toUInt32.toInt32)), .val (.int (p3.toUInt32.toUInt16.toUInt32.toInt32)), .val (.int (p4.toUInt32.toUInt16.toUInt32.toInt32)), .val (.ref b61), .unset, .unset, .unset, .unset, .unset] [(.int (own_F4 (p3.toUInt32.toUInt16.toUInt32.toInt32) ((p0.toUInt32.toUInt16.toUInt32.toInt32).toUInt32.toUInt16.toUInt32.toInt32) ((p1.toUInt32.toUInt16.toUInt32.toInt32).toUInt32.toUInt16.toUInt32.toInt32) ((p2.toUInt32.toUInt16.toUInt32.toInt32).toUInt32.toUInt16.toUInt32.toInt32) ((p3.toUInt32.toUInt16.toUInt32.toInt32).toUInt32.toUInt16.toUInt32.toInt32) ((p4.toUInt32.toUInt16.toUInt32.toInt32).toUInt32.toUInt16.toUInt32.toInt32)))]))
              suffices J84 : ∀ (T84 : State) (L84 : List Loc), Stand p l e room_1 s m #[(.int p0), (.int p1), (.int p2), (.int p3), (.int p4), (.int p5)] below meth c T84 L84 1 5 → T84.heap = T63.heap → Fr n0 L84 → own_End p e below s (own_Q0 Z p0 p1 p2 p3 p4 p5 h0 n0) room_1.cells room_1.slots (T84.setTop (mkF m 95 #[.val (.int p0), .val (.int p1), .val (.int p2), .val (.int p3), .val (.int p4), .val (.int p5), .val (.int (p0.toUInt32.toUInt16.toUInt32.toInt32)), .val (.int (p1.toUInt32.toUInt16.toUInt32.toInt32)), .val (.int (p2.toUInt32.toUInt16.toUInt32.toInt32)), .val (.int (p3.toUInt32.toUInt16.toUInt32.toInt32)), .val (.int (p4.toUInt32.toUInt16.toUInt32.toInt32)), .val (.ref b61), .unset, .unset, .unset, .unset, .unset] [(.int (own_M0_77 p0 p1 p2 p3 p4))])) by
                by_cases hc77_76 : (own_F4 (p3.toUInt32.toUInt16.toUInt32.toInt32) ((p0.toUInt32.toUInt16.toUInt32.toInt32).toUInt32.toUInt16.toUInt32.toInt32) ((p1.toUInt32.toUInt16.toUInt32.toInt32).toUInt32.toUInt16.toUInt32.toInt32) ((p2.toUInt32.toUInt16.toUInt32.toInt32).toUInt32.toUInt16.toUInt32.toInt32) ((p3.toUInt32.toUInt16.toUInt32.toInt32).toUInt32.toUInt16.toUInt32.toInt32) ((p4.toUInt32.toUInt16.toUInt32.toInt32).toUInt32.toUInt16.toUInt32.toInt32)) = (0 : Int32)
                · refine own_ifY X75 hx (hb hby at_77) (teq hc77_76).1 (q := 94) (by decide) (by decide) ?_
                  refine own_iconst X75 hx (hb hby at_94) (z := 0) rfl (q := 95) rfl ?_
                  have J := J84 T75 _ X75 e75 N75
                  simp only [own_M0_77, if_pos hc77_76] at J
                  exact J
                · refine own_ifN X75 hx (hb hby at_77) (feq hc77_76).1 (q := 80) rfl ?_
                  refine own_aload X75 hx (hb hby at_80) rfl rfl (q := 82) rfl ?_
                  refine own_iload X75 hx (hb hby at_82) rfl (q := 84) rfl ?_
                  obtain ⟨cq78, kq78, q78a, q78b, q78c⟩ := isOf hZ e75 Q63_0
                  obtain ⟨_, _, ⟨T78, L78, k78, n78⟩, -, X78, ⟨Lc78, hQ78, l78, y78, z78⟩, st78⟩ := X75.virtualBack hx (y := (⟨"com/example/renkei/renkei/codec/Delimiters", "contains", "(I)Z"⟩ : MethodName)) (z := (⟨"com/example/renkei/renkei/codec/Delimiters", "contains", "(I)Z"⟩ : MethodName)) hown (mvT hZ (hw _ (List.mem_of_getElem? (i := 24) rfl))) (mvT hZ (hw _ (List.mem_of_getElem? (i := 25) rfl))) (notFace_of_selects (args := #[]) (mvT hZ (hw _ (List.mem_of_getElem? (i := 27) rfl)))) (mvT hZ (hw _ (List.mem_of_getElem? (i := 27) rfl))) (mvT hZ (hw _ (List.mem_of_getElem? (i := 26) rfl))) (by decide) (backOf (W := 0) (own_rm4 l Z a0 hw [] b61 (p4.toUInt32.toUInt16.toUInt32.toInt32) ((p0.toUInt32.toUInt16.toUInt32.toInt32).toUInt32.toUInt16.toUInt32.toInt32) ((p1.toUInt32.toUInt16.toUInt32.toInt32).toUInt32.toUInt16.toUInt32.toInt32) ((p2.toUInt32.toUInt16.toUInt32.toInt32).toUInt32.toUInt16.toUInt32.toInt32) ((p3.toUInt32.toUInt16.toUInt32.toInt32).toUInt32.toUInt16.toUInt32.toInt32) ((p4.toUInt32.toUInt16.toUInt32.toInt32).toUInt32.toUInt16.toUInt32.toInt32) T63.heap n0 Z65 Q63_0 Q63_1 Q63_2 Q63_3 Q63_4 Q63_5) hZ (hw _ (List.mem_of_getElem? (i := 28) rfl)) (hw _ (List.mem_of_getElem? (i := 2) rfl)) (by decide) (by decide)) q78a q78c (g := (mkF m 84 #[.val (.int p0), .val (.int p1), .val (.int p2), .val (.int p3), .val (.int p4), .val (.int p5), .val (.int (p0.toUInt32.toUInt16.toUInt32.toInt32)), .val (.int (p1.toUInt32.toUInt16.toUInt32.toInt32)), .val (.int (p2.toUInt32.toUInt16.toUInt32.toInt32)), .val (.int (p3.toUInt32.toUInt16.toUInt32.toInt32)), .val (.int (p4.toUInt32.toUInt16.toUInt32.toInt32)), .val (.ref b61), .unset, .unset, .unset, .unset, .unset] [(.int (p4.toUInt32.toUInt16.toUInt32.toInt32)), (.ref b61)])) rfl (by rw [hml]; rfl) (Steps.refl _) (argsL := [(.int (p4.toUInt32.toUInt16.toUInt32.toInt32))]) (rest := []) (lenOf own_pd2 rfl) rfl (by show 2 * 0 + _ ≤ _; exact Nat.le_of_eq rfl) (hb hby at_84) (fun _ _ => ⟨rfl, e75, (by decide : 1 + 0 ≤ _), (by decide : 5 + 0 ≤ _)⟩)
                  dsimp only [Pt.U, Pt.locs, Pt.cells, Pt.slots] at X78 l78 y78 z78 st78 hQ78
                  subst l78 y78 z78
                  obtain ⟨rfl, N78q, e78⟩ := hQ78
                  have N78 := Fr.app N75 N78q
                  refine own_via st78 ?_
                  show own_End p e below s _ _ _ (T78.setTop (mkF m 87 #[.val (.int p0), .val (.int p1), .val (.int p2), .val (.int p3), .val (.int p4), .val (.int p5), .val (.int (p0.toUInt32.toUInt16.toUInt32.toInt32)), .val (.int (p1.toUInt32.toUInt16.toUInt32.toInt32)), .val (.int (p2.toUInt32.toUInt16.toUInt32.toInt32)), .val (.int (p3.toUInt32.toUInt16.toUInt32.toInt32)), .val (.int (p4.toUInt32.toUInt16.toUInt32.toInt32)), .val (.ref b61), .unset, .unset, .unset, .unset, .unset] [(.int (own_F4 (p4.toUInt32.toUInt16.toUInt32.toInt32) ((p0.toUInt32.toUInt16.toUInt32.toInt32).toUInt32.toUInt16.toUInt32.toInt32) ((p1.toUInt32.toUInt16.toUInt32.toInt32).toUInt32.toUInt16.toUInt32.toInt32) ((p2.toUInt32.toUInt16.toUInt32.toInt32).toUInt32.toUInt16.toUInt32.toInt32) ((p3.toUInt32.toUInt16.toUInt32.toInt32).toUInt32.toUInt16.toUInt32.toInt32) ((p4.toUInt32.toUInt16.toUInt32.toInt32).toUInt32.toUInt16.toUInt32.toInt32)))]))
                  suffices J82 : own_End p e below s (own_Q0 Z p0 p1 p2 p3 p4 p5 h0 n0) room_1.cells room_1.slots (T78.setTop (mkF m 95 #[.val (.int p0), .val (.int p1), .val (.int p2), .val (.int p3), .val (.int p4), .val (.int p5), .val (.int (p0.toUInt32.toUInt16.toUInt32.toInt32)), .val (.int (p1.toUInt32.toUInt16.toUInt32.toInt32)), .val (.int (p2.toUInt32.toUInt16.toUInt32.toInt32)), .val (.int (p3.toUInt32.toUInt16.toUInt32.toInt32)), .val (.int (p4.toUInt32.toUInt16.toUInt32.toInt32)), .val (.ref b61), .unset, .unset, .unset, .unset, .unset] [(.int (own_M0_87 p0 p1 p2 p3 p4))])) by
                    by_cases hc87_79 : (own_F4 (p4.toUInt32.toUInt16.toUInt32.toInt32) ((p0.toUInt32.toUInt16.toUInt32.toInt32).toUInt32.toUInt16.toUInt32.toInt32) ((p1.toUInt32.toUInt16.toUInt32.toInt32).toUInt32.toUInt16.toUInt32.toInt32) ((p2.toUInt32.toUInt16.toUInt32.toInt32).toUInt32.toUInt16.toUInt32.toInt32) ((p3.toUInt32.toUInt16.toUInt32.toInt32).toUInt32.toUInt16.toUInt32.toInt32) ((p4.toUInt32.toUInt16.toUInt32.toInt32).toUInt32.toUInt16.toUInt32.toInt32)) = (0 : Int32)
                    · refine own_ifY X78 hx (hb hby at_87) (teq hc87_79).1 (q := 94) (by decide) (by decide) ?_
                      refine own_iconst X78 hx (hb hby at_94) (z := 0) rfl (q := 95) rfl ?_
                      simp only [own_M0_87, if_pos hc87_79] at J82
                      exact J82
                    · refine own_ifN X78 hx (hb hby at_87) (feq hc87_79).1 (q := 90) rfl ?_
                      refine own_iconst X78 hx (hb hby at_90) (z := 1) rfl (q := 91) rfl ?_
                      refine own_goto X78 hx (hb hby at_91) (q := 95) (by decide) (by decide) ?_
                      simp only [own_M0_87, if_neg hc87_79] at J82
                      exact J82
                  have J := J84 T78 _ X78 e78 N78
                  simp only [own_M0_77, if_neg hc77_76] at J
                  exact J
              intro T84 L84 X84 e84 N84
              have J := J86 T84 _ X84 e84 N84
              simp only [own_M0_67, if_neg hc67_73] at J
              exact J
          intro T86 L86 X86 e86 N86
          have J := J88 T86 _ X86 e86 N86
          simp only [own_M0_57, if_neg hc57_70] at J
          exact J
      intro T88 L88 X88 e88 N88
      have J := J90 T88 _ X88 e88 N88
      simp only [own_M0_47, if_neg hc47_67] at J
      exact J
  intro T90 L90 X90 e90 N90
  refine own_istore X90 hx (hb hby at_95) (l' := #[.val (.int p0), .val (.int p1), .val (.int p2), .val (.int p3), .val (.int p4), .val (.int p5), .val (.int (p0.toUInt32.toUInt16.toUInt32.toInt32)), .val (.int (p1.toUInt32.toUInt16.toUInt32.toInt32)), .val (.int (p2.toUInt32.toUInt16.toUInt32.toInt32)), .val (.int (p3.toUInt32.toUInt16.toUInt32.toInt32)), .val (.int (p4.toUInt32.toUInt16.toUInt32.toInt32)), .val (.ref b61), .val (.int (own_M0_47 p0 p1 p2 p3 p4)), .unset, .unset, .unset, .unset]) rfl (q := 97) rfl ?_
  refine own_iload X90 hx (hb hby at_97) rfl (q := 99) rfl ?_
  refine own_iload X90 hx (hb hby at_99) rfl (q := 101) rfl ?_
  suffices J110 : own_End p e below s (own_Q0 Z p0 p1 p2 p3 p4 p5 h0 n0) room_1.cells room_1.slots (T90.setTop (mkF m 137 #[.val (.int p0), .val (.int p1), .val (.int p2), .val (.int p3), .val (.int p4), .val (.int p5), .val (.int (p0.toUInt32.toUInt16.toUInt32.toInt32)), .val (.int (p1.toUInt32.toUInt16.toUInt32.toInt32)), .val (.int (p2.toUInt32.toUInt16.toUInt32.toInt32)), .val (.int (p3.toUInt32.toUInt16.toUInt32.toInt32)), .val (.int (p4.toUInt32.toUInt16.toUInt32.toInt32)), .val (.ref b61), .val (.int (own_M0_47 p0 p1 p2 p3 p4)), .unset, .unset, .unset, .unset] [(.int (own_M0_101 p0 p1 p2 p3 p4 p5))])) by
    by_cases hc101_91 : p5 = (p0.toUInt32.toUInt16.toUInt32.toInt32)
    · refine own_icY X90 hx (hb hby at_101) (teq hc101_91).1 (q := 132) (by decide) (by decide) ?_
      refine own_iconst X90 hx (hb hby at_132) (z := 1) rfl (q := 133) rfl ?_
      refine own_goto X90 hx (hb hby at_133) (q := 137) (by decide) (by decide) ?_
      simp only [own_M0_101, if_pos hc101_91] at J110
      exact J110
    · refine own_icN X90 hx (hb hby at_101) (feq hc101_91).1 (q := 104) rfl ?_
      refine own_iload X90 hx (hb hby at_104) rfl (q := 106) rfl ?_
      refine own_iload X90 hx (hb hby at_106) rfl (q := 108) rfl ?_
      suffices J108 : own_End p e below s (own_Q0 Z p0 p1 p2 p3 p4 p5 h0 n0) room_1.cells room_1.slots (T90.setTop (mkF m 137 #[.val (.int p0), .val (.int p1), .val (.int p2), .val (.int p3), .val (.int p4), .val (.int p5), .val (.int (p0.toUInt32.toUInt16.toUInt32.toInt32)), .val (.int (p1.toUInt32.toUInt16.toUInt32.toInt32)), .val (.int (p2.toUInt32.toUInt16.toUInt32.toInt32)), .val (.int (p3.toUInt32.toUInt16.toUInt32.toInt32)), .val (.int (p4.toUInt32.toUInt16.toUInt32.toInt32)), .val (.ref b61), .val (.int (own_M0_47 p0 p1 p2 p3 p4)), .unset, .unset, .unset, .unset] [(.int (own_M0_108 p1 p2 p3 p4 p5))])) by
        by_cases hc108_93 : p5 = (p1.toUInt32.toUInt16.toUInt32.toInt32)
        · refine own_icY X90 hx (hb hby at_108) (teq hc108_93).1 (q := 132) (by decide) (by decide) ?_
          refine own_iconst X90 hx (hb hby at_132) (z := 1) rfl (q := 133) rfl ?_
          refine own_goto X90 hx (hb hby at_133) (q := 137) (by decide) (by decide) ?_
          simp only [own_M0_108, if_pos hc108_93] at J108
          exact J108
        · refine own_icN X90 hx (hb hby at_108) (feq hc108_93).1 (q := 111) rfl ?_
          refine own_iload X90 hx (hb hby at_111) rfl (q := 113) rfl ?_
          refine own_iload X90 hx (hb hby at_113) rfl (q := 115) rfl ?_
          suffices J106 : own_End p e below s (own_Q0 Z p0 p1 p2 p3 p4 p5 h0 n0) room_1.cells room_1.slots (T90.setTop (mkF m 137 #[.val (.int p0), .val (.int p1), .val (.int p2), .val (.int p3), .val (.int p4), .val (.int p5), .val (.int (p0.toUInt32.toUInt16.toUInt32.toInt32)), .val (.int (p1.toUInt32.toUInt16.toUInt32.toInt32)), .val (.int (p2.toUInt32.toUInt16.toUInt32.toInt32)), .val (.int (p3.toUInt32.toUInt16.toUInt32.toInt32)), .val (.int (p4.toUInt32.toUInt16.toUInt32.toInt32)), .val (.ref b61), .val (.int (own_M0_47 p0 p1 p2 p3 p4)), .unset, .unset, .unset, .unset] [(.int (own_M0_115 p2 p3 p4 p5))])) by
            by_cases hc115_95 : p5 = (p2.toUInt32.toUInt16.toUInt32.toInt32)
            · refine own_icY X90 hx (hb hby at_115) (teq hc115_95).1 (q := 132) (by decide) (by decide) ?_
              refine own_iconst X90 hx (hb hby at_132) (z := 1) rfl (q := 133) rfl ?_
              refine own_goto X90 hx (hb hby at_133) (q := 137) (by decide) (by decide) ?_
              simp only [own_M0_115, if_pos hc115_95] at J106
              exact J106
            · refine own_icN X90 hx (hb hby at_115) (feq hc115_95).1 (q := 118) rfl ?_
              refine own_iload X90 hx (hb hby at_118) rfl (q := 120) rfl ?_
              refine own_iload X90 hx (hb hby at_120) rfl (q := 122) rfl ?_
              suffices J104 : own_End p e below s (own_Q0 Z p0 p1 p2 p3 p4 p5 h0 n0) room_1.cells room_1.slots (T90.setTop (mkF m 137 #[.val (.int p0), .val (.int p1), .val (.int p2), .val (.int p3), .val (.int p4), .val (.int p5), .val (.int (p0.toUInt32.toUInt16.toUInt32.toInt32)), .val (.int (p1.toUInt32.toUInt16.toUInt32.toInt32)), .val (.int (p2.toUInt32.toUInt16.toUInt32.toInt32)), .val (.int (p3.toUInt32.toUInt16.toUInt32.toInt32)), .val (.int (p4.toUInt32.toUInt16.toUInt32.toInt32)), .val (.ref b61), .val (.int (own_M0_47 p0 p1 p2 p3 p4)), .unset, .unset, .unset, .unset] [(.int (own_M0_122 p3 p4 p5))])) by
                by_cases hc122_97 : p5 = (p3.toUInt32.toUInt16.toUInt32.toInt32)
                · refine own_icY X90 hx (hb hby at_122) (teq hc122_97).1 (q := 132) (by decide) (by decide) ?_
                  refine own_iconst X90 hx (hb hby at_132) (z := 1) rfl (q := 133) rfl ?_
                  refine own_goto X90 hx (hb hby at_133) (q := 137) (by decide) (by decide) ?_
                  simp only [own_M0_122, if_pos hc122_97] at J104
                  exact J104
                · refine own_icN X90 hx (hb hby at_122) (feq hc122_97).1 (q := 125) rfl ?_
                  refine own_iload X90 hx (hb hby at_125) rfl (q := 127) rfl ?_
                  refine own_iload X90 hx (hb hby at_127) rfl (q := 129) rfl ?_
                  suffices J102 : own_End p e below s (own_Q0 Z p0 p1 p2 p3 p4 p5 h0 n0) room_1.cells room_1.slots (T90.setTop (mkF m 137 #[.val (.int p0), .val (.int p1), .val (.int p2), .val (.int p3), .val (.int p4), .val (.int p5), .val (.int (p0.toUInt32.toUInt16.toUInt32.toInt32)), .val (.int (p1.toUInt32.toUInt16.toUInt32.toInt32)), .val (.int (p2.toUInt32.toUInt16.toUInt32.toInt32)), .val (.int (p3.toUInt32.toUInt16.toUInt32.toInt32)), .val (.int (p4.toUInt32.toUInt16.toUInt32.toInt32)), .val (.ref b61), .val (.int (own_M0_47 p0 p1 p2 p3 p4)), .unset, .unset, .unset, .unset] [(.int (own_M0_129 p4 p5))])) by
                    by_cases hc129_99 : p5 = (p4.toUInt32.toUInt16.toUInt32.toInt32)
                    · refine own_icN X90 hx (hb hby at_129) (teq hc129_99).2 (q := 132) rfl ?_
                      refine own_iconst X90 hx (hb hby at_132) (z := 1) rfl (q := 133) rfl ?_
                      refine own_goto X90 hx (hb hby at_133) (q := 137) (by decide) (by decide) ?_
                      simp only [own_M0_129, if_pos hc129_99] at J102
                      exact J102
                    · refine own_icY X90 hx (hb hby at_129) (feq hc129_99).2 (q := 136) (by decide) (by decide) ?_
                      refine own_iconst X90 hx (hb hby at_136) (z := 0) rfl (q := 137) rfl ?_
                      simp only [own_M0_129, if_neg hc129_99] at J102
                      exact J102
                  simp only [own_M0_122, if_neg hc122_97] at J104
                  exact J104
              simp only [own_M0_115, if_neg hc115_95] at J106
              exact J106
          simp only [own_M0_108, if_neg hc108_93] at J108
          exact J108
      simp only [own_M0_101, if_neg hc101_91] at J110
      exact J110
  refine own_istore X90 hx (hb hby at_137) (l' := #[.val (.int p0), .val (.int p1), .val (.int p2), .val (.int p3), .val (.int p4), .val (.int p5), .val (.int (p0.toUInt32.toUInt16.toUInt32.toInt32)), .val (.int (p1.toUInt32.toUInt16.toUInt32.toInt32)), .val (.int (p2.toUInt32.toUInt16.toUInt32.toInt32)), .val (.int (p3.toUInt32.toUInt16.toUInt32.toInt32)), .val (.int (p4.toUInt32.toUInt16.toUInt32.toInt32)), .val (.ref b61), .val (.int (own_M0_47 p0 p1 p2 p3 p4)), .val (.int (own_M0_101 p0 p1 p2 p3 p4 p5)), .unset, .unset, .unset]) rfl (q := 139) rfl ?_
  refine own_aload X90 hx (hb hby at_139) rfl rfl (q := 141) rfl ?_
  refine own_iload X90 hx (hb hby at_141) rfl (q := 143) rfl ?_
  obtain ⟨cq111, kq111, q111a, q111b, q111c⟩ := isOf hZ e90 Q63_0
  obtain ⟨_, _, ⟨T111, L111, k111, n111⟩, -, X111, ⟨Lc111, hQ111, l111, y111, z111⟩, st111⟩ := X90.virtualBack hx (y := (⟨"com/example/renkei/renkei/codec/Delimiters", "contains", "(I)Z"⟩ : MethodName)) (z := (⟨"com/example/renkei/renkei/codec/Delimiters", "contains", "(I)Z"⟩ : MethodName)) hown (mvT hZ (hw _ (List.mem_of_getElem? (i := 24) rfl))) (mvT hZ (hw _ (List.mem_of_getElem? (i := 25) rfl))) (notFace_of_selects (args := #[]) (mvT hZ (hw _ (List.mem_of_getElem? (i := 27) rfl)))) (mvT hZ (hw _ (List.mem_of_getElem? (i := 27) rfl))) (mvT hZ (hw _ (List.mem_of_getElem? (i := 26) rfl))) (by decide) (backOf (W := 0) (own_rm4 l Z a0 hw [] b61 p5 ((p0.toUInt32.toUInt16.toUInt32.toInt32).toUInt32.toUInt16.toUInt32.toInt32) ((p1.toUInt32.toUInt16.toUInt32.toInt32).toUInt32.toUInt16.toUInt32.toInt32) ((p2.toUInt32.toUInt16.toUInt32.toInt32).toUInt32.toUInt16.toUInt32.toInt32) ((p3.toUInt32.toUInt16.toUInt32.toInt32).toUInt32.toUInt16.toUInt32.toInt32) ((p4.toUInt32.toUInt16.toUInt32.toInt32).toUInt32.toUInt16.toUInt32.toInt32) T63.heap n0 Z65 Q63_0 Q63_1 Q63_2 Q63_3 Q63_4 Q63_5) hZ (hw _ (List.mem_of_getElem? (i := 28) rfl)) (hw _ (List.mem_of_getElem? (i := 2) rfl)) (by decide) (by decide)) q111a q111c (g := (mkF m 143 #[.val (.int p0), .val (.int p1), .val (.int p2), .val (.int p3), .val (.int p4), .val (.int p5), .val (.int (p0.toUInt32.toUInt16.toUInt32.toInt32)), .val (.int (p1.toUInt32.toUInt16.toUInt32.toInt32)), .val (.int (p2.toUInt32.toUInt16.toUInt32.toInt32)), .val (.int (p3.toUInt32.toUInt16.toUInt32.toInt32)), .val (.int (p4.toUInt32.toUInt16.toUInt32.toInt32)), .val (.ref b61), .val (.int (own_M0_47 p0 p1 p2 p3 p4)), .val (.int (own_M0_101 p0 p1 p2 p3 p4 p5)), .unset, .unset, .unset] [(.int p5), (.ref b61)])) rfl (by rw [hml]; rfl) (Steps.refl _) (argsL := [(.int p5)]) (rest := []) (lenOf own_pd2 rfl) rfl (by show 2 * 0 + _ ≤ _; exact Nat.le_of_eq rfl) (hb hby at_143) (fun _ _ => ⟨rfl, e90, (by decide : 1 + 0 ≤ _), (by decide : 5 + 0 ≤ _)⟩)
  dsimp only [Pt.U, Pt.locs, Pt.cells, Pt.slots] at X111 l111 y111 z111 st111 hQ111
  subst l111 y111 z111
  obtain ⟨rfl, N111q, e111⟩ := hQ111
  have N111 := Fr.app N90 N111q
  refine own_via st111 ?_
  show own_End p e below s _ _ _ (T111.setTop (mkF m 146 #[.val (.int p0), .val (.int p1), .val (.int p2), .val (.int p3), .val (.int p4), .val (.int p5), .val (.int (p0.toUInt32.toUInt16.toUInt32.toInt32)), .val (.int (p1.toUInt32.toUInt16.toUInt32.toInt32)), .val (.int (p2.toUInt32.toUInt16.toUInt32.toInt32)), .val (.int (p3.toUInt32.toUInt16.toUInt32.toInt32)), .val (.int (p4.toUInt32.toUInt16.toUInt32.toInt32)), .val (.ref b61), .val (.int (own_M0_47 p0 p1 p2 p3 p4)), .val (.int (own_M0_101 p0 p1 p2 p3 p4 p5)), .unset, .unset, .unset] [(.int (own_F4 p5 ((p0.toUInt32.toUInt16.toUInt32.toInt32).toUInt32.toUInt16.toUInt32.toInt32) ((p1.toUInt32.toUInt16.toUInt32.toInt32).toUInt32.toUInt16.toUInt32.toInt32) ((p2.toUInt32.toUInt16.toUInt32.toInt32).toUInt32.toUInt16.toUInt32.toInt32) ((p3.toUInt32.toUInt16.toUInt32.toInt32).toUInt32.toUInt16.toUInt32.toInt32) ((p4.toUInt32.toUInt16.toUInt32.toInt32).toUInt32.toUInt16.toUInt32.toInt32)))]))
  refine own_iload X111 hx (hb hby at_146) rfl (q := 148) rfl ?_
  suffices J115 : own_End p e below s (own_Q0 Z p0 p1 p2 p3 p4 p5 h0 n0) room_1.cells room_1.slots (T111.setTop (mkF m 156 #[.val (.int p0), .val (.int p1), .val (.int p2), .val (.int p3), .val (.int p4), .val (.int p5), .val (.int (p0.toUInt32.toUInt16.toUInt32.toInt32)), .val (.int (p1.toUInt32.toUInt16.toUInt32.toInt32)), .val (.int (p2.toUInt32.toUInt16.toUInt32.toInt32)), .val (.int (p3.toUInt32.toUInt16.toUInt32.toInt32)), .val (.int (p4.toUInt32.toUInt16.toUInt32.toInt32)), .val (.ref b61), .val (.int (own_M0_47 p0 p1 p2 p3 p4)), .val (.int (own_M0_101 p0 p1 p2 p3 p4 p5)), .unset, .unset, .unset] [(.int (own_M0_148 p0 p1 p2 p3 p4 p5))])) by
    by_cases hc148_112 : (own_F4 p5 ((p0.toUInt32.toUInt16.toUInt32.toInt32).toUInt32.toUInt16.toUInt32.toInt32) ((p1.toUInt32.toUInt16.toUInt32.toInt32).toUInt32.toUInt16.toUInt32.toInt32) ((p2.toUInt32.toUInt16.toUInt32.toInt32).toUInt32.toUInt16.toUInt32.toInt32) ((p3.toUInt32.toUInt16.toUInt32.toInt32).toUInt32.toUInt16.toUInt32.toInt32) ((p4.toUInt32.toUInt16.toUInt32.toInt32).toUInt32.toUInt16.toUInt32.toInt32)) = (own_M0_101 p0 p1 p2 p3 p4 p5)
    · refine own_icN X111 hx (hb hby at_148) (teq hc148_112).2 (q := 151) rfl ?_
      refine own_iconst X111 hx (hb hby at_151) (z := 1) rfl (q := 152) rfl ?_
      refine own_goto X111 hx (hb hby at_152) (q := 156) (by decide) (by decide) ?_
      simp only [own_M0_148, if_pos hc148_112] at J115
      exact J115
    · refine own_icY X111 hx (hb hby at_148) (feq hc148_112).2 (q := 155) (by decide) (by decide) ?_
      refine own_iconst X111 hx (hb hby at_155) (z := 0) rfl (q := 156) rfl ?_
      simp only [own_M0_148, if_neg hc148_112] at J115
      exact J115
  refine own_istore X111 hx (hb hby at_156) (l' := #[.val (.int p0), .val (.int p1), .val (.int p2), .val (.int p3), .val (.int p4), .val (.int p5), .val (.int (p0.toUInt32.toUInt16.toUInt32.toInt32)), .val (.int (p1.toUInt32.toUInt16.toUInt32.toInt32)), .val (.int (p2.toUInt32.toUInt16.toUInt32.toInt32)), .val (.int (p3.toUInt32.toUInt16.toUInt32.toInt32)), .val (.int (p4.toUInt32.toUInt16.toUInt32.toInt32)), .val (.ref b61), .val (.int (own_M0_47 p0 p1 p2 p3 p4)), .val (.int (own_M0_101 p0 p1 p2 p3 p4 p5)), .val (.int (own_M0_148 p0 p1 p2 p3 p4 p5)), .unset, .unset]) rfl (q := 158) rfl ?_
  refine own_aload X111 hx (hb hby at_158) rfl rfl (q := 160) rfl ?_
  refine own_iload X111 hx (hb hby at_160) rfl (q := 162) rfl ?_
  refine own_back (X111.ldcInt hx hown (mvT hZ (hw _ (List.mem_of_getElem? (i := 29) rfl))) (g := (mkF m 162 #[.val (.int p0), .val (.int p1), .val (.int p2), .val (.int p3), .val (.int p4), .val (.int p5), .val (.int (p0.toUInt32.toUInt16.toUInt32.toInt32)), .val (.int (p1.toUInt32.toUInt16.toUInt32.toInt32)), .val (.int (p2.toUInt32.toUInt16.toUInt32.toInt32)), .val (.int (p3.toUInt32.toUInt16.toUInt32.toInt32)), .val (.int (p4.toUInt32.toUInt16.toUInt32.toInt32)), .val (.ref b61), .val (.int (own_M0_47 p0 p1 p2 p3 p4)), .val (.int (own_M0_101 p0 p1 p2 p3 p4 p5)), .val (.int (own_M0_148 p0 p1 p2 p3 p4 p5)), .unset, .unset] [(.int (p4.toUInt32.toUInt16.toUInt32.toInt32)), (.ref b61)])) rfl (hb hby at_162)) ?_
  show own_End p e below s _ _ _ (T111.setTop (mkF m 164 #[.val (.int p0), .val (.int p1), .val (.int p2), .val (.int p3), .val (.int p4), .val (.int p5), .val (.int (p0.toUInt32.toUInt16.toUInt32.toInt32)), .val (.int (p1.toUInt32.toUInt16.toUInt32.toInt32)), .val (.int (p2.toUInt32.toUInt16.toUInt32.toInt32)), .val (.int (p3.toUInt32.toUInt16.toUInt32.toInt32)), .val (.int (p4.toUInt32.toUInt16.toUInt32.toInt32)), .val (.ref b61), .val (.int (own_M0_47 p0 p1 p2 p3 p4)), .val (.int (own_M0_101 p0 p1 p2 p3 p4 p5)), .val (.int (own_M0_148 p0 p1 p2 p3 p4 p5)), .unset, .unset] [(.int (65536 : Int32)), (.int (p4.toUInt32.toUInt16.toUInt32.toInt32)), (.ref b61)]))
  refine own_iadd X111 hx (hb hby at_164) (q := 165) rfl ?_
  obtain ⟨cq116, kq116, q116a, q116b, q116c⟩ := isOf hZ e111 Q63_0
  obtain ⟨_, _, ⟨T116, L116, k116, n116⟩, -, X116, ⟨Lc116, hQ116, l116, y116, z116⟩, st116⟩ := X111.virtualBack hx (y := (⟨"com/example/renkei/renkei/codec/Delimiters", "contains", "(I)Z"⟩ : MethodName)) (z := (⟨"com/example/renkei/renkei/codec/Delimiters", "contains", "(I)Z"⟩ : MethodName)) hown (mvT hZ (hw _ (List.mem_of_getElem? (i := 24) rfl))) (mvT hZ (hw _ (List.mem_of_getElem? (i := 25) rfl))) (notFace_of_selects (args := #[]) (mvT hZ (hw _ (List.mem_of_getElem? (i := 27) rfl)))) (mvT hZ (hw _ (List.mem_of_getElem? (i := 27) rfl))) (mvT hZ (hw _ (List.mem_of_getElem? (i := 26) rfl))) (by decide) (backOf (W := 0) (own_rm4 l Z a0 hw [] b61 ((p4.toUInt32.toUInt16.toUInt32.toInt32) + (65536 : Int32)) ((p0.toUInt32.toUInt16.toUInt32.toInt32).toUInt32.toUInt16.toUInt32.toInt32) ((p1.toUInt32.toUInt16.toUInt32.toInt32).toUInt32.toUInt16.toUInt32.toInt32) ((p2.toUInt32.toUInt16.toUInt32.toInt32).toUInt32.toUInt16.toUInt32.toInt32) ((p3.toUInt32.toUInt16.toUInt32.toInt32).toUInt32.toUInt16.toUInt32.toInt32) ((p4.toUInt32.toUInt16.toUInt32.toInt32).toUInt32.toUInt16.toUInt32.toInt32) T63.heap n0 Z65 Q63_0 Q63_1 Q63_2 Q63_3 Q63_4 Q63_5) hZ (hw _ (List.mem_of_getElem? (i := 28) rfl)) (hw _ (List.mem_of_getElem? (i := 2) rfl)) (by decide) (by decide)) q116a q116c (g := (mkF m 165 #[.val (.int p0), .val (.int p1), .val (.int p2), .val (.int p3), .val (.int p4), .val (.int p5), .val (.int (p0.toUInt32.toUInt16.toUInt32.toInt32)), .val (.int (p1.toUInt32.toUInt16.toUInt32.toInt32)), .val (.int (p2.toUInt32.toUInt16.toUInt32.toInt32)), .val (.int (p3.toUInt32.toUInt16.toUInt32.toInt32)), .val (.int (p4.toUInt32.toUInt16.toUInt32.toInt32)), .val (.ref b61), .val (.int (own_M0_47 p0 p1 p2 p3 p4)), .val (.int (own_M0_101 p0 p1 p2 p3 p4 p5)), .val (.int (own_M0_148 p0 p1 p2 p3 p4 p5)), .unset, .unset] [(.int ((p4.toUInt32.toUInt16.toUInt32.toInt32) + (65536 : Int32))), (.ref b61)])) rfl (by rw [hml]; rfl) (Steps.refl _) (argsL := [(.int ((p4.toUInt32.toUInt16.toUInt32.toInt32) + (65536 : Int32)))]) (rest := []) (lenOf own_pd2 rfl) rfl (by show 2 * 0 + _ ≤ _; exact Nat.le_of_eq rfl) (hb hby at_165) (fun _ _ => ⟨rfl, e111, (by decide : 1 + 0 ≤ _), (by decide : 5 + 0 ≤ _)⟩)
  dsimp only [Pt.U, Pt.locs, Pt.cells, Pt.slots] at X116 l116 y116 z116 st116 hQ116
  subst l116 y116 z116
  obtain ⟨rfl, N116q, e116⟩ := hQ116
  have N116 := Fr.app N111 N116q
  refine own_via st116 ?_
  show own_End p e below s _ _ _ (T116.setTop (mkF m 168 #[.val (.int p0), .val (.int p1), .val (.int p2), .val (.int p3), .val (.int p4), .val (.int p5), .val (.int (p0.toUInt32.toUInt16.toUInt32.toInt32)), .val (.int (p1.toUInt32.toUInt16.toUInt32.toInt32)), .val (.int (p2.toUInt32.toUInt16.toUInt32.toInt32)), .val (.int (p3.toUInt32.toUInt16.toUInt32.toInt32)), .val (.int (p4.toUInt32.toUInt16.toUInt32.toInt32)), .val (.ref b61), .val (.int (own_M0_47 p0 p1 p2 p3 p4)), .val (.int (own_M0_101 p0 p1 p2 p3 p4 p5)), .val (.int (own_M0_148 p0 p1 p2 p3 p4 p5)), .unset, .unset] [(.int (own_F4 ((p4.toUInt32.toUInt16.toUInt32.toInt32) + (65536 : Int32)) ((p0.toUInt32.toUInt16.toUInt32.toInt32).toUInt32.toUInt16.toUInt32.toInt32) ((p1.toUInt32.toUInt16.toUInt32.toInt32).toUInt32.toUInt16.toUInt32.toInt32) ((p2.toUInt32.toUInt16.toUInt32.toInt32).toUInt32.toUInt16.toUInt32.toInt32) ((p3.toUInt32.toUInt16.toUInt32.toInt32).toUInt32.toUInt16.toUInt32.toInt32) ((p4.toUInt32.toUInt16.toUInt32.toInt32).toUInt32.toUInt16.toUInt32.toInt32)))]))
  suffices J120 : own_End p e below s (own_Q0 Z p0 p1 p2 p3 p4 p5 h0 n0) room_1.cells room_1.slots (T116.setTop (mkF m 176 #[.val (.int p0), .val (.int p1), .val (.int p2), .val (.int p3), .val (.int p4), .val (.int p5), .val (.int (p0.toUInt32.toUInt16.toUInt32.toInt32)), .val (.int (p1.toUInt32.toUInt16.toUInt32.toInt32)), .val (.int (p2.toUInt32.toUInt16.toUInt32.toInt32)), .val (.int (p3.toUInt32.toUInt16.toUInt32.toInt32)), .val (.int (p4.toUInt32.toUInt16.toUInt32.toInt32)), .val (.ref b61), .val (.int (own_M0_47 p0 p1 p2 p3 p4)), .val (.int (own_M0_101 p0 p1 p2 p3 p4 p5)), .val (.int (own_M0_148 p0 p1 p2 p3 p4 p5)), .unset, .unset] [(.int (own_M0_168 p0 p1 p2 p3 p4))])) by
    by_cases hc168_117 : (own_F4 ((p4.toUInt32.toUInt16.toUInt32.toInt32) + (65536 : Int32)) ((p0.toUInt32.toUInt16.toUInt32.toInt32).toUInt32.toUInt16.toUInt32.toInt32) ((p1.toUInt32.toUInt16.toUInt32.toInt32).toUInt32.toUInt16.toUInt32.toInt32) ((p2.toUInt32.toUInt16.toUInt32.toInt32).toUInt32.toUInt16.toUInt32.toInt32) ((p3.toUInt32.toUInt16.toUInt32.toInt32).toUInt32.toUInt16.toUInt32.toInt32) ((p4.toUInt32.toUInt16.toUInt32.toInt32).toUInt32.toUInt16.toUInt32.toInt32)) = (0 : Int32)
    · refine own_ifN X116 hx (hb hby at_168) (teq hc168_117).2 (q := 171) rfl ?_
      refine own_iconst X116 hx (hb hby at_171) (z := 1) rfl (q := 172) rfl ?_
      refine own_goto X116 hx (hb hby at_172) (q := 176) (by decide) (by decide) ?_
      simp only [own_M0_168, if_pos hc168_117] at J120
      exact J120
    · refine own_ifY X116 hx (hb hby at_168) (feq hc168_117).2 (q := 175) (by decide) (by decide) ?_
      refine own_iconst X116 hx (hb hby at_175) (z := 0) rfl (q := 176) rfl ?_
      simp only [own_M0_168, if_neg hc168_117] at J120
      exact J120
  refine own_istore X116 hx (hb hby at_176) (l' := #[.val (.int p0), .val (.int p1), .val (.int p2), .val (.int p3), .val (.int p4), .val (.int p5), .val (.int (p0.toUInt32.toUInt16.toUInt32.toInt32)), .val (.int (p1.toUInt32.toUInt16.toUInt32.toInt32)), .val (.int (p2.toUInt32.toUInt16.toUInt32.toInt32)), .val (.int (p3.toUInt32.toUInt16.toUInt32.toInt32)), .val (.int (p4.toUInt32.toUInt16.toUInt32.toInt32)), .val (.ref b61), .val (.int (own_M0_47 p0 p1 p2 p3 p4)), .val (.int (own_M0_101 p0 p1 p2 p3 p4 p5)), .val (.int (own_M0_148 p0 p1 p2 p3 p4 p5)), .val (.int (own_M0_168 p0 p1 p2 p3 p4)), .unset]) rfl (q := 178) rfl ?_
  refine own_aload X116 hx (hb hby at_178) rfl rfl (q := 180) rfl ?_
  refine own_iload X116 hx (hb hby at_180) rfl (q := 182) rfl ?_
  refine own_back (X116.ldcInt hx hown (mvT hZ (hw _ (List.mem_of_getElem? (i := 29) rfl))) (g := (mkF m 182 #[.val (.int p0), .val (.int p1), .val (.int p2), .val (.int p3), .val (.int p4), .val (.int p5), .val (.int (p0.toUInt32.toUInt16.toUInt32.toInt32)), .val (.int (p1.toUInt32.toUInt16.toUInt32.toInt32)), .val (.int (p2.toUInt32.toUInt16.toUInt32.toInt32)), .val (.int (p3.toUInt32.toUInt16.toUInt32.toInt32)), .val (.int (p4.toUInt32.toUInt16.toUInt32.toInt32)), .val (.ref b61), .val (.int (own_M0_47 p0 p1 p2 p3 p4)), .val (.int (own_M0_101 p0 p1 p2 p3 p4 p5)), .val (.int (own_M0_148 p0 p1 p2 p3 p4 p5)), .val (.int (own_M0_168 p0 p1 p2 p3 p4)), .unset] [(.int (p0.toUInt32.toUInt16.toUInt32.toInt32)), (.ref b61)])) rfl (hb hby at_182)) ?_
  show own_End p e below s _ _ _ (T116.setTop (mkF m 184 #[.val (.int p0), .val (.int p1), .val (.int p2), .val (.int p3), .val (.int p4), .val (.int p5), .val (.int (p0.toUInt32.toUInt16.toUInt32.toInt32)), .val (.int (p1.toUInt32.toUInt16.toUInt32.toInt32)), .val (.int (p2.toUInt32.toUInt16.toUInt32.toInt32)), .val (.int (p3.toUInt32.toUInt16.toUInt32.toInt32)), .val (.int (p4.toUInt32.toUInt16.toUInt32.toInt32)), .val (.ref b61), .val (.int (own_M0_47 p0 p1 p2 p3 p4)), .val (.int (own_M0_101 p0 p1 p2 p3 p4 p5)), .val (.int (own_M0_148 p0 p1 p2 p3 p4 p5)), .val (.int (own_M0_168 p0 p1 p2 p3 p4)), .unset] [(.int (65536 : Int32)), (.int (p0.toUInt32.toUInt16.toUInt32.toInt32)), (.ref b61)]))
  refine own_isub X116 hx (hb hby at_184) (q := 185) rfl ?_
  obtain ⟨cq121, kq121, q121a, q121b, q121c⟩ := isOf hZ e116 Q63_0
  obtain ⟨_, _, ⟨T121, L121, k121, n121⟩, -, X121, ⟨Lc121, hQ121, l121, y121, z121⟩, st121⟩ := X116.virtualBack hx (y := (⟨"com/example/renkei/renkei/codec/Delimiters", "contains", "(I)Z"⟩ : MethodName)) (z := (⟨"com/example/renkei/renkei/codec/Delimiters", "contains", "(I)Z"⟩ : MethodName)) hown (mvT hZ (hw _ (List.mem_of_getElem? (i := 24) rfl))) (mvT hZ (hw _ (List.mem_of_getElem? (i := 25) rfl))) (notFace_of_selects (args := #[]) (mvT hZ (hw _ (List.mem_of_getElem? (i := 27) rfl)))) (mvT hZ (hw _ (List.mem_of_getElem? (i := 27) rfl))) (mvT hZ (hw _ (List.mem_of_getElem? (i := 26) rfl))) (by decide) (backOf (W := 0) (own_rm4 l Z a0 hw [] b61 ((p0.toUInt32.toUInt16.toUInt32.toInt32) - (65536 : Int32)) ((p0.toUInt32.toUInt16.toUInt32.toInt32).toUInt32.toUInt16.toUInt32.toInt32) ((p1.toUInt32.toUInt16.toUInt32.toInt32).toUInt32.toUInt16.toUInt32.toInt32) ((p2.toUInt32.toUInt16.toUInt32.toInt32).toUInt32.toUInt16.toUInt32.toInt32) ((p3.toUInt32.toUInt16.toUInt32.toInt32).toUInt32.toUInt16.toUInt32.toInt32) ((p4.toUInt32.toUInt16.toUInt32.toInt32).toUInt32.toUInt16.toUInt32.toInt32) T63.heap n0 Z65 Q63_0 Q63_1 Q63_2 Q63_3 Q63_4 Q63_5) hZ (hw _ (List.mem_of_getElem? (i := 28) rfl)) (hw _ (List.mem_of_getElem? (i := 2) rfl)) (by decide) (by decide)) q121a q121c (g := (mkF m 185 #[.val (.int p0), .val (.int p1), .val (.int p2), .val (.int p3), .val (.int p4), .val (.int p5), .val (.int (p0.toUInt32.toUInt16.toUInt32.toInt32)), .val (.int (p1.toUInt32.toUInt16.toUInt32.toInt32)), .val (.int (p2.toUInt32.toUInt16.toUInt32.toInt32)), .val (.int (p3.toUInt32.toUInt16.toUInt32.toInt32)), .val (.int (p4.toUInt32.toUInt16.toUInt32.toInt32)), .val (.ref b61), .val (.int (own_M0_47 p0 p1 p2 p3 p4)), .val (.int (own_M0_101 p0 p1 p2 p3 p4 p5)), .val (.int (own_M0_148 p0 p1 p2 p3 p4 p5)), .val (.int (own_M0_168 p0 p1 p2 p3 p4)), .unset] [(.int ((p0.toUInt32.toUInt16.toUInt32.toInt32) - (65536 : Int32))), (.ref b61)])) rfl (by rw [hml]; rfl) (Steps.refl _) (argsL := [(.int ((p0.toUInt32.toUInt16.toUInt32.toInt32) - (65536 : Int32)))]) (rest := []) (lenOf own_pd2 rfl) rfl (by show 2 * 0 + _ ≤ _; exact Nat.le_of_eq rfl) (hb hby at_185) (fun _ _ => ⟨rfl, e116, (by decide : 1 + 0 ≤ _), (by decide : 5 + 0 ≤ _)⟩)
  dsimp only [Pt.U, Pt.locs, Pt.cells, Pt.slots] at X121 l121 y121 z121 st121 hQ121
  subst l121 y121 z121
  obtain ⟨rfl, N121q, e121⟩ := hQ121
  have N121 := Fr.app N116 N121q
  refine own_via st121 ?_
  show own_End p e below s _ _ _ (T121.setTop (mkF m 188 #[.val (.int p0), .val (.int p1), .val (.int p2), .val (.int p3), .val (.int p4), .val (.int p5), .val (.int (p0.toUInt32.toUInt16.toUInt32.toInt32)), .val (.int (p1.toUInt32.toUInt16.toUInt32.toInt32)), .val (.int (p2.toUInt32.toUInt16.toUInt32.toInt32)), .val (.int (p3.toUInt32.toUInt16.toUInt32.toInt32)), .val (.int (p4.toUInt32.toUInt16.toUInt32.toInt32)), .val (.ref b61), .val (.int (own_M0_47 p0 p1 p2 p3 p4)), .val (.int (own_M0_101 p0 p1 p2 p3 p4 p5)), .val (.int (own_M0_148 p0 p1 p2 p3 p4 p5)), .val (.int (own_M0_168 p0 p1 p2 p3 p4)), .unset] [(.int (own_F4 ((p0.toUInt32.toUInt16.toUInt32.toInt32) - (65536 : Int32)) ((p0.toUInt32.toUInt16.toUInt32.toInt32).toUInt32.toUInt16.toUInt32.toInt32) ((p1.toUInt32.toUInt16.toUInt32.toInt32).toUInt32.toUInt16.toUInt32.toInt32) ((p2.toUInt32.toUInt16.toUInt32.toInt32).toUInt32.toUInt16.toUInt32.toInt32) ((p3.toUInt32.toUInt16.toUInt32.toInt32).toUInt32.toUInt16.toUInt32.toInt32) ((p4.toUInt32.toUInt16.toUInt32.toInt32).toUInt32.toUInt16.toUInt32.toInt32)))]))
  suffices J125 : own_End p e below s (own_Q0 Z p0 p1 p2 p3 p4 p5 h0 n0) room_1.cells room_1.slots (T121.setTop (mkF m 196 #[.val (.int p0), .val (.int p1), .val (.int p2), .val (.int p3), .val (.int p4), .val (.int p5), .val (.int (p0.toUInt32.toUInt16.toUInt32.toInt32)), .val (.int (p1.toUInt32.toUInt16.toUInt32.toInt32)), .val (.int (p2.toUInt32.toUInt16.toUInt32.toInt32)), .val (.int (p3.toUInt32.toUInt16.toUInt32.toInt32)), .val (.int (p4.toUInt32.toUInt16.toUInt32.toInt32)), .val (.ref b61), .val (.int (own_M0_47 p0 p1 p2 p3 p4)), .val (.int (own_M0_101 p0 p1 p2 p3 p4 p5)), .val (.int (own_M0_148 p0 p1 p2 p3 p4 p5)), .val (.int (own_M0_168 p0 p1 p2 p3 p4)), .unset] [(.int (own_M0_188 p0 p1 p2 p3 p4))])) by
    by_cases hc188_122 : (own_F4 ((p0.toUInt32.toUInt16.toUInt32.toInt32) - (65536 : Int32)) ((p0.toUInt32.toUInt16.toUInt32.toInt32).toUInt32.toUInt16.toUInt32.toInt32) ((p1.toUInt32.toUInt16.toUInt32.toInt32).toUInt32.toUInt16.toUInt32.toInt32) ((p2.toUInt32.toUInt16.toUInt32.toInt32).toUInt32.toUInt16.toUInt32.toInt32) ((p3.toUInt32.toUInt16.toUInt32.toInt32).toUInt32.toUInt16.toUInt32.toInt32) ((p4.toUInt32.toUInt16.toUInt32.toInt32).toUInt32.toUInt16.toUInt32.toInt32)) = (0 : Int32)
    · refine own_ifN X121 hx (hb hby at_188) (teq hc188_122).2 (q := 191) rfl ?_
      refine own_iconst X121 hx (hb hby at_191) (z := 1) rfl (q := 192) rfl ?_
      refine own_goto X121 hx (hb hby at_192) (q := 196) (by decide) (by decide) ?_
      simp only [own_M0_188, if_pos hc188_122] at J125
      exact J125
    · refine own_ifY X121 hx (hb hby at_188) (feq hc188_122).2 (q := 195) (by decide) (by decide) ?_
      refine own_iconst X121 hx (hb hby at_195) (z := 0) rfl (q := 196) rfl ?_
      simp only [own_M0_188, if_neg hc188_122] at J125
      exact J125
  refine own_istore X121 hx (hb hby at_196) (l' := #[.val (.int p0), .val (.int p1), .val (.int p2), .val (.int p3), .val (.int p4), .val (.int p5), .val (.int (p0.toUInt32.toUInt16.toUInt32.toInt32)), .val (.int (p1.toUInt32.toUInt16.toUInt32.toInt32)), .val (.int (p2.toUInt32.toUInt16.toUInt32.toInt32)), .val (.int (p3.toUInt32.toUInt16.toUInt32.toInt32)), .val (.int (p4.toUInt32.toUInt16.toUInt32.toInt32)), .val (.ref b61), .val (.int (own_M0_47 p0 p1 p2 p3 p4)), .val (.int (own_M0_101 p0 p1 p2 p3 p4 p5)), .val (.int (own_M0_148 p0 p1 p2 p3 p4 p5)), .val (.int (own_M0_168 p0 p1 p2 p3 p4)), .val (.int (own_M0_188 p0 p1 p2 p3 p4))]) rfl (q := 198) rfl ?_
  refine own_iload X121 hx (hb hby at_198) rfl (q := 200) rfl ?_
  suffices J141 : own_End p e below s (own_Q0 Z p0 p1 p2 p3 p4 p5 h0 n0) room_1.cells room_1.slots (T121.setTop (mkF m 223 #[.val (.int p0), .val (.int p1), .val (.int p2), .val (.int p3), .val (.int p4), .val (.int p5), .val (.int (p0.toUInt32.toUInt16.toUInt32.toInt32)), .val (.int (p1.toUInt32.toUInt16.toUInt32.toInt32)), .val (.int (p2.toUInt32.toUInt16.toUInt32.toInt32)), .val (.int (p3.toUInt32.toUInt16.toUInt32.toInt32)), .val (.int (p4.toUInt32.toUInt16.toUInt32.toInt32)), .val (.ref b61), .val (.int (own_M0_47 p0 p1 p2 p3 p4)), .val (.int (own_M0_101 p0 p1 p2 p3 p4 p5)), .val (.int (own_M0_148 p0 p1 p2 p3 p4 p5)), .val (.int (own_M0_168 p0 p1 p2 p3 p4)), .val (.int (own_M0_188 p0 p1 p2 p3 p4))] [(.int (own_M0_200 p0 p1 p2 p3 p4 p5))])) by
    by_cases hc200_126 : (own_M0_47 p0 p1 p2 p3 p4) = (0 : Int32)
    · refine own_ifY X121 hx (hb hby at_200) (teq hc200_126).1 (q := 222) (by decide) (by decide) ?_
      refine own_iconst X121 hx (hb hby at_222) (z := 0) rfl (q := 223) rfl ?_
      simp only [own_M0_200, if_pos hc200_126] at J141
      exact J141
    · refine own_ifN X121 hx (hb hby at_200) (feq hc200_126).1 (q := 203) rfl ?_
      refine own_iload X121 hx (hb hby at_203) rfl (q := 205) rfl ?_
      suffices J139 : own_End p e below s (own_Q0 Z p0 p1 p2 p3 p4 p5 h0 n0) room_1.cells room_1.slots (T121.setTop (mkF m 223 #[.val (.int p0), .val (.int p1), .val (.int p2), .val (.int p3), .val (.int p4), .val (.int p5), .val (.int (p0.toUInt32.toUInt16.toUInt32.toInt32)), .val (.int (p1.toUInt32.toUInt16.toUInt32.toInt32)), .val (.int (p2.toUInt32.toUInt16.toUInt32.toInt32)), .val (.int (p3.toUInt32.toUInt16.toUInt32.toInt32)), .val (.int (p4.toUInt32.toUInt16.toUInt32.toInt32)), .val (.ref b61), .val (.int (own_M0_47 p0 p1 p2 p3 p4)), .val (.int (own_M0_101 p0 p1 p2 p3 p4 p5)), .val (.int (own_M0_148 p0 p1 p2 p3 p4 p5)), .val (.int (own_M0_168 p0 p1 p2 p3 p4)), .val (.int (own_M0_188 p0 p1 p2 p3 p4))] [(.int (own_M0_205 p0 p1 p2 p3 p4 p5))])) by
        by_cases hc205_128 : (own_M0_148 p0 p1 p2 p3 p4 p5) = (0 : Int32)
        · refine own_ifY X121 hx (hb hby at_205) (teq hc205_128).1 (q := 222) (by decide) (by decide) ?_
          refine own_iconst X121 hx (hb hby at_222) (z := 0) rfl (q := 223) rfl ?_
          simp only [own_M0_205, if_pos hc205_128] at J139
          exact J139
        · refine own_ifN X121 hx (hb hby at_205) (feq hc205_128).1 (q := 208) rfl ?_
          refine own_iload X121 hx (hb hby at_208) rfl (q := 210) rfl ?_
          suffices J137 : own_End p e below s (own_Q0 Z p0 p1 p2 p3 p4 p5 h0 n0) room_1.cells room_1.slots (T121.setTop (mkF m 223 #[.val (.int p0), .val (.int p1), .val (.int p2), .val (.int p3), .val (.int p4), .val (.int p5), .val (.int (p0.toUInt32.toUInt16.toUInt32.toInt32)), .val (.int (p1.toUInt32.toUInt16.toUInt32.toInt32)), .val (.int (p2.toUInt32.toUInt16.toUInt32.toInt32)), .val (.int (p3.toUInt32.toUInt16.toUInt32.toInt32)), .val (.int (p4.toUInt32.toUInt16.toUInt32.toInt32)), .val (.ref b61), .val (.int (own_M0_47 p0 p1 p2 p3 p4)), .val (.int (own_M0_101 p0 p1 p2 p3 p4 p5)), .val (.int (own_M0_148 p0 p1 p2 p3 p4 p5)), .val (.int (own_M0_168 p0 p1 p2 p3 p4)), .val (.int (own_M0_188 p0 p1 p2 p3 p4))] [(.int (own_M0_210 p0 p1 p2 p3 p4))])) by
            by_cases hc210_130 : (own_M0_168 p0 p1 p2 p3 p4) = (0 : Int32)
            · refine own_ifY X121 hx (hb hby at_210) (teq hc210_130).1 (q := 222) (by decide) (by decide) ?_
              refine own_iconst X121 hx (hb hby at_222) (z := 0) rfl (q := 223) rfl ?_
              simp only [own_M0_210, if_pos hc210_130] at J137
              exact J137
            · refine own_ifN X121 hx (hb hby at_210) (feq hc210_130).1 (q := 213) rfl ?_
              refine own_iload X121 hx (hb hby at_213) rfl (q := 215) rfl ?_
              suffices J135 : own_End p e below s (own_Q0 Z p0 p1 p2 p3 p4 p5 h0 n0) room_1.cells room_1.slots (T121.setTop (mkF m 223 #[.val (.int p0), .val (.int p1), .val (.int p2), .val (.int p3), .val (.int p4), .val (.int p5), .val (.int (p0.toUInt32.toUInt16.toUInt32.toInt32)), .val (.int (p1.toUInt32.toUInt16.toUInt32.toInt32)), .val (.int (p2.toUInt32.toUInt16.toUInt32.toInt32)), .val (.int (p3.toUInt32.toUInt16.toUInt32.toInt32)), .val (.int (p4.toUInt32.toUInt16.toUInt32.toInt32)), .val (.ref b61), .val (.int (own_M0_47 p0 p1 p2 p3 p4)), .val (.int (own_M0_101 p0 p1 p2 p3 p4 p5)), .val (.int (own_M0_148 p0 p1 p2 p3 p4 p5)), .val (.int (own_M0_168 p0 p1 p2 p3 p4)), .val (.int (own_M0_188 p0 p1 p2 p3 p4))] [(.int (own_M0_215 p0 p1 p2 p3 p4))])) by
                by_cases hc215_132 : (own_M0_188 p0 p1 p2 p3 p4) = (0 : Int32)
                · refine own_ifY X121 hx (hb hby at_215) (teq hc215_132).1 (q := 222) (by decide) (by decide) ?_
                  refine own_iconst X121 hx (hb hby at_222) (z := 0) rfl (q := 223) rfl ?_
                  simp only [own_M0_215, if_pos hc215_132] at J135
                  exact J135
                · refine own_ifN X121 hx (hb hby at_215) (feq hc215_132).1 (q := 218) rfl ?_
                  refine own_iconst X121 hx (hb hby at_218) (z := 1) rfl (q := 219) rfl ?_
                  refine own_goto X121 hx (hb hby at_219) (q := 223) (by decide) (by decide) ?_
                  simp only [own_M0_215, if_neg hc215_132] at J135
                  exact J135
              simp only [own_M0_210, if_neg hc210_130] at J137
              exact J137
          simp only [own_M0_205, if_neg hc205_128] at J139
          exact J139
      simp only [own_M0_200, if_neg hc200_126] at J141
      exact J141
  refine own_retN X121 hx (t := .boolean) (by simp) Bd.returns Bd.notSynchronized (by decide) (by decide) (hb hby at_223) ?_
  show own_Q0 Z p0 p1 p2 p3 p4 p5 h0 n0 _ T121.heap _
  exact ⟨rfl, N121⟩
theorem own_chch (x : Int32) : ((x.toUInt32.toUInt16.toUInt32.toInt32).toUInt32.toUInt16.toUInt32.toInt32) = x.toUInt32.toUInt16.toUInt32.toInt32 := by
  have h : ∀ u : UInt16, u.toUInt32.toInt32.toUInt32.toUInt16 = u := fun u => by simp
  rw [h]
theorem own_chr (x : Int32) : 0 ≤ (x.toUInt32.toUInt16.toUInt32.toInt32).toInt ∧ (x.toUInt32.toUInt16.toUInt32.toInt32).toInt < 65536 := by
  have h : ∀ u : UInt16, (u.toUInt32.toInt32).toInt = u.toNat := fun u => by
    have hu := u.toNat_lt
    show ((u.toUInt32).toBitVec).toInt = _
    have hm : (u.toUInt32).toBitVec.toNat = u.toNat := by
      show u.toUInt32.toNat = _
      rw [UInt16.toNat_toUInt32]
    rw [BitVec.toInt_eq_toNat_cond, hm, if_pos (by omega)]
  rw [h]
  have := (x.toUInt32.toUInt16).toNat_lt
  omega
theorem own_in (x a b c d e : Int32) (h : x = a ∨ x = b ∨ x = c ∨ x = d ∨ x = e) : own_F4 x a b c d e = 1 := by
  rw [own_F4]
  by_cases h1 : x = a
  · rw [if_pos h1]
  · by_cases h2 : x = b
    · rw [if_neg h1, if_pos h2]
    · by_cases h3 : x = c
      · rw [if_neg h1, if_neg h2, if_pos h3]
      · by_cases h4 : x = d
        · rw [if_neg h1, if_neg h2, if_neg h3, if_pos h4]
        · by_cases h5 : x = e
          · rw [if_neg h1, if_neg h2, if_neg h3, if_neg h4, if_pos h5]
          · exact absurd h (by simp [h1, h2, h3, h4, h5])
theorem own_out (x a b c d e : Int32) (h : ¬ x = a ∧ ¬ x = b ∧ ¬ x = c ∧ ¬ x = d ∧ ¬ x = e) : own_F4 x a b c d e = 0 := by
  rw [own_F4, if_neg h.1, if_neg h.2.1, if_neg h.2.2.1, if_neg h.2.2.2.1, if_neg h.2.2.2.2]
theorem own_ne {x y : Int32} (h : x.toInt ≠ y.toInt) : ¬ x = y := fun q => h (by rw [q])
theorem own_law (a b c d e f : Int32) : (own_M0_200 a b c d e f &&& 1) = 1 := by
  have ra := own_chr a
  have rb := own_chr b
  have rc := own_chr c
  have rd := own_chr d
  have re := own_chr e
  have k : (65536 : Int32).toInt = 65536 := by decide
  have e1 : own_M0_47 a b c d e = 1 := by
    simp only [own_M0_47, own_M0_57, own_M0_67, own_M0_77, own_M0_87, own_chch]
    rw [own_in _ _ _ _ _ _ (Or.inl rfl), own_in _ _ _ _ _ _ (Or.inr (Or.inl rfl)), own_in _ _ _ _ _ _ (Or.inr (Or.inr (Or.inl rfl))), own_in _ _ _ _ _ _ (Or.inr (Or.inr (Or.inr (Or.inl rfl)))), own_in _ _ _ _ _ _ (Or.inr (Or.inr (Or.inr (Or.inr rfl))))]
    decide
  have e2 : own_M0_148 a b c d e f = 1 := by
    rw [own_M0_148, if_pos]
    simp only [own_chch]
    rw [own_F4, own_M0_101, own_M0_108, own_M0_115, own_M0_122, own_M0_129]
  have e3 : own_M0_168 a b c d e = 1 := by
    have h1 := c_iadd (e.toUInt32.toUInt16.toUInt32.toInt32) 65536
    have h2 := rng32 (e.toUInt32.toUInt16.toUInt32.toInt32 + 65536)
    rw [own_M0_168, if_pos]
    simp only [own_chch]
    exact own_out _ _ _ _ _ _ ⟨own_ne (by omega), own_ne (by omega), own_ne (by omega), own_ne (by omega), own_ne (by omega)⟩
  have e4 : own_M0_188 a b c d e = 1 := by
    have h1 := c_isub (a.toUInt32.toUInt16.toUInt32.toInt32) 65536
    have h2 := rng32 (a.toUInt32.toUInt16.toUInt32.toInt32 - 65536)
    rw [own_M0_188, if_pos]
    simp only [own_chch]
    exact own_out _ _ _ _ _ _ ⟨own_ne (by omega), own_ne (by omega), own_ne (by omega), own_ne (by omega), own_ne (by omega)⟩
  rw [own_M0_200, own_M0_205, own_M0_210, own_M0_215, e1, e2, e3, e4]
  decide
set_option maxRecDepth 65536 in
set_option maxHeartbeats 40000000 in
theorem comes_1 {Post : Tables → Env → Array Value → State → Outcome → State → Prop} (hpost : ∀ tb e args s v u, (limb_1_1.after args s (.returned v) u = true ∧ limb_1_2.after args s (.returned v) u = true ∧ True) → FrameEnd s (.returned v) u (Jvm.fieldLocs frame_1_writes args s ++ Jvm.arrayLocs frame_1_arrays args s ++ Jvm.staticLocs frame_1_statics s) 16 128 → Post tb e args s (.returned v) u) :
    ArmFor flags0 classFile x code maxLocals ret World_1 tables_1 room_1 Calls_1 rest_1 Pre_1 Post := by
  intro l hfl _ _ p e ha hc hk s m args below hf hA hF happ hP
  obtain ⟨hcalls, hrest, hpre⟩ := hP
  obtain ⟨-, -, -, hnamed, -, -, -, hat⟩ := (Spec.applies_iff hf).mp happ
  obtain ⟨hg, hn⟩ := and_e (Cond.before_iff.mp (show (Jvm.Cond.and given_1 narrow_1).before args s = true from hpre))
  obtain ⟨g143, g144⟩ := and_e hg
  obtain ⟨g145, g146⟩ := and_e g144
  obtain ⟨g147, g148⟩ := and_e g146
  obtain ⟨g149, g150⟩ := and_e g148
  obtain ⟨g151, g152⟩ := and_e g150
  obtain ⟨g153, g154⟩ := and_e g152
  obtain ⟨w0, w1, w2, w3, w4, w5, rfl⟩ : ∃ w0 w1 w2 w3 w4 w5 : Value, args = #[w0, w1, w2, w3, w4, w5] := by
    have hs : args.size = 6 := by simpa [Cond.value, given_1] using g143
    obtain ⟨L⟩ := args
    match L, hs with
    | [w0, w1, w2, w3, w4, w5], _ => exact ⟨w0, w1, w2, w3, w4, w5, rfl⟩
  have hw := fun d (hd : d ∈ tables_1) => atoms_spec (ws := Jvm.Cond.code x code maxLocals ret :: tables_1) hat d (List.mem_cons_of_mem _ hd)
  have hfit : Fit s := fun {y c} hc i hi => by
    obtain ⟨ha, rfl⟩ := Array.getElem?_eq_some_iff.mp hc
    have q := List.all_eq_true.mp ((Array.all_eq_true_iff_forall_mem.mp hF) _ (Array.getElem_mem ha)) i (List.mem_range.mpr hi)
    simpa [Array.getElem?_eq_getElem hi] using q
  obtain ⟨i0, ei0⟩ := is_v g145
  obtain rfl : w0 = (.int i0) := Option.some.inj ei0
  obtain ⟨i1, ei1⟩ := is_v g147
  obtain rfl : w1 = (.int i1) := Option.some.inj ei1
  obtain ⟨i2, ei2⟩ := is_v g149
  obtain rfl : w2 = (.int i2) := Option.some.inj ei2
  obtain ⟨i3, ei3⟩ := is_v g151
  obtain rfl : w3 = (.int i3) := Option.some.inj ei3
  obtain ⟨i4, ei4⟩ := is_v g153
  obtain rfl : w4 = (.int i4) := Option.some.inj ei4
  obtain ⟨i5, ei5⟩ := is_v g154
  obtain rfl : w5 = (.int i5) := Option.some.inj ei5
  obtain ⟨n, o, h1, h2, h3, _, L, rfl, ⟨hv, N⟩, hq⟩ := own_rm0 l s _ hw tables_1 i0 i1 i2 i3 i4 i5 s.heap s.heap.size (Nat.le_refl _)  p e ha hc hk s m _ below hf ((Spec.applies_iff_loose hf).mp happ).1 ⟨rfl, State.Warmed39.refl s, rfl⟩ trivial
  rw [own_law] at hv
  subst hv
  refine ⟨n, _, h1, h2, h3, hpost _ _ _ _ _ _ ⟨Cond.after_iff.mpr rfl, Cond.after_iff.mpr (eq_i res_at (Term.int_eval (1)) rfl), trivial⟩ ⟨hq.1, hq.2.1, (hq.2.2.sift fun y hy => Or.inr (N y hy)).mono (by decide) (by decide)⟩⟩
theorem main_1_1 : Claimed_1_1 := comes_1 fun _ _ _ _ _ _ h hF => ⟨h.1, hF⟩
theorem main_1_2 : Claimed_1_2 := comes_1 fun _ _ _ _ _ _ h hF => ⟨h.2.1, hF⟩
end Jvm.Pilot.@@N@@
namespace Jvm.Pilot.@@N@@
open Jvm Jvm.ClassFile Sem Op Lib Jvm.Free Jvm.Stand Jvm.Pilot.@@N@@.Jvm.D
/-! MADE BY PROGRAM (witnessworld.py) out of the Statement's table words and the real class files: 10 classes; the members and pool entries that the words name. The judged class is class 1, her method 1. -/
namespace start1
open Jvm.ClassFile
def u (s : String) : CpInfo := .utf8 (stringToUtf16 s)
/-- a pool by its gaps: so many unusable entries, then the entry; so many at the end -/
def gap : Nat → List CpInfo → List CpInfo
  | 0, r => r
  | n + 1, r => .unusable :: gap n r
def poolList (es : List (Nat × CpInfo)) (last : Nat) : List CpInfo := es.foldr (fun e r => gap e.1 (e.2 :: r)) (gap last [])
def pool (es : List (Nat × CpInfo)) (last : Nat) : Array CpInfo := ⟨poolList es last⟩
def fileOf (pool : Array CpInfo) (this : Nat) (attrs : Array Attribute := #[]) (ms : Array MethodInfo := #[]) (fl : Nat := 33) (sup : Nat := 0) (ifs : Array Nat := #[]) (fds : Array FieldInfo := #[]) : ClassFile where
  minorVersion := 0
  majorVersion := 65
  constantPool := pool
  accessFlags := fl
  thisClass := this
  superClass := sup
  interfaces := ifs
  fields := fds
  methods := ms
  attributes := attrs
def plain (name : String) (sup : Option ClassId) : Class where
  name := name
  kind := .ordinary
  loader := none
  accessFlags := 33
  super := sup
  interfaces := #[]
  cf := none
  fields := #[]
  methods := #[]
  instanceTypes := #[]
  staticTypes := #[]
  resolved := #[]
  callSites := []
  init := .initialized
  statics := none
  mirror := none

def pool0 : Array CpInfo := pool [(5, u "<init>"), (0, u "()V"), (1, .class_ 10), (1, u "java/lang/Object")] 113

def k0c0 : Code := { maxStack := 0, maxLocals := 1, code := object_method_1_code, exceptionTable := #[], attributes := #[] }
def k0m0 : Method := { name := "<init>", desc := "()V", sig := { parameters := [], returnType := none }, accessFlags := 1, code := some k0c0 }
/-- java/lang/Object -/
def k0 : Class := { plain "java/lang/Object" none with
  accessFlags := 33
  interfaces := #[]
  cf := some (fileOf pool0 8 #[] #[{ accessFlags := 1, nameIndex := 5, descriptorIndex := 6, attributes := #[] }] 33 0 #[] #[])
  fields := #[]
  methods := #[k0m0]
  instanceTypes := #[]
  staticTypes := #[]
  resolved := Array.replicate 124 none
  statics := none }

def pool1 : Array CpInfo := pool [(2, .class_ 4), (1, u "java/lang/Object"), (0, u "<init>"), (0, u "()V"), (0, .class_ 8), (0, u "com/example/renkei/renkei/codec/Delimiters"), (0, .methodref 7 10), (0, .nameAndType 5 11), (0, u "(CCCCC)V"), (0, .methodref 7 13), (0, .nameAndType 14 15), (0, u "contains"), (0, u "(I)Z"), (0, .integer 65536), (0, .class_ 18), (0, u "com/example/renkei/renkei/codec/DelimitersContainsPinLaw"), (2, u "law"), (0, u "(IIIIII)Z")] 3

def k1m0 : Method := { name := "<init>", desc := "()V", sig := { parameters := [], returnType := none }, accessFlags := 1, code := none }
def k1c1 : Code := { maxStack := 7, maxLocals := 17, code := code, exceptionTable := #[], attributes := #[] }
def k1m1 : Method := { name := "law", desc := "(IIIIII)Z", sig := { parameters := [.int, .int, .int, .int, .int, .int], returnType := some .boolean }, accessFlags := 9, code := some k1c1 }
/-- com/example/renkei/renkei/codec/DelimitersContainsPinLaw -/
def k1 : Class := { plain "com/example/renkei/renkei/codec/DelimitersContainsPinLaw" (some 0) with
  accessFlags := 49
  interfaces := #[]
  cf := some (fileOf pool1 17 #[] #[{ accessFlags := 1, nameIndex := 5, descriptorIndex := 6, attributes := #[] }, { accessFlags := 9, nameIndex := 21, descriptorIndex := 22, attributes := #[] }] 49 2 #[] #[])
  fields := #[]
  methods := #[k1m0, k1m1]
  instanceTypes := #[]
  staticTypes := #[]
  resolved := Array.replicate 26 none
  statics := none }

def pool2 : Array CpInfo := pool [(1, .methodref 2 3), (0, .class_ 4), (0, .nameAndType 5 6), (0, u "java/lang/Object"), (0, u "<init>"), (0, u "()V"), (0, .class_ 8), (0, u "java/lang/Record")] 13

def k2c0 : Code := { maxStack := 1, maxLocals := 1, code := jdk_30_method_1_code, exceptionTable := #[], attributes := #[] }
def k2m0 : Method := { name := "<init>", desc := "()V", sig := { parameters := [], returnType := none }, accessFlags := 4, code := some k2c0 }
/-- java/lang/Record -/
def k2 : Class := { plain "java/lang/Record" (some 0) with
  accessFlags := 1057
  interfaces := #[]
  cf := some (fileOf pool2 7 #[] #[{ accessFlags := 4, nameIndex := 5, descriptorIndex := 6, attributes := #[] }] 1057 2 #[] #[])
  fields := #[]
  methods := #[k2m0]
  instanceTypes := #[]
  staticTypes := #[]
  resolved := Array.replicate 22 none
  statics := none }

def pool3 : Array CpInfo := pool [(1, .methodref 2 3), (0, .class_ 4), (0, .nameAndType 5 6), (0, u "java/lang/Record"), (0, u "<init>"), (0, u "()V"), (0, .fieldref 8 9), (0, .class_ 10), (0, .nameAndType 11 12), (0, u "com/example/renkei/renkei/codec/Delimiters"), (0, u "field"), (0, u "C"), (0, .fieldref 8 14), (0, .nameAndType 15 12), (0, u "component"), (0, .fieldref 8 17), (0, .nameAndType 18 12), (0, u "repetition"), (0, .fieldref 8 20), (0, .nameAndType 21 12), (0, u "escape"), (0, .fieldref 8 23), (0, .nameAndType 24 12), (0, u "subcomponent"), (13, u "MSH"), (8, u "MSH_1"), (0, u "I"), (0, u "CR"), (2, u "Ljava/lang/String;"), (0, u "(CCCCC)V"), (3, u "contains"), (0, u "(I)Z")] 29

def k3c0 : Code := { maxStack := 2, maxLocals := 6, code := prog_3_method_1_code, exceptionTable := #[], attributes := #[] }
def k3m0 : Method := { name := "<init>", desc := "(CCCCC)V", sig := { parameters := [.char, .char, .char, .char, .char], returnType := none }, accessFlags := 1, code := some k3c0 }
def k3c1 : Code := { maxStack := 2, maxLocals := 2, code := prog_3_method_2_code, exceptionTable := #[], attributes := #[] }
def k3m1 : Method := { name := "contains", desc := "(I)Z", sig := { parameters := [.int], returnType := some .boolean }, accessFlags := 0, code := some k3c1 }
/-- com/example/renkei/renkei/codec/Delimiters -/
def k3 : Class := { plain "com/example/renkei/renkei/codec/Delimiters" (some 2) with
  accessFlags := 49
  interfaces := #[]
  cf := some (fileOf pool3 8 #[] #[{ accessFlags := 1, nameIndex := 5, descriptorIndex := 53, attributes := #[] }, { accessFlags := 0, nameIndex := 57, descriptorIndex := 58, attributes := #[] }] 49 2 #[] #[{ accessFlags := 18, nameIndex := 11, descriptorIndex := 12, attributes := #[] }, { accessFlags := 18, nameIndex := 15, descriptorIndex := 12, attributes := #[] }, { accessFlags := 18, nameIndex := 18, descriptorIndex := 12, attributes := #[] }, { accessFlags := 18, nameIndex := 21, descriptorIndex := 12, attributes := #[] }, { accessFlags := 18, nameIndex := 24, descriptorIndex := 12, attributes := #[] }, { accessFlags := 24, nameIndex := 49, descriptorIndex := 12, attributes := #[] }, { accessFlags := 24, nameIndex := 38, descriptorIndex := 52, attributes := #[] }, { accessFlags := 24, nameIndex := 47, descriptorIndex := 48, attributes := #[] }])
  fields := #[{ name := "field", type := .char, accessFlags := 18, slot := 0, constantValue := 0 }, { name := "component", type := .char, accessFlags := 18, slot := 1, constantValue := 0 }, { name := "repetition", type := .char, accessFlags := 18, slot := 2, constantValue := 0 }, { name := "escape", type := .char, accessFlags := 18, slot := 3, constantValue := 0 }, { name := "subcomponent", type := .char, accessFlags := 18, slot := 4, constantValue := 0 }, { name := "CR", type := .char, accessFlags := 24, slot := 0, constantValue := 0 }, { name := "MSH", type := (.object "java/lang/String"), accessFlags := 24, slot := 1, constantValue := 0 }, { name := "MSH_1", type := .int, accessFlags := 24, slot := 2, constantValue := 0 }]
  methods := #[k3m0, k3m1]
  instanceTypes := #[.char, .char, .char, .char, .char]
  staticTypes := #[.char, (.object "java/lang/String"), .int]
  resolved := Array.replicate 88 none
  statics := none }

def pool4 : Array CpInfo := pool [(1, u "java/lang/Cloneable"), (0, .class_ 1), (0, u "java/lang/Object"), (0, .class_ 3)] 3

/-- java/lang/Cloneable -/
def k4 : Class := { plain "java/lang/Cloneable" (some 0) with
  accessFlags := 1537
  interfaces := #[]
  cf := some (fileOf pool4 2 #[] #[] 1537 4 #[] #[])
  fields := #[]
  methods := #[]
  instanceTypes := #[]
  staticTypes := #[]
  resolved := Array.replicate 8 none
  statics := none }

def pool5 : Array CpInfo := pool [(1, u "java/io/Serializable"), (0, .class_ 1), (0, u "java/lang/Object"), (0, .class_ 3)] 3

/-- java/io/Serializable -/
def k5 : Class := { plain "java/io/Serializable" (some 0) with
  accessFlags := 1537
  interfaces := #[]
  cf := some (fileOf pool5 2 #[] #[] 1537 4 #[] #[])
  fields := #[]
  methods := #[]
  instanceTypes := #[]
  staticTypes := #[]
  resolved := Array.replicate 8 none
  statics := none }

/-- the primitive byte -/
def k6 : Class := { plain "byte" none with kind := .primitive 'B', accessFlags := 0x411 }
/-- [B -/
def k7 : Class := { plain "[B" (some 0) with kind := .array 6 .byte, interfaces := #[4, 5], accessFlags := 1041 }

/-- the primitive int -/
def k8 : Class := { plain "int" none with kind := .primitive 'I', accessFlags := 0x411 }
/-- [I -/
def k9 : Class := { plain "[I" (some 0) with kind := .array 8 .int, interfaces := #[4, 5], accessFlags := 1041 }

def heap : Heap := #[]
def classes : Array Class := #[k0, k1, k2, k3, k4, k5, k6, k7, k8, k9]
def interned : List (Array UInt16 × Addr) := []
def slotsUsed : Nat := 0
def theMethod : MethodId := ⟨1, 1⟩
def args0 : Array Value := #[.int 3, .int 4, .int 5, .int 6, .int 7, .int 8]
def aboutOver (below : List Frame) : State where
  vm := { classes := classes, interned := interned.toArray }
  heap := heap
  slotsUsed := slotsUsed
  threads := #[{ frames := .invoking theMethod args0 :: below }]
def below0 : List Frame := [.native { method := ⟨0, 0⟩, args := #[] }]
def about1 : State := aboutOver below0
def p0 : Program := .bare "" "" ""
def e0 : Env := launch0.env 0 0 0
theorem w_frames : about1.frames = Frame.invoking theMethod args0 :: below0 := rfl
set_option maxRecDepth 65536 in
theorem w_args : argsFit about1.vm theMethod args0 = true := by decide +kernel
set_option maxRecDepth 65536 in
theorem w_heap : heapFits about1 = true := by decide +kernel
set_option maxRecDepth 65536 in
theorem w_runnable : about1.curStatus? = some .runnable := by decide +kernel
set_option maxRecDepth 65536 in
theorem w_alone : about1.alone = true := by decide +kernel
set_option maxRecDepth 65536 in
theorem w_named : about1.methodNamed? x = some theMethod := by decide +kernel
set_option maxRecDepth 65536 in
theorem w_hears : about1.hears theMethod below0 = true := by decide +kernel
set_option maxRecDepth 65536 in
theorem w_ripe : about1.ripe theMethod args0 below0 = true := by decide +kernel
theorem w_running : about1.status = .running := rfl
set_option maxRecDepth 65536 in
theorem w_room : about1.hasRoom e0.platform room_1 = true :=
  launch0.hasRoom_least _ room_1 (by decide +kernel) (by decide +kernel) (by decide +kernel) (by decide +kernel) (by decide +kernel) (by decide +kernel)
theorem allAtoms_all (ts : List Jvm.Cond) (a : Array Jvm.Value) (st : Jvm.State) : (allAtoms ts).before a st = ts.all (fun c => c.before a st) := by
  induction ts with
  | nil => rfl
  | cons c t ih =>
    show (Jvm.Cond.and c (allAtoms t)).before a st = _
    rw [Jvm.Cond.before_and, ih, List.all_cons]
def words1 : List Jvm.Cond := Jvm.Cond.code x code maxLocals ret :: tables_1
/-- a 'code' word, met by the world's own term for the bytes: nothing is compared byte by byte -/
theorem code_word {y : MethodName} {bytes : ByteArray} {mx : Nat} {rt : Option FieldType} {a : Array Value} {s : State} {m : MethodId} {meth : Method} {c : Code} (h1 : s.methodNamed? y = some m) (h2 : s.vm.method? m = some meth) (h3 : meth.code = some c) (h4 : c.code = bytes)
    (h5 : (c.maxLocals == mx && c.exceptionTable.isEmpty && decide (c.maxStack ≤ mostOperands) && decide (meth.sig.returnType = rt) && !meth.locks && decide (parseMethodDescriptor y.desc = some meth.sig)) = true) : (Jvm.Cond.code y bytes mx rt).before a s = true := by
  simp only [Bool.and_eq_true, beq_iff_eq, Bool.not_eq_true', decide_eq_true_eq] at h5
  obtain ⟨⟨⟨⟨⟨g1, g2⟩, g3⟩, g4⟩, g5⟩, g6⟩ := h5
  simp [Cond.before, Cond.holds, Cond.value, h1, h2, h3, h4, g1, g2, g3, g4, g5, g6]
def isCode : Jvm.Cond → Bool
  | .code _ _ _ _ => true
  | _ => false
theorem all_split {L : List Jvm.Cond} {P : Jvm.Cond → Bool} (h1 : L.all (fun c => isCode c || P c) = true) (h2 : ∀ c ∈ L.filter isCode, P c = true) : L.all P = true := by
  refine List.all_eq_true.mpr fun c hc => ?_
  have h := List.all_eq_true.mp h1 c hc
  rcases Bool.eq_false_or_eq_true (isCode c) with hi | hi
  · exact h2 c (List.mem_filter.mpr ⟨hc, hi⟩)
  · simpa [hi] using h
set_option maxRecDepth 65536 in
theorem w_c0 : (Jvm.Cond.code x code maxLocals ret).before args0 about1 = true := code_word (m := ⟨1, 1⟩) (meth := k1m1) (c := k1c1) (by decide +kernel) rfl rfl rfl (by decide +kernel)
set_option maxRecDepth 65536 in
theorem w_c1 : (Jvm.Cond.code ({ cls := "com/example/renkei/renkei/codec/Delimiters", name := "<init>", desc := "(CCCCC)V" } : Jvm.MethodName) prog_3_method_1_code (6 : Nat) (Option.none : Option Jvm.ClassFile.FieldType)).before args0 about1 = true := code_word (m := ⟨3, 0⟩) (meth := k3m0) (c := k3c0) (by decide +kernel) rfl rfl rfl (by decide +kernel)
set_option maxRecDepth 65536 in
theorem w_c2 : (Jvm.Cond.code ({ cls := "java/lang/Record", name := "<init>", desc := "()V" } : Jvm.MethodName) jdk_30_method_1_code (1 : Nat) (Option.none : Option Jvm.ClassFile.FieldType)).before args0 about1 = true := code_word (m := ⟨2, 0⟩) (meth := k2m0) (c := k2c0) (by decide +kernel) rfl rfl rfl (by decide +kernel)
set_option maxRecDepth 65536 in
theorem w_c3 : (Jvm.Cond.code ({ cls := "java/lang/Object", name := "<init>", desc := "()V" } : Jvm.MethodName) object_method_1_code (1 : Nat) (Option.none : Option Jvm.ClassFile.FieldType)).before args0 about1 = true := code_word (m := ⟨0, 0⟩) (meth := k0m0) (c := k0c0) (by decide +kernel) rfl rfl rfl (by decide +kernel)
set_option maxRecDepth 65536 in
theorem w_c4 : (Jvm.Cond.code ({ cls := "com/example/renkei/renkei/codec/Delimiters", name := "contains", desc := "(I)Z" } : Jvm.MethodName) prog_3_method_2_code (2 : Nat) (Option.some Jvm.ClassFile.FieldType.boolean)).before args0 about1 = true := code_word (m := ⟨3, 1⟩) (meth := k3m1) (c := k3c1) (by decide +kernel) rfl rfl rfl (by decide +kernel)
def codes1 : List Jvm.Cond := [Jvm.Cond.code x code maxLocals ret, Jvm.Cond.code ({ cls := "com/example/renkei/renkei/codec/Delimiters", name := "<init>", desc := "(CCCCC)V" } : Jvm.MethodName) prog_3_method_1_code (6 : Nat) (Option.none : Option Jvm.ClassFile.FieldType), Jvm.Cond.code ({ cls := "java/lang/Record", name := "<init>", desc := "()V" } : Jvm.MethodName) jdk_30_method_1_code (1 : Nat) (Option.none : Option Jvm.ClassFile.FieldType), Jvm.Cond.code ({ cls := "java/lang/Object", name := "<init>", desc := "()V" } : Jvm.MethodName) object_method_1_code (1 : Nat) (Option.none : Option Jvm.ClassFile.FieldType), Jvm.Cond.code ({ cls := "com/example/renkei/renkei/codec/Delimiters", name := "contains", desc := "(I)Z" } : Jvm.MethodName) prog_3_method_2_code (2 : Nat) (Option.some Jvm.ClassFile.FieldType.boolean)]
set_option maxRecDepth 65536 in
theorem codes_eq : words1.filter isCode = codes1 := rfl
theorem w_codes : ∀ c ∈ words1.filter isCode, c.before args0 about1 = true := by
  rw [codes_eq]
  intro c hc
  simp only [codes1, List.mem_cons, List.not_mem_nil, or_false] at hc
  rcases hc with rfl | rfl | rfl | rfl | rfl
  · exact w_c0
  · exact w_c1
  · exact w_c2
  · exact w_c3
  · exact w_c4
set_option maxRecDepth 65536 in
theorem w_t1 : (words1.take 24).all (fun c => isCode c || c.before args0 about1) = true := by decide +kernel
set_option maxRecDepth 65536 in
theorem w_t2 : (words1.drop 24).all (fun c => isCode c || c.before args0 about1) = true := by decide +kernel
theorem w_tables : (allAtoms (Jvm.Cond.code x code maxLocals ret :: tables_1)).before args0 about1 = true := by
  rw [allAtoms_all]
  show words1.all (fun c => c.before args0 about1) = true
  refine all_split ?_ w_codes
  rw [← List.take_append_drop 24 words1, List.all_append, w_t1, w_t2]
  rfl
set_option maxRecDepth 65536 in
theorem w_case : (Jvm.Cond.and given_1 narrow_1).before args0 about1 = true := by decide +kernel
theorem w_applies : (headSpec (Jvm.Cond.code x code maxLocals ret :: tables_1) room_1).applies x e0.platform about1 = true :=
  (Spec.applies_iff w_frames).mpr ⟨w_running, w_runnable, w_alone, w_named, w_hears, w_ripe, w_room, w_tables⟩
theorem atStart : AtStart classFile x code maxLocals ret World_1 tables_1 room_1 Calls_1 rest_1 Pre_1 launch0 p0 e0 about1 theMethod args0 below0 :=
  ⟨lists_1, trivial, launch0.admits_env _ _ _, launch0.least_env, fairChoices_fair.cas, fairChoices_fair.clock, w_frames, w_args, w_heap, w_applies, trivial, trivial, w_case⟩
end start1
theorem witness_1 : WitnessClaimed_1 := ⟨start1.p0, start1.e0, start1.about1, start1.theMethod, start1.args0, start1.below0, start1.atStart⟩
end Jvm.Pilot.@@N@@
