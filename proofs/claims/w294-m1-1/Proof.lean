import JvmDerived
import JvmDerived.Pilot.@@N@@Statement
import JvmDerived.Pilot.@@N@@Code
set_option linter.unusedVariables false
set_option linter.unusedSimpArgs false
namespace Jvm.Pilot.@@N@@
open Jvm Jvm.ClassFile Sem Op Lib Jvm.Free Jvm.Stand Jvm.LawKit Jvm.RoadKit Bundle Jvm.Pilot.@@N@@.Jvm.D
section Own
variable {p : Program} {l : Launch} {e : Env} {R : Room} {s : State} {m : MethodId} {args : Array Value} {below : List Frame} {meth : Method} {c : Code} {T : State} {locs : List Loc} {cells slots : Nat} {Q : Option Value → Heap → List Loc → Prop} {K N : Nat} {s' : State} {E : State → Outcome → State → List Loc → Nat → Nat → Prop}
/-- the run from a ends in a return of which Q holds, within the frame -/
def own_End (p : Program) (e : Env) (below : List Frame) (s : State) (Q : Option Value → Heap → List Loc → Prop) (K N : Nat) (a : State) (E : State → Outcome → State → List Loc → Nat → Nat → Prop := FrameEnd) : Prop :=
  ∃ s₂ o, Steps p.tables e below a s₂ ∧ s₂.status = .running ∧ Ended s₂ below o ∧ ∃ v L, o = .returned v ∧ Q v s₂.heap L ∧ E s o s₂ L K N
theorem own_back {a b : State} (k : ∀ t, Steps p.tables e below b t → Steps p.tables e below a t) (h : own_End p e below s Q K N b E) : own_End p e below s Q K N a E := by
  obtain ⟨s₂, o, h1, h2⟩ := h
  exact ⟨s₂, o, k _ h1, h2⟩
theorem own_via {a b : State} (k : Steps p.tables e below a b) (h : own_End p e below s Q K N b E) : own_End p e below s Q K N a E :=
  own_back (fun _ j => k.trans j) h
theorem own_selfsel {y : MethodName} {n : Nat} (wi : (Jvm.Cond.instantiable y.cls n).before args s = true) (hp : s.PrivateAt y) (hi : (Jvm.Cond.instanceMethod y).before args s = true) (hy : y.cls ≠ "java/lang/invoke/MethodHandle" ∧ y.cls ≠ "java/lang/invoke/VarHandle") : (Jvm.Cond.selects y.cls y y).before args s = true := by
  obtain ⟨c, k, h1, h2, -, h4, -⟩ := Cond.instantiable_spec wi
  exact selects_self_of_private h1 h2 (Bool.or_eq_false_iff.mp h4).1 hp hi hy
theorem own_cast {a b : State} (q : a = b) (h : own_End p e below s Q K N b E) : own_End p e below s Q K N a E := q ▸ h
theorem own_iadd (X : Stand p l e R s' m args below meth c T locs cells slots) (hx : p.tables.exec = Jvm.exec) {pc q : Nat} {Ls : Array Slot} {rest : List Value} (hd : decode c.code pc = .ok (.iadd, 1)) {x y : Int32} (hq : pc + 1 = q) (h : own_End p e below s Q K N (T.setTop (mkF m q Ls (.int (x + y) :: rest))) E) : own_End p e below s Q K N (T.setTop (mkF m pc Ls (.int y :: .int x :: rest))) E := by
  subst hq; exact own_back (fun _ k => XS.iadd X.here hx rfl hd rfl k) h
theorem own_isub (X : Stand p l e R s' m args below meth c T locs cells slots) (hx : p.tables.exec = Jvm.exec) {pc q : Nat} {Ls : Array Slot} {rest : List Value} (hd : decode c.code pc = .ok (.isub, 1)) {x y : Int32} (hq : pc + 1 = q) (h : own_End p e below s Q K N (T.setTop (mkF m q Ls (.int (x - y) :: rest))) E) : own_End p e below s Q K N (T.setTop (mkF m pc Ls (.int y :: .int x :: rest))) E := by
  subst hq; exact own_back (fun _ k => XS.isub X.here hx rfl hd rfl k) h
theorem own_imul (X : Stand p l e R s' m args below meth c T locs cells slots) (hx : p.tables.exec = Jvm.exec) {pc q : Nat} {Ls : Array Slot} {rest : List Value} (hd : decode c.code pc = .ok (.imul, 1)) {x y : Int32} (hq : pc + 1 = q) (h : own_End p e below s Q K N (T.setTop (mkF m q Ls (.int (x * y) :: rest))) E) : own_End p e below s Q K N (T.setTop (mkF m pc Ls (.int y :: .int x :: rest))) E := by
  subst hq; exact own_back (fun _ k => XS.imul X.here hx rfl hd rfl k) h
theorem own_iand (X : Stand p l e R s' m args below meth c T locs cells slots) (hx : p.tables.exec = Jvm.exec) {pc q : Nat} {Ls : Array Slot} {rest : List Value} (hd : decode c.code pc = .ok (.iand, 1)) {x y : Int32} (hq : pc + 1 = q) (h : own_End p e below s Q K N (T.setTop (mkF m q Ls (.int (x &&& y) :: rest))) E) : own_End p e below s Q K N (T.setTop (mkF m pc Ls (.int y :: .int x :: rest))) E := by
  subst hq; exact own_back (fun _ k => XS.iand X.here hx rfl hd rfl k) h
theorem own_ior (X : Stand p l e R s' m args below meth c T locs cells slots) (hx : p.tables.exec = Jvm.exec) {pc q : Nat} {Ls : Array Slot} {rest : List Value} (hd : decode c.code pc = .ok (.ior, 1)) {x y : Int32} (hq : pc + 1 = q) (h : own_End p e below s Q K N (T.setTop (mkF m q Ls (.int (x ||| y) :: rest))) E) : own_End p e below s Q K N (T.setTop (mkF m pc Ls (.int y :: .int x :: rest))) E := by
  subst hq; exact own_back (fun _ k => XS.ior X.here hx rfl hd rfl k) h
theorem own_ixor (X : Stand p l e R s' m args below meth c T locs cells slots) (hx : p.tables.exec = Jvm.exec) {pc q : Nat} {Ls : Array Slot} {rest : List Value} (hd : decode c.code pc = .ok (.ixor, 1)) {x y : Int32} (hq : pc + 1 = q) (h : own_End p e below s Q K N (T.setTop (mkF m q Ls (.int (x ^^^ y) :: rest))) E) : own_End p e below s Q K N (T.setTop (mkF m pc Ls (.int y :: .int x :: rest))) E := by
  subst hq; exact own_back (fun _ k => XS.ixor X.here hx rfl hd rfl k) h
theorem own_ishl (X : Stand p l e R s' m args below meth c T locs cells slots) (hx : p.tables.exec = Jvm.exec) {pc q : Nat} {Ls : Array Slot} {rest : List Value} (hd : decode c.code pc = .ok (.ishl, 1)) {x y : Int32} (hq : pc + 1 = q) (h : own_End p e below s Q K N (T.setTop (mkF m q Ls (.int (x <<< (y &&& 31)) :: rest))) E) : own_End p e below s Q K N (T.setTop (mkF m pc Ls (.int y :: .int x :: rest))) E := by
  subst hq; exact own_back (fun _ k => XS.ishl X.here hx rfl hd rfl k) h
theorem own_ishr (X : Stand p l e R s' m args below meth c T locs cells slots) (hx : p.tables.exec = Jvm.exec) {pc q : Nat} {Ls : Array Slot} {rest : List Value} (hd : decode c.code pc = .ok (.ishr, 1)) {x y : Int32} (hq : pc + 1 = q) (h : own_End p e below s Q K N (T.setTop (mkF m q Ls (.int (x >>> (y &&& 31)) :: rest))) E) : own_End p e below s Q K N (T.setTop (mkF m pc Ls (.int y :: .int x :: rest))) E := by
  subst hq; exact own_back (fun _ k => XS.ishr X.here hx rfl hd rfl k) h
theorem own_iushr (X : Stand p l e R s' m args below meth c T locs cells slots) (hx : p.tables.exec = Jvm.exec) {pc q : Nat} {Ls : Array Slot} {rest : List Value} (hd : decode c.code pc = .ok (.iushr, 1)) {x y : Int32} (hq : pc + 1 = q) (h : own_End p e below s Q K N (T.setTop (mkF m q Ls (.int ((x.toUInt32 >>> (y &&& 31).toUInt32).toInt32) :: rest))) E) : own_End p e below s Q K N (T.setTop (mkF m pc Ls (.int y :: .int x :: rest))) E := by
  subst hq; exact own_back (fun _ k => XS.iushr X.here hx rfl hd rfl k) h
theorem own_ladd (X : Stand p l e R s' m args below meth c T locs cells slots) (hx : p.tables.exec = Jvm.exec) {pc q : Nat} {Ls : Array Slot} {rest : List Value} (hd : decode c.code pc = .ok (.ladd, 1)) {x y : Int64} (hq : pc + 1 = q) (h : own_End p e below s Q K N (T.setTop (mkF m q Ls (.long (x + y) :: rest))) E) : own_End p e below s Q K N (T.setTop (mkF m pc Ls (.long y :: .long x :: rest))) E := by
  subst hq; exact own_back (fun _ k => XS.ladd X.here hx rfl hd rfl k) h
theorem own_lsub (X : Stand p l e R s' m args below meth c T locs cells slots) (hx : p.tables.exec = Jvm.exec) {pc q : Nat} {Ls : Array Slot} {rest : List Value} (hd : decode c.code pc = .ok (.lsub, 1)) {x y : Int64} (hq : pc + 1 = q) (h : own_End p e below s Q K N (T.setTop (mkF m q Ls (.long (x - y) :: rest))) E) : own_End p e below s Q K N (T.setTop (mkF m pc Ls (.long y :: .long x :: rest))) E := by
  subst hq; exact own_back (fun _ k => XS.lsub X.here hx rfl hd rfl k) h
theorem own_lmul (X : Stand p l e R s' m args below meth c T locs cells slots) (hx : p.tables.exec = Jvm.exec) {pc q : Nat} {Ls : Array Slot} {rest : List Value} (hd : decode c.code pc = .ok (.lmul, 1)) {x y : Int64} (hq : pc + 1 = q) (h : own_End p e below s Q K N (T.setTop (mkF m q Ls (.long (x * y) :: rest))) E) : own_End p e below s Q K N (T.setTop (mkF m pc Ls (.long y :: .long x :: rest))) E := by
  subst hq; exact own_back (fun _ k => XS.lmul X.here hx rfl hd rfl k) h
theorem own_land (X : Stand p l e R s' m args below meth c T locs cells slots) (hx : p.tables.exec = Jvm.exec) {pc q : Nat} {Ls : Array Slot} {rest : List Value} (hd : decode c.code pc = .ok (.land, 1)) {x y : Int64} (hq : pc + 1 = q) (h : own_End p e below s Q K N (T.setTop (mkF m q Ls (.long (x &&& y) :: rest))) E) : own_End p e below s Q K N (T.setTop (mkF m pc Ls (.long y :: .long x :: rest))) E := by
  subst hq; exact own_back (fun _ k => XS.land X.here hx rfl hd rfl k) h
theorem own_lor (X : Stand p l e R s' m args below meth c T locs cells slots) (hx : p.tables.exec = Jvm.exec) {pc q : Nat} {Ls : Array Slot} {rest : List Value} (hd : decode c.code pc = .ok (.lor, 1)) {x y : Int64} (hq : pc + 1 = q) (h : own_End p e below s Q K N (T.setTop (mkF m q Ls (.long (x ||| y) :: rest))) E) : own_End p e below s Q K N (T.setTop (mkF m pc Ls (.long y :: .long x :: rest))) E := by
  subst hq; exact own_back (fun _ k => XS.lor X.here hx rfl hd rfl k) h
theorem own_lxor (X : Stand p l e R s' m args below meth c T locs cells slots) (hx : p.tables.exec = Jvm.exec) {pc q : Nat} {Ls : Array Slot} {rest : List Value} (hd : decode c.code pc = .ok (.lxor, 1)) {x y : Int64} (hq : pc + 1 = q) (h : own_End p e below s Q K N (T.setTop (mkF m q Ls (.long (x ^^^ y) :: rest))) E) : own_End p e below s Q K N (T.setTop (mkF m pc Ls (.long y :: .long x :: rest))) E := by
  subst hq; exact own_back (fun _ k => XS.lxor X.here hx rfl hd rfl k) h
theorem own_lshl (X : Stand p l e R s' m args below meth c T locs cells slots) (hx : p.tables.exec = Jvm.exec) {pc q : Nat} {Ls : Array Slot} {rest : List Value} (hd : decode c.code pc = .ok (.lshl, 1)) {x : Int64} {y : Int32} (hq : pc + 1 = q) (h : own_End p e below s Q K N (T.setTop (mkF m q Ls (.long (x <<< (y &&& 0x3f).toInt64) :: rest))) E) : own_End p e below s Q K N (T.setTop (mkF m pc Ls (.int y :: .long x :: rest))) E := by
  subst hq; exact own_back (fun _ k => XS.lshl X.here hx rfl hd rfl k) h
theorem own_lshr (X : Stand p l e R s' m args below meth c T locs cells slots) (hx : p.tables.exec = Jvm.exec) {pc q : Nat} {Ls : Array Slot} {rest : List Value} (hd : decode c.code pc = .ok (.lshr, 1)) {x : Int64} {y : Int32} (hq : pc + 1 = q) (h : own_End p e below s Q K N (T.setTop (mkF m q Ls (.long (x >>> (y &&& 0x3f).toInt64) :: rest))) E) : own_End p e below s Q K N (T.setTop (mkF m pc Ls (.int y :: .long x :: rest))) E := by
  subst hq; exact own_back (fun _ k => XS.lshr X.here hx rfl hd rfl k) h
theorem own_lushr (X : Stand p l e R s' m args below meth c T locs cells slots) (hx : p.tables.exec = Jvm.exec) {pc q : Nat} {Ls : Array Slot} {rest : List Value} (hd : decode c.code pc = .ok (.lushr, 1)) {x : Int64} {y : Int32} (hq : pc + 1 = q) (h : own_End p e below s Q K N (T.setTop (mkF m q Ls (.long ((x.toUInt64 >>> (y &&& 0x3f).toInt64.toUInt64).toInt64) :: rest))) E) : own_End p e below s Q K N (T.setTop (mkF m pc Ls (.int y :: .long x :: rest))) E := by
  subst hq; exact own_back (fun _ k => XS.lushr X.here hx rfl hd rfl k) h
theorem own_idiv (X : Stand p l e R s' m args below meth c T locs cells slots) (hx : p.tables.exec = Jvm.exec) {pc q : Nat} {Ls : Array Slot} {rest : List Value} (hd : decode c.code pc = .ok (.idiv, 1)) {x y : Int32} (hy : y ≠ 0) (hq : pc + 1 = q) (h : own_End p e below s Q K N (T.setTop (mkF m q Ls (.int (x / y) :: rest))) E) : own_End p e below s Q K N (T.setTop (mkF m pc Ls (.int y :: .int x :: rest))) E := by
  subst hq; exact own_back (fun _ k => XS.idiv X.here hx rfl hd rfl hy k) h
theorem own_irem (X : Stand p l e R s' m args below meth c T locs cells slots) (hx : p.tables.exec = Jvm.exec) {pc q : Nat} {Ls : Array Slot} {rest : List Value} (hd : decode c.code pc = .ok (.irem, 1)) {x y : Int32} (hy : y ≠ 0) (hq : pc + 1 = q) (h : own_End p e below s Q K N (T.setTop (mkF m q Ls (.int (x % y) :: rest))) E) : own_End p e below s Q K N (T.setTop (mkF m pc Ls (.int y :: .int x :: rest))) E := by
  subst hq; exact own_back (fun _ k => iremM X hx rfl hd rfl hy k) h
theorem own_ldiv (X : Stand p l e R s' m args below meth c T locs cells slots) (hx : p.tables.exec = Jvm.exec) {pc q : Nat} {Ls : Array Slot} {rest : List Value} (hd : decode c.code pc = .ok (.ldiv, 1)) {x y : Int64} (hy : y ≠ 0) (hq : pc + 1 = q) (h : own_End p e below s Q K N (T.setTop (mkF m q Ls (.long (x / y) :: rest))) E) : own_End p e below s Q K N (T.setTop (mkF m pc Ls (.long y :: .long x :: rest))) E := by
  subst hq; exact own_back (fun _ k => XS.ldiv X.here hx rfl hd rfl hy k) h
theorem own_lrem (X : Stand p l e R s' m args below meth c T locs cells slots) (hx : p.tables.exec = Jvm.exec) {pc q : Nat} {Ls : Array Slot} {rest : List Value} (hd : decode c.code pc = .ok (.lrem, 1)) {x y : Int64} (hy : y ≠ 0) (hq : pc + 1 = q) (h : own_End p e below s Q K N (T.setTop (mkF m q Ls (.long (x - (x / y) * y) :: rest))) E) : own_End p e below s Q K N (T.setTop (mkF m pc Ls (.long y :: .long x :: rest))) E := by
  subst hq; exact own_back (fun _ k => XS.lrem X.here hx rfl hd rfl hy k) h
theorem own_ineg (X : Stand p l e R s' m args below meth c T locs cells slots) (hx : p.tables.exec = Jvm.exec) {pc q : Nat} {Ls : Array Slot} {rest : List Value} (hd : decode c.code pc = .ok (.ineg, 1)) {x : Int32} (hq : pc + 1 = q) (h : own_End p e below s Q K N (T.setTop (mkF m q Ls (.int (-x) :: rest))) E) : own_End p e below s Q K N (T.setTop (mkF m pc Ls (.int x :: rest))) E := by
  subst hq; exact own_back (fun _ k => XS.ineg X.here hx rfl hd rfl k) h
theorem own_lneg (X : Stand p l e R s' m args below meth c T locs cells slots) (hx : p.tables.exec = Jvm.exec) {pc q : Nat} {Ls : Array Slot} {rest : List Value} (hd : decode c.code pc = .ok (.lneg, 1)) {x : Int64} (hq : pc + 1 = q) (h : own_End p e below s Q K N (T.setTop (mkF m q Ls (.long (-x) :: rest))) E) : own_End p e below s Q K N (T.setTop (mkF m pc Ls (.long x :: rest))) E := by
  subst hq; exact own_back (fun _ k => XS.lneg X.here hx rfl hd rfl k) h
theorem own_i2l (X : Stand p l e R s' m args below meth c T locs cells slots) (hx : p.tables.exec = Jvm.exec) {pc q : Nat} {Ls : Array Slot} {rest : List Value} (hd : decode c.code pc = .ok (.i2l, 1)) {x : Int32} (hq : pc + 1 = q) (h : own_End p e below s Q K N (T.setTop (mkF m q Ls (.long (x.toInt64) :: rest))) E) : own_End p e below s Q K N (T.setTop (mkF m pc Ls (.int x :: rest))) E := by
  subst hq; exact own_back (fun _ k => XS.i2l X.here hx rfl hd rfl k) h
theorem own_l2i (X : Stand p l e R s' m args below meth c T locs cells slots) (hx : p.tables.exec = Jvm.exec) {pc q : Nat} {Ls : Array Slot} {rest : List Value} (hd : decode c.code pc = .ok (.l2i, 1)) {x : Int64} (hq : pc + 1 = q) (h : own_End p e below s Q K N (T.setTop (mkF m q Ls (.int (x.toInt32) :: rest))) E) : own_End p e below s Q K N (T.setTop (mkF m pc Ls (.long x :: rest))) E := by
  subst hq; exact own_back (fun _ k => XS.l2i X.here hx rfl hd rfl k) h
theorem own_i2c (X : Stand p l e R s' m args below meth c T locs cells slots) (hx : p.tables.exec = Jvm.exec) {pc q : Nat} {Ls : Array Slot} {rest : List Value} (hd : decode c.code pc = .ok (.i2c, 1)) {x : Int32} (hq : pc + 1 = q) (h : own_End p e below s Q K N (T.setTop (mkF m q Ls (.int (x.toUInt32.toUInt16.toUInt32.toInt32) :: rest))) E) : own_End p e below s Q K N (T.setTop (mkF m pc Ls (.int x :: rest))) E := by
  subst hq; exact own_back (fun _ k => XS.i2c X.here hx rfl hd rfl k) h
theorem own_i2b (X : Stand p l e R s' m args below meth c T locs cells slots) (hx : p.tables.exec = Jvm.exec) {pc q : Nat} {Ls : Array Slot} {rest : List Value} (hd : decode c.code pc = .ok (.i2b, 1)) {x : Int32} (hq : pc + 1 = q) (h : own_End p e below s Q K N (T.setTop (mkF m q Ls (.int (x.toInt8.toInt32) :: rest))) E) : own_End p e below s Q K N (T.setTop (mkF m pc Ls (.int x :: rest))) E := by
  subst hq; exact own_back (fun _ k => XS.i2b X.here hx rfl hd rfl k) h
theorem own_i2s (X : Stand p l e R s' m args below meth c T locs cells slots) (hx : p.tables.exec = Jvm.exec) {pc q : Nat} {Ls : Array Slot} {rest : List Value} (hd : decode c.code pc = .ok (.i2s, 1)) {x : Int32} (hq : pc + 1 = q) (h : own_End p e below s Q K N (T.setTop (mkF m q Ls (.int (x.toInt16.toInt32) :: rest))) E) : own_End p e below s Q K N (T.setTop (mkF m pc Ls (.int x :: rest))) E := by
  subst hq; exact own_back (fun _ k => XS.i2s X.here hx rfl hd rfl k) h
theorem own_lcmp (X : Stand p l e R s' m args below meth c T locs cells slots) (hx : p.tables.exec = Jvm.exec) {pc q : Nat} {Ls : Array Slot} {rest : List Value} (hd : decode c.code pc = .ok (.lcmp, 1)) {x y : Int64} (hq : pc + 1 = q) (h : own_End p e below s Q K N (T.setTop (mkF m q Ls (.int (lcmpW x y) :: rest))) E) : own_End p e below s Q K N (T.setTop (mkF m pc Ls (.long y :: .long x :: rest))) E := by
  subst hq; exact own_back (fun _ k => XS.lcmp X.here hx rfl hd rfl k) h
theorem own_dup (X : Stand p l e R s' m args below meth c T locs cells slots) (hx : p.tables.exec = Jvm.exec) {pc q : Nat} {Ls : Array Slot} {rest : List Value} (hd : decode c.code pc = .ok (.dup, 1)) {v : Value} (hv : v.category = 1) (hq : pc + 1 = q) (h : own_End p e below s Q K N (T.setTop (mkF m q Ls (v :: v :: rest))) E) : own_End p e below s Q K N (T.setTop (mkF m pc Ls (v :: rest))) E := by
  subst hq; exact own_back (fun _ k => XS.dup X.here hx rfl hd rfl hv k) h
theorem own_dupx1 (X : Stand p l e R s' m args below meth c T locs cells slots) (hx : p.tables.exec = Jvm.exec) {pc q : Nat} {Ls : Array Slot} {rest : List Value} (hd : decode c.code pc = .ok (.dup_x1, 1)) {v w : Value} (hv : v.category = 1) (hw : w.category = 1) (hq : pc + 1 = q) (h : own_End p e below s Q K N (T.setTop (mkF m q Ls (v :: w :: v :: rest))) E) : own_End p e below s Q K N (T.setTop (mkF m pc Ls (v :: w :: rest))) E := by
  subst hq; exact own_back (fun _ k => XS.dupX1 X.here hx rfl hd rfl hv hw k) h
theorem own_pop (X : Stand p l e R s' m args below meth c T locs cells slots) (hx : p.tables.exec = Jvm.exec) {pc q : Nat} {Ls : Array Slot} {rest : List Value} (hd : decode c.code pc = .ok (.pop, 1)) {v : Value} (hv : v.category = 1) (hq : pc + 1 = q) (h : own_End p e below s Q K N (T.setTop (mkF m q Ls (rest))) E) : own_End p e below s Q K N (T.setTop (mkF m pc Ls (v :: rest))) E := by
  subst hq; exact own_back (fun _ k => XS.pop X.here hx rfl hd rfl hv k) h
theorem own_anull (X : Stand p l e R s' m args below meth c T locs cells slots) (hx : p.tables.exec = Jvm.exec) {pc q : Nat} {Ls : Array Slot} {rest : List Value} (hd : decode c.code pc = .ok (.aconst_null, 1))  (hq : pc + 1 = q) (h : own_End p e below s Q K N (T.setTop (mkF m q Ls (.null :: rest))) E) : own_End p e below s Q K N (T.setTop (mkF m pc Ls (rest))) E := by
  subst hq; exact own_back (fun _ k => XS.aconstNull X.here hx rfl hd k) h
theorem own_iload (X : Stand p l e R s' m args below meth c T locs cells slots) (hx : p.tables.exec = Jvm.exec) {pc q : Nat} {Ls : Array Slot} {rest : List Value} {k : Nat} {v : Int32} (hd : decode c.code pc = .ok (.iload k, 2)) (hl : Ls[k]? = some (.val (.int v))) (hq : pc + 2 = q) (h : own_End p e below s Q K N (T.setTop (mkF m q Ls (.int v :: rest))) E) : own_End p e below s Q K N (T.setTop (mkF m pc Ls (rest))) E := by
  subst hq; exact own_back (fun _ k => XS.iload X.here hx rfl hd hl k) h
theorem own_iloadN (X : Stand p l e R s' m args below meth c T locs cells slots) (hx : p.tables.exec = Jvm.exec) {pc q : Nat} {Ls : Array Slot} {rest : List Value} {k : Fin 4} {v : Int32} (hd : decode c.code pc = .ok (.iload_n k, 1)) (hl : Ls[k.val]? = some (.val (.int v))) (hq : pc + 1 = q) (h : own_End p e below s Q K N (T.setTop (mkF m q Ls (.int v :: rest))) E) : own_End p e below s Q K N (T.setTop (mkF m pc Ls (rest))) E := by
  subst hq; exact own_back (fun _ k => XS.iloadN X.here hx rfl hd hl k) h
theorem own_istore (X : Stand p l e R s' m args below meth c T locs cells slots) (hx : p.tables.exec = Jvm.exec) {pc q : Nat} {Ls : Array Slot} {rest : List Value} {k : Nat} {v : Int32} {l' : Array Slot} (hd : decode c.code pc = .ok (.istore k, 2)) (hl : storeLocals Ls k (.int v) = some l') (hq : pc + 2 = q) (h : own_End p e below s Q K N (T.setTop (mkF m q l' (rest))) E) : own_End p e below s Q K N (T.setTop (mkF m pc Ls (.int v :: rest))) E := by
  subst hq; exact own_back (fun _ k => XS.istore X.here hx rfl hd rfl hl k) h
theorem own_istoreN (X : Stand p l e R s' m args below meth c T locs cells slots) (hx : p.tables.exec = Jvm.exec) {pc q : Nat} {Ls : Array Slot} {rest : List Value} {k : Fin 4} {v : Int32} {l' : Array Slot} (hd : decode c.code pc = .ok (.istore_n k, 1)) (hl : storeLocals Ls k.val (.int v) = some l') (hq : pc + 1 = q) (h : own_End p e below s Q K N (T.setTop (mkF m q l' (rest))) E) : own_End p e below s Q K N (T.setTop (mkF m pc Ls (.int v :: rest))) E := by
  subst hq; exact own_back (fun _ k => XS.istoreN X.here hx rfl hd rfl hl k) h
theorem own_lload (X : Stand p l e R s' m args below meth c T locs cells slots) (hx : p.tables.exec = Jvm.exec) {pc q : Nat} {Ls : Array Slot} {rest : List Value} {k : Nat} {v : Int64} (hd : decode c.code pc = .ok (.lload k, 2)) (hl : Ls[k]? = some (.val (.long v))) (hq : pc + 2 = q) (h : own_End p e below s Q K N (T.setTop (mkF m q Ls (.long v :: rest))) E) : own_End p e below s Q K N (T.setTop (mkF m pc Ls (rest))) E := by
  subst hq; exact own_back (fun _ k => XS.lload X.here hx rfl hd hl k) h
theorem own_lloadN (X : Stand p l e R s' m args below meth c T locs cells slots) (hx : p.tables.exec = Jvm.exec) {pc q : Nat} {Ls : Array Slot} {rest : List Value} {k : Fin 4} {v : Int64} (hd : decode c.code pc = .ok (.lload_n k, 1)) (hl : Ls[k.val]? = some (.val (.long v))) (hq : pc + 1 = q) (h : own_End p e below s Q K N (T.setTop (mkF m q Ls (.long v :: rest))) E) : own_End p e below s Q K N (T.setTop (mkF m pc Ls (rest))) E := by
  subst hq; exact own_back (fun _ k => XS.lloadN X.here hx rfl hd hl k) h
theorem own_lstore (X : Stand p l e R s' m args below meth c T locs cells slots) (hx : p.tables.exec = Jvm.exec) {pc q : Nat} {Ls : Array Slot} {rest : List Value} {k : Nat} {v : Int64} {l' : Array Slot} (hd : decode c.code pc = .ok (.lstore k, 2)) (hl : storeLocals Ls k (.long v) = some l') (hq : pc + 2 = q) (h : own_End p e below s Q K N (T.setTop (mkF m q l' (rest))) E) : own_End p e below s Q K N (T.setTop (mkF m pc Ls (.long v :: rest))) E := by
  subst hq; exact own_back (fun _ k => XS.lstore X.here hx rfl hd rfl hl k) h
theorem own_lstoreN (X : Stand p l e R s' m args below meth c T locs cells slots) (hx : p.tables.exec = Jvm.exec) {pc q : Nat} {Ls : Array Slot} {rest : List Value} {k : Fin 4} {v : Int64} {l' : Array Slot} (hd : decode c.code pc = .ok (.lstore_n k, 1)) (hl : storeLocals Ls k.val (.long v) = some l') (hq : pc + 1 = q) (h : own_End p e below s Q K N (T.setTop (mkF m q l' (rest))) E) : own_End p e below s Q K N (T.setTop (mkF m pc Ls (.long v :: rest))) E := by
  subst hq; exact own_back (fun _ k => XS.lstoreN X.here hx rfl hd rfl hl k) h
theorem own_aload (X : Stand p l e R s' m args below meth c T locs cells slots) (hx : p.tables.exec = Jvm.exec) {pc q : Nat} {Ls : Array Slot} {rest : List Value} {k : Nat} {v : Value} (hd : decode c.code pc = .ok (.aload k, 2)) (hl : Ls[k]? = some (.val v)) (hv : v.isRef = true) (hq : pc + 2 = q) (h : own_End p e below s Q K N (T.setTop (mkF m q Ls (v :: rest))) E) : own_End p e below s Q K N (T.setTop (mkF m pc Ls (rest))) E := by
  subst hq; exact own_back (fun _ k => XS.aload X.here hx rfl hd hl hv k) h
theorem own_aloadN (X : Stand p l e R s' m args below meth c T locs cells slots) (hx : p.tables.exec = Jvm.exec) {pc q : Nat} {Ls : Array Slot} {rest : List Value} {k : Fin 4} {v : Value} (hd : decode c.code pc = .ok (.aload_n k, 1)) (hl : Ls[k.val]? = some (.val v)) (hv : v.isRef = true) (hq : pc + 1 = q) (h : own_End p e below s Q K N (T.setTop (mkF m q Ls (v :: rest))) E) : own_End p e below s Q K N (T.setTop (mkF m pc Ls (rest))) E := by
  subst hq; exact own_back (fun _ k => XS.aloadN X.here hx rfl hd hl hv k) h
theorem own_astore (X : Stand p l e R s' m args below meth c T locs cells slots) (hx : p.tables.exec = Jvm.exec) {pc q : Nat} {Ls : Array Slot} {rest : List Value} {k : Nat} {v : Value} {l' : Array Slot} (hd : decode c.code pc = .ok (.astore k, 2)) (hv : v.isRef = true) (hl : storeLocals Ls k v = some l') (hq : pc + 2 = q) (h : own_End p e below s Q K N (T.setTop (mkF m q l' (rest))) E) : own_End p e below s Q K N (T.setTop (mkF m pc Ls (v :: rest))) E := by
  subst hq; exact own_back (fun _ k => XS.astore X.here hx rfl hd rfl hv hl k) h
theorem own_astoreN (X : Stand p l e R s' m args below meth c T locs cells slots) (hx : p.tables.exec = Jvm.exec) {pc q : Nat} {Ls : Array Slot} {rest : List Value} {k : Fin 4} {v : Value} {l' : Array Slot} (hd : decode c.code pc = .ok (.astore_n k, 1)) (hv : v.isRef = true) (hl : storeLocals Ls k.val v = some l') (hq : pc + 1 = q) (h : own_End p e below s Q K N (T.setTop (mkF m q l' (rest))) E) : own_End p e below s Q K N (T.setTop (mkF m pc Ls (v :: rest))) E := by
  subst hq; exact own_back (fun _ k => XS.astoreN X.here hx rfl hd rfl hv hl k) h
theorem own_iinc (X : Stand p l e R s' m args below meth c T locs cells slots) (hx : p.tables.exec = Jvm.exec) {pc q : Nat} {Ls : Array Slot} {rest : List Value} {k : Nat} {cst : Int} {x z : Int32} {l' : Array Slot} (hd : decode c.code pc = .ok (.iinc k cst, 3)) (hl : Ls[k]? = some (.val (.int x))) (hz : Int32.ofInt cst = z) (hl' : storeLocals Ls k (.int (x + z)) = some l') (hq : pc + 3 = q) (h : own_End p e below s Q K N (T.setTop (mkF m q l' (rest))) E) : own_End p e below s Q K N (T.setTop (mkF m pc Ls (rest))) E := by
  subst hq hz; exact own_back (fun _ k => XS.iinc X.here hx rfl hd hl hl' k) h
theorem own_iconst (X : Stand p l e R s' m args below meth c T locs cells slots) (hx : p.tables.exec = Jvm.exec) {pc q : Nat} {Ls : Array Slot} {rest : List Value} {i : Int} {z : Int32} (hd : decode c.code pc = .ok (.iconst i, 1)) (hz : Int32.ofInt i = z) (hq : pc + 1 = q) (h : own_End p e below s Q K N (T.setTop (mkF m q Ls (.int z :: rest))) E) : own_End p e below s Q K N (T.setTop (mkF m pc Ls (rest))) E := by
  subst hq hz; exact own_back (fun _ k => XS.iconst X.here hx rfl hd k) h
theorem own_bipush (X : Stand p l e R s' m args below meth c T locs cells slots) (hx : p.tables.exec = Jvm.exec) {pc q : Nat} {Ls : Array Slot} {rest : List Value} {i : Int} {z : Int32} (hd : decode c.code pc = .ok (.bipush i, 2)) (hz : (Int8.ofInt i).toInt32 = z) (hq : pc + 2 = q) (h : own_End p e below s Q K N (T.setTop (mkF m q Ls (.int z :: rest))) E) : own_End p e below s Q K N (T.setTop (mkF m pc Ls (rest))) E := by
  subst hq hz; exact own_back (fun _ k => XS.bipush X.here hx rfl hd k) h
theorem own_sipush (X : Stand p l e R s' m args below meth c T locs cells slots) (hx : p.tables.exec = Jvm.exec) {pc q : Nat} {Ls : Array Slot} {rest : List Value} {i : Int} {z : Int32} (hd : decode c.code pc = .ok (.sipush i, 3)) (hz : (Int16.ofInt i).toInt32 = z) (hq : pc + 3 = q) (h : own_End p e below s Q K N (T.setTop (mkF m q Ls (.int z :: rest))) E) : own_End p e below s Q K N (T.setTop (mkF m pc Ls (rest))) E := by
  subst hq hz; exact own_back (fun _ k => XS.sipush X.here hx rfl hd k) h
theorem own_lconst (X : Stand p l e R s' m args below meth c T locs cells slots) (hx : p.tables.exec = Jvm.exec) {pc q : Nat} {Ls : Array Slot} {rest : List Value} {i : Fin 2} {z : Int64} (hd : decode c.code pc = .ok (.lconst i, 1)) (hz : Int64.ofNat i = z) (hq : pc + 1 = q) (h : own_End p e below s Q K N (T.setTop (mkF m q Ls (.long z :: rest))) E) : own_End p e below s Q K N (T.setTop (mkF m pc Ls (rest))) E := by
  subst hq hz; exact own_back (fun _ k => XS.lconst X.here hx rfl hd k) h
theorem own_goto (X : Stand p l e R s' m args below meth c T locs cells slots) (hx : p.tables.exec = Jvm.exec) {pc q : Nat} {Ls : Array Slot} {rest : List Value} {o : Int} (hd : decode c.code pc = .ok (.goto o, 3)) (ho : 0 ≤ (pc : Int) + o) (hp : ((pc : Int) + o).toNat = q) (h : own_End p e below s Q K N (T.setTop (mkF m q Ls (rest))) E) : own_End p e below s Q K N (T.setTop (mkF m pc Ls (rest))) E := by
  exact own_back (fun _ k => XS.goto X.here hx rfl (pc0 := pc) (pc' := q) rfl hd ho hp k) h
theorem own_ifY (X : Stand p l e R s' m args below meth c T locs cells slots) (hx : p.tables.exec = Jvm.exec) {pc q : Nat} {Ls : Array Slot} {rest : List Value} {cd : ClassFile.Cond} {x : Int32} {o : Int} (hd : decode c.code pc = .ok (.ifCond cd o, 3)) (hc : if_icmp.holds cd x 0 = true) (ho : 0 ≤ (pc : Int) + o) (hp : ((pc : Int) + o).toNat = q) (h : own_End p e below s Q K N (T.setTop (mkF m q Ls (rest))) E) : own_End p e below s Q K N (T.setTop (mkF m pc Ls (.int x :: rest))) E := by
  exact own_back (fun _ k => XS.ifYes X.here hx rfl (pc0 := pc) (pc' := q) rfl hd rfl ((if0 _ _).trans hc) ho hp k) h
theorem own_ifN (X : Stand p l e R s' m args below meth c T locs cells slots) (hx : p.tables.exec = Jvm.exec) {pc q : Nat} {Ls : Array Slot} {rest : List Value} {cd : ClassFile.Cond} {x : Int32} {o : Int} (hd : decode c.code pc = .ok (.ifCond cd o, 3)) (hc : if_icmp.holds cd x 0 = false) (hq : pc + 3 = q) (h : own_End p e below s Q K N (T.setTop (mkF m q Ls (rest))) E) : own_End p e below s Q K N (T.setTop (mkF m pc Ls (.int x :: rest))) E := by
  subst hq; exact own_back (fun _ k => XS.ifNo X.here hx rfl hd rfl ((if0 _ _).trans hc) k) h
theorem own_icY (X : Stand p l e R s' m args below meth c T locs cells slots) (hx : p.tables.exec = Jvm.exec) {pc q : Nat} {Ls : Array Slot} {rest : List Value} {cd : ClassFile.Cond} {x y : Int32} {o : Int} (hd : decode c.code pc = .ok (.if_icmp cd o, 3)) (hc : if_icmp.holds cd x y = true) (ho : 0 ≤ (pc : Int) + o) (hp : ((pc : Int) + o).toNat = q) (h : own_End p e below s Q K N (T.setTop (mkF m q Ls (rest))) E) : own_End p e below s Q K N (T.setTop (mkF m pc Ls (.int y :: .int x :: rest))) E := by
  exact own_back (fun _ k => XS.icmpYes X.here hx rfl (pc0 := pc) (pc' := q) rfl hd rfl hc ho hp k) h
theorem own_icN (X : Stand p l e R s' m args below meth c T locs cells slots) (hx : p.tables.exec = Jvm.exec) {pc q : Nat} {Ls : Array Slot} {rest : List Value} {cd : ClassFile.Cond} {x y : Int32} {o : Int} (hd : decode c.code pc = .ok (.if_icmp cd o, 3)) (hc : if_icmp.holds cd x y = false) (hq : pc + 3 = q) (h : own_End p e below s Q K N (T.setTop (mkF m q Ls (rest))) E) : own_End p e below s Q K N (T.setTop (mkF m pc Ls (.int y :: .int x :: rest))) E := by
  subst hq; exact own_back (fun _ k => XS.icmpNo X.here hx rfl hd rfl hc k) h
theorem own_lcY (X : Stand p l e R s' m args below meth c T locs cells slots) (hx : p.tables.exec = Jvm.exec) {pc r q : Nat} {Ls : Array Slot} {rest : List Value} {cd : ClassFile.Cond} {x y : Int64} {o : Int} (hd : decode c.code pc = .ok (.lcmp, 1)) (hr : pc + 1 = r) (hd' : decode c.code r = .ok (.ifCond cd o, 3)) (hc : if_icmp.holds cd (lcmpW x y) 0 = true) (ho : 0 ≤ (r : Int) + o) (hp : ((r : Int) + o).toNat = q) (h : own_End p e below s Q K N (T.setTop (mkF m q Ls (rest))) E) : own_End p e below s Q K N (T.setTop (mkF m pc Ls (.long y :: .long x :: rest))) E := own_lcmp X hx hd hr (own_ifY X hx hd' hc ho hp h)
theorem own_lcN (X : Stand p l e R s' m args below meth c T locs cells slots) (hx : p.tables.exec = Jvm.exec) {pc r q : Nat} {Ls : Array Slot} {rest : List Value} {cd : ClassFile.Cond} {x y : Int64} {o : Int} (hd : decode c.code pc = .ok (.lcmp, 1)) (hr : pc + 1 = r) (hd' : decode c.code r = .ok (.ifCond cd o, 3)) (hc : if_icmp.holds cd (lcmpW x y) 0 = false) (hq : r + 3 = q) (h : own_End p e below s Q K N (T.setTop (mkF m q Ls (rest))) E) : own_End p e below s Q K N (T.setTop (mkF m pc Ls (.long y :: .long x :: rest))) E := own_lcmp X hx hd hr (own_ifN X hx hd' hc hq h)
theorem own_tlt {x y : Int64} (h : x < y) : if_icmp.holds .lt (lcmpW x y) 0 = true ∧ if_icmp.holds .ge (lcmpW x y) 0 = false ∧ if_icmp.holds .gt (lcmpW y x) 0 = true ∧ if_icmp.holds .le (lcmpW y x) 0 = false :=
  ⟨(tlt ((lw_lt x y).mpr h)).1, (tlt ((lw_lt x y).mpr h)).2.1, (tlt ((lw_gt y x).mpr h)).2.2.1, (tlt ((lw_gt y x).mpr h)).2.2.2⟩
theorem own_flt {x y : Int64} (h : ¬ x < y) : if_icmp.holds .lt (lcmpW x y) 0 = false ∧ if_icmp.holds .ge (lcmpW x y) 0 = true ∧ if_icmp.holds .gt (lcmpW y x) 0 = false ∧ if_icmp.holds .le (lcmpW y x) 0 = true :=
  ⟨(flt (fun q => h ((lw_lt x y).mp q))).1, (flt (fun q => h ((lw_lt x y).mp q))).2.1, (flt (fun q => h ((lw_gt y x).mp q))).2.2.1, (flt (fun q => h ((lw_gt y x).mp q))).2.2.2⟩
theorem own_teq {x y : Int64} (h : x = y) : if_icmp.holds .eq (lcmpW x y) 0 = true ∧ if_icmp.holds .ne (lcmpW x y) 0 = false := teq ((lw_eq x y).mpr h)
theorem own_feq {x y : Int64} (h : ¬ x = y) : if_icmp.holds .eq (lcmpW x y) 0 = false ∧ if_icmp.holds .ne (lcmpW x y) 0 = true := feq (fun q => h ((lw_eq x y).mp q))
theorem own_retV (X : Stand p l e R s m args below meth c T locs cells slots) (hx : p.tables.exec = Jvm.exec) {pc : Nat} {Ls : Array Slot}  (hret : meth.sig.returnType = none) (hlk : meth.locks = false) (hc : cells ≤ K) (hs : slots ≤ N) (hd : decode c.code pc = .ok (.return_, 1)) (hQ : Q none T.heap locs) : own_End p e below s Q K N (T.setTop (mkF m pc Ls [])) := by
  obtain ⟨fs, hr, hrun, hended, hW, hsame⟩ := X.leave (v := none) (fun _ => rfl) hlk
  refine ⟨_, _, ?_, hrun, hended, _, _, rfl, hQ, ⟨_, rfl⟩, hW, hsame.mono hc hs⟩
  exact X.returnOut hx hret hd hr
theorem own_retI (X : Stand p l e R s m args below meth c T locs cells slots) (hx : p.tables.exec = Jvm.exec) {pc : Nat} {Ls : Array Slot} {rest : List Value} {z : Int32} (hret : meth.sig.returnType = some .int) (hlk : meth.locks = false) (hc : cells ≤ K) (hs : slots ≤ N) (hd : decode c.code pc = .ok (.ireturn, 1)) (hQ : Q (some (.int z)) T.heap locs) : own_End p e below s Q K N (T.setTop (mkF m pc Ls (.int z :: rest))) := by
  obtain ⟨fs, hr, hrun, hended, hW, hsame⟩ := X.leave (v := (some (.int z))) (fun h => by rw [hret] at h; cases h) hlk
  refine ⟨_, _, ?_, hrun, hended, _, _, rfl, hQ, ⟨_, rfl⟩, hW, hsame.mono hc hs⟩
  have hm' : T.vm.method? m = some meth := X.method'
  have hn : narrow .int (.int z) = .int z := rfl
  show Steps p.tables e below (T.setTop { method := m, pc := pc, locals := Ls, stack := _ :: rest, locked := none }) _
  jvm_step X.here [X.here.top, hx, hd, hm', hret, hn]
  first | (intro acts; rw [hr _ acts rfl rfl rfl]) | rw [hr _ _ rfl rfl rfl]
  exact Steps.refl _
theorem own_retJ (X : Stand p l e R s m args below meth c T locs cells slots) (hx : p.tables.exec = Jvm.exec) {pc : Nat} {Ls : Array Slot} {rest : List Value} {z : Int64} (hret : meth.sig.returnType = some .long) (hlk : meth.locks = false) (hc : cells ≤ K) (hs : slots ≤ N) (hd : decode c.code pc = .ok (.lreturn, 1)) (hQ : Q (some (.long z)) T.heap locs) : own_End p e below s Q K N (T.setTop (mkF m pc Ls (.long z :: rest))) := by
  obtain ⟨fs, hr, hrun, hended, hW, hsame⟩ := X.leave (v := (some (.long z))) (fun h => by rw [hret] at h; cases h) hlk
  refine ⟨_, _, ?_, hrun, hended, _, _, rfl, hQ, ⟨_, rfl⟩, hW, hsame.mono hc hs⟩
  have hm' : T.vm.method? m = some meth := X.method'
  have hn : narrow .long (.long z) = .long z := rfl
  show Steps p.tables e below (T.setTop { method := m, pc := pc, locals := Ls, stack := _ :: rest, locked := none }) _
  jvm_step X.here [X.here.top, hx, hd, hm', hret, hn]
  first | (intro acts; rw [hr _ acts rfl rfl rfl]) | rw [hr _ _ rfl rfl rfl]
  exact Steps.refl _
theorem own_retN (X : Stand p l e R s m args below meth c T locs cells slots) (hx : p.tables.exec = Jvm.exec) {pc : Nat} {Ls : Array Slot} {rest : List Value} {z : Int32} {t : FieldType} (ht : t = .boolean ∨ t = .byte ∨ t = .char ∨ t = .short) (hret : meth.sig.returnType = some t) (hlk : meth.locks = false) (hc : cells ≤ K) (hs : slots ≤ N) (hd : decode c.code pc = .ok (.ireturn, 1)) (hQ : Q (some (.int (nar t z))) T.heap locs) : own_End p e below s Q K N (T.setTop (mkF m pc Ls (.int z :: rest))) := by
  obtain ⟨fs, hr, hrun, hended, hW, hsame⟩ := X.leave (v := (some (.int (nar t z)))) (fun h => by rw [hret] at h; cases h) hlk
  refine ⟨_, _, ?_, hrun, hended, _, _, rfl, hQ, ⟨_, rfl⟩, hW, hsame.mono hc hs⟩
  exact retN X hx hret ht hd hr
theorem own_b (P : Prop) [Decidable P] : nar .boolean (if P then (1 : Int32) else 0) = if P then (1 : Int32) else 0 := by
  split <;> rfl
end Own
theorem own_d2_0 : decode jdk_30_method_1_code 0 = .ok (.aload_n 0, 1) := by decide +kernel
theorem own_d2_1 : decode jdk_30_method_1_code 1 = .ok (.invokespecial 1, 3) := by decide +kernel
theorem own_d2_4 : decode jdk_30_method_1_code 4 = .ok (.return_, 1) := by decide +kernel
def own_Q2 (Z : State) (o0 : Addr) (h0 : Heap) (n0 : Nat) (v : Option Value) (h : Heap) (L : List Loc) : Prop := v = none ∧ Fr n0 L ∧ h = h0
theorem own_pn_rm2 : plainName "java/lang/Record" = true := by first | (simp [plainName, overriddenIn]; done) | decide +kernel
theorem own_ef_rm2 (m : MethodId) (o0 : Addr) : entryFrame m #[(.ref o0)] 1 = mkF m 0 #[.val (.ref o0)] [] := by first | (simp [entryFrame, mkF, argsToLocals, Value.category]; done) | rfl
set_option maxRecDepth 65536 in
set_option maxHeartbeats 40000000 in
theorem own_rm2 (l : Launch) (Z : State) (a0 : Array Value) (hw : ∀ d ∈ tables_1, d.before a0 Z = true) (ws : List Jvm.Cond) (o0 : Addr) (h0 : Heap) (n0 : Nat) (Z0 : n0 ≤ h0.size) :
    MetFree l (⟨"java/lang/Record", "<init>", "()V"⟩ : MethodName) (head1 (Jvm.Cond.code (⟨"java/lang/Record", "<init>", "()V"⟩ : MethodName) jdk_30_method_1_code 1 none :: ws) ({ frames := 1, cells := 0, slots := 0, locals := 12 } : Room)) (fun a U => a = #[(.ref o0)] ∧ Z.Warmed39 U.vm ∧ U.heap = h0) (fun _ _ _ _ _ => True) (fun _ U o U' => ∃ v L, o = .returned v ∧ own_Q2 Z o0 h0 n0 v U'.heap L ∧ FrameEnd U o U' L ({ frames := 1, cells := 0, slots := 0, locals := 12 } : Room).cells ({ frames := 1, cells := 0, slots := 0, locals := 12 } : Room).slots) := by
  refine MetFree.of_bodySF (plainFor_of_name own_pn_rm2) hisR ?_
  intro p e s m args below meth c s₁ Bd hml0 hP hK
  obtain ⟨rfl, hZ, hh⟩ := hP
  have hx := Bd.exec
  have hby := Bd.bytes
  have hml : c.maxLocals = 1 := hml0
  have hown : s.vm.findClass "java/lang/Record" = some m.cls := findClass_of_methodNamed Bd.named
  have hnm := (name_of_methodNamed Bd.named Bd.method).1
  have X0 : Stand p l e ({ frames := 1, cells := 0, slots := 0, locals := 12 } : Room) s m #[(.ref o0)] below meth c s₁ [] 0 0 := Stand.of_body Bd
  have e0 : s₁.heap = h0 := by rw [← hh, Bd.state]; rfl
  have N0 := Fr.nil n0
  show own_End p e below s (own_Q2 Z o0 h0 n0) ({ frames := 1, cells := 0, slots := 0, locals := 12 } : Room).cells ({ frames := 1, cells := 0, slots := 0, locals := 12 } : Room).slots (s₁.setTop (entryFrame m #[(.ref o0)] 1))
  rw [own_ef_rm2]
  refine own_aloadN X0 hx (hb hby own_d2_0) rfl rfl (q := 1) rfl ?_
  obtain ⟨T1, X1, e1, st1⟩ := initO X0 hx hZ hown (hw _ (List.mem_of_getElem? (i := 11) rfl)) (hw _ (List.mem_of_getElem? (i := 12) rfl)) (hw _ (List.mem_of_getElem? (i := 13) rfl)) e0 (g := (mkF m 1 #[.val (.ref o0)] [(.ref o0)])) rfl (by rw [hml]; rfl) rfl (hb hby own_d2_1) (by decide) (W := 0) (by show 2 * 0 + _ ≤ _; exact Nat.le_of_eq rfl) (by decide)
  refine own_back st1 ?_
  show own_End p e below s _ _ _ (T1.setTop (mkF m 4 #[.val (.ref o0)] []))
  refine own_retV X1 hx Bd.returns Bd.notSynchronized (by decide) (by decide) (hb hby own_d2_4) ?_
  show own_Q2 Z o0 h0 n0 _ T1.heap _
  exact ⟨rfl, N0, e1⟩
theorem own_d1_0 : decode prog_27_method_1_code 0 = .ok (.aload_n 0, 1) := by decide +kernel
theorem own_d1_1 : decode prog_27_method_1_code 1 = .ok (.invokespecial 1, 3) := by decide +kernel
theorem own_pd0 : parseMethodDescriptor "()V" = some ⟨[], none⟩ := by decide +kernel
theorem own_d1_4 : decode prog_27_method_1_code 4 = .ok (.aload_n 0, 1) := by decide +kernel
theorem own_d1_5 : decode prog_27_method_1_code 5 = .ok (.lload_n 1, 1) := by decide +kernel
theorem own_d1_6 : decode prog_27_method_1_code 6 = .ok (.putfield 7, 3) := by decide +kernel
theorem own_d1_9 : decode prog_27_method_1_code 9 = .ok (.aload_n 0, 1) := by decide +kernel
theorem own_d1_10 : decode prog_27_method_1_code 10 = .ok (.lload_n 3, 1) := by decide +kernel
theorem own_d1_11 : decode prog_27_method_1_code 11 = .ok (.putfield 13, 3) := by decide +kernel
theorem own_d1_14 : decode prog_27_method_1_code 14 = .ok (.return_, 1) := by decide +kernel
def own_Q1 (Z : State) (o0 : Addr) (q1 : Int64) (q2 : Int64) (w_o0_run : Int64) (w_o0_change : Int64) (h0 : Heap) (n0 : Nat) (v : Option Value) (h : Heap) (L : List Loc) : Prop := v = none ∧ Fr n0 L ∧ Keep h0 h [o0] ∧ Exa Z h o0 "com/example/replicated_commit_log/replicatedcommitlog/cluster/ImageVersion" ∧ Fld Z h o0 "com/example/replicated_commit_log/replicatedcommitlog/cluster/ImageVersion" "run" "J" (.long q1) ∧ Fld Z h o0 "com/example/replicated_commit_log/replicatedcommitlog/cluster/ImageVersion" "change" "J" (.long q2)
theorem own_pn_rm1 : plainName "com/example/replicated_commit_log/replicatedcommitlog/cluster/ImageVersion" = true := by first | (simp [plainName, overriddenIn]; done) | decide +kernel
theorem own_ef_rm1 (m : MethodId) (o0 : Addr) (q1 : Int64) (q2 : Int64) : entryFrame m #[(.ref o0), (.long q1), (.long q2)] 5 = mkF m 0 #[.val (.ref o0), .val (.long q1), .second, .val (.long q2), .second] [] := by first | (simp [entryFrame, mkF, argsToLocals, Value.category]; done) | rfl
set_option maxRecDepth 65536 in
set_option maxHeartbeats 40000000 in
theorem own_rm1 (l : Launch) (Z : State) (a0 : Array Value) (hw : ∀ d ∈ tables_1, d.before a0 Z = true) (ws : List Jvm.Cond) (o0 : Addr) (q1 : Int64) (q2 : Int64) (w_o0_run : Int64) (w_o0_change : Int64) (h0 : Heap) (n0 : Nat) (Z0 : n0 ≤ h0.size) (E_o0 : Exa Z h0 o0 "com/example/replicated_commit_log/replicatedcommitlog/cluster/ImageVersion") (F_o0_run : Fld Z h0 o0 "com/example/replicated_commit_log/replicatedcommitlog/cluster/ImageVersion" "run" "J" (.long w_o0_run)) (F_o0_change : Fld Z h0 o0 "com/example/replicated_commit_log/replicatedcommitlog/cluster/ImageVersion" "change" "J" (.long w_o0_change)) (g_o0 : n0 ≤ o0) :
    MetFree l (⟨"com/example/replicated_commit_log/replicatedcommitlog/cluster/ImageVersion", "<init>", "(JJ)V"⟩ : MethodName) (head1 (Jvm.Cond.code (⟨"com/example/replicated_commit_log/replicatedcommitlog/cluster/ImageVersion", "<init>", "(JJ)V"⟩ : MethodName) prog_27_method_1_code 5 none :: ws) ({ frames := 2, cells := 0, slots := 0, locals := 24 } : Room)) (fun a U => a = #[(.ref o0), (.long q1), (.long q2)] ∧ Z.Warmed39 U.vm ∧ U.heap = h0) (fun _ _ _ _ _ => True) (fun _ U o U' => ∃ v L, o = .returned v ∧ own_Q1 Z o0 q1 q2 w_o0_run w_o0_change h0 n0 v U'.heap L ∧ FrameEnd U o U' L ({ frames := 2, cells := 0, slots := 0, locals := 24 } : Room).cells ({ frames := 2, cells := 0, slots := 0, locals := 24 } : Room).slots) := by
  refine MetFree.of_bodySF (plainFor_of_name own_pn_rm1) hisR ?_
  intro p e s m args below meth c s₁ Bd hml0 hP hK
  obtain ⟨rfl, hZ, hh⟩ := hP
  have hx := Bd.exec
  have hby := Bd.bytes
  have hml : c.maxLocals = 5 := hml0
  have hown : s.vm.findClass "com/example/replicated_commit_log/replicatedcommitlog/cluster/ImageVersion" = some m.cls := findClass_of_methodNamed Bd.named
  have hnm := (name_of_methodNamed Bd.named Bd.method).1
  have X0 : Stand p l e ({ frames := 2, cells := 0, slots := 0, locals := 24 } : Room) s m #[(.ref o0), (.long q1), (.long q2)] below meth c s₁ [] 0 0 := Stand.of_body Bd
  have e0 : s₁.heap = h0 := by rw [← hh, Bd.state]; rfl
  have N0 := Fr.nil n0
  show own_End p e below s (own_Q1 Z o0 q1 q2 w_o0_run w_o0_change h0 n0) ({ frames := 2, cells := 0, slots := 0, locals := 24 } : Room).cells ({ frames := 2, cells := 0, slots := 0, locals := 24 } : Room).slots (s₁.setTop (entryFrame m #[(.ref o0), (.long q1), (.long q2)] 5))
  rw [own_ef_rm1]
  refine own_aloadN X0 hx (hb hby own_d1_0) rfl rfl (q := 1) rfl ?_
  obtain ⟨_, _, ⟨T3, L3, k3, n3⟩, -, X3, ⟨Lc3, hQ3, l3, y3, z3⟩, st3⟩ := X0.specialBack hx (y := (⟨"java/lang/Record", "<init>", "()V"⟩ : MethodName)) rfl hown (mvT hZ (hw _ (List.mem_of_getElem? (i := 6) rfl))) (mvT hZ (hw _ (List.mem_of_getElem? (i := 7) rfl))) (mvT hZ (hw _ (List.mem_of_getElem? (i := 10) rfl))) (by decide) (backOf (W := 0) (own_rm2 l Z a0 hw [] o0 h0 n0 Z0 ) hZ (hw _ (List.mem_of_getElem? (i := 10) rfl)) (hw _ (List.mem_of_getElem? (i := 9) rfl)) (by decide) (by decide)) (g := (mkF m 1 #[.val (.ref o0), .val (.long q1), .second, .val (.long q2), .second] [(.ref o0)])) rfl (by rw [hml]; rfl) (Steps.refl _) (a := o0) (argsL := []) (rest := []) (lenOf own_pd0 rfl) rfl (by show 2 * 0 + _ ≤ _; exact Nat.le_of_eq rfl) (hb hby own_d1_1) (fun _ _ => ⟨rfl, e0, (by decide : 0 + 0 ≤ _), (by decide : 0 + 0 ≤ _)⟩)
  dsimp only [Pt.U, Pt.locs, Pt.cells, Pt.slots] at X3 l3 y3 z3 st3 hQ3
  subst l3 y3 z3
  obtain ⟨rfl, N3q, e3⟩ := hQ3
  have N3 := Fr.app N0 N3q
  refine own_via st3 ?_
  show own_End p e below s _ _ _ (T3.setTop (mkF m 4 #[.val (.ref o0), .val (.long q1), .second, .val (.long q2), .second] []))
  refine own_aloadN X3 hx (hb hby own_d1_4) rfl rfl (q := 5) rfl ?_
  refine own_lloadN X3 hx (hb hby own_d1_5) rfl (q := 6) rfl ?_
  obtain ⟨T4, h4, X4, e4, W4, st4⟩ := putF X3 hx hZ hown (host := "") (Or.inl (hw _ (List.mem_of_getElem? (i := 14) rfl))) Via.refl e3 F_o0_run E_o0 (Or.inr ⟨(hw _ (List.mem_of_getElem? (i := 15) rfl)), rfl, hnm⟩) (hw _ (List.mem_of_getElem? (i := 1) rfl)) (ty := .long) (by decide) rfl rfl (g := (mkF m 6 #[.val (.ref o0), .val (.long q1), .second, .val (.long q2), .second] [(.long q1), (.ref o0)])) rfl rfl (hb hby own_d1_6)
  have F_o0_run_4 := F_o0_run.same W4
  have E_o0_5 := E_o0.wr W4
  have F_o0_change_6 := F_o0_change.other W4 (Or.inr (slot_ne (Or.inr (hw _ (List.mem_of_getElem? (i := 17) rfl))) (Or.inr (hw _ (List.mem_of_getElem? (i := 15) rfl))) (by decide) (t := .long) (t' := .long) (by decide) (by decide)))
  have Kp7 : Keep h0 _ [o0] := (Keep.refl h0 [o0]).wr W4 (Or.inl (List.mem_of_getElem? (i := 0) rfl))
  have Z8 := Nat.le_trans Z0 (Keep.of_wr W4).1
  have N4 := Fr.snoc X4 N3 g_o0
  refine own_back st4 ?_
  show own_End p e below s _ _ _ (T4.setTop (mkF m 9 #[.val (.ref o0), .val (.long q1), .second, .val (.long q2), .second] []))
  refine own_aloadN X4 hx (hb hby own_d1_9) rfl rfl (q := 10) rfl ?_
  refine own_lloadN X4 hx (hb hby own_d1_10) rfl (q := 11) rfl ?_
  obtain ⟨T9, h9, X9, e9, W9, st9⟩ := putF X4 hx hZ hown (host := "") (Or.inl (hw _ (List.mem_of_getElem? (i := 16) rfl))) Via.refl e4 F_o0_change_6 E_o0_5 (Or.inr ⟨(hw _ (List.mem_of_getElem? (i := 17) rfl)), rfl, hnm⟩) (hw _ (List.mem_of_getElem? (i := 1) rfl)) (ty := .long) (by decide) rfl rfl (g := (mkF m 11 #[.val (.ref o0), .val (.long q1), .second, .val (.long q2), .second] [(.long q2), (.ref o0)])) rfl rfl (hb hby own_d1_11)
  have F_o0_change_9 := F_o0_change_6.same W9
  have E_o0_10 := E_o0_5.wr W9
  have F_o0_run_11 := F_o0_run_4.other W9 (Or.inr (slot_ne (Or.inr (hw _ (List.mem_of_getElem? (i := 15) rfl))) (Or.inr (hw _ (List.mem_of_getElem? (i := 17) rfl))) (by decide) (t := .long) (t' := .long) (by decide) (by decide)))
  have Kp12 : Keep h0 _ [o0] := Kp7.wr W9 (Or.inl (List.mem_of_getElem? (i := 0) rfl))
  have Z13 := Nat.le_trans Z8 (Keep.of_wr W9).1
  have N9 := Fr.snoc X9 N4 g_o0
  refine own_back st9 ?_
  show own_End p e below s _ _ _ (T9.setTop (mkF m 14 #[.val (.ref o0), .val (.long q1), .second, .val (.long q2), .second] []))
  refine own_retV X9 hx Bd.returns Bd.notSynchronized (by decide) (by decide) (hb hby own_d1_14) ?_
  show own_Q1 Z o0 q1 q2 w_o0_run w_o0_change h0 n0 _ T9.heap _
  rw [e9]
  exact ⟨rfl, N9, Kp12, E_o0_10, F_o0_run_11, F_o0_change_9⟩
theorem own_d4_0 : decode prog_27_method_3_code 0 = .ok (.aload_n 0, 1) := by decide +kernel
theorem own_d4_1 : decode prog_27_method_3_code 1 = .ok (.getfield 7, 3) := by decide +kernel
theorem own_d4_4 : decode prog_27_method_3_code 4 = .ok (.aload_n 1, 1) := by decide +kernel
theorem own_d4_5 : decode prog_27_method_3_code 5 = .ok (.getfield 7, 3) := by decide +kernel
theorem own_d4_8 : decode prog_27_method_3_code 8 = .ok (.lcmp, 1) := by decide +kernel
theorem own_d4_9 : decode prog_27_method_3_code 9 = .ok (.ifCond .ne 19, 3) := by decide +kernel
theorem own_d4_12 : decode prog_27_method_3_code 12 = .ok (.aload_n 0, 1) := by decide +kernel
theorem own_d4_13 : decode prog_27_method_3_code 13 = .ok (.getfield 13, 3) := by decide +kernel
theorem own_d4_16 : decode prog_27_method_3_code 16 = .ok (.aload_n 1, 1) := by decide +kernel
theorem own_d4_17 : decode prog_27_method_3_code 17 = .ok (.getfield 13, 3) := by decide +kernel
theorem own_d4_20 : decode prog_27_method_3_code 20 = .ok (.lcmp, 1) := by decide +kernel
theorem own_d4_21 : decode prog_27_method_3_code 21 = .ok (.ifCond .lt 7, 3) := by decide +kernel
theorem own_d4_28 : decode prog_27_method_3_code 28 = .ok (.iconst 0, 1) := by decide +kernel
theorem own_d4_29 : decode prog_27_method_3_code 29 = .ok (.ireturn, 1) := by decide +kernel
theorem own_d4_24 : decode prog_27_method_3_code 24 = .ok (.iconst 1, 1) := by decide +kernel
theorem own_d4_25 : decode prog_27_method_3_code 25 = .ok (.goto 4, 3) := by decide +kernel
def own_F4 (w_o0_run : Int64) (w_o0_change : Int64) (w_o1_run : Int64) (w_o1_change : Int64) : Int32 := (if w_o0_run = w_o1_run then (if w_o0_change < w_o1_change then (0 : Int32) else (1 : Int32)) else (0 : Int32))
def own_Q4 (Z : State) (o0 : Addr) (o1 : Addr) (w_o0_run : Int64) (w_o0_change : Int64) (w_o1_run : Int64) (w_o1_change : Int64) (h0 : Heap) (n0 : Nat) (v : Option Value) (h : Heap) (L : List Loc) : Prop := v = some (.int (own_F4 w_o0_run w_o0_change w_o1_run w_o1_change)) ∧ Fr n0 L ∧ h = h0
theorem own_pn_rm4 : plainName "com/example/replicated_commit_log/replicatedcommitlog/cluster/ImageVersion" = true := by first | (simp [plainName, overriddenIn]; done) | decide +kernel
theorem own_ef_rm4 (m : MethodId) (o0 : Addr) (o1 : Addr) : entryFrame m #[(.ref o0), (.ref o1)] 2 = mkF m 0 #[.val (.ref o0), .val (.ref o1)] [] := by first | (simp [entryFrame, mkF, argsToLocals, Value.category]; done) | rfl
set_option maxRecDepth 65536 in
set_option maxHeartbeats 40000000 in
theorem own_rm4 (l : Launch) (Z : State) (a0 : Array Value) (hw : ∀ d ∈ tables_1, d.before a0 Z = true) (ws : List Jvm.Cond) (o0 : Addr) (o1 : Addr) (w_o0_run : Int64) (w_o0_change : Int64) (w_o1_run : Int64) (w_o1_change : Int64) (h0 : Heap) (n0 : Nat) (Z0 : n0 ≤ h0.size) (E_o0 : Exa Z h0 o0 "com/example/replicated_commit_log/replicatedcommitlog/cluster/ImageVersion") (F_o0_run : Fld Z h0 o0 "com/example/replicated_commit_log/replicatedcommitlog/cluster/ImageVersion" "run" "J" (.long w_o0_run)) (F_o0_change : Fld Z h0 o0 "com/example/replicated_commit_log/replicatedcommitlog/cluster/ImageVersion" "change" "J" (.long w_o0_change)) (E_o1 : Exa Z h0 o1 "com/example/replicated_commit_log/replicatedcommitlog/cluster/ImageVersion") (F_o1_run : Fld Z h0 o1 "com/example/replicated_commit_log/replicatedcommitlog/cluster/ImageVersion" "run" "J" (.long w_o1_run)) (F_o1_change : Fld Z h0 o1 "com/example/replicated_commit_log/replicatedcommitlog/cluster/ImageVersion" "change" "J" (.long w_o1_change)) :
    MetFree l (⟨"com/example/replicated_commit_log/replicatedcommitlog/cluster/ImageVersion", "reaches", "(Lcom/example/replicated_commit_log/replicatedcommitlog/cluster/ImageVersion;)Z"⟩ : MethodName) (head1 (Jvm.Cond.code (⟨"com/example/replicated_commit_log/replicatedcommitlog/cluster/ImageVersion", "reaches", "(Lcom/example/replicated_commit_log/replicatedcommitlog/cluster/ImageVersion;)Z"⟩ : MethodName) prog_27_method_3_code 2 (some .boolean) :: ws) ({ frames := 0, cells := 0, slots := 0, locals := 0 } : Room)) (fun a U => a = #[(.ref o0), (.ref o1)] ∧ Z.Warmed39 U.vm ∧ U.heap = h0) (fun _ _ _ _ _ => True) (fun _ U o U' => ∃ v L, o = .returned v ∧ own_Q4 Z o0 o1 w_o0_run w_o0_change w_o1_run w_o1_change h0 n0 v U'.heap L ∧ FrameEnd U o U' L ({ frames := 0, cells := 0, slots := 0, locals := 0 } : Room).cells ({ frames := 0, cells := 0, slots := 0, locals := 0 } : Room).slots) := by
  refine MetFree.of_bodySF (plainFor_of_name own_pn_rm4) hisR ?_
  intro p e s m args below meth c s₁ Bd hml0 hP hK
  obtain ⟨rfl, hZ, hh⟩ := hP
  have hx := Bd.exec
  have hby := Bd.bytes
  have hml : c.maxLocals = 2 := hml0
  have hown : s.vm.findClass "com/example/replicated_commit_log/replicatedcommitlog/cluster/ImageVersion" = some m.cls := findClass_of_methodNamed Bd.named
  have hnm := (name_of_methodNamed Bd.named Bd.method).1
  have X0 : Stand p l e ({ frames := 0, cells := 0, slots := 0, locals := 0 } : Room) s m #[(.ref o0), (.ref o1)] below meth c s₁ [] 0 0 := Stand.of_body Bd
  have e0 : s₁.heap = h0 := by rw [← hh, Bd.state]; rfl
  have N0 := Fr.nil n0
  show own_End p e below s (own_Q4 Z o0 o1 w_o0_run w_o0_change w_o1_run w_o1_change h0 n0) ({ frames := 0, cells := 0, slots := 0, locals := 0 } : Room).cells ({ frames := 0, cells := 0, slots := 0, locals := 0 } : Room).slots (s₁.setTop (entryFrame m #[(.ref o0), (.ref o1)] 2))
  rw [own_ef_rm4]
  refine own_aloadN X0 hx (hb hby own_d4_0) rfl rfl (q := 1) rfl ?_
  obtain ⟨T15, X15, e15, st15⟩ := getF X0 hx hZ hown (host := "") (Or.inl (hw _ (List.mem_of_getElem? (i := 14) rfl))) Via.refl e0 F_o0_run (g := (mkF m 1 #[.val (.ref o0), .val (.ref o1)] [(.ref o0)])) rfl rfl (hb hby own_d4_1)
  refine own_back st15 ?_
  show own_End p e below s _ _ _ (T15.setTop (mkF m 4 #[.val (.ref o0), .val (.ref o1)] [(.long w_o0_run)]))
  refine own_aloadN X15 hx (hb hby own_d4_4) rfl rfl (q := 5) rfl ?_
  obtain ⟨T16, X16, e16, st16⟩ := getF X15 hx hZ hown (host := "") (Or.inl (hw _ (List.mem_of_getElem? (i := 14) rfl))) Via.refl e15 F_o1_run (g := (mkF m 5 #[.val (.ref o0), .val (.ref o1)] [(.ref o1), (.long w_o0_run)])) rfl rfl (hb hby own_d4_5)
  refine own_back st16 ?_
  show own_End p e below s _ _ _ (T16.setTop (mkF m 8 #[.val (.ref o0), .val (.ref o1)] [(.long w_o1_run), (.long w_o0_run)]))
  by_cases hc9_17 : w_o0_run = w_o1_run
  · refine own_lcN X16 hx (hb hby own_d4_8) (r := 9) rfl (hb hby own_d4_9) (own_teq hc9_17).2 (q := 12) rfl ?_
    refine own_aloadN X16 hx (hb hby own_d4_12) rfl rfl (q := 13) rfl ?_
    obtain ⟨T18, X18, e18, st18⟩ := getF X16 hx hZ hown (host := "") (Or.inl (hw _ (List.mem_of_getElem? (i := 16) rfl))) Via.refl e16 F_o0_change (g := (mkF m 13 #[.val (.ref o0), .val (.ref o1)] [(.ref o0)])) rfl rfl (hb hby own_d4_13)
    refine own_back st18 ?_
    show own_End p e below s _ _ _ (T18.setTop (mkF m 16 #[.val (.ref o0), .val (.ref o1)] [(.long w_o0_change)]))
    refine own_aloadN X18 hx (hb hby own_d4_16) rfl rfl (q := 17) rfl ?_
    obtain ⟨T19, X19, e19, st19⟩ := getF X18 hx hZ hown (host := "") (Or.inl (hw _ (List.mem_of_getElem? (i := 16) rfl))) Via.refl e18 F_o1_change (g := (mkF m 17 #[.val (.ref o0), .val (.ref o1)] [(.ref o1), (.long w_o0_change)])) rfl rfl (hb hby own_d4_17)
    refine own_back st19 ?_
    show own_End p e below s _ _ _ (T19.setTop (mkF m 20 #[.val (.ref o0), .val (.ref o1)] [(.long w_o1_change), (.long w_o0_change)]))
    by_cases hc21_20 : w_o0_change < w_o1_change
    · refine own_lcY X19 hx (hb hby own_d4_20) (r := 21) rfl (hb hby own_d4_21) (own_tlt hc21_20).1 (q := 28) (by decide) (by decide) ?_
      refine own_iconst X19 hx (hb hby own_d4_28) (z := 0) rfl (q := 29) rfl ?_
      refine own_retN X19 hx (t := .boolean) (by simp) Bd.returns Bd.notSynchronized (by decide) (by decide) (hb hby own_d4_29) ?_
      show own_Q4 Z o0 o1 w_o0_run w_o0_change w_o1_run w_o1_change h0 n0 _ T19.heap _
      exact ⟨(by rw [show own_F4 w_o0_run w_o0_change w_o1_run w_o1_change = _ from (by simp only [own_F4, if_pos hc9_17, if_pos hc21_20] : _ = (0 : Int32))]; rfl), N0, e19⟩
    · refine own_lcN X19 hx (hb hby own_d4_20) (r := 21) rfl (hb hby own_d4_21) (own_flt hc21_20).1 (q := 24) rfl ?_
      refine own_iconst X19 hx (hb hby own_d4_24) (z := 1) rfl (q := 25) rfl ?_
      refine own_goto X19 hx (hb hby own_d4_25) (q := 29) (by decide) (by decide) ?_
      refine own_retN X19 hx (t := .boolean) (by simp) Bd.returns Bd.notSynchronized (by decide) (by decide) (hb hby own_d4_29) ?_
      show own_Q4 Z o0 o1 w_o0_run w_o0_change w_o1_run w_o1_change h0 n0 _ T19.heap _
      exact ⟨(by rw [show own_F4 w_o0_run w_o0_change w_o1_run w_o1_change = _ from (by simp only [own_F4, if_pos hc9_17, if_neg hc21_20] : _ = (1 : Int32))]; rfl), N0, e19⟩
  · refine own_lcY X16 hx (hb hby own_d4_8) (r := 9) rfl (hb hby own_d4_9) (own_feq hc9_17).2 (q := 28) (by decide) (by decide) ?_
    refine own_iconst X16 hx (hb hby own_d4_28) (z := 0) rfl (q := 29) rfl ?_
    refine own_retN X16 hx (t := .boolean) (by simp) Bd.returns Bd.notSynchronized (by decide) (by decide) (hb hby own_d4_29) ?_
    show own_Q4 Z o0 o1 w_o0_run w_o0_change w_o1_run w_o1_change h0 n0 _ T16.heap _
    exact ⟨(by rw [show own_F4 w_o0_run w_o0_change w_o1_run w_o1_change = _ from (by simp only [own_F4, if_neg hc9_17] : _ = (0 : Int32))]; rfl), N0, e16⟩
theorem own_d5_0 : decode prog_27_method_2_code 0 = .ok (.aload_n 0, 1) := by decide +kernel
theorem own_d5_1 : decode prog_27_method_2_code 1 = .ok (.getfield 7, 3) := by decide +kernel
theorem own_d5_4 : decode prog_27_method_2_code 4 = .ok (.aload_n 1, 1) := by decide +kernel
theorem own_d5_5 : decode prog_27_method_2_code 5 = .ok (.getfield 7, 3) := by decide +kernel
theorem own_d5_8 : decode prog_27_method_2_code 8 = .ok (.lcmp, 1) := by decide +kernel
theorem own_d5_9 : decode prog_27_method_2_code 9 = .ok (.ifCond .ne 15, 3) := by decide +kernel
theorem own_d5_12 : decode prog_27_method_2_code 12 = .ok (.aload_n 0, 1) := by decide +kernel
theorem own_d5_13 : decode prog_27_method_2_code 13 = .ok (.getfield 13, 3) := by decide +kernel
theorem own_d5_16 : decode prog_27_method_2_code 16 = .ok (.aload_n 1, 1) := by decide +kernel
theorem own_d5_17 : decode prog_27_method_2_code 17 = .ok (.getfield 13, 3) := by decide +kernel
theorem own_d5_20 : decode prog_27_method_2_code 20 = .ok (.lcmp, 1) := by decide +kernel
theorem own_d5_21 : decode prog_27_method_2_code 21 = .ok (.ifCond .le 7, 3) := by decide +kernel
theorem own_d5_24 : decode prog_27_method_2_code 24 = .ok (.iconst 1, 1) := by decide +kernel
theorem own_d5_25 : decode prog_27_method_2_code 25 = .ok (.goto 4, 3) := by decide +kernel
theorem own_d5_29 : decode prog_27_method_2_code 29 = .ok (.ireturn, 1) := by decide +kernel
theorem own_d5_28 : decode prog_27_method_2_code 28 = .ok (.iconst 0, 1) := by decide +kernel
def own_F5 (w_o0_run : Int64) (w_o0_change : Int64) (w_o1_run : Int64) (w_o1_change : Int64) : Int32 := (if w_o0_run = w_o1_run then (if w_o1_change < w_o0_change then (1 : Int32) else (0 : Int32)) else (1 : Int32))
def own_Q5 (Z : State) (o0 : Addr) (o1 : Addr) (w_o0_run : Int64) (w_o0_change : Int64) (w_o1_run : Int64) (w_o1_change : Int64) (h0 : Heap) (n0 : Nat) (v : Option Value) (h : Heap) (L : List Loc) : Prop := v = some (.int (own_F5 w_o0_run w_o0_change w_o1_run w_o1_change)) ∧ Fr n0 L ∧ h = h0
theorem own_pn_rm5 : plainName "com/example/replicated_commit_log/replicatedcommitlog/cluster/ImageVersion" = true := by first | (simp [plainName, overriddenIn]; done) | decide +kernel
theorem own_ef_rm5 (m : MethodId) (o0 : Addr) (o1 : Addr) : entryFrame m #[(.ref o0), (.ref o1)] 2 = mkF m 0 #[.val (.ref o0), .val (.ref o1)] [] := by first | (simp [entryFrame, mkF, argsToLocals, Value.category]; done) | rfl
set_option maxRecDepth 65536 in
set_option maxHeartbeats 40000000 in
theorem own_rm5 (l : Launch) (Z : State) (a0 : Array Value) (hw : ∀ d ∈ tables_1, d.before a0 Z = true) (ws : List Jvm.Cond) (o0 : Addr) (o1 : Addr) (w_o0_run : Int64) (w_o0_change : Int64) (w_o1_run : Int64) (w_o1_change : Int64) (h0 : Heap) (n0 : Nat) (Z0 : n0 ≤ h0.size) (E_o0 : Exa Z h0 o0 "com/example/replicated_commit_log/replicatedcommitlog/cluster/ImageVersion") (F_o0_run : Fld Z h0 o0 "com/example/replicated_commit_log/replicatedcommitlog/cluster/ImageVersion" "run" "J" (.long w_o0_run)) (F_o0_change : Fld Z h0 o0 "com/example/replicated_commit_log/replicatedcommitlog/cluster/ImageVersion" "change" "J" (.long w_o0_change)) (E_o1 : Exa Z h0 o1 "com/example/replicated_commit_log/replicatedcommitlog/cluster/ImageVersion") (F_o1_run : Fld Z h0 o1 "com/example/replicated_commit_log/replicatedcommitlog/cluster/ImageVersion" "run" "J" (.long w_o1_run)) (F_o1_change : Fld Z h0 o1 "com/example/replicated_commit_log/replicatedcommitlog/cluster/ImageVersion" "change" "J" (.long w_o1_change)) :
    MetFree l (⟨"com/example/replicated_commit_log/replicatedcommitlog/cluster/ImageVersion", "replaces", "(Lcom/example/replicated_commit_log/replicatedcommitlog/cluster/ImageVersion;)Z"⟩ : MethodName) (head1 (Jvm.Cond.code (⟨"com/example/replicated_commit_log/replicatedcommitlog/cluster/ImageVersion", "replaces", "(Lcom/example/replicated_commit_log/replicatedcommitlog/cluster/ImageVersion;)Z"⟩ : MethodName) prog_27_method_2_code 2 (some .boolean) :: ws) ({ frames := 0, cells := 0, slots := 0, locals := 0 } : Room)) (fun a U => a = #[(.ref o0), (.ref o1)] ∧ Z.Warmed39 U.vm ∧ U.heap = h0) (fun _ _ _ _ _ => True) (fun _ U o U' => ∃ v L, o = .returned v ∧ own_Q5 Z o0 o1 w_o0_run w_o0_change w_o1_run w_o1_change h0 n0 v U'.heap L ∧ FrameEnd U o U' L ({ frames := 0, cells := 0, slots := 0, locals := 0 } : Room).cells ({ frames := 0, cells := 0, slots := 0, locals := 0 } : Room).slots) := by
  refine MetFree.of_bodySF (plainFor_of_name own_pn_rm5) hisR ?_
  intro p e s m args below meth c s₁ Bd hml0 hP hK
  obtain ⟨rfl, hZ, hh⟩ := hP
  have hx := Bd.exec
  have hby := Bd.bytes
  have hml : c.maxLocals = 2 := hml0
  have hown : s.vm.findClass "com/example/replicated_commit_log/replicatedcommitlog/cluster/ImageVersion" = some m.cls := findClass_of_methodNamed Bd.named
  have hnm := (name_of_methodNamed Bd.named Bd.method).1
  have X0 : Stand p l e ({ frames := 0, cells := 0, slots := 0, locals := 0 } : Room) s m #[(.ref o0), (.ref o1)] below meth c s₁ [] 0 0 := Stand.of_body Bd
  have e0 : s₁.heap = h0 := by rw [← hh, Bd.state]; rfl
  have N0 := Fr.nil n0
  show own_End p e below s (own_Q5 Z o0 o1 w_o0_run w_o0_change w_o1_run w_o1_change h0 n0) ({ frames := 0, cells := 0, slots := 0, locals := 0 } : Room).cells ({ frames := 0, cells := 0, slots := 0, locals := 0 } : Room).slots (s₁.setTop (entryFrame m #[(.ref o0), (.ref o1)] 2))
  rw [own_ef_rm5]
  refine own_aloadN X0 hx (hb hby own_d5_0) rfl rfl (q := 1) rfl ?_
  obtain ⟨T24, X24, e24, st24⟩ := getF X0 hx hZ hown (host := "") (Or.inl (hw _ (List.mem_of_getElem? (i := 14) rfl))) Via.refl e0 F_o0_run (g := (mkF m 1 #[.val (.ref o0), .val (.ref o1)] [(.ref o0)])) rfl rfl (hb hby own_d5_1)
  refine own_back st24 ?_
  show own_End p e below s _ _ _ (T24.setTop (mkF m 4 #[.val (.ref o0), .val (.ref o1)] [(.long w_o0_run)]))
  refine own_aloadN X24 hx (hb hby own_d5_4) rfl rfl (q := 5) rfl ?_
  obtain ⟨T25, X25, e25, st25⟩ := getF X24 hx hZ hown (host := "") (Or.inl (hw _ (List.mem_of_getElem? (i := 14) rfl))) Via.refl e24 F_o1_run (g := (mkF m 5 #[.val (.ref o0), .val (.ref o1)] [(.ref o1), (.long w_o0_run)])) rfl rfl (hb hby own_d5_5)
  refine own_back st25 ?_
  show own_End p e below s _ _ _ (T25.setTop (mkF m 8 #[.val (.ref o0), .val (.ref o1)] [(.long w_o1_run), (.long w_o0_run)]))
  by_cases hc9_26 : w_o0_run = w_o1_run
  · refine own_lcN X25 hx (hb hby own_d5_8) (r := 9) rfl (hb hby own_d5_9) (own_teq hc9_26).2 (q := 12) rfl ?_
    refine own_aloadN X25 hx (hb hby own_d5_12) rfl rfl (q := 13) rfl ?_
    obtain ⟨T27, X27, e27, st27⟩ := getF X25 hx hZ hown (host := "") (Or.inl (hw _ (List.mem_of_getElem? (i := 16) rfl))) Via.refl e25 F_o0_change (g := (mkF m 13 #[.val (.ref o0), .val (.ref o1)] [(.ref o0)])) rfl rfl (hb hby own_d5_13)
    refine own_back st27 ?_
    show own_End p e below s _ _ _ (T27.setTop (mkF m 16 #[.val (.ref o0), .val (.ref o1)] [(.long w_o0_change)]))
    refine own_aloadN X27 hx (hb hby own_d5_16) rfl rfl (q := 17) rfl ?_
    obtain ⟨T28, X28, e28, st28⟩ := getF X27 hx hZ hown (host := "") (Or.inl (hw _ (List.mem_of_getElem? (i := 16) rfl))) Via.refl e27 F_o1_change (g := (mkF m 17 #[.val (.ref o0), .val (.ref o1)] [(.ref o1), (.long w_o0_change)])) rfl rfl (hb hby own_d5_17)
    refine own_back st28 ?_
    show own_End p e below s _ _ _ (T28.setTop (mkF m 20 #[.val (.ref o0), .val (.ref o1)] [(.long w_o1_change), (.long w_o0_change)]))
    by_cases hc21_29 : w_o1_change < w_o0_change
    · refine own_lcN X28 hx (hb hby own_d5_20) (r := 21) rfl (hb hby own_d5_21) (own_tlt hc21_29).2.2.2 (q := 24) rfl ?_
      refine own_iconst X28 hx (hb hby own_d5_24) (z := 1) rfl (q := 25) rfl ?_
      refine own_goto X28 hx (hb hby own_d5_25) (q := 29) (by decide) (by decide) ?_
      refine own_retN X28 hx (t := .boolean) (by simp) Bd.returns Bd.notSynchronized (by decide) (by decide) (hb hby own_d5_29) ?_
      show own_Q5 Z o0 o1 w_o0_run w_o0_change w_o1_run w_o1_change h0 n0 _ T28.heap _
      exact ⟨(by rw [show own_F5 w_o0_run w_o0_change w_o1_run w_o1_change = _ from (by simp only [own_F5, if_pos hc9_26, if_pos hc21_29] : _ = (1 : Int32))]; rfl), N0, e28⟩
    · refine own_lcY X28 hx (hb hby own_d5_20) (r := 21) rfl (hb hby own_d5_21) (own_flt hc21_29).2.2.2 (q := 28) (by decide) (by decide) ?_
      refine own_iconst X28 hx (hb hby own_d5_28) (z := 0) rfl (q := 29) rfl ?_
      refine own_retN X28 hx (t := .boolean) (by simp) Bd.returns Bd.notSynchronized (by decide) (by decide) (hb hby own_d5_29) ?_
      show own_Q5 Z o0 o1 w_o0_run w_o0_change w_o1_run w_o1_change h0 n0 _ T28.heap _
      exact ⟨(by rw [show own_F5 w_o0_run w_o0_change w_o1_run w_o1_change = _ from (by simp only [own_F5, if_pos hc9_26, if_neg hc21_29] : _ = (0 : Int32))]; rfl), N0, e28⟩
  · refine own_lcY X25 hx (hb hby own_d5_8) (r := 9) rfl (hb hby own_d5_9) (own_feq hc9_26).2 (q := 24) (by decide) (by decide) ?_
    refine own_iconst X25 hx (hb hby own_d5_24) (z := 1) rfl (q := 25) rfl ?_
    refine own_goto X25 hx (hb hby own_d5_25) (q := 29) (by decide) (by decide) ?_
    refine own_retN X25 hx (t := .boolean) (by simp) Bd.returns Bd.notSynchronized (by decide) (by decide) (hb hby own_d5_29) ?_
    show own_Q5 Z o0 o1 w_o0_run w_o0_change w_o1_run w_o1_change h0 n0 _ T25.heap _
    exact ⟨(by rw [show own_F5 w_o0_run w_o0_change w_o1_run w_o1_change = _ from (by simp only [own_F5, if_neg hc9_26] : _ = (1 : Int32))]; rfl), N0, e25⟩
def own_M0_4 (q0 : Int64) (q2 : Int64) (p4 : Int32) : Int64 := (if (p4 &&& (1 : Int32)) = (0 : Int32) then q2 else q0)
def own_M0_51 (q1 : Int64) (q3 : Int64) (p4 : Int32) : Int64 := (if (((p4.toUInt32 >>> ((1 : Int32) &&& 31).toUInt32).toInt32) &&& (3 : Int32)) = (2 : Int32) then (q1 - (1 : Int64)) else q3)
def own_M0_37 (q1 : Int64) (q3 : Int64) (p4 : Int32) : Int64 := (if (((p4.toUInt32 >>> ((1 : Int32) &&& 31).toUInt32).toInt32) &&& (3 : Int32)) = (1 : Int32) then (q1 + (1 : Int64)) else (own_M0_51 q1 q3 p4))
def own_M0_25 (q1 : Int64) (q3 : Int64) (p4 : Int32) : Int64 := (if (((p4.toUInt32 >>> ((1 : Int32) &&& 31).toUInt32).toInt32) &&& (3 : Int32)) = (0 : Int32) then q1 else (own_M0_37 q1 q3 p4))
theorem own_pd1 : parseMethodDescriptor "(JJ)V" = some ⟨[.long, .long], none⟩ := by decide +kernel
theorem own_pd2 : parseMethodDescriptor "(Lcom/example/replicated_commit_log/replicatedcommitlog/cluster/ImageVersion;)Z" = some ⟨[(.object "com/example/replicated_commit_log/replicatedcommitlog/cluster/ImageVersion")], some .boolean⟩ := by decide +kernel
def own_M0_135 (q1 : Int64) (q3 : Int64) (p4 : Int32) : Int32 := (if q1 < (own_M0_25 q1 q3 p4) then (0 : Int32) else (1 : Int32))
def own_M0_149 (q1 : Int64) (q3 : Int64) (p4 : Int32) : Int32 := (if (own_M0_25 q1 q3 p4) < q1 then (0 : Int32) else (1 : Int32))
def own_M0_202 (q1 : Int64) (q3 : Int64) (p4 : Int32) : Int32 := (if q1 = (own_M0_25 q1 q3 p4) then (1 : Int32) else (0 : Int32))
def own_M0_232 (q0 : Int64) (q1 : Int64) (q2 : Int64) (q3 : Int64) (p4 : Int32) : Int32 := (if (own_F5 (own_M0_4 q0 q2 p4) (own_M0_25 q1 q3 p4) q0 q1) = (0 : Int32) then (1 : Int32) else (0 : Int32))
def own_M0_240 (q0 : Int64) (q1 : Int64) (q2 : Int64) (q3 : Int64) (p4 : Int32) : Int32 := (if (own_F4 q0 q1 (own_M0_4 q0 q2 p4) (own_M0_25 q1 q3 p4)) = (own_M0_232 q0 q1 q2 q3 p4) then (1 : Int32) else (0 : Int32))
def own_M0_220 (q0 : Int64) (q1 : Int64) (q2 : Int64) (q3 : Int64) (p4 : Int32) : Int32 := (if (own_F4 q0 q1 q0 q1) = (0 : Int32) then (0 : Int32) else (own_M0_240 q0 q1 q2 q3 p4))
def own_M0_210 (q0 : Int64) (q1 : Int64) (q2 : Int64) (q3 : Int64) (p4 : Int32) : Int32 := (if (0 : Int32) = (own_M0_202 q1 q3 p4) then (own_M0_220 q0 q1 q2 q3 p4) else (0 : Int32))
def own_M0_180 (q0 : Int64) (q1 : Int64) (q2 : Int64) (q3 : Int64) (p4 : Int32) : Int32 := (if (own_F4 (own_M0_4 q0 q2 p4) (own_M0_25 q1 q3 p4) q0 q1) = (0 : Int32) then (0 : Int32) else (own_M0_210 q0 q1 q2 q3 p4))
def own_M0_190 (q0 : Int64) (q1 : Int64) (q2 : Int64) (q3 : Int64) (p4 : Int32) : Int32 := (if (own_F4 (own_M0_4 q0 q2 p4) (own_M0_25 q1 q3 p4) q0 q1) = (0 : Int32) then (0 : Int32) else (1 : Int32))
def own_M0_210_b (q0 : Int64) (q1 : Int64) (q2 : Int64) (q3 : Int64) (p4 : Int32) : Int32 := (if (own_M0_190 q0 q1 q2 q3 p4) = (own_M0_202 q1 q3 p4) then (own_M0_220 q0 q1 q2 q3 p4) else (0 : Int32))
def own_M0_175 (q0 : Int64) (q1 : Int64) (q2 : Int64) (q3 : Int64) (p4 : Int32) : Int32 := (if (own_F4 q0 q1 (own_M0_4 q0 q2 p4) (own_M0_25 q1 q3 p4)) = (0 : Int32) then (own_M0_180 q0 q1 q2 q3 p4) else (own_M0_210_b q0 q1 q2 q3 p4))
def own_M0_170 (q0 : Int64) (q1 : Int64) (q2 : Int64) (q3 : Int64) (p4 : Int32) : Int32 := (if (own_F4 (own_M0_4 q0 q2 p4) (own_M0_25 q1 q3 p4) q0 q1) = (own_M0_149 q1 q3 p4) then (own_M0_175 q0 q1 q2 q3 p4) else (0 : Int32))
def own_M0_163 (q0 : Int64) (q1 : Int64) (q2 : Int64) (q3 : Int64) (p4 : Int32) : Int32 := (if (own_F4 q0 q1 (own_M0_4 q0 q2 p4) (own_M0_25 q1 q3 p4)) = (own_M0_135 q1 q3 p4) then (own_M0_170 q0 q1 q2 q3 p4) else (0 : Int32))
def own_M0_122 (q0 : Int64) (q1 : Int64) (q2 : Int64) (q3 : Int64) (p4 : Int32) : Int32 := (if (own_F4 (own_M0_4 q0 q2 p4) (own_M0_25 q1 q3 p4) q0 q1) = (0 : Int32) then (1 : Int32) else (0 : Int32))
def own_M0_117 (q0 : Int64) (q1 : Int64) (q2 : Int64) (q3 : Int64) (p4 : Int32) : Int32 := (if (own_F4 q0 q1 (own_M0_4 q0 q2 p4) (own_M0_25 q1 q3 p4)) = (0 : Int32) then (own_M0_122 q0 q1 q2 q3 p4) else (0 : Int32))
def own_F0 (q0 : Int64) (q1 : Int64) (q2 : Int64) (q3 : Int64) (p4 : Int32) : Int32 := (if q0 = (own_M0_4 q0 q2 p4) then ((own_M0_163 q0 q1 q2 q3 p4) &&& 1) else ((own_M0_117 q0 q1 q2 q3 p4) &&& 1))
def own_Q0 (Z : State) (q0 : Int64) (q1 : Int64) (q2 : Int64) (q3 : Int64) (p4 : Int32) (h0 : Heap) (n0 : Nat) (v : Option Value) (h : Heap) (L : List Loc) : Prop := v = some (.int (own_F0 q0 q1 q2 q3 p4)) ∧ Fr n0 L
theorem own_pn_rm0 : plainName "com/example/replicated_commit_log/replicatedcommitlog/cluster/ImageVersionReachesPinLaw" = true := by first | (simp [plainName, overriddenIn]; done) | decide +kernel
theorem own_ef_rm0 (m : MethodId) (q0 : Int64) (q1 : Int64) (q2 : Int64) (q3 : Int64) (p4 : Int32) : entryFrame m #[(.long q0), (.long q1), (.long q2), (.long q3), (.int p4)] maxLocals = mkF m 0 #[.val (.long q0), .second, .val (.long q1), .second, .val (.long q2), .second, .val (.long q3), .second, .val (.int p4), .unset, .unset, .unset, .unset, .unset, .unset, .unset, .unset, .unset, .unset, .unset] [] := by first | (simp [entryFrame, mkF, argsToLocals, Value.category, maxLocals]; done) | rfl
set_option maxRecDepth 65536 in
set_option maxHeartbeats 40000000 in
theorem own_rm0 (l : Launch) (Z : State) (a0 : Array Value) (hw : ∀ d ∈ tables_1, d.before a0 Z = true) (ws : List Jvm.Cond) (q0 : Int64) (q1 : Int64) (q2 : Int64) (q3 : Int64) (p4 : Int32) (h0 : Heap) (n0 : Nat) (Z0 : n0 ≤ h0.size) :
    MetFree l x (head1 (Jvm.Cond.code x code maxLocals ret :: ws) room_1) (fun a U => a = #[(.long q0), (.long q1), (.long q2), (.long q3), (.int p4)] ∧ Z.Warmed39 U.vm ∧ U.heap = h0) (fun _ _ _ _ _ => True) (fun _ U o U' => ∃ v L, o = .returned v ∧ own_Q0 Z q0 q1 q2 q3 p4 h0 n0 v U'.heap L ∧ FrameEnd U o U' L room_1.cells room_1.slots) := by
  refine MetFree.of_bodySF (plainFor_of_name own_pn_rm0) hisR ?_
  intro p e s m args below meth c s₁ Bd hml0 hP hK
  obtain ⟨rfl, hZ, hh⟩ := hP
  have hx := Bd.exec
  have hby := Bd.bytes
  have hml : c.maxLocals = 20 := hml0
  have hown : s.vm.findClass "com/example/replicated_commit_log/replicatedcommitlog/cluster/ImageVersionReachesPinLaw" = some m.cls := findClass_of_methodNamed Bd.named
  have hnm := (name_of_methodNamed Bd.named Bd.method).1
  have X0 : Stand p l e room_1 s m #[(.long q0), (.long q1), (.long q2), (.long q3), (.int p4)] below meth c s₁ [] 0 0 := Stand.of_body Bd
  have e0 : s₁.heap = h0 := by rw [← hh, Bd.state]; rfl
  have N0 := Fr.nil n0
  show own_End p e below s (own_Q0 Z q0 q1 q2 q3 p4 h0 n0) room_1.cells room_1.slots (s₁.setTop (entryFrame m #[(.long q0), (.long q1), (.long q2), (.long q3), (.int p4)] maxLocals))
  rw [own_ef_rm0]
  refine own_iload X0 hx (hb hby at_0) rfl (q := 2) rfl ?_
  refine own_iconst X0 hx (hb hby at_2) (z := 1) rfl (q := 3) rfl ?_
  refine own_iand X0 hx (hb hby at_3) (q := 4) rfl ?_
  suffices J36 : own_End p e below s (own_Q0 Z q0 q1 q2 q3 p4 h0 n0) room_1.cells room_1.slots (s₁.setTop (mkF m 13 #[.val (.long q0), .second, .val (.long q1), .second, .val (.long q2), .second, .val (.long q3), .second, .val (.int p4), .unset, .unset, .unset, .unset, .unset, .unset, .unset, .unset, .unset, .unset, .unset] [(.long (own_M0_4 q0 q2 p4))])) by
    by_cases hc4_33 : (p4 &&& (1 : Int32)) = (0 : Int32)
    · refine own_ifY X0 hx (hb hby at_4) (teq hc4_33).1 (q := 11) (by decide) (by decide) ?_
      refine own_lload X0 hx (hb hby at_11) rfl (q := 13) rfl ?_
      simp only [own_M0_4, if_pos hc4_33] at J36
      exact J36
    · refine own_ifN X0 hx (hb hby at_4) (feq hc4_33).1 (q := 7) rfl ?_
      refine own_lloadN X0 hx (hb hby at_7) rfl (q := 8) rfl ?_
      refine own_goto X0 hx (hb hby at_8) (q := 13) (by decide) (by decide) ?_
      simp only [own_M0_4, if_neg hc4_33] at J36
      exact J36
  refine own_lstore X0 hx (hb hby at_13) (l' := #[.val (.long q0), .second, .val (.long q1), .second, .val (.long q2), .second, .val (.long q3), .second, .val (.int p4), .val (.long (own_M0_4 q0 q2 p4)), .second, .unset, .unset, .unset, .unset, .unset, .unset, .unset, .unset, .unset]) rfl (q := 15) rfl ?_
  refine own_iload X0 hx (hb hby at_15) rfl (q := 17) rfl ?_
  refine own_iconst X0 hx (hb hby at_17) (z := 1) rfl (q := 18) rfl ?_
  refine own_iushr X0 hx (hb hby at_18) (q := 19) rfl ?_
  refine own_iconst X0 hx (hb hby at_19) (z := 3) rfl (q := 20) rfl ?_
  refine own_iand X0 hx (hb hby at_20) (q := 21) rfl ?_
  refine own_istore X0 hx (hb hby at_21) (l' := #[.val (.long q0), .second, .val (.long q1), .second, .val (.long q2), .second, .val (.long q3), .second, .val (.int p4), .val (.long (own_M0_4 q0 q2 p4)), .second, .val (.int (((p4.toUInt32 >>> ((1 : Int32) &&& 31).toUInt32).toInt32) &&& (3 : Int32))), .unset, .unset, .unset, .unset, .unset, .unset, .unset, .unset]) rfl (q := 23) rfl ?_
  refine own_iload X0 hx (hb hby at_23) rfl (q := 25) rfl ?_
  suffices J48 : own_End p e below s (own_Q0 Z q0 q1 q2 q3 p4 h0 n0) room_1.cells room_1.slots (s₁.setTop (mkF m 66 #[.val (.long q0), .second, .val (.long q1), .second, .val (.long q2), .second, .val (.long q3), .second, .val (.int p4), .val (.long (own_M0_4 q0 q2 p4)), .second, .val (.int (((p4.toUInt32 >>> ((1 : Int32) &&& 31).toUInt32).toInt32) &&& (3 : Int32))), .val (.long (own_M0_25 q1 q3 p4)), .second, .unset, .unset, .unset, .unset, .unset, .unset] [])) by
    by_cases hc25_37 : (((p4.toUInt32 >>> ((1 : Int32) &&& 31).toUInt32).toInt32) &&& (3 : Int32)) = (0 : Int32)
    · refine own_ifN X0 hx (hb hby at_25) (teq hc25_37).2 (q := 28) rfl ?_
      refine own_lloadN X0 hx (hb hby at_28) rfl (q := 29) rfl ?_
      refine own_lstore X0 hx (hb hby at_29) (l' := #[.val (.long q0), .second, .val (.long q1), .second, .val (.long q2), .second, .val (.long q3), .second, .val (.int p4), .val (.long (own_M0_4 q0 q2 p4)), .second, .val (.int (((p4.toUInt32 >>> ((1 : Int32) &&& 31).toUInt32).toInt32) &&& (3 : Int32))), .val (.long q1), .second, .unset, .unset, .unset, .unset, .unset, .unset]) rfl (q := 31) rfl ?_
      refine own_goto X0 hx (hb hby at_31) (q := 66) (by decide) (by decide) ?_
      simp only [own_M0_25, if_pos hc25_37] at J48
      exact J48
    · refine own_ifY X0 hx (hb hby at_25) (feq hc25_37).2 (q := 34) (by decide) (by decide) ?_
      refine own_iload X0 hx (hb hby at_34) rfl (q := 36) rfl ?_
      refine own_iconst X0 hx (hb hby at_36) (z := 1) rfl (q := 37) rfl ?_
      suffices J46 : own_End p e below s (own_Q0 Z q0 q1 q2 q3 p4 h0 n0) room_1.cells room_1.slots (s₁.setTop (mkF m 66 #[.val (.long q0), .second, .val (.long q1), .second, .val (.long q2), .second, .val (.long q3), .second, .val (.int p4), .val (.long (own_M0_4 q0 q2 p4)), .second, .val (.int (((p4.toUInt32 >>> ((1 : Int32) &&& 31).toUInt32).toInt32) &&& (3 : Int32))), .val (.long (own_M0_37 q1 q3 p4)), .second, .unset, .unset, .unset, .unset, .unset, .unset] [])) by
        by_cases hc37_39 : (((p4.toUInt32 >>> ((1 : Int32) &&& 31).toUInt32).toInt32) &&& (3 : Int32)) = (1 : Int32)
        · refine own_icN X0 hx (hb hby at_37) (teq hc37_39).2 (q := 40) rfl ?_
          refine own_lloadN X0 hx (hb hby at_40) rfl (q := 41) rfl ?_
          refine own_lconst X0 hx (hb hby at_41) (z := 1) rfl (q := 42) rfl ?_
          refine own_ladd X0 hx (hb hby at_42) (q := 43) rfl ?_
          refine own_lstore X0 hx (hb hby at_43) (l' := #[.val (.long q0), .second, .val (.long q1), .second, .val (.long q2), .second, .val (.long q3), .second, .val (.int p4), .val (.long (own_M0_4 q0 q2 p4)), .second, .val (.int (((p4.toUInt32 >>> ((1 : Int32) &&& 31).toUInt32).toInt32) &&& (3 : Int32))), .val (.long (q1 + (1 : Int64))), .second, .unset, .unset, .unset, .unset, .unset, .unset]) rfl (q := 45) rfl ?_
          refine own_goto X0 hx (hb hby at_45) (q := 66) (by decide) (by decide) ?_
          simp only [own_M0_37, if_pos hc37_39] at J46
          exact J46
        · refine own_icY X0 hx (hb hby at_37) (feq hc37_39).2 (q := 48) (by decide) (by decide) ?_
          refine own_iload X0 hx (hb hby at_48) rfl (q := 50) rfl ?_
          refine own_iconst X0 hx (hb hby at_50) (z := 2) rfl (q := 51) rfl ?_
          suffices J44 : own_End p e below s (own_Q0 Z q0 q1 q2 q3 p4 h0 n0) room_1.cells room_1.slots (s₁.setTop (mkF m 66 #[.val (.long q0), .second, .val (.long q1), .second, .val (.long q2), .second, .val (.long q3), .second, .val (.int p4), .val (.long (own_M0_4 q0 q2 p4)), .second, .val (.int (((p4.toUInt32 >>> ((1 : Int32) &&& 31).toUInt32).toInt32) &&& (3 : Int32))), .val (.long (own_M0_51 q1 q3 p4)), .second, .unset, .unset, .unset, .unset, .unset, .unset] [])) by
            by_cases hc51_41 : (((p4.toUInt32 >>> ((1 : Int32) &&& 31).toUInt32).toInt32) &&& (3 : Int32)) = (2 : Int32)
            · refine own_icN X0 hx (hb hby at_51) (teq hc51_41).2 (q := 54) rfl ?_
              refine own_lloadN X0 hx (hb hby at_54) rfl (q := 55) rfl ?_
              refine own_lconst X0 hx (hb hby at_55) (z := 1) rfl (q := 56) rfl ?_
              refine own_lsub X0 hx (hb hby at_56) (q := 57) rfl ?_
              refine own_lstore X0 hx (hb hby at_57) (l' := #[.val (.long q0), .second, .val (.long q1), .second, .val (.long q2), .second, .val (.long q3), .second, .val (.int p4), .val (.long (own_M0_4 q0 q2 p4)), .second, .val (.int (((p4.toUInt32 >>> ((1 : Int32) &&& 31).toUInt32).toInt32) &&& (3 : Int32))), .val (.long (q1 - (1 : Int64))), .second, .unset, .unset, .unset, .unset, .unset, .unset]) rfl (q := 59) rfl ?_
              refine own_goto X0 hx (hb hby at_59) (q := 66) (by decide) (by decide) ?_
              simp only [own_M0_51, if_pos hc51_41] at J44
              exact J44
            · refine own_icY X0 hx (hb hby at_51) (feq hc51_41).2 (q := 62) (by decide) (by decide) ?_
              refine own_lload X0 hx (hb hby at_62) rfl (q := 64) rfl ?_
              refine own_lstore X0 hx (hb hby at_64) (l' := #[.val (.long q0), .second, .val (.long q1), .second, .val (.long q2), .second, .val (.long q3), .second, .val (.int p4), .val (.long (own_M0_4 q0 q2 p4)), .second, .val (.int (((p4.toUInt32 >>> ((1 : Int32) &&& 31).toUInt32).toInt32) &&& (3 : Int32))), .val (.long q3), .second, .unset, .unset, .unset, .unset, .unset, .unset]) rfl (q := 66) rfl ?_
              simp only [own_M0_51, if_neg hc51_41] at J44
              exact J44
          simp only [own_M0_37, if_neg hc37_39] at J46
          exact J46
      simp only [own_M0_25, if_neg hc25_37] at J48
      exact J48
  obtain ⟨T49, h49, X49, e49, E49, A49, D49, -, st49⟩ := newO X0 hx hZ hown (hw _ (List.mem_of_getElem? (i := 0) rfl)) (hw _ (List.mem_of_getElem? (i := 1) rfl)) (hw _ (List.mem_of_getElem? (i := 2) rfl)) e0 (g := (mkF m 66 #[.val (.long q0), .second, .val (.long q1), .second, .val (.long q2), .second, .val (.long q3), .second, .val (.int p4), .val (.long (own_M0_4 q0 q2 p4)), .second, .val (.int (((p4.toUInt32 >>> ((1 : Int32) &&& 31).toUInt32).toInt32) &&& (3 : Int32))), .val (.long (own_M0_25 q1 q3 p4)), .second, .unset, .unset, .unset, .unset, .unset, .unset] [])) rfl (hb hby at_66) (by decide) (by decide)
  obtain ⟨b49, g49⟩ : ∃ z, z = h0.size := ⟨_, rfl⟩
  have g_b49 : n0 ≤ b49 := Nat.le_trans Z0 (Nat.le_of_eq g49.symm)
  have Z50 := Nat.le_trans Z0 E49.1
  rw [← g49] at A49 D49 st49
  have F_b49_run : Fld Z h49 b49 "com/example/replicated_commit_log/replicatedcommitlog/cluster/ImageVersion" "run" "J" (.long (0 : Int64)) := D49 (Or.inr (hw _ (List.mem_of_getElem? (i := 15) rfl))) (ty := .long) (by decide)
  have F_b49_change : Fld Z h49 b49 "com/example/replicated_commit_log/replicatedcommitlog/cluster/ImageVersion" "change" "J" (.long (0 : Int64)) := D49 (Or.inr (hw _ (List.mem_of_getElem? (i := 17) rfl))) (ty := .long) (by decide)
  refine own_back st49 ?_
  show own_End p e below s _ _ _ (T49.setTop (mkF m 69 #[.val (.long q0), .second, .val (.long q1), .second, .val (.long q2), .second, .val (.long q3), .second, .val (.int p4), .val (.long (own_M0_4 q0 q2 p4)), .second, .val (.int (((p4.toUInt32 >>> ((1 : Int32) &&& 31).toUInt32).toInt32) &&& (3 : Int32))), .val (.long (own_M0_25 q1 q3 p4)), .second, .unset, .unset, .unset, .unset, .unset, .unset] [(.ref b49)]))
  refine own_dup X49 hx (hb hby at_69) rfl (q := 70) rfl ?_
  refine own_lloadN X49 hx (hb hby at_70) rfl (q := 71) rfl ?_
  refine own_lloadN X49 hx (hb hby at_71) rfl (q := 72) rfl ?_
  obtain ⟨_, _, ⟨T51, L51, k51, n51⟩, -, X51, ⟨Lc51, hQ51, l51, y51, z51⟩, st51⟩ := X49.specialBack hx (y := (⟨"com/example/replicated_commit_log/replicatedcommitlog/cluster/ImageVersion", "<init>", "(JJ)V"⟩ : MethodName)) rfl hown (mvT hZ (hw _ (List.mem_of_getElem? (i := 3) rfl))) (mvT hZ (hw _ (List.mem_of_getElem? (i := 4) rfl))) (mvT hZ (hw _ (List.mem_of_getElem? (i := 5) rfl))) (by decide) (backOf (W := 1) (own_rm1 l Z a0 hw [] b49 q0 q1 (0 : Int64) (0 : Int64) h49 n0 Z50 A49 F_b49_run F_b49_change g_b49) hZ (hw _ (List.mem_of_getElem? (i := 5) rfl)) (hw _ (List.mem_of_getElem? (i := 2) rfl)) (by decide) (by decide)) (g := (mkF m 72 #[.val (.long q0), .second, .val (.long q1), .second, .val (.long q2), .second, .val (.long q3), .second, .val (.int p4), .val (.long (own_M0_4 q0 q2 p4)), .second, .val (.int (((p4.toUInt32 >>> ((1 : Int32) &&& 31).toUInt32).toInt32) &&& (3 : Int32))), .val (.long (own_M0_25 q1 q3 p4)), .second, .unset, .unset, .unset, .unset, .unset, .unset] [(.long q1), (.long q0), (.ref b49), (.ref b49)])) rfl (by rw [hml]; rfl) (Steps.refl _) (a := b49) (argsL := [(.long q0), (.long q1)]) (rest := [(.ref b49)]) (lenOf own_pd1 rfl) rfl (by show 2 * 0 + _ ≤ _; exact Nat.le_of_eq rfl) (hb hby at_72) (fun _ _ => ⟨rfl, e49, (by decide : 1 + 0 ≤ _), (by decide : 2 + 0 ≤ _)⟩)
  dsimp only [Pt.U, Pt.locs, Pt.cells, Pt.slots] at X51 l51 y51 z51 st51 hQ51
  subst l51 y51 z51
  obtain ⟨rfl, N51q, K51, Q51_0, Q51_1, Q51_2⟩ := hQ51
  have N51 := Fr.app N0 N51q
  have A49_52 := A49.keep K51
  have Z53 := Nat.le_trans Z50 K51.1
  refine own_via st51 ?_
  show own_End p e below s _ _ _ (T51.setTop (mkF m 75 #[.val (.long q0), .second, .val (.long q1), .second, .val (.long q2), .second, .val (.long q3), .second, .val (.int p4), .val (.long (own_M0_4 q0 q2 p4)), .second, .val (.int (((p4.toUInt32 >>> ((1 : Int32) &&& 31).toUInt32).toInt32) &&& (3 : Int32))), .val (.long (own_M0_25 q1 q3 p4)), .second, .unset, .unset, .unset, .unset, .unset, .unset] [(.ref b49)]))
  refine own_astore X51 hx (hb hby at_75) rfl (l' := #[.val (.long q0), .second, .val (.long q1), .second, .val (.long q2), .second, .val (.long q3), .second, .val (.int p4), .val (.long (own_M0_4 q0 q2 p4)), .second, .val (.int (((p4.toUInt32 >>> ((1 : Int32) &&& 31).toUInt32).toInt32) &&& (3 : Int32))), .val (.long (own_M0_25 q1 q3 p4)), .second, .val (.ref b49), .unset, .unset, .unset, .unset, .unset]) rfl (q := 77) rfl ?_
  obtain ⟨T54, h54, X54, e54, E54, A54, D54, -, st54⟩ := newO X51 hx hZ hown (hw _ (List.mem_of_getElem? (i := 0) rfl)) (hw _ (List.mem_of_getElem? (i := 1) rfl)) (hw _ (List.mem_of_getElem? (i := 2) rfl)) rfl (g := (mkF m 77 #[.val (.long q0), .second, .val (.long q1), .second, .val (.long q2), .second, .val (.long q3), .second, .val (.int p4), .val (.long (own_M0_4 q0 q2 p4)), .second, .val (.int (((p4.toUInt32 >>> ((1 : Int32) &&& 31).toUInt32).toInt32) &&& (3 : Int32))), .val (.long (own_M0_25 q1 q3 p4)), .second, .val (.ref b49), .unset, .unset, .unset, .unset, .unset] [])) rfl (hb hby at_77) (by decide) (by decide)
  obtain ⟨b54, g54⟩ : ∃ z, z = T51.heap.size := ⟨_, rfl⟩
  have ne_b49_b54 : b49 ≠ b54 := Nat.ne_of_lt (Nat.lt_of_lt_of_le Q51_0.lt (Nat.le_of_eq g54.symm))
  have g_b54 : n0 ≤ b54 := Nat.le_trans Z53 (Nat.le_of_eq g54.symm)
  have Z55 := Nat.le_trans Z53 E54.1
  rw [← g54] at A54 D54 st54
  have Q51_56 := Q51_0.ext E54
  have Q51_57 := Q51_1.ext E54
  have Q51_58 := Q51_2.ext E54
  have F_b54_run : Fld Z h54 b54 "com/example/replicated_commit_log/replicatedcommitlog/cluster/ImageVersion" "run" "J" (.long (0 : Int64)) := D54 (Or.inr (hw _ (List.mem_of_getElem? (i := 15) rfl))) (ty := .long) (by decide)
  have F_b54_change : Fld Z h54 b54 "com/example/replicated_commit_log/replicatedcommitlog/cluster/ImageVersion" "change" "J" (.long (0 : Int64)) := D54 (Or.inr (hw _ (List.mem_of_getElem? (i := 17) rfl))) (ty := .long) (by decide)
  refine own_back st54 ?_
  show own_End p e below s _ _ _ (T54.setTop (mkF m 80 #[.val (.long q0), .second, .val (.long q1), .second, .val (.long q2), .second, .val (.long q3), .second, .val (.int p4), .val (.long (own_M0_4 q0 q2 p4)), .second, .val (.int (((p4.toUInt32 >>> ((1 : Int32) &&& 31).toUInt32).toInt32) &&& (3 : Int32))), .val (.long (own_M0_25 q1 q3 p4)), .second, .val (.ref b49), .unset, .unset, .unset, .unset, .unset] [(.ref b54)]))
  refine own_dup X54 hx (hb hby at_80) rfl (q := 81) rfl ?_
  refine own_lload X54 hx (hb hby at_81) rfl (q := 83) rfl ?_
  refine own_lload X54 hx (hb hby at_83) rfl (q := 85) rfl ?_
  obtain ⟨_, _, ⟨T59, L59, k59, n59⟩, -, X59, ⟨Lc59, hQ59, l59, y59, z59⟩, st59⟩ := X54.specialBack hx (y := (⟨"com/example/replicated_commit_log/replicatedcommitlog/cluster/ImageVersion", "<init>", "(JJ)V"⟩ : MethodName)) rfl hown (mvT hZ (hw _ (List.mem_of_getElem? (i := 3) rfl))) (mvT hZ (hw _ (List.mem_of_getElem? (i := 4) rfl))) (mvT hZ (hw _ (List.mem_of_getElem? (i := 5) rfl))) (by decide) (backOf (W := 1) (own_rm1 l Z a0 hw [] b54 (own_M0_4 q0 q2 p4) (own_M0_25 q1 q3 p4) (0 : Int64) (0 : Int64) h54 n0 Z55 A54 F_b54_run F_b54_change g_b54) hZ (hw _ (List.mem_of_getElem? (i := 5) rfl)) (hw _ (List.mem_of_getElem? (i := 2) rfl)) (by decide) (by decide)) (g := (mkF m 85 #[.val (.long q0), .second, .val (.long q1), .second, .val (.long q2), .second, .val (.long q3), .second, .val (.int p4), .val (.long (own_M0_4 q0 q2 p4)), .second, .val (.int (((p4.toUInt32 >>> ((1 : Int32) &&& 31).toUInt32).toInt32) &&& (3 : Int32))), .val (.long (own_M0_25 q1 q3 p4)), .second, .val (.ref b49), .unset, .unset, .unset, .unset, .unset] [(.long (own_M0_25 q1 q3 p4)), (.long (own_M0_4 q0 q2 p4)), (.ref b54), (.ref b54)])) rfl (by rw [hml]; rfl) (Steps.refl _) (a := b54) (argsL := [(.long (own_M0_4 q0 q2 p4)), (.long (own_M0_25 q1 q3 p4))]) (rest := [(.ref b54)]) (lenOf own_pd1 rfl) rfl (by show 2 * 0 + _ ≤ _; exact Nat.le_of_eq rfl) (hb hby at_85) (fun _ _ => ⟨rfl, e54, (by decide : 2 + 0 ≤ _), (by decide : 4 + 0 ≤ _)⟩)
  dsimp only [Pt.U, Pt.locs, Pt.cells, Pt.slots] at X59 l59 y59 z59 st59 hQ59
  subst l59 y59 z59
  obtain ⟨rfl, N59q, K59, Q59_0, Q59_1, Q59_2⟩ := hQ59
  have N59 := Fr.app N51 N59q
  have Q51_60 := Q51_56.keep K59
  have Q51_61 := Q51_57.keep K59 (ninS ne_b49_b54 nin0)
  have Q51_62 := Q51_58.keep K59 (ninS ne_b49_b54 nin0)
  have A54_63 := A54.keep K59
  have Z64 := Nat.le_trans Z55 K59.1
  refine own_via st59 ?_
  show own_End p e below s _ _ _ (T59.setTop (mkF m 88 #[.val (.long q0), .second, .val (.long q1), .second, .val (.long q2), .second, .val (.long q3), .second, .val (.int p4), .val (.long (own_M0_4 q0 q2 p4)), .second, .val (.int (((p4.toUInt32 >>> ((1 : Int32) &&& 31).toUInt32).toInt32) &&& (3 : Int32))), .val (.long (own_M0_25 q1 q3 p4)), .second, .val (.ref b49), .unset, .unset, .unset, .unset, .unset] [(.ref b54)]))
  refine own_astore X59 hx (hb hby at_88) rfl (l' := #[.val (.long q0), .second, .val (.long q1), .second, .val (.long q2), .second, .val (.long q3), .second, .val (.int p4), .val (.long (own_M0_4 q0 q2 p4)), .second, .val (.int (((p4.toUInt32 >>> ((1 : Int32) &&& 31).toUInt32).toInt32) &&& (3 : Int32))), .val (.long (own_M0_25 q1 q3 p4)), .second, .val (.ref b49), .val (.ref b54), .unset, .unset, .unset, .unset]) rfl (q := 90) rfl ?_
  refine own_aload X59 hx (hb hby at_90) rfl rfl (q := 92) rfl ?_
  refine own_aload X59 hx (hb hby at_92) rfl rfl (q := 94) rfl ?_
  obtain ⟨cq65, kq65, q65a, q65b, q65c⟩ := isOf hZ rfl Q51_60
  obtain ⟨_, _, ⟨T65, L65, k65, n65⟩, -, X65, ⟨Lc65, hQ65, l65, y65, z65⟩, st65⟩ := X59.virtualBack hx (y := (⟨"com/example/replicated_commit_log/replicatedcommitlog/cluster/ImageVersion", "reaches", "(Lcom/example/replicated_commit_log/replicatedcommitlog/cluster/ImageVersion;)Z"⟩ : MethodName)) (z := (⟨"com/example/replicated_commit_log/replicatedcommitlog/cluster/ImageVersion", "reaches", "(Lcom/example/replicated_commit_log/replicatedcommitlog/cluster/ImageVersion;)Z"⟩ : MethodName)) hown (mvT hZ (hw _ (List.mem_of_getElem? (i := 18) rfl))) (mvT hZ (hw _ (List.mem_of_getElem? (i := 19) rfl))) (notFace_of_selects (args := #[]) (mvT hZ (hw _ (List.mem_of_getElem? (i := 21) rfl)))) (mvT hZ (hw _ (List.mem_of_getElem? (i := 21) rfl))) (mvT hZ (hw _ (List.mem_of_getElem? (i := 20) rfl))) (by decide) (backOf (W := 0) (own_rm4 l Z a0 hw [] b49 b54 q0 q1 (own_M0_4 q0 q2 p4) (own_M0_25 q1 q3 p4) T59.heap n0 Z64 Q51_60 Q51_61 Q51_62 Q59_0 Q59_1 Q59_2) hZ (hw _ (List.mem_of_getElem? (i := 22) rfl)) (hw _ (List.mem_of_getElem? (i := 2) rfl)) (by decide) (by decide)) q65a q65c (g := (mkF m 94 #[.val (.long q0), .second, .val (.long q1), .second, .val (.long q2), .second, .val (.long q3), .second, .val (.int p4), .val (.long (own_M0_4 q0 q2 p4)), .second, .val (.int (((p4.toUInt32 >>> ((1 : Int32) &&& 31).toUInt32).toInt32) &&& (3 : Int32))), .val (.long (own_M0_25 q1 q3 p4)), .second, .val (.ref b49), .val (.ref b54), .unset, .unset, .unset, .unset] [(.ref b54), (.ref b49)])) rfl (by rw [hml]; rfl) (Steps.refl _) (argsL := [(.ref b54)]) (rest := []) (lenOf own_pd2 rfl) rfl (by show 2 * 0 + _ ≤ _; exact Nat.le_of_eq rfl) (hb hby at_94) (fun _ _ => ⟨rfl, rfl, (by decide : 2 + 0 ≤ _), (by decide : 4 + 0 ≤ _)⟩)
  dsimp only [Pt.U, Pt.locs, Pt.cells, Pt.slots] at X65 l65 y65 z65 st65 hQ65
  subst l65 y65 z65
  obtain ⟨rfl, N65q, e65⟩ := hQ65
  have N65 := Fr.app N59 N65q
  refine own_via st65 ?_
  show own_End p e below s _ _ _ (T65.setTop (mkF m 97 #[.val (.long q0), .second, .val (.long q1), .second, .val (.long q2), .second, .val (.long q3), .second, .val (.int p4), .val (.long (own_M0_4 q0 q2 p4)), .second, .val (.int (((p4.toUInt32 >>> ((1 : Int32) &&& 31).toUInt32).toInt32) &&& (3 : Int32))), .val (.long (own_M0_25 q1 q3 p4)), .second, .val (.ref b49), .val (.ref b54), .unset, .unset, .unset, .unset] [(.int (own_F4 q0 q1 (own_M0_4 q0 q2 p4) (own_M0_25 q1 q3 p4)))]))
  refine own_istore X65 hx (hb hby at_97) (l' := #[.val (.long q0), .second, .val (.long q1), .second, .val (.long q2), .second, .val (.long q3), .second, .val (.int p4), .val (.long (own_M0_4 q0 q2 p4)), .second, .val (.int (((p4.toUInt32 >>> ((1 : Int32) &&& 31).toUInt32).toInt32) &&& (3 : Int32))), .val (.long (own_M0_25 q1 q3 p4)), .second, .val (.ref b49), .val (.ref b54), .val (.int (own_F4 q0 q1 (own_M0_4 q0 q2 p4) (own_M0_25 q1 q3 p4))), .unset, .unset, .unset]) rfl (q := 99) rfl ?_
  refine own_aload X65 hx (hb hby at_99) rfl rfl (q := 101) rfl ?_
  refine own_aload X65 hx (hb hby at_101) rfl rfl (q := 103) rfl ?_
  obtain ⟨cq66, kq66, q66a, q66b, q66c⟩ := isOf hZ e65 Q59_0
  obtain ⟨_, _, ⟨T66, L66, k66, n66⟩, -, X66, ⟨Lc66, hQ66, l66, y66, z66⟩, st66⟩ := X65.virtualBack hx (y := (⟨"com/example/replicated_commit_log/replicatedcommitlog/cluster/ImageVersion", "reaches", "(Lcom/example/replicated_commit_log/replicatedcommitlog/cluster/ImageVersion;)Z"⟩ : MethodName)) (z := (⟨"com/example/replicated_commit_log/replicatedcommitlog/cluster/ImageVersion", "reaches", "(Lcom/example/replicated_commit_log/replicatedcommitlog/cluster/ImageVersion;)Z"⟩ : MethodName)) hown (mvT hZ (hw _ (List.mem_of_getElem? (i := 18) rfl))) (mvT hZ (hw _ (List.mem_of_getElem? (i := 19) rfl))) (notFace_of_selects (args := #[]) (mvT hZ (hw _ (List.mem_of_getElem? (i := 21) rfl)))) (mvT hZ (hw _ (List.mem_of_getElem? (i := 21) rfl))) (mvT hZ (hw _ (List.mem_of_getElem? (i := 20) rfl))) (by decide) (backOf (W := 0) (own_rm4 l Z a0 hw [] b54 b49 (own_M0_4 q0 q2 p4) (own_M0_25 q1 q3 p4) q0 q1 T59.heap n0 Z64 Q59_0 Q59_1 Q59_2 Q51_60 Q51_61 Q51_62) hZ (hw _ (List.mem_of_getElem? (i := 22) rfl)) (hw _ (List.mem_of_getElem? (i := 2) rfl)) (by decide) (by decide)) q66a q66c (g := (mkF m 103 #[.val (.long q0), .second, .val (.long q1), .second, .val (.long q2), .second, .val (.long q3), .second, .val (.int p4), .val (.long (own_M0_4 q0 q2 p4)), .second, .val (.int (((p4.toUInt32 >>> ((1 : Int32) &&& 31).toUInt32).toInt32) &&& (3 : Int32))), .val (.long (own_M0_25 q1 q3 p4)), .second, .val (.ref b49), .val (.ref b54), .val (.int (own_F4 q0 q1 (own_M0_4 q0 q2 p4) (own_M0_25 q1 q3 p4))), .unset, .unset, .unset] [(.ref b49), (.ref b54)])) rfl (by rw [hml]; rfl) (Steps.refl _) (argsL := [(.ref b49)]) (rest := []) (lenOf own_pd2 rfl) rfl (by show 2 * 0 + _ ≤ _; exact Nat.le_of_eq rfl) (hb hby at_103) (fun _ _ => ⟨rfl, e65, (by decide : 2 + 0 ≤ _), (by decide : 4 + 0 ≤ _)⟩)
  dsimp only [Pt.U, Pt.locs, Pt.cells, Pt.slots] at X66 l66 y66 z66 st66 hQ66
  subst l66 y66 z66
  obtain ⟨rfl, N66q, e66⟩ := hQ66
  have N66 := Fr.app N65 N66q
  refine own_via st66 ?_
  show own_End p e below s _ _ _ (T66.setTop (mkF m 106 #[.val (.long q0), .second, .val (.long q1), .second, .val (.long q2), .second, .val (.long q3), .second, .val (.int p4), .val (.long (own_M0_4 q0 q2 p4)), .second, .val (.int (((p4.toUInt32 >>> ((1 : Int32) &&& 31).toUInt32).toInt32) &&& (3 : Int32))), .val (.long (own_M0_25 q1 q3 p4)), .second, .val (.ref b49), .val (.ref b54), .val (.int (own_F4 q0 q1 (own_M0_4 q0 q2 p4) (own_M0_25 q1 q3 p4))), .unset, .unset, .unset] [(.int (own_F4 (own_M0_4 q0 q2 p4) (own_M0_25 q1 q3 p4) q0 q1))]))
  refine own_istore X66 hx (hb hby at_106) (l' := #[.val (.long q0), .second, .val (.long q1), .second, .val (.long q2), .second, .val (.long q3), .second, .val (.int p4), .val (.long (own_M0_4 q0 q2 p4)), .second, .val (.int (((p4.toUInt32 >>> ((1 : Int32) &&& 31).toUInt32).toInt32) &&& (3 : Int32))), .val (.long (own_M0_25 q1 q3 p4)), .second, .val (.ref b49), .val (.ref b54), .val (.int (own_F4 q0 q1 (own_M0_4 q0 q2 p4) (own_M0_25 q1 q3 p4))), .val (.int (own_F4 (own_M0_4 q0 q2 p4) (own_M0_25 q1 q3 p4) q0 q1)), .unset, .unset]) rfl (q := 108) rfl ?_
  refine own_lloadN X66 hx (hb hby at_108) rfl (q := 109) rfl ?_
  refine own_lload X66 hx (hb hby at_109) rfl (q := 111) rfl ?_
  by_cases hc112_67 : q0 = (own_M0_4 q0 q2 p4)
  · refine own_lcY X66 hx (hb hby at_111) (r := 112) rfl (hb hby at_112) (own_teq hc112_67).1 (q := 131) (by decide) (by decide) ?_
    refine own_lloadN X66 hx (hb hby at_131) rfl (q := 132) rfl ?_
    refine own_lload X66 hx (hb hby at_132) rfl (q := 134) rfl ?_
    suffices J71 : own_End p e below s (own_Q0 Z q0 q1 q2 q3 p4 h0 n0) room_1.cells room_1.slots (T66.setTop (mkF m 143 #[.val (.long q0), .second, .val (.long q1), .second, .val (.long q2), .second, .val (.long q3), .second, .val (.int p4), .val (.long (own_M0_4 q0 q2 p4)), .second, .val (.int (((p4.toUInt32 >>> ((1 : Int32) &&& 31).toUInt32).toInt32) &&& (3 : Int32))), .val (.long (own_M0_25 q1 q3 p4)), .second, .val (.ref b49), .val (.ref b54), .val (.int (own_F4 q0 q1 (own_M0_4 q0 q2 p4) (own_M0_25 q1 q3 p4))), .val (.int (own_F4 (own_M0_4 q0 q2 p4) (own_M0_25 q1 q3 p4) q0 q1)), .unset, .unset] [(.int (own_M0_135 q1 q3 p4))])) by
      by_cases hc135_68 : q1 < (own_M0_25 q1 q3 p4)
      · refine own_lcY X66 hx (hb hby at_134) (r := 135) rfl (hb hby at_135) (own_tlt hc135_68).1 (q := 142) (by decide) (by decide) ?_
        refine own_iconst X66 hx (hb hby at_142) (z := 0) rfl (q := 143) rfl ?_
        simp only [own_M0_135, if_pos hc135_68] at J71
        exact J71
      · refine own_lcN X66 hx (hb hby at_134) (r := 135) rfl (hb hby at_135) (own_flt hc135_68).1 (q := 138) rfl ?_
        refine own_iconst X66 hx (hb hby at_138) (z := 1) rfl (q := 139) rfl ?_
        refine own_goto X66 hx (hb hby at_139) (q := 143) (by decide) (by decide) ?_
        simp only [own_M0_135, if_neg hc135_68] at J71
        exact J71
    refine own_istore X66 hx (hb hby at_143) (l' := #[.val (.long q0), .second, .val (.long q1), .second, .val (.long q2), .second, .val (.long q3), .second, .val (.int p4), .val (.long (own_M0_4 q0 q2 p4)), .second, .val (.int (((p4.toUInt32 >>> ((1 : Int32) &&& 31).toUInt32).toInt32) &&& (3 : Int32))), .val (.long (own_M0_25 q1 q3 p4)), .second, .val (.ref b49), .val (.ref b54), .val (.int (own_F4 q0 q1 (own_M0_4 q0 q2 p4) (own_M0_25 q1 q3 p4))), .val (.int (own_F4 (own_M0_4 q0 q2 p4) (own_M0_25 q1 q3 p4) q0 q1)), .val (.int (own_M0_135 q1 q3 p4)), .unset]) rfl (q := 145) rfl ?_
    refine own_lload X66 hx (hb hby at_145) rfl (q := 147) rfl ?_
    refine own_lloadN X66 hx (hb hby at_147) rfl (q := 148) rfl ?_
    suffices J75 : own_End p e below s (own_Q0 Z q0 q1 q2 q3 p4 h0 n0) room_1.cells room_1.slots (T66.setTop (mkF m 157 #[.val (.long q0), .second, .val (.long q1), .second, .val (.long q2), .second, .val (.long q3), .second, .val (.int p4), .val (.long (own_M0_4 q0 q2 p4)), .second, .val (.int (((p4.toUInt32 >>> ((1 : Int32) &&& 31).toUInt32).toInt32) &&& (3 : Int32))), .val (.long (own_M0_25 q1 q3 p4)), .second, .val (.ref b49), .val (.ref b54), .val (.int (own_F4 q0 q1 (own_M0_4 q0 q2 p4) (own_M0_25 q1 q3 p4))), .val (.int (own_F4 (own_M0_4 q0 q2 p4) (own_M0_25 q1 q3 p4) q0 q1)), .val (.int (own_M0_135 q1 q3 p4)), .unset] [(.int (own_M0_149 q1 q3 p4))])) by
      by_cases hc149_72 : (own_M0_25 q1 q3 p4) < q1
      · refine own_lcY X66 hx (hb hby at_148) (r := 149) rfl (hb hby at_149) (own_tlt hc149_72).1 (q := 156) (by decide) (by decide) ?_
        refine own_iconst X66 hx (hb hby at_156) (z := 0) rfl (q := 157) rfl ?_
        simp only [own_M0_149, if_pos hc149_72] at J75
        exact J75
      · refine own_lcN X66 hx (hb hby at_148) (r := 149) rfl (hb hby at_149) (own_flt hc149_72).1 (q := 152) rfl ?_
        refine own_iconst X66 hx (hb hby at_152) (z := 1) rfl (q := 153) rfl ?_
        refine own_goto X66 hx (hb hby at_153) (q := 157) (by decide) (by decide) ?_
        simp only [own_M0_149, if_neg hc149_72] at J75
        exact J75
    refine own_istore X66 hx (hb hby at_157) (l' := #[.val (.long q0), .second, .val (.long q1), .second, .val (.long q2), .second, .val (.long q3), .second, .val (.int p4), .val (.long (own_M0_4 q0 q2 p4)), .second, .val (.int (((p4.toUInt32 >>> ((1 : Int32) &&& 31).toUInt32).toInt32) &&& (3 : Int32))), .val (.long (own_M0_25 q1 q3 p4)), .second, .val (.ref b49), .val (.ref b54), .val (.int (own_F4 q0 q1 (own_M0_4 q0 q2 p4) (own_M0_25 q1 q3 p4))), .val (.int (own_F4 (own_M0_4 q0 q2 p4) (own_M0_25 q1 q3 p4) q0 q1)), .val (.int (own_M0_135 q1 q3 p4)), .val (.int (own_M0_149 q1 q3 p4))]) rfl (q := 159) rfl ?_
    refine own_iload X66 hx (hb hby at_159) rfl (q := 161) rfl ?_
    refine own_iload X66 hx (hb hby at_161) rfl (q := 163) rfl ?_
    suffices J139 : ∀ (T139 : State) (L139 : List Loc), Stand p l e room_1 s m #[(.long q0), (.long q1), (.long q2), (.long q3), (.int p4)] below meth c T139 L139 2 4 → T139.heap = T59.heap → Fr n0 L139 → own_End p e below s (own_Q0 Z q0 q1 q2 q3 p4 h0 n0) room_1.cells room_1.slots (T139.setTop (mkF m 248 #[.val (.long q0), .second, .val (.long q1), .second, .val (.long q2), .second, .val (.long q3), .second, .val (.int p4), .val (.long (own_M0_4 q0 q2 p4)), .second, .val (.int (((p4.toUInt32 >>> ((1 : Int32) &&& 31).toUInt32).toInt32) &&& (3 : Int32))), .val (.long (own_M0_25 q1 q3 p4)), .second, .val (.ref b49), .val (.ref b54), .val (.int (own_F4 q0 q1 (own_M0_4 q0 q2 p4) (own_M0_25 q1 q3 p4))), .val (.int (own_F4 (own_M0_4 q0 q2 p4) (own_M0_25 q1 q3 p4) q0 q1)), .val (.int (own_M0_135 q1 q3 p4)), .val (.int (own_M0_149 q1 q3 p4))] [(.int (own_M0_163 q0 q1 q2 q3 p4))])) by
      by_cases hc163_76 : (own_F4 q0 q1 (own_M0_4 q0 q2 p4) (own_M0_25 q1 q3 p4)) = (own_M0_135 q1 q3 p4)
      · refine own_icN X66 hx (hb hby at_163) (teq hc163_76).2 (q := 166) rfl ?_
        refine own_iload X66 hx (hb hby at_166) rfl (q := 168) rfl ?_
        refine own_iload X66 hx (hb hby at_168) rfl (q := 170) rfl ?_
        suffices J136 : ∀ (T136 : State) (L136 : List Loc), Stand p l e room_1 s m #[(.long q0), (.long q1), (.long q2), (.long q3), (.int p4)] below meth c T136 L136 2 4 → T136.heap = T59.heap → Fr n0 L136 → own_End p e below s (own_Q0 Z q0 q1 q2 q3 p4 h0 n0) room_1.cells room_1.slots (T136.setTop (mkF m 248 #[.val (.long q0), .second, .val (.long q1), .second, .val (.long q2), .second, .val (.long q3), .second, .val (.int p4), .val (.long (own_M0_4 q0 q2 p4)), .second, .val (.int (((p4.toUInt32 >>> ((1 : Int32) &&& 31).toUInt32).toInt32) &&& (3 : Int32))), .val (.long (own_M0_25 q1 q3 p4)), .second, .val (.ref b49), .val (.ref b54), .val (.int (own_F4 q0 q1 (own_M0_4 q0 q2 p4) (own_M0_25 q1 q3 p4))), .val (.int (own_F4 (own_M0_4 q0 q2 p4) (own_M0_25 q1 q3 p4) q0 q1)), .val (.int (own_M0_135 q1 q3 p4)), .val (.int (own_M0_149 q1 q3 p4))] [(.int (own_M0_170 q0 q1 q2 q3 p4))])) by
          by_cases hc170_77 : (own_F4 (own_M0_4 q0 q2 p4) (own_M0_25 q1 q3 p4) q0 q1) = (own_M0_149 q1 q3 p4)
          · refine own_icN X66 hx (hb hby at_170) (teq hc170_77).2 (q := 173) rfl ?_
            refine own_iload X66 hx (hb hby at_173) rfl (q := 175) rfl ?_
            suffices J133 : ∀ (T133 : State) (L133 : List Loc), Stand p l e room_1 s m #[(.long q0), (.long q1), (.long q2), (.long q3), (.int p4)] below meth c T133 L133 2 4 → T133.heap = T59.heap → Fr n0 L133 → own_End p e below s (own_Q0 Z q0 q1 q2 q3 p4 h0 n0) room_1.cells room_1.slots (T133.setTop (mkF m 248 #[.val (.long q0), .second, .val (.long q1), .second, .val (.long q2), .second, .val (.long q3), .second, .val (.int p4), .val (.long (own_M0_4 q0 q2 p4)), .second, .val (.int (((p4.toUInt32 >>> ((1 : Int32) &&& 31).toUInt32).toInt32) &&& (3 : Int32))), .val (.long (own_M0_25 q1 q3 p4)), .second, .val (.ref b49), .val (.ref b54), .val (.int (own_F4 q0 q1 (own_M0_4 q0 q2 p4) (own_M0_25 q1 q3 p4))), .val (.int (own_F4 (own_M0_4 q0 q2 p4) (own_M0_25 q1 q3 p4) q0 q1)), .val (.int (own_M0_135 q1 q3 p4)), .val (.int (own_M0_149 q1 q3 p4))] [(.int (own_M0_175 q0 q1 q2 q3 p4))])) by
              by_cases hc175_78 : (own_F4 q0 q1 (own_M0_4 q0 q2 p4) (own_M0_25 q1 q3 p4)) = (0 : Int32)
              · refine own_ifN X66 hx (hb hby at_175) (teq hc175_78).2 (q := 178) rfl ?_
                refine own_iload X66 hx (hb hby at_178) rfl (q := 180) rfl ?_
                suffices J104 : ∀ (T104 : State) (L104 : List Loc), Stand p l e room_1 s m #[(.long q0), (.long q1), (.long q2), (.long q3), (.int p4)] below meth c T104 L104 2 4 → T104.heap = T59.heap → Fr n0 L104 → own_End p e below s (own_Q0 Z q0 q1 q2 q3 p4 h0 n0) room_1.cells room_1.slots (T104.setTop (mkF m 248 #[.val (.long q0), .second, .val (.long q1), .second, .val (.long q2), .second, .val (.long q3), .second, .val (.int p4), .val (.long (own_M0_4 q0 q2 p4)), .second, .val (.int (((p4.toUInt32 >>> ((1 : Int32) &&& 31).toUInt32).toInt32) &&& (3 : Int32))), .val (.long (own_M0_25 q1 q3 p4)), .second, .val (.ref b49), .val (.ref b54), .val (.int (own_F4 q0 q1 (own_M0_4 q0 q2 p4) (own_M0_25 q1 q3 p4))), .val (.int (own_F4 (own_M0_4 q0 q2 p4) (own_M0_25 q1 q3 p4) q0 q1)), .val (.int (own_M0_135 q1 q3 p4)), .val (.int (own_M0_149 q1 q3 p4))] [(.int (own_M0_180 q0 q1 q2 q3 p4))])) by
                  by_cases hc180_79 : (own_F4 (own_M0_4 q0 q2 p4) (own_M0_25 q1 q3 p4) q0 q1) = (0 : Int32)
                  · refine own_ifY X66 hx (hb hby at_180) (teq hc180_79).1 (q := 247) (by decide) (by decide) ?_
                    refine own_iconst X66 hx (hb hby at_247) (z := 0) rfl (q := 248) rfl ?_
                    have J := J104 T66 _ X66 e66 N66
                    simp only [own_M0_180, if_pos hc180_79] at J
                    exact J
                  · refine own_ifN X66 hx (hb hby at_180) (feq hc180_79).1 (q := 183) rfl ?_
                    refine own_iload X66 hx (hb hby at_183) rfl (q := 185) rfl ?_
                    refine own_ifY X66 hx (hb hby at_185) (teq hc175_78).1 (q := 197) (by decide) (by decide) ?_
                    refine own_iconst X66 hx (hb hby at_197) (z := 0) rfl (q := 198) rfl ?_
                    refine own_lloadN X66 hx (hb hby at_198) rfl (q := 199) rfl ?_
                    refine own_lload X66 hx (hb hby at_199) rfl (q := 201) rfl ?_
                    suffices J84 : own_End p e below s (own_Q0 Z q0 q1 q2 q3 p4 h0 n0) room_1.cells room_1.slots (T66.setTop (mkF m 210 #[.val (.long q0), .second, .val (.long q1), .second, .val (.long q2), .second, .val (.long q3), .second, .val (.int p4), .val (.long (own_M0_4 q0 q2 p4)), .second, .val (.int (((p4.toUInt32 >>> ((1 : Int32) &&& 31).toUInt32).toInt32) &&& (3 : Int32))), .val (.long (own_M0_25 q1 q3 p4)), .second, .val (.ref b49), .val (.ref b54), .val (.int (own_F4 q0 q1 (own_M0_4 q0 q2 p4) (own_M0_25 q1 q3 p4))), .val (.int (own_F4 (own_M0_4 q0 q2 p4) (own_M0_25 q1 q3 p4) q0 q1)), .val (.int (own_M0_135 q1 q3 p4)), .val (.int (own_M0_149 q1 q3 p4))] [(.int (own_M0_202 q1 q3 p4)), (.int (0 : Int32))])) by
                      by_cases hc202_81 : q1 = (own_M0_25 q1 q3 p4)
                      · refine own_lcN X66 hx (hb hby at_201) (r := 202) rfl (hb hby at_202) (own_teq hc202_81).2 (q := 205) rfl ?_
                        refine own_iconst X66 hx (hb hby at_205) (z := 1) rfl (q := 206) rfl ?_
                        refine own_goto X66 hx (hb hby at_206) (q := 210) (by decide) (by decide) ?_
                        simp only [own_M0_202, if_pos hc202_81] at J84
                        exact J84
                      · refine own_lcY X66 hx (hb hby at_201) (r := 202) rfl (hb hby at_202) (own_feq hc202_81).2 (q := 209) (by decide) (by decide) ?_
                        refine own_iconst X66 hx (hb hby at_209) (z := 0) rfl (q := 210) rfl ?_
                        simp only [own_M0_202, if_neg hc202_81] at J84
                        exact J84
                    suffices J102 : ∀ (T102 : State) (L102 : List Loc), Stand p l e room_1 s m #[(.long q0), (.long q1), (.long q2), (.long q3), (.int p4)] below meth c T102 L102 2 4 → T102.heap = T59.heap → Fr n0 L102 → own_End p e below s (own_Q0 Z q0 q1 q2 q3 p4 h0 n0) room_1.cells room_1.slots (T102.setTop (mkF m 248 #[.val (.long q0), .second, .val (.long q1), .second, .val (.long q2), .second, .val (.long q3), .second, .val (.int p4), .val (.long (own_M0_4 q0 q2 p4)), .second, .val (.int (((p4.toUInt32 >>> ((1 : Int32) &&& 31).toUInt32).toInt32) &&& (3 : Int32))), .val (.long (own_M0_25 q1 q3 p4)), .second, .val (.ref b49), .val (.ref b54), .val (.int (own_F4 q0 q1 (own_M0_4 q0 q2 p4) (own_M0_25 q1 q3 p4))), .val (.int (own_F4 (own_M0_4 q0 q2 p4) (own_M0_25 q1 q3 p4) q0 q1)), .val (.int (own_M0_135 q1 q3 p4)), .val (.int (own_M0_149 q1 q3 p4))] [(.int (own_M0_210 q0 q1 q2 q3 p4))])) by
                      by_cases hc210_85 : (0 : Int32) = (own_M0_202 q1 q3 p4)
                      · refine own_icN X66 hx (hb hby at_210) (teq hc210_85).2 (q := 213) rfl ?_
                        refine own_aload X66 hx (hb hby at_213) rfl rfl (q := 215) rfl ?_
                        refine own_aload X66 hx (hb hby at_215) rfl rfl (q := 217) rfl ?_
                        obtain ⟨cq86, kq86, q86a, q86b, q86c⟩ := isOf hZ e66 Q51_60
                        obtain ⟨_, _, ⟨T86, L86, k86, n86⟩, -, X86, ⟨Lc86, hQ86, l86, y86, z86⟩, st86⟩ := X66.virtualBack hx (y := (⟨"com/example/replicated_commit_log/replicatedcommitlog/cluster/ImageVersion", "reaches", "(Lcom/example/replicated_commit_log/replicatedcommitlog/cluster/ImageVersion;)Z"⟩ : MethodName)) (z := (⟨"com/example/replicated_commit_log/replicatedcommitlog/cluster/ImageVersion", "reaches", "(Lcom/example/replicated_commit_log/replicatedcommitlog/cluster/ImageVersion;)Z"⟩ : MethodName)) hown (mvT hZ (hw _ (List.mem_of_getElem? (i := 18) rfl))) (mvT hZ (hw _ (List.mem_of_getElem? (i := 19) rfl))) (notFace_of_selects (args := #[]) (mvT hZ (hw _ (List.mem_of_getElem? (i := 21) rfl)))) (mvT hZ (hw _ (List.mem_of_getElem? (i := 21) rfl))) (mvT hZ (hw _ (List.mem_of_getElem? (i := 20) rfl))) (by decide) (backOf (W := 0) (own_rm4 l Z a0 hw [] b49 b49 q0 q1 q0 q1 T59.heap n0 Z64 Q51_60 Q51_61 Q51_62 Q51_60 Q51_61 Q51_62) hZ (hw _ (List.mem_of_getElem? (i := 22) rfl)) (hw _ (List.mem_of_getElem? (i := 2) rfl)) (by decide) (by decide)) q86a q86c (g := (mkF m 217 #[.val (.long q0), .second, .val (.long q1), .second, .val (.long q2), .second, .val (.long q3), .second, .val (.int p4), .val (.long (own_M0_4 q0 q2 p4)), .second, .val (.int (((p4.toUInt32 >>> ((1 : Int32) &&& 31).toUInt32).toInt32) &&& (3 : Int32))), .val (.long (own_M0_25 q1 q3 p4)), .second, .val (.ref b49), .val (.ref b54), .val (.int (own_F4 q0 q1 (own_M0_4 q0 q2 p4) (own_M0_25 q1 q3 p4))), .val (.int (own_F4 (own_M0_4 q0 q2 p4) (own_M0_25 q1 q3 p4) q0 q1)), .val (.int (own_M0_135 q1 q3 p4)), .val (.int (own_M0_149 q1 q3 p4))] [(.ref b49), (.ref b49)])) rfl (by rw [hml]; rfl) (Steps.refl _) (argsL := [(.ref b49)]) (rest := []) (lenOf own_pd2 rfl) rfl (by show 2 * 0 + _ ≤ _; exact Nat.le_of_eq rfl) (hb hby at_217) (fun _ _ => ⟨rfl, e66, (by decide : 2 + 0 ≤ _), (by decide : 4 + 0 ≤ _)⟩)
                        dsimp only [Pt.U, Pt.locs, Pt.cells, Pt.slots] at X86 l86 y86 z86 st86 hQ86
                        subst l86 y86 z86
                        obtain ⟨rfl, N86q, e86⟩ := hQ86
                        have N86 := Fr.app N66 N86q
                        refine own_via st86 ?_
                        show own_End p e below s _ _ _ (T86.setTop (mkF m 220 #[.val (.long q0), .second, .val (.long q1), .second, .val (.long q2), .second, .val (.long q3), .second, .val (.int p4), .val (.long (own_M0_4 q0 q2 p4)), .second, .val (.int (((p4.toUInt32 >>> ((1 : Int32) &&& 31).toUInt32).toInt32) &&& (3 : Int32))), .val (.long (own_M0_25 q1 q3 p4)), .second, .val (.ref b49), .val (.ref b54), .val (.int (own_F4 q0 q1 (own_M0_4 q0 q2 p4) (own_M0_25 q1 q3 p4))), .val (.int (own_F4 (own_M0_4 q0 q2 p4) (own_M0_25 q1 q3 p4) q0 q1)), .val (.int (own_M0_135 q1 q3 p4)), .val (.int (own_M0_149 q1 q3 p4))] [(.int (own_F4 q0 q1 q0 q1))]))
                        suffices J99 : ∀ (T99 : State) (L99 : List Loc), Stand p l e room_1 s m #[(.long q0), (.long q1), (.long q2), (.long q3), (.int p4)] below meth c T99 L99 2 4 → T99.heap = T59.heap → Fr n0 L99 → own_End p e below s (own_Q0 Z q0 q1 q2 q3 p4 h0 n0) room_1.cells room_1.slots (T99.setTop (mkF m 248 #[.val (.long q0), .second, .val (.long q1), .second, .val (.long q2), .second, .val (.long q3), .second, .val (.int p4), .val (.long (own_M0_4 q0 q2 p4)), .second, .val (.int (((p4.toUInt32 >>> ((1 : Int32) &&& 31).toUInt32).toInt32) &&& (3 : Int32))), .val (.long (own_M0_25 q1 q3 p4)), .second, .val (.ref b49), .val (.ref b54), .val (.int (own_F4 q0 q1 (own_M0_4 q0 q2 p4) (own_M0_25 q1 q3 p4))), .val (.int (own_F4 (own_M0_4 q0 q2 p4) (own_M0_25 q1 q3 p4) q0 q1)), .val (.int (own_M0_135 q1 q3 p4)), .val (.int (own_M0_149 q1 q3 p4))] [(.int (own_M0_220 q0 q1 q2 q3 p4))])) by
                          by_cases hc220_87 : (own_F4 q0 q1 q0 q1) = (0 : Int32)
                          · refine own_ifY X86 hx (hb hby at_220) (teq hc220_87).1 (q := 247) (by decide) (by decide) ?_
                            refine own_iconst X86 hx (hb hby at_247) (z := 0) rfl (q := 248) rfl ?_
                            have J := J99 T86 _ X86 e86 N86
                            simp only [own_M0_220, if_pos hc220_87] at J
                            exact J
                          · refine own_ifN X86 hx (hb hby at_220) (feq hc220_87).1 (q := 223) rfl ?_
                            refine own_iload X86 hx (hb hby at_223) rfl (q := 225) rfl ?_
                            refine own_aload X86 hx (hb hby at_225) rfl rfl (q := 227) rfl ?_
                            refine own_aload X86 hx (hb hby at_227) rfl rfl (q := 229) rfl ?_
                            obtain ⟨cq89, kq89, q89a, q89b, q89c⟩ := isOf hZ e86 Q59_0
                            obtain ⟨_, _, ⟨T89, L89, k89, n89⟩, -, X89, ⟨Lc89, hQ89, l89, y89, z89⟩, st89⟩ := X86.virtualBack hx (y := (⟨"com/example/replicated_commit_log/replicatedcommitlog/cluster/ImageVersion", "replaces", "(Lcom/example/replicated_commit_log/replicatedcommitlog/cluster/ImageVersion;)Z"⟩ : MethodName)) (z := (⟨"com/example/replicated_commit_log/replicatedcommitlog/cluster/ImageVersion", "replaces", "(Lcom/example/replicated_commit_log/replicatedcommitlog/cluster/ImageVersion;)Z"⟩ : MethodName)) hown (mvT hZ (hw _ (List.mem_of_getElem? (i := 23) rfl))) (mvT hZ (hw _ (List.mem_of_getElem? (i := 24) rfl))) (notFace_of_selects (args := #[]) (mvT hZ (hw _ (List.mem_of_getElem? (i := 26) rfl)))) (mvT hZ (hw _ (List.mem_of_getElem? (i := 26) rfl))) (mvT hZ (hw _ (List.mem_of_getElem? (i := 25) rfl))) (by decide) (backOf (W := 1) (own_rm5 l Z a0 hw [] b54 b49 (own_M0_4 q0 q2 p4) (own_M0_25 q1 q3 p4) q0 q1 T59.heap n0 Z64 Q59_0 Q59_1 Q59_2 Q51_60 Q51_61 Q51_62) hZ (hw _ (List.mem_of_getElem? (i := 27) rfl)) (hw _ (List.mem_of_getElem? (i := 2) rfl)) (by decide) (by decide)) q89a q89c (g := (mkF m 229 #[.val (.long q0), .second, .val (.long q1), .second, .val (.long q2), .second, .val (.long q3), .second, .val (.int p4), .val (.long (own_M0_4 q0 q2 p4)), .second, .val (.int (((p4.toUInt32 >>> ((1 : Int32) &&& 31).toUInt32).toInt32) &&& (3 : Int32))), .val (.long (own_M0_25 q1 q3 p4)), .second, .val (.ref b49), .val (.ref b54), .val (.int (own_F4 q0 q1 (own_M0_4 q0 q2 p4) (own_M0_25 q1 q3 p4))), .val (.int (own_F4 (own_M0_4 q0 q2 p4) (own_M0_25 q1 q3 p4) q0 q1)), .val (.int (own_M0_135 q1 q3 p4)), .val (.int (own_M0_149 q1 q3 p4))] [(.ref b49), (.ref b54), (.int (own_F4 q0 q1 (own_M0_4 q0 q2 p4) (own_M0_25 q1 q3 p4)))])) rfl (by rw [hml]; rfl) (Steps.refl _) (argsL := [(.ref b49)]) (rest := [(.int (own_F4 q0 q1 (own_M0_4 q0 q2 p4) (own_M0_25 q1 q3 p4)))]) (lenOf own_pd2 rfl) rfl (by show 2 * 0 + _ ≤ _; exact Nat.le_of_eq rfl) (hb hby at_229) (fun _ _ => ⟨rfl, e86, (by decide : 2 + 0 ≤ _), (by decide : 4 + 0 ≤ _)⟩)
                            dsimp only [Pt.U, Pt.locs, Pt.cells, Pt.slots] at X89 l89 y89 z89 st89 hQ89
                            subst l89 y89 z89
                            obtain ⟨rfl, N89q, e89⟩ := hQ89
                            have N89 := Fr.app N86 N89q
                            refine own_via st89 ?_
                            show own_End p e below s _ _ _ (T89.setTop (mkF m 232 #[.val (.long q0), .second, .val (.long q1), .second, .val (.long q2), .second, .val (.long q3), .second, .val (.int p4), .val (.long (own_M0_4 q0 q2 p4)), .second, .val (.int (((p4.toUInt32 >>> ((1 : Int32) &&& 31).toUInt32).toInt32) &&& (3 : Int32))), .val (.long (own_M0_25 q1 q3 p4)), .second, .val (.ref b49), .val (.ref b54), .val (.int (own_F4 q0 q1 (own_M0_4 q0 q2 p4) (own_M0_25 q1 q3 p4))), .val (.int (own_F4 (own_M0_4 q0 q2 p4) (own_M0_25 q1 q3 p4) q0 q1)), .val (.int (own_M0_135 q1 q3 p4)), .val (.int (own_M0_149 q1 q3 p4))] [(.int (own_F5 (own_M0_4 q0 q2 p4) (own_M0_25 q1 q3 p4) q0 q1)), (.int (own_F4 q0 q1 (own_M0_4 q0 q2 p4) (own_M0_25 q1 q3 p4)))]))
                            suffices J93 : own_End p e below s (own_Q0 Z q0 q1 q2 q3 p4 h0 n0) room_1.cells room_1.slots (T89.setTop (mkF m 240 #[.val (.long q0), .second, .val (.long q1), .second, .val (.long q2), .second, .val (.long q3), .second, .val (.int p4), .val (.long (own_M0_4 q0 q2 p4)), .second, .val (.int (((p4.toUInt32 >>> ((1 : Int32) &&& 31).toUInt32).toInt32) &&& (3 : Int32))), .val (.long (own_M0_25 q1 q3 p4)), .second, .val (.ref b49), .val (.ref b54), .val (.int (own_F4 q0 q1 (own_M0_4 q0 q2 p4) (own_M0_25 q1 q3 p4))), .val (.int (own_F4 (own_M0_4 q0 q2 p4) (own_M0_25 q1 q3 p4) q0 q1)), .val (.int (own_M0_135 q1 q3 p4)), .val (.int (own_M0_149 q1 q3 p4))] [(.int (own_M0_232 q0 q1 q2 q3 p4)), (.int (own_F4 q0 q1 (own_M0_4 q0 q2 p4) (own_M0_25 q1 q3 p4)))])) by
                              by_cases hc232_90 : (own_F5 (own_M0_4 q0 q2 p4) (own_M0_25 q1 q3 p4) q0 q1) = (0 : Int32)
                              · refine own_ifN X89 hx (hb hby at_232) (teq hc232_90).2 (q := 235) rfl ?_
                                refine own_iconst X89 hx (hb hby at_235) (z := 1) rfl (q := 236) rfl ?_
                                refine own_goto X89 hx (hb hby at_236) (q := 240) (by decide) (by decide) ?_
                                simp only [own_M0_232, if_pos hc232_90] at J93
                                exact J93
                              · refine own_ifY X89 hx (hb hby at_232) (feq hc232_90).2 (q := 239) (by decide) (by decide) ?_
                                refine own_iconst X89 hx (hb hby at_239) (z := 0) rfl (q := 240) rfl ?_
                                simp only [own_M0_232, if_neg hc232_90] at J93
                                exact J93
                            suffices J97 : own_End p e below s (own_Q0 Z q0 q1 q2 q3 p4 h0 n0) room_1.cells room_1.slots (T89.setTop (mkF m 248 #[.val (.long q0), .second, .val (.long q1), .second, .val (.long q2), .second, .val (.long q3), .second, .val (.int p4), .val (.long (own_M0_4 q0 q2 p4)), .second, .val (.int (((p4.toUInt32 >>> ((1 : Int32) &&& 31).toUInt32).toInt32) &&& (3 : Int32))), .val (.long (own_M0_25 q1 q3 p4)), .second, .val (.ref b49), .val (.ref b54), .val (.int (own_F4 q0 q1 (own_M0_4 q0 q2 p4) (own_M0_25 q1 q3 p4))), .val (.int (own_F4 (own_M0_4 q0 q2 p4) (own_M0_25 q1 q3 p4) q0 q1)), .val (.int (own_M0_135 q1 q3 p4)), .val (.int (own_M0_149 q1 q3 p4))] [(.int (own_M0_240 q0 q1 q2 q3 p4))])) by
                              by_cases hc240_94 : (own_F4 q0 q1 (own_M0_4 q0 q2 p4) (own_M0_25 q1 q3 p4)) = (own_M0_232 q0 q1 q2 q3 p4)
                              · refine own_icN X89 hx (hb hby at_240) (teq hc240_94).2 (q := 243) rfl ?_
                                refine own_iconst X89 hx (hb hby at_243) (z := 1) rfl (q := 244) rfl ?_
                                refine own_goto X89 hx (hb hby at_244) (q := 248) (by decide) (by decide) ?_
                                simp only [own_M0_240, if_pos hc240_94] at J97
                                exact J97
                              · refine own_icY X89 hx (hb hby at_240) (feq hc240_94).2 (q := 247) (by decide) (by decide) ?_
                                refine own_iconst X89 hx (hb hby at_247) (z := 0) rfl (q := 248) rfl ?_
                                simp only [own_M0_240, if_neg hc240_94] at J97
                                exact J97
                            have J := J99 T89 _ X89 e89 N89
                            simp only [own_M0_220, if_neg hc220_87] at J
                            exact J
                        intro T99 L99 X99 e99 N99
                        have J := J102 T99 _ X99 e99 N99
                        simp only [own_M0_210, if_pos hc210_85] at J
                        exact J
                      · refine own_icY X66 hx (hb hby at_210) (feq hc210_85).2 (q := 247) (by decide) (by decide) ?_
                        refine own_iconst X66 hx (hb hby at_247) (z := 0) rfl (q := 248) rfl ?_
                        have J := J102 T66 _ X66 e66 N66
                        simp only [own_M0_210, if_neg hc210_85] at J
                        exact J
                    intro T102 L102 X102 e102 N102
                    have J := J104 T102 _ X102 e102 N102
                    simp only [own_M0_180, if_neg hc180_79] at J
                    exact J
                intro T104 L104 X104 e104 N104
                have J := J133 T104 _ X104 e104 N104
                simp only [own_M0_175, if_pos hc175_78] at J
                exact J
              · refine own_ifY X66 hx (hb hby at_175) (feq hc175_78).2 (q := 183) (by decide) (by decide) ?_
                refine own_iload X66 hx (hb hby at_183) rfl (q := 185) rfl ?_
                refine own_ifN X66 hx (hb hby at_185) (feq hc175_78).1 (q := 188) rfl ?_
                refine own_iload X66 hx (hb hby at_188) rfl (q := 190) rfl ?_
                suffices J109 : own_End p e below s (own_Q0 Z q0 q1 q2 q3 p4 h0 n0) room_1.cells room_1.slots (T66.setTop (mkF m 198 #[.val (.long q0), .second, .val (.long q1), .second, .val (.long q2), .second, .val (.long q3), .second, .val (.int p4), .val (.long (own_M0_4 q0 q2 p4)), .second, .val (.int (((p4.toUInt32 >>> ((1 : Int32) &&& 31).toUInt32).toInt32) &&& (3 : Int32))), .val (.long (own_M0_25 q1 q3 p4)), .second, .val (.ref b49), .val (.ref b54), .val (.int (own_F4 q0 q1 (own_M0_4 q0 q2 p4) (own_M0_25 q1 q3 p4))), .val (.int (own_F4 (own_M0_4 q0 q2 p4) (own_M0_25 q1 q3 p4) q0 q1)), .val (.int (own_M0_135 q1 q3 p4)), .val (.int (own_M0_149 q1 q3 p4))] [(.int (own_M0_190 q0 q1 q2 q3 p4))])) by
                  by_cases hc190_106 : (own_F4 (own_M0_4 q0 q2 p4) (own_M0_25 q1 q3 p4) q0 q1) = (0 : Int32)
                  · refine own_ifY X66 hx (hb hby at_190) (teq hc190_106).1 (q := 197) (by decide) (by decide) ?_
                    refine own_iconst X66 hx (hb hby at_197) (z := 0) rfl (q := 198) rfl ?_
                    simp only [own_M0_190, if_pos hc190_106] at J109
                    exact J109
                  · refine own_ifN X66 hx (hb hby at_190) (feq hc190_106).1 (q := 193) rfl ?_
                    refine own_iconst X66 hx (hb hby at_193) (z := 1) rfl (q := 194) rfl ?_
                    refine own_goto X66 hx (hb hby at_194) (q := 198) (by decide) (by decide) ?_
                    simp only [own_M0_190, if_neg hc190_106] at J109
                    exact J109
                refine own_lloadN X66 hx (hb hby at_198) rfl (q := 199) rfl ?_
                refine own_lload X66 hx (hb hby at_199) rfl (q := 201) rfl ?_
                suffices J113 : own_End p e below s (own_Q0 Z q0 q1 q2 q3 p4 h0 n0) room_1.cells room_1.slots (T66.setTop (mkF m 210 #[.val (.long q0), .second, .val (.long q1), .second, .val (.long q2), .second, .val (.long q3), .second, .val (.int p4), .val (.long (own_M0_4 q0 q2 p4)), .second, .val (.int (((p4.toUInt32 >>> ((1 : Int32) &&& 31).toUInt32).toInt32) &&& (3 : Int32))), .val (.long (own_M0_25 q1 q3 p4)), .second, .val (.ref b49), .val (.ref b54), .val (.int (own_F4 q0 q1 (own_M0_4 q0 q2 p4) (own_M0_25 q1 q3 p4))), .val (.int (own_F4 (own_M0_4 q0 q2 p4) (own_M0_25 q1 q3 p4) q0 q1)), .val (.int (own_M0_135 q1 q3 p4)), .val (.int (own_M0_149 q1 q3 p4))] [(.int (own_M0_202 q1 q3 p4)), (.int (own_M0_190 q0 q1 q2 q3 p4))])) by
                  by_cases hc202_110 : q1 = (own_M0_25 q1 q3 p4)
                  · refine own_lcN X66 hx (hb hby at_201) (r := 202) rfl (hb hby at_202) (own_teq hc202_110).2 (q := 205) rfl ?_
                    refine own_iconst X66 hx (hb hby at_205) (z := 1) rfl (q := 206) rfl ?_
                    refine own_goto X66 hx (hb hby at_206) (q := 210) (by decide) (by decide) ?_
                    simp only [own_M0_202, if_pos hc202_110] at J113
                    exact J113
                  · refine own_lcY X66 hx (hb hby at_201) (r := 202) rfl (hb hby at_202) (own_feq hc202_110).2 (q := 209) (by decide) (by decide) ?_
                    refine own_iconst X66 hx (hb hby at_209) (z := 0) rfl (q := 210) rfl ?_
                    simp only [own_M0_202, if_neg hc202_110] at J113
                    exact J113
                suffices J131 : ∀ (T131 : State) (L131 : List Loc), Stand p l e room_1 s m #[(.long q0), (.long q1), (.long q2), (.long q3), (.int p4)] below meth c T131 L131 2 4 → T131.heap = T59.heap → Fr n0 L131 → own_End p e below s (own_Q0 Z q0 q1 q2 q3 p4 h0 n0) room_1.cells room_1.slots (T131.setTop (mkF m 248 #[.val (.long q0), .second, .val (.long q1), .second, .val (.long q2), .second, .val (.long q3), .second, .val (.int p4), .val (.long (own_M0_4 q0 q2 p4)), .second, .val (.int (((p4.toUInt32 >>> ((1 : Int32) &&& 31).toUInt32).toInt32) &&& (3 : Int32))), .val (.long (own_M0_25 q1 q3 p4)), .second, .val (.ref b49), .val (.ref b54), .val (.int (own_F4 q0 q1 (own_M0_4 q0 q2 p4) (own_M0_25 q1 q3 p4))), .val (.int (own_F4 (own_M0_4 q0 q2 p4) (own_M0_25 q1 q3 p4) q0 q1)), .val (.int (own_M0_135 q1 q3 p4)), .val (.int (own_M0_149 q1 q3 p4))] [(.int (own_M0_210_b q0 q1 q2 q3 p4))])) by
                  by_cases hc210_114 : (own_M0_190 q0 q1 q2 q3 p4) = (own_M0_202 q1 q3 p4)
                  · refine own_icN X66 hx (hb hby at_210) (teq hc210_114).2 (q := 213) rfl ?_
                    refine own_aload X66 hx (hb hby at_213) rfl rfl (q := 215) rfl ?_
                    refine own_aload X66 hx (hb hby at_215) rfl rfl (q := 217) rfl ?_
                    obtain ⟨cq115, kq115, q115a, q115b, q115c⟩ := isOf hZ e66 Q51_60
                    obtain ⟨_, _, ⟨T115, L115, k115, n115⟩, -, X115, ⟨Lc115, hQ115, l115, y115, z115⟩, st115⟩ := X66.virtualBack hx (y := (⟨"com/example/replicated_commit_log/replicatedcommitlog/cluster/ImageVersion", "reaches", "(Lcom/example/replicated_commit_log/replicatedcommitlog/cluster/ImageVersion;)Z"⟩ : MethodName)) (z := (⟨"com/example/replicated_commit_log/replicatedcommitlog/cluster/ImageVersion", "reaches", "(Lcom/example/replicated_commit_log/replicatedcommitlog/cluster/ImageVersion;)Z"⟩ : MethodName)) hown (mvT hZ (hw _ (List.mem_of_getElem? (i := 18) rfl))) (mvT hZ (hw _ (List.mem_of_getElem? (i := 19) rfl))) (notFace_of_selects (args := #[]) (mvT hZ (hw _ (List.mem_of_getElem? (i := 21) rfl)))) (mvT hZ (hw _ (List.mem_of_getElem? (i := 21) rfl))) (mvT hZ (hw _ (List.mem_of_getElem? (i := 20) rfl))) (by decide) (backOf (W := 0) (own_rm4 l Z a0 hw [] b49 b49 q0 q1 q0 q1 T59.heap n0 Z64 Q51_60 Q51_61 Q51_62 Q51_60 Q51_61 Q51_62) hZ (hw _ (List.mem_of_getElem? (i := 22) rfl)) (hw _ (List.mem_of_getElem? (i := 2) rfl)) (by decide) (by decide)) q115a q115c (g := (mkF m 217 #[.val (.long q0), .second, .val (.long q1), .second, .val (.long q2), .second, .val (.long q3), .second, .val (.int p4), .val (.long (own_M0_4 q0 q2 p4)), .second, .val (.int (((p4.toUInt32 >>> ((1 : Int32) &&& 31).toUInt32).toInt32) &&& (3 : Int32))), .val (.long (own_M0_25 q1 q3 p4)), .second, .val (.ref b49), .val (.ref b54), .val (.int (own_F4 q0 q1 (own_M0_4 q0 q2 p4) (own_M0_25 q1 q3 p4))), .val (.int (own_F4 (own_M0_4 q0 q2 p4) (own_M0_25 q1 q3 p4) q0 q1)), .val (.int (own_M0_135 q1 q3 p4)), .val (.int (own_M0_149 q1 q3 p4))] [(.ref b49), (.ref b49)])) rfl (by rw [hml]; rfl) (Steps.refl _) (argsL := [(.ref b49)]) (rest := []) (lenOf own_pd2 rfl) rfl (by show 2 * 0 + _ ≤ _; exact Nat.le_of_eq rfl) (hb hby at_217) (fun _ _ => ⟨rfl, e66, (by decide : 2 + 0 ≤ _), (by decide : 4 + 0 ≤ _)⟩)
                    dsimp only [Pt.U, Pt.locs, Pt.cells, Pt.slots] at X115 l115 y115 z115 st115 hQ115
                    subst l115 y115 z115
                    obtain ⟨rfl, N115q, e115⟩ := hQ115
                    have N115 := Fr.app N66 N115q
                    refine own_via st115 ?_
                    show own_End p e below s _ _ _ (T115.setTop (mkF m 220 #[.val (.long q0), .second, .val (.long q1), .second, .val (.long q2), .second, .val (.long q3), .second, .val (.int p4), .val (.long (own_M0_4 q0 q2 p4)), .second, .val (.int (((p4.toUInt32 >>> ((1 : Int32) &&& 31).toUInt32).toInt32) &&& (3 : Int32))), .val (.long (own_M0_25 q1 q3 p4)), .second, .val (.ref b49), .val (.ref b54), .val (.int (own_F4 q0 q1 (own_M0_4 q0 q2 p4) (own_M0_25 q1 q3 p4))), .val (.int (own_F4 (own_M0_4 q0 q2 p4) (own_M0_25 q1 q3 p4) q0 q1)), .val (.int (own_M0_135 q1 q3 p4)), .val (.int (own_M0_149 q1 q3 p4))] [(.int (own_F4 q0 q1 q0 q1))]))
                    suffices J128 : ∀ (T128 : State) (L128 : List Loc), Stand p l e room_1 s m #[(.long q0), (.long q1), (.long q2), (.long q3), (.int p4)] below meth c T128 L128 2 4 → T128.heap = T59.heap → Fr n0 L128 → own_End p e below s (own_Q0 Z q0 q1 q2 q3 p4 h0 n0) room_1.cells room_1.slots (T128.setTop (mkF m 248 #[.val (.long q0), .second, .val (.long q1), .second, .val (.long q2), .second, .val (.long q3), .second, .val (.int p4), .val (.long (own_M0_4 q0 q2 p4)), .second, .val (.int (((p4.toUInt32 >>> ((1 : Int32) &&& 31).toUInt32).toInt32) &&& (3 : Int32))), .val (.long (own_M0_25 q1 q3 p4)), .second, .val (.ref b49), .val (.ref b54), .val (.int (own_F4 q0 q1 (own_M0_4 q0 q2 p4) (own_M0_25 q1 q3 p4))), .val (.int (own_F4 (own_M0_4 q0 q2 p4) (own_M0_25 q1 q3 p4) q0 q1)), .val (.int (own_M0_135 q1 q3 p4)), .val (.int (own_M0_149 q1 q3 p4))] [(.int (own_M0_220 q0 q1 q2 q3 p4))])) by
                      by_cases hc220_116 : (own_F4 q0 q1 q0 q1) = (0 : Int32)
                      · refine own_ifY X115 hx (hb hby at_220) (teq hc220_116).1 (q := 247) (by decide) (by decide) ?_
                        refine own_iconst X115 hx (hb hby at_247) (z := 0) rfl (q := 248) rfl ?_
                        have J := J128 T115 _ X115 e115 N115
                        simp only [own_M0_220, if_pos hc220_116] at J
                        exact J
                      · refine own_ifN X115 hx (hb hby at_220) (feq hc220_116).1 (q := 223) rfl ?_
                        refine own_iload X115 hx (hb hby at_223) rfl (q := 225) rfl ?_
                        refine own_aload X115 hx (hb hby at_225) rfl rfl (q := 227) rfl ?_
                        refine own_aload X115 hx (hb hby at_227) rfl rfl (q := 229) rfl ?_
                        obtain ⟨cq118, kq118, q118a, q118b, q118c⟩ := isOf hZ e115 Q59_0
                        obtain ⟨_, _, ⟨T118, L118, k118, n118⟩, -, X118, ⟨Lc118, hQ118, l118, y118, z118⟩, st118⟩ := X115.virtualBack hx (y := (⟨"com/example/replicated_commit_log/replicatedcommitlog/cluster/ImageVersion", "replaces", "(Lcom/example/replicated_commit_log/replicatedcommitlog/cluster/ImageVersion;)Z"⟩ : MethodName)) (z := (⟨"com/example/replicated_commit_log/replicatedcommitlog/cluster/ImageVersion", "replaces", "(Lcom/example/replicated_commit_log/replicatedcommitlog/cluster/ImageVersion;)Z"⟩ : MethodName)) hown (mvT hZ (hw _ (List.mem_of_getElem? (i := 23) rfl))) (mvT hZ (hw _ (List.mem_of_getElem? (i := 24) rfl))) (notFace_of_selects (args := #[]) (mvT hZ (hw _ (List.mem_of_getElem? (i := 26) rfl)))) (mvT hZ (hw _ (List.mem_of_getElem? (i := 26) rfl))) (mvT hZ (hw _ (List.mem_of_getElem? (i := 25) rfl))) (by decide) (backOf (W := 1) (own_rm5 l Z a0 hw [] b54 b49 (own_M0_4 q0 q2 p4) (own_M0_25 q1 q3 p4) q0 q1 T59.heap n0 Z64 Q59_0 Q59_1 Q59_2 Q51_60 Q51_61 Q51_62) hZ (hw _ (List.mem_of_getElem? (i := 27) rfl)) (hw _ (List.mem_of_getElem? (i := 2) rfl)) (by decide) (by decide)) q118a q118c (g := (mkF m 229 #[.val (.long q0), .second, .val (.long q1), .second, .val (.long q2), .second, .val (.long q3), .second, .val (.int p4), .val (.long (own_M0_4 q0 q2 p4)), .second, .val (.int (((p4.toUInt32 >>> ((1 : Int32) &&& 31).toUInt32).toInt32) &&& (3 : Int32))), .val (.long (own_M0_25 q1 q3 p4)), .second, .val (.ref b49), .val (.ref b54), .val (.int (own_F4 q0 q1 (own_M0_4 q0 q2 p4) (own_M0_25 q1 q3 p4))), .val (.int (own_F4 (own_M0_4 q0 q2 p4) (own_M0_25 q1 q3 p4) q0 q1)), .val (.int (own_M0_135 q1 q3 p4)), .val (.int (own_M0_149 q1 q3 p4))] [(.ref b49), (.ref b54), (.int (own_F4 q0 q1 (own_M0_4 q0 q2 p4) (own_M0_25 q1 q3 p4)))])) rfl (by rw [hml]; rfl) (Steps.refl _) (argsL := [(.ref b49)]) (rest := [(.int (own_F4 q0 q1 (own_M0_4 q0 q2 p4) (own_M0_25 q1 q3 p4)))]) (lenOf own_pd2 rfl) rfl (by show 2 * 0 + _ ≤ _; exact Nat.le_of_eq rfl) (hb hby at_229) (fun _ _ => ⟨rfl, e115, (by decide : 2 + 0 ≤ _), (by decide : 4 + 0 ≤ _)⟩)
                        dsimp only [Pt.U, Pt.locs, Pt.cells, Pt.slots] at X118 l118 y118 z118 st118 hQ118
                        subst l118 y118 z118
                        obtain ⟨rfl, N118q, e118⟩ := hQ118
                        have N118 := Fr.app N115 N118q
                        refine own_via st118 ?_
                        show own_End p e below s _ _ _ (T118.setTop (mkF m 232 #[.val (.long q0), .second, .val (.long q1), .second, .val (.long q2), .second, .val (.long q3), .second, .val (.int p4), .val (.long (own_M0_4 q0 q2 p4)), .second, .val (.int (((p4.toUInt32 >>> ((1 : Int32) &&& 31).toUInt32).toInt32) &&& (3 : Int32))), .val (.long (own_M0_25 q1 q3 p4)), .second, .val (.ref b49), .val (.ref b54), .val (.int (own_F4 q0 q1 (own_M0_4 q0 q2 p4) (own_M0_25 q1 q3 p4))), .val (.int (own_F4 (own_M0_4 q0 q2 p4) (own_M0_25 q1 q3 p4) q0 q1)), .val (.int (own_M0_135 q1 q3 p4)), .val (.int (own_M0_149 q1 q3 p4))] [(.int (own_F5 (own_M0_4 q0 q2 p4) (own_M0_25 q1 q3 p4) q0 q1)), (.int (own_F4 q0 q1 (own_M0_4 q0 q2 p4) (own_M0_25 q1 q3 p4)))]))
                        suffices J122 : own_End p e below s (own_Q0 Z q0 q1 q2 q3 p4 h0 n0) room_1.cells room_1.slots (T118.setTop (mkF m 240 #[.val (.long q0), .second, .val (.long q1), .second, .val (.long q2), .second, .val (.long q3), .second, .val (.int p4), .val (.long (own_M0_4 q0 q2 p4)), .second, .val (.int (((p4.toUInt32 >>> ((1 : Int32) &&& 31).toUInt32).toInt32) &&& (3 : Int32))), .val (.long (own_M0_25 q1 q3 p4)), .second, .val (.ref b49), .val (.ref b54), .val (.int (own_F4 q0 q1 (own_M0_4 q0 q2 p4) (own_M0_25 q1 q3 p4))), .val (.int (own_F4 (own_M0_4 q0 q2 p4) (own_M0_25 q1 q3 p4) q0 q1)), .val (.int (own_M0_135 q1 q3 p4)), .val (.int (own_M0_149 q1 q3 p4))] [(.int (own_M0_232 q0 q1 q2 q3 p4)), (.int (own_F4 q0 q1 (own_M0_4 q0 q2 p4) (own_M0_25 q1 q3 p4)))])) by
                          by_cases hc232_119 : (own_F5 (own_M0_4 q0 q2 p4) (own_M0_25 q1 q3 p4) q0 q1) = (0 : Int32)
                          · refine own_ifN X118 hx (hb hby at_232) (teq hc232_119).2 (q := 235) rfl ?_
                            refine own_iconst X118 hx (hb hby at_235) (z := 1) rfl (q := 236) rfl ?_
                            refine own_goto X118 hx (hb hby at_236) (q := 240) (by decide) (by decide) ?_
                            simp only [own_M0_232, if_pos hc232_119] at J122
                            exact J122
                          · refine own_ifY X118 hx (hb hby at_232) (feq hc232_119).2 (q := 239) (by decide) (by decide) ?_
                            refine own_iconst X118 hx (hb hby at_239) (z := 0) rfl (q := 240) rfl ?_
                            simp only [own_M0_232, if_neg hc232_119] at J122
                            exact J122
                        suffices J126 : own_End p e below s (own_Q0 Z q0 q1 q2 q3 p4 h0 n0) room_1.cells room_1.slots (T118.setTop (mkF m 248 #[.val (.long q0), .second, .val (.long q1), .second, .val (.long q2), .second, .val (.long q3), .second, .val (.int p4), .val (.long (own_M0_4 q0 q2 p4)), .second, .val (.int (((p4.toUInt32 >>> ((1 : Int32) &&& 31).toUInt32).toInt32) &&& (3 : Int32))), .val (.long (own_M0_25 q1 q3 p4)), .second, .val (.ref b49), .val (.ref b54), .val (.int (own_F4 q0 q1 (own_M0_4 q0 q2 p4) (own_M0_25 q1 q3 p4))), .val (.int (own_F4 (own_M0_4 q0 q2 p4) (own_M0_25 q1 q3 p4) q0 q1)), .val (.int (own_M0_135 q1 q3 p4)), .val (.int (own_M0_149 q1 q3 p4))] [(.int (own_M0_240 q0 q1 q2 q3 p4))])) by
                          by_cases hc240_123 : (own_F4 q0 q1 (own_M0_4 q0 q2 p4) (own_M0_25 q1 q3 p4)) = (own_M0_232 q0 q1 q2 q3 p4)
                          · refine own_icN X118 hx (hb hby at_240) (teq hc240_123).2 (q := 243) rfl ?_
                            refine own_iconst X118 hx (hb hby at_243) (z := 1) rfl (q := 244) rfl ?_
                            refine own_goto X118 hx (hb hby at_244) (q := 248) (by decide) (by decide) ?_
                            simp only [own_M0_240, if_pos hc240_123] at J126
                            exact J126
                          · refine own_icY X118 hx (hb hby at_240) (feq hc240_123).2 (q := 247) (by decide) (by decide) ?_
                            refine own_iconst X118 hx (hb hby at_247) (z := 0) rfl (q := 248) rfl ?_
                            simp only [own_M0_240, if_neg hc240_123] at J126
                            exact J126
                        have J := J128 T118 _ X118 e118 N118
                        simp only [own_M0_220, if_neg hc220_116] at J
                        exact J
                    intro T128 L128 X128 e128 N128
                    have J := J131 T128 _ X128 e128 N128
                    simp only [own_M0_210_b, if_pos hc210_114] at J
                    exact J
                  · refine own_icY X66 hx (hb hby at_210) (feq hc210_114).2 (q := 247) (by decide) (by decide) ?_
                    refine own_iconst X66 hx (hb hby at_247) (z := 0) rfl (q := 248) rfl ?_
                    have J := J131 T66 _ X66 e66 N66
                    simp only [own_M0_210_b, if_neg hc210_114] at J
                    exact J
                intro T131 L131 X131 e131 N131
                have J := J133 T131 _ X131 e131 N131
                simp only [own_M0_175, if_neg hc175_78] at J
                exact J
            intro T133 L133 X133 e133 N133
            have J := J136 T133 _ X133 e133 N133
            simp only [own_M0_170, if_pos hc170_77] at J
            exact J
          · refine own_icY X66 hx (hb hby at_170) (feq hc170_77).2 (q := 247) (by decide) (by decide) ?_
            refine own_iconst X66 hx (hb hby at_247) (z := 0) rfl (q := 248) rfl ?_
            have J := J136 T66 _ X66 e66 N66
            simp only [own_M0_170, if_neg hc170_77] at J
            exact J
        intro T136 L136 X136 e136 N136
        have J := J139 T136 _ X136 e136 N136
        simp only [own_M0_163, if_pos hc163_76] at J
        exact J
      · refine own_icY X66 hx (hb hby at_163) (feq hc163_76).2 (q := 247) (by decide) (by decide) ?_
        refine own_iconst X66 hx (hb hby at_247) (z := 0) rfl (q := 248) rfl ?_
        have J := J139 T66 _ X66 e66 N66
        simp only [own_M0_163, if_neg hc163_76] at J
        exact J
    intro T139 L139 X139 e139 N139
    refine own_retN X139 hx (t := .boolean) (by simp) Bd.returns Bd.notSynchronized (by decide) (by decide) (hb hby at_248) ?_
    show own_Q0 Z q0 q1 q2 q3 p4 h0 n0 _ T139.heap _
    exact ⟨(by rw [show own_F0 q0 q1 q2 q3 p4 = _ from (by simp only [own_F0, if_pos hc112_67] : _ = ((own_M0_163 q0 q1 q2 q3 p4) &&& 1))]; rfl), N139⟩
  · refine own_lcN X66 hx (hb hby at_111) (r := 112) rfl (hb hby at_112) (own_feq hc112_67).1 (q := 115) rfl ?_
    refine own_iload X66 hx (hb hby at_115) rfl (q := 117) rfl ?_
    suffices J148 : own_End p e below s (own_Q0 Z q0 q1 q2 q3 p4 h0 n0) room_1.cells room_1.slots (T66.setTop (mkF m 130 #[.val (.long q0), .second, .val (.long q1), .second, .val (.long q2), .second, .val (.long q3), .second, .val (.int p4), .val (.long (own_M0_4 q0 q2 p4)), .second, .val (.int (((p4.toUInt32 >>> ((1 : Int32) &&& 31).toUInt32).toInt32) &&& (3 : Int32))), .val (.long (own_M0_25 q1 q3 p4)), .second, .val (.ref b49), .val (.ref b54), .val (.int (own_F4 q0 q1 (own_M0_4 q0 q2 p4) (own_M0_25 q1 q3 p4))), .val (.int (own_F4 (own_M0_4 q0 q2 p4) (own_M0_25 q1 q3 p4) q0 q1)), .unset, .unset] [(.int (own_M0_117 q0 q1 q2 q3 p4))])) by
      by_cases hc117_141 : (own_F4 q0 q1 (own_M0_4 q0 q2 p4) (own_M0_25 q1 q3 p4)) = (0 : Int32)
      · refine own_ifN X66 hx (hb hby at_117) (teq hc117_141).2 (q := 120) rfl ?_
        refine own_iload X66 hx (hb hby at_120) rfl (q := 122) rfl ?_
        suffices J145 : own_End p e below s (own_Q0 Z q0 q1 q2 q3 p4 h0 n0) room_1.cells room_1.slots (T66.setTop (mkF m 130 #[.val (.long q0), .second, .val (.long q1), .second, .val (.long q2), .second, .val (.long q3), .second, .val (.int p4), .val (.long (own_M0_4 q0 q2 p4)), .second, .val (.int (((p4.toUInt32 >>> ((1 : Int32) &&& 31).toUInt32).toInt32) &&& (3 : Int32))), .val (.long (own_M0_25 q1 q3 p4)), .second, .val (.ref b49), .val (.ref b54), .val (.int (own_F4 q0 q1 (own_M0_4 q0 q2 p4) (own_M0_25 q1 q3 p4))), .val (.int (own_F4 (own_M0_4 q0 q2 p4) (own_M0_25 q1 q3 p4) q0 q1)), .unset, .unset] [(.int (own_M0_122 q0 q1 q2 q3 p4))])) by
          by_cases hc122_142 : (own_F4 (own_M0_4 q0 q2 p4) (own_M0_25 q1 q3 p4) q0 q1) = (0 : Int32)
          · refine own_ifN X66 hx (hb hby at_122) (teq hc122_142).2 (q := 125) rfl ?_
            refine own_iconst X66 hx (hb hby at_125) (z := 1) rfl (q := 126) rfl ?_
            refine own_goto X66 hx (hb hby at_126) (q := 130) (by decide) (by decide) ?_
            simp only [own_M0_122, if_pos hc122_142] at J145
            exact J145
          · refine own_ifY X66 hx (hb hby at_122) (feq hc122_142).2 (q := 129) (by decide) (by decide) ?_
            refine own_iconst X66 hx (hb hby at_129) (z := 0) rfl (q := 130) rfl ?_
            simp only [own_M0_122, if_neg hc122_142] at J145
            exact J145
        simp only [own_M0_117, if_pos hc117_141] at J148
        exact J148
      · refine own_ifY X66 hx (hb hby at_117) (feq hc117_141).2 (q := 129) (by decide) (by decide) ?_
        refine own_iconst X66 hx (hb hby at_129) (z := 0) rfl (q := 130) rfl ?_
        simp only [own_M0_117, if_neg hc117_141] at J148
        exact J148
    refine own_retN X66 hx (t := .boolean) (by simp) Bd.returns Bd.notSynchronized (by decide) (by decide) (hb hby at_130) ?_
    show own_Q0 Z q0 q1 q2 q3 p4 h0 n0 _ T66.heap _
    exact ⟨(by rw [show own_F0 q0 q1 q2 q3 p4 = _ from (by simp only [own_F0, if_neg hc112_67] : _ = ((own_M0_117 q0 q1 q2 q3 p4) &&& 1))]; rfl), N66⟩
theorem own_tri (x y : Int64) : (x < y ∧ ¬ y < x ∧ ¬ x = y ∧ ¬ y = x) ∨ y = x ∨ (¬ x < y ∧ y < x ∧ ¬ x = y ∧ ¬ y = x) := by
  simp only [Int64.lt_iff_toInt_lt, ← Int64.toInt_inj]
  omega
theorem own_law (a b c d : Int64) (f : Int32) : own_F0 a b c d f = 1 := by
  simp only [own_F0, own_F4, own_F5, own_M0_163, own_M0_117, own_M0_122, own_M0_170, own_M0_175, own_M0_180, own_M0_190, own_M0_202, own_M0_210, own_M0_210_b, own_M0_220, own_M0_232, own_M0_240, own_M0_135, own_M0_149]
  rcases own_tri b (own_M0_25 b d f) with t | t | t <;> rcases own_tri a (own_M0_4 a c f) with u | u | u <;> simp only [t, u, Int64.lt_irrefl, if_true, if_false, reduceIte, not_false_eq_true] <;> decide
set_option maxRecDepth 65536 in
set_option maxHeartbeats 40000000 in
theorem comes_1 {Post : Tables → Env → Array Value → State → Outcome → State → Prop} (hpost : ∀ tb e args s v u, (limb_1_1.after args s (.returned v) u = true ∧ limb_1_2.after args s (.returned v) u = true ∧ True) → FrameEnd s (.returned v) u (Jvm.fieldLocs frame_1_writes args s ++ Jvm.arrayLocs frame_1_arrays args s ++ Jvm.staticLocs frame_1_statics s) 16 128 → Post tb e args s (.returned v) u) :
    ArmFor flags0 classFile x code maxLocals ret World_1 tables_1 room_1 Calls_1 rest_1 Pre_1 Post := by
  intro l hfl _ _ p e ha hc hk s m args below hf hA hF happ hP
  obtain ⟨hcalls, hrest, hpre⟩ := hP
  obtain ⟨-, -, -, hnamed, -, -, -, hat⟩ := (Spec.applies_iff hf).mp happ
  obtain ⟨hg, hn⟩ := and_e (Cond.before_iff.mp (show (Jvm.Cond.and given_1 narrow_1).before args s = true from hpre))
  obtain ⟨g150, g151⟩ := and_e hg
  obtain ⟨g152, g153⟩ := and_e g151
  obtain ⟨g154, g155⟩ := and_e g153
  obtain ⟨g156, g157⟩ := and_e g155
  obtain ⟨g158, g159⟩ := and_e g157
  obtain ⟨w0, w1, w2, w3, w4, rfl⟩ : ∃ w0 w1 w2 w3 w4 : Value, args = #[w0, w1, w2, w3, w4] := by
    have hs : args.size = 5 := by simpa [Cond.value, given_1] using g150
    obtain ⟨L⟩ := args
    match L, hs with
    | [w0, w1, w2, w3, w4], _ => exact ⟨w0, w1, w2, w3, w4, rfl⟩
  have hw := fun d (hd : d ∈ tables_1) => atoms_spec (ws := Jvm.Cond.code x code maxLocals ret :: tables_1) hat d (List.mem_cons_of_mem _ hd)
  have hfit : Fit s := fun {y c} hc i hi => by
    obtain ⟨ha, rfl⟩ := Array.getElem?_eq_some_iff.mp hc
    have q := List.all_eq_true.mp ((Array.all_eq_true_iff_forall_mem.mp hF) _ (Array.getElem_mem ha)) i (List.mem_range.mpr hi)
    simpa [Array.getElem?_eq_getElem hi] using q
  obtain ⟨i0, ei0⟩ := isL_v g152
  obtain rfl : w0 = (.long i0) := Option.some.inj ei0
  obtain ⟨i1, ei1⟩ := isL_v g154
  obtain rfl : w1 = (.long i1) := Option.some.inj ei1
  obtain ⟨i2, ei2⟩ := isL_v g156
  obtain rfl : w2 = (.long i2) := Option.some.inj ei2
  obtain ⟨i3, ei3⟩ := isL_v g158
  obtain rfl : w3 = (.long i3) := Option.some.inj ei3
  obtain ⟨i4, ei4⟩ := is_v g159
  obtain rfl : w4 = (.int i4) := Option.some.inj ei4
  obtain ⟨n, o, h1, h2, h3, _, L, rfl, ⟨hv, N⟩, hq⟩ := own_rm0 l s _ hw tables_1 i0 i1 i2 i3 i4 s.heap s.heap.size (Nat.le_refl _)  p e ha hc hk s m _ below hf ((Spec.applies_iff_loose hf).mp happ).1 ⟨rfl, State.Warmed39.refl s, rfl⟩ trivial
  rw [own_law] at hv
  subst hv
  refine ⟨n, _, h1, h2, h3, hpost _ _ _ _ _ _ ⟨Cond.after_iff.mpr rfl, Cond.after_iff.mpr (eq_i res_at (Term.int_eval (1)) rfl), trivial⟩ ⟨hq.1, hq.2.1, (hq.2.2.sift fun y hy => Or.inr (N y hy)).mono (by decide) (by decide)⟩⟩
theorem main_1_1 : Claimed_1_1 := comes_1 fun _ _ _ _ _ _ h hF => ⟨h.1, hF⟩
theorem main_1_2 : Claimed_1_2 := comes_1 fun _ _ _ _ _ _ h hF => ⟨h.2.1, hF⟩
end Jvm.Pilot.@@N@@
namespace Jvm.Pilot.@@N@@
open Jvm Jvm.ClassFile Sem Op Lib Jvm.Free Jvm.Stand Jvm.Pilot.@@N@@.Jvm.D
/-! MADE BY PROGRAM (witnessworld.py) out of the Statement's table words and the real class files: 10 classes; the members and pool entries that the words name. The judged class is class 1, her method 1. -/
namespace start1
open Jvm.ClassFile
def u (s : String) : CpInfo := .utf8 (stringToUtf16 s)
/-- a pool by its gaps: so many unusable entries, then the entry; so many at the end -/
def gap : Nat → List CpInfo → List CpInfo
  | 0, r => r
  | n + 1, r => .unusable :: gap n r
def poolList (es : List (Nat × CpInfo)) (last : Nat) : List CpInfo := es.foldr (fun e r => gap e.1 (e.2 :: r)) (gap last [])
def pool (es : List (Nat × CpInfo)) (last : Nat) : Array CpInfo := ⟨poolList es last⟩
def fileOf (pool : Array CpInfo) (this : Nat) (attrs : Array Attribute := #[]) (ms : Array MethodInfo := #[]) (fl : Nat := 33) (sup : Nat := 0) (ifs : Array Nat := #[]) (fds : Array FieldInfo := #[]) : ClassFile where
  minorVersion := 0
  majorVersion := 65
  constantPool := pool
  accessFlags := fl
  thisClass := this
  superClass := sup
  interfaces := ifs
  fields := fds
  methods := ms
  attributes := attrs
def plain (name : String) (sup : Option ClassId) : Class where
  name := name
  kind := .ordinary
  loader := none
  accessFlags := 33
  super := sup
  interfaces := #[]
  cf := none
  fields := #[]
  methods := #[]
  instanceTypes := #[]
  staticTypes := #[]
  resolved := #[]
  callSites := []
  init := .initialized
  statics := none
  mirror := none

def pool0 : Array CpInfo := pool [(5, u "<init>"), (0, u "()V"), (1, .class_ 10), (1, u "java/lang/Object")] 113

def k0c0 : Code := { maxStack := 0, maxLocals := 1, code := object_method_1_code, exceptionTable := #[], attributes := #[] }
def k0m0 : Method := { name := "<init>", desc := "()V", sig := { parameters := [], returnType := none }, accessFlags := 1, code := some k0c0 }
/-- java/lang/Object -/
def k0 : Class := { plain "java/lang/Object" none with
  accessFlags := 33
  interfaces := #[]
  cf := some (fileOf pool0 8 #[] #[{ accessFlags := 1, nameIndex := 5, descriptorIndex := 6, attributes := #[] }] 33 0 #[] #[])
  fields := #[]
  methods := #[k0m0]
  instanceTypes := #[]
  staticTypes := #[]
  resolved := Array.replicate 124 none
  statics := none }

def pool1 : Array CpInfo := pool [(2, .class_ 4), (1, u "java/lang/Object"), (0, u "<init>"), (0, u "()V"), (0, .class_ 8), (0, u "com/example/replicated_commit_log/replicatedcommitlog/cluster/ImageVersion"), (0, .methodref 7 10), (0, .nameAndType 5 11), (0, u "(JJ)V"), (0, .methodref 7 13), (0, .nameAndType 14 15), (0, u "reaches"), (0, u "(Lcom/example/replicated_commit_log/replicatedcommitlog/cluster/ImageVersion;)Z"), (0, .methodref 7 17), (0, .nameAndType 18 15), (0, u "replaces"), (0, .class_ 20), (0, u "com/example/replicated_commit_log/replicatedcommitlog/cluster/ImageVersionReachesPinLaw"), (2, u "law"), (0, u "(JJJJI)Z")] 3

def k1m0 : Method := { name := "<init>", desc := "()V", sig := { parameters := [], returnType := none }, accessFlags := 1, code := none }
def k1c1 : Code := { maxStack := 6, maxLocals := 20, code := code, exceptionTable := #[], attributes := #[] }
def k1m1 : Method := { name := "law", desc := "(JJJJI)Z", sig := { parameters := [.long, .long, .long, .long, .int], returnType := some .boolean }, accessFlags := 9, code := some k1c1 }
/-- com/example/replicated_commit_log/replicatedcommitlog/cluster/ImageVersionReachesPinLaw -/
def k1 : Class := { plain "com/example/replicated_commit_log/replicatedcommitlog/cluster/ImageVersionReachesPinLaw" (some 0) with
  accessFlags := 49
  interfaces := #[]
  cf := some (fileOf pool1 19 #[] #[{ accessFlags := 1, nameIndex := 5, descriptorIndex := 6, attributes := #[] }, { accessFlags := 9, nameIndex := 23, descriptorIndex := 24, attributes := #[] }] 49 2 #[] #[])
  fields := #[]
  methods := #[k1m0, k1m1]
  instanceTypes := #[]
  staticTypes := #[]
  resolved := Array.replicate 28 none
  statics := none }

def pool2 : Array CpInfo := pool [(1, .methodref 2 3), (0, .class_ 4), (0, .nameAndType 5 6), (0, u "java/lang/Object"), (0, u "<init>"), (0, u "()V"), (0, .class_ 8), (0, u "java/lang/Record")] 13

def k2c0 : Code := { maxStack := 1, maxLocals := 1, code := jdk_30_method_1_code, exceptionTable := #[], attributes := #[] }
def k2m0 : Method := { name := "<init>", desc := "()V", sig := { parameters := [], returnType := none }, accessFlags := 4, code := some k2c0 }
/-- java/lang/Record -/
def k2 : Class := { plain "java/lang/Record" (some 0) with
  accessFlags := 1057
  interfaces := #[]
  cf := some (fileOf pool2 7 #[] #[{ accessFlags := 4, nameIndex := 5, descriptorIndex := 6, attributes := #[] }] 1057 2 #[] #[])
  fields := #[]
  methods := #[k2m0]
  instanceTypes := #[]
  staticTypes := #[]
  resolved := Array.replicate 22 none
  statics := none }

def pool3 : Array CpInfo := pool [(1, .methodref 2 3), (0, .class_ 4), (0, .nameAndType 5 6), (0, u "java/lang/Record"), (0, u "<init>"), (0, u "()V"), (0, .fieldref 8 9), (0, .class_ 10), (0, .nameAndType 11 12), (0, u "com/example/replicated_commit_log/replicatedcommitlog/cluster/ImageVersion"), (0, u "run"), (0, u "J"), (0, .fieldref 8 14), (0, .nameAndType 15 12), (0, u "change"), (14, u "(JJ)V"), (2, u "NONE"), (0, u "Lcom/example/replicated_commit_log/replicatedcommitlog/cluster/ImageVersion;"), (3, u "replaces"), (0, u "(Lcom/example/replicated_commit_log/replicatedcommitlog/cluster/ImageVersion;)Z"), (1, u "reaches")] 26

def k3c0 : Code := { maxStack := 3, maxLocals := 5, code := prog_27_method_1_code, exceptionTable := #[], attributes := #[] }
def k3m0 : Method := { name := "<init>", desc := "(JJ)V", sig := { parameters := [.long, .long], returnType := none }, accessFlags := 1, code := some k3c0 }
def k3c1 : Code := { maxStack := 4, maxLocals := 2, code := prog_27_method_2_code, exceptionTable := #[], attributes := #[] }
def k3m1 : Method := { name := "replaces", desc := "(Lcom/example/replicated_commit_log/replicatedcommitlog/cluster/ImageVersion;)Z", sig := { parameters := [(.object "com/example/replicated_commit_log/replicatedcommitlog/cluster/ImageVersion")], returnType := some .boolean }, accessFlags := 1, code := some k3c1 }
def k3c2 : Code := { maxStack := 4, maxLocals := 2, code := prog_27_method_3_code, exceptionTable := #[], attributes := #[] }
def k3m2 : Method := { name := "reaches", desc := "(Lcom/example/replicated_commit_log/replicatedcommitlog/cluster/ImageVersion;)Z", sig := { parameters := [(.object "com/example/replicated_commit_log/replicatedcommitlog/cluster/ImageVersion")], returnType := some .boolean }, accessFlags := 1, code := some k3c2 }
/-- com/example/replicated_commit_log/replicatedcommitlog/cluster/ImageVersion -/
def k3 : Class := { plain "com/example/replicated_commit_log/replicatedcommitlog/cluster/ImageVersion" (some 2) with
  accessFlags := 49
  interfaces := #[]
  cf := some (fileOf pool3 8 #[] #[{ accessFlags := 1, nameIndex := 5, descriptorIndex := 30, attributes := #[] }, { accessFlags := 1, nameIndex := 38, descriptorIndex := 39, attributes := #[] }, { accessFlags := 1, nameIndex := 41, descriptorIndex := 39, attributes := #[] }] 49 2 #[] #[{ accessFlags := 18, nameIndex := 11, descriptorIndex := 12, attributes := #[] }, { accessFlags := 18, nameIndex := 15, descriptorIndex := 12, attributes := #[] }, { accessFlags := 25, nameIndex := 33, descriptorIndex := 34, attributes := #[] }])
  fields := #[{ name := "run", type := .long, accessFlags := 18, slot := 0, constantValue := 0 }, { name := "change", type := .long, accessFlags := 18, slot := 1, constantValue := 0 }, { name := "NONE", type := (.object "com/example/replicated_commit_log/replicatedcommitlog/cluster/ImageVersion"), accessFlags := 25, slot := 0, constantValue := 0 }]
  methods := #[k3m0, k3m1, k3m2]
  instanceTypes := #[.long, .long]
  staticTypes := #[(.object "com/example/replicated_commit_log/replicatedcommitlog/cluster/ImageVersion")]
  resolved := Array.replicate 68 none
  statics := none }

def pool4 : Array CpInfo := pool [(1, u "java/lang/Cloneable"), (0, .class_ 1), (0, u "java/lang/Object"), (0, .class_ 3)] 3

/-- java/lang/Cloneable -/
def k4 : Class := { plain "java/lang/Cloneable" (some 0) with
  accessFlags := 1537
  interfaces := #[]
  cf := some (fileOf pool4 2 #[] #[] 1537 4 #[] #[])
  fields := #[]
  methods := #[]
  instanceTypes := #[]
  staticTypes := #[]
  resolved := Array.replicate 8 none
  statics := none }

def pool5 : Array CpInfo := pool [(1, u "java/io/Serializable"), (0, .class_ 1), (0, u "java/lang/Object"), (0, .class_ 3)] 3

/-- java/io/Serializable -/
def k5 : Class := { plain "java/io/Serializable" (some 0) with
  accessFlags := 1537
  interfaces := #[]
  cf := some (fileOf pool5 2 #[] #[] 1537 4 #[] #[])
  fields := #[]
  methods := #[]
  instanceTypes := #[]
  staticTypes := #[]
  resolved := Array.replicate 8 none
  statics := none }

/-- the primitive byte -/
def k6 : Class := { plain "byte" none with kind := .primitive 'B', accessFlags := 0x411 }
/-- [B -/
def k7 : Class := { plain "[B" (some 0) with kind := .array 6 .byte, interfaces := #[4, 5], accessFlags := 1041 }

/-- the primitive int -/
def k8 : Class := { plain "int" none with kind := .primitive 'I', accessFlags := 0x411 }
/-- [I -/
def k9 : Class := { plain "[I" (some 0) with kind := .array 8 .int, interfaces := #[4, 5], accessFlags := 1041 }

def heap : Heap := #[]
def classes : Array Class := #[k0, k1, k2, k3, k4, k5, k6, k7, k8, k9]
def interned : List (Array UInt16 × Addr) := []
def slotsUsed : Nat := 0
def theMethod : MethodId := ⟨1, 1⟩
def args0 : Array Value := #[.long 5, .long 6, .long 7, .long 8, .int 7]
def aboutOver (below : List Frame) : State where
  vm := { classes := classes, interned := interned.toArray }
  heap := heap
  slotsUsed := slotsUsed
  threads := #[{ frames := .invoking theMethod args0 :: below }]
def below0 : List Frame := [.native { method := ⟨0, 0⟩, args := #[] }]
def about1 : State := aboutOver below0
def p0 : Program := .bare "" "" ""
def e0 : Env := launch0.env 0 0 0
theorem w_frames : about1.frames = Frame.invoking theMethod args0 :: below0 := rfl
set_option maxRecDepth 65536 in
theorem w_args : argsFit about1.vm theMethod args0 = true := by decide +kernel
set_option maxRecDepth 65536 in
theorem w_heap : heapFits about1 = true := by decide +kernel
set_option maxRecDepth 65536 in
theorem w_runnable : about1.curStatus? = some .runnable := by decide +kernel
set_option maxRecDepth 65536 in
theorem w_alone : about1.alone = true := by decide +kernel
set_option maxRecDepth 65536 in
theorem w_named : about1.methodNamed? x = some theMethod := by decide +kernel
set_option maxRecDepth 65536 in
theorem w_hears : about1.hears theMethod below0 = true := by decide +kernel
set_option maxRecDepth 65536 in
theorem w_ripe : about1.ripe theMethod args0 below0 = true := by decide +kernel
theorem w_running : about1.status = .running := rfl
set_option maxRecDepth 65536 in
theorem w_room : about1.hasRoom e0.platform room_1 = true :=
  launch0.hasRoom_least _ room_1 (by decide +kernel) (by decide +kernel) (by decide +kernel) (by decide +kernel) (by decide +kernel) (by decide +kernel)
theorem allAtoms_all (ts : List Jvm.Cond) (a : Array Jvm.Value) (st : Jvm.State) : (allAtoms ts).before a st = ts.all (fun c => c.before a st) := by
  induction ts with
  | nil => rfl
  | cons c t ih =>
    show (Jvm.Cond.and c (allAtoms t)).before a st = _
    rw [Jvm.Cond.before_and, ih, List.all_cons]
def words1 : List Jvm.Cond := Jvm.Cond.code x code maxLocals ret :: tables_1
/-- a 'code' word, met by the world's own term for the bytes: nothing is compared byte by byte -/
theorem code_word {y : MethodName} {bytes : ByteArray} {mx : Nat} {rt : Option FieldType} {a : Array Value} {s : State} {m : MethodId} {meth : Method} {c : Code} (h1 : s.methodNamed? y = some m) (h2 : s.vm.method? m = some meth) (h3 : meth.code = some c) (h4 : c.code = bytes)
    (h5 : (c.maxLocals == mx && c.exceptionTable.isEmpty && decide (c.maxStack ≤ mostOperands) && decide (meth.sig.returnType = rt) && !meth.locks && decide (parseMethodDescriptor y.desc = some meth.sig)) = true) : (Jvm.Cond.code y bytes mx rt).before a s = true := by
  simp only [Bool.and_eq_true, beq_iff_eq, Bool.not_eq_true', decide_eq_true_eq] at h5
  obtain ⟨⟨⟨⟨⟨g1, g2⟩, g3⟩, g4⟩, g5⟩, g6⟩ := h5
  simp [Cond.before, Cond.holds, Cond.value, h1, h2, h3, h4, g1, g2, g3, g4, g5, g6]
def isCode : Jvm.Cond → Bool
  | .code _ _ _ _ => true
  | _ => false
theorem all_split {L : List Jvm.Cond} {P : Jvm.Cond → Bool} (h1 : L.all (fun c => isCode c || P c) = true) (h2 : ∀ c ∈ L.filter isCode, P c = true) : L.all P = true := by
  refine List.all_eq_true.mpr fun c hc => ?_
  have h := List.all_eq_true.mp h1 c hc
  rcases Bool.eq_false_or_eq_true (isCode c) with hi | hi
  · exact h2 c (List.mem_filter.mpr ⟨hc, hi⟩)
  · simpa [hi] using h
set_option maxRecDepth 65536 in
theorem w_c0 : (Jvm.Cond.code x code maxLocals ret).before args0 about1 = true := code_word (m := ⟨1, 1⟩) (meth := k1m1) (c := k1c1) (by decide +kernel) rfl rfl rfl (by decide +kernel)
set_option maxRecDepth 65536 in
theorem w_c1 : (Jvm.Cond.code ({ cls := "com/example/replicated_commit_log/replicatedcommitlog/cluster/ImageVersion", name := "<init>", desc := "(JJ)V" } : Jvm.MethodName) prog_27_method_1_code (5 : Nat) (Option.none : Option Jvm.ClassFile.FieldType)).before args0 about1 = true := code_word (m := ⟨3, 0⟩) (meth := k3m0) (c := k3c0) (by decide +kernel) rfl rfl rfl (by decide +kernel)
set_option maxRecDepth 65536 in
theorem w_c2 : (Jvm.Cond.code ({ cls := "java/lang/Record", name := "<init>", desc := "()V" } : Jvm.MethodName) jdk_30_method_1_code (1 : Nat) (Option.none : Option Jvm.ClassFile.FieldType)).before args0 about1 = true := code_word (m := ⟨2, 0⟩) (meth := k2m0) (c := k2c0) (by decide +kernel) rfl rfl rfl (by decide +kernel)
set_option maxRecDepth 65536 in
theorem w_c3 : (Jvm.Cond.code ({ cls := "java/lang/Object", name := "<init>", desc := "()V" } : Jvm.MethodName) object_method_1_code (1 : Nat) (Option.none : Option Jvm.ClassFile.FieldType)).before args0 about1 = true := code_word (m := ⟨0, 0⟩) (meth := k0m0) (c := k0c0) (by decide +kernel) rfl rfl rfl (by decide +kernel)
set_option maxRecDepth 65536 in
theorem w_c4 : (Jvm.Cond.code ({ cls := "com/example/replicated_commit_log/replicatedcommitlog/cluster/ImageVersion", name := "reaches", desc := "(Lcom/example/replicated_commit_log/replicatedcommitlog/cluster/ImageVersion;)Z" } : Jvm.MethodName) prog_27_method_3_code (2 : Nat) (Option.some Jvm.ClassFile.FieldType.boolean)).before args0 about1 = true := code_word (m := ⟨3, 2⟩) (meth := k3m2) (c := k3c2) (by decide +kernel) rfl rfl rfl (by decide +kernel)
set_option maxRecDepth 65536 in
theorem w_c5 : (Jvm.Cond.code ({ cls := "com/example/replicated_commit_log/replicatedcommitlog/cluster/ImageVersion", name := "replaces", desc := "(Lcom/example/replicated_commit_log/replicatedcommitlog/cluster/ImageVersion;)Z" } : Jvm.MethodName) prog_27_method_2_code (2 : Nat) (Option.some Jvm.ClassFile.FieldType.boolean)).before args0 about1 = true := code_word (m := ⟨3, 1⟩) (meth := k3m1) (c := k3c1) (by decide +kernel) rfl rfl rfl (by decide +kernel)
def codes1 : List Jvm.Cond := [Jvm.Cond.code x code maxLocals ret, Jvm.Cond.code ({ cls := "com/example/replicated_commit_log/replicatedcommitlog/cluster/ImageVersion", name := "<init>", desc := "(JJ)V" } : Jvm.MethodName) prog_27_method_1_code (5 : Nat) (Option.none : Option Jvm.ClassFile.FieldType), Jvm.Cond.code ({ cls := "java/lang/Record", name := "<init>", desc := "()V" } : Jvm.MethodName) jdk_30_method_1_code (1 : Nat) (Option.none : Option Jvm.ClassFile.FieldType), Jvm.Cond.code ({ cls := "java/lang/Object", name := "<init>", desc := "()V" } : Jvm.MethodName) object_method_1_code (1 : Nat) (Option.none : Option Jvm.ClassFile.FieldType), Jvm.Cond.code ({ cls := "com/example/replicated_commit_log/replicatedcommitlog/cluster/ImageVersion", name := "reaches", desc := "(Lcom/example/replicated_commit_log/replicatedcommitlog/cluster/ImageVersion;)Z" } : Jvm.MethodName) prog_27_method_3_code (2 : Nat) (Option.some Jvm.ClassFile.FieldType.boolean), Jvm.Cond.code ({ cls := "com/example/replicated_commit_log/replicatedcommitlog/cluster/ImageVersion", name := "replaces", desc := "(Lcom/example/replicated_commit_log/replicatedcommitlog/cluster/ImageVersion;)Z" } : Jvm.MethodName) prog_27_method_2_code (2 : Nat) (Option.some Jvm.ClassFile.FieldType.boolean)]
set_option maxRecDepth 65536 in
theorem codes_eq : words1.filter isCode = codes1 := rfl
theorem w_codes : ∀ c ∈ words1.filter isCode, c.before args0 about1 = true := by
  rw [codes_eq]
  intro c hc
  simp only [codes1, List.mem_cons, List.not_mem_nil, or_false] at hc
  rcases hc with rfl | rfl | rfl | rfl | rfl | rfl
  · exact w_c0
  · exact w_c1
  · exact w_c2
  · exact w_c3
  · exact w_c4
  · exact w_c5
set_option maxRecDepth 65536 in
theorem w_t1 : (words1.take 24).all (fun c => isCode c || c.before args0 about1) = true := by decide +kernel
set_option maxRecDepth 65536 in
theorem w_t2 : (words1.drop 24).all (fun c => isCode c || c.before args0 about1) = true := by decide +kernel
theorem w_tables : (allAtoms (Jvm.Cond.code x code maxLocals ret :: tables_1)).before args0 about1 = true := by
  rw [allAtoms_all]
  show words1.all (fun c => c.before args0 about1) = true
  refine all_split ?_ w_codes
  rw [← List.take_append_drop 24 words1, List.all_append, w_t1, w_t2]
  rfl
set_option maxRecDepth 65536 in
theorem w_case : (Jvm.Cond.and given_1 narrow_1).before args0 about1 = true := by decide +kernel
theorem w_applies : (headSpec (Jvm.Cond.code x code maxLocals ret :: tables_1) room_1).applies x e0.platform about1 = true :=
  (Spec.applies_iff w_frames).mpr ⟨w_running, w_runnable, w_alone, w_named, w_hears, w_ripe, w_room, w_tables⟩
theorem atStart : AtStart classFile x code maxLocals ret World_1 tables_1 room_1 Calls_1 rest_1 Pre_1 launch0 p0 e0 about1 theMethod args0 below0 :=
  ⟨lists_1, trivial, launch0.admits_env _ _ _, launch0.least_env, fairChoices_fair.cas, fairChoices_fair.clock, w_frames, w_args, w_heap, w_applies, trivial, trivial, w_case⟩
end start1
theorem witness_1 : WitnessClaimed_1 := ⟨start1.p0, start1.e0, start1.about1, start1.theMethod, start1.args0, start1.below0, start1.atStart⟩
end Jvm.Pilot.@@N@@
