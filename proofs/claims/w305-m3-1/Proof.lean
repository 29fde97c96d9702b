import JvmDerived
import JvmDerived.Pilot.@@N@@Statement
import JvmDerived.Pilot.@@N@@Code
set_option linter.unusedVariables false
set_option linter.unusedSimpArgs false
namespace Jvm.Pilot.@@N@@
open Jvm Jvm.ClassFile Sem Op Lib Jvm.Free Jvm.Stand Jvm.LawKit Jvm.RoadKit Bundle Jvm.Pilot.@@N@@.Jvm.D
section Own
variable {p : Program} {l : Launch} {e : Env} {R : Room} {s : State} {m : MethodId} {args : Array Value} {below : List Frame} {meth : Method} {c : Code} {T : State} {locs : List Loc} {cells slots : Nat} {Q : Option Value → Heap → List Loc → Prop} {K N : Nat} {s' : State} {E : State → Outcome → State → List Loc → Nat → Nat → Prop}
/-- the run from a ends in a return of which Q holds, within the frame -/
def own_End (p : Program) (e : Env) (below : List Frame) (s : State) (Q : Option Value → Heap → List Loc → Prop) (K N : Nat) (a : State) (E : State → Outcome → State → List Loc → Nat → Nat → Prop := FrameEnd) : Prop :=
  ∃ s₂ o, Steps p.tables e below a s₂ ∧ s₂.status = .running ∧ Ended s₂ below o ∧ ∃ v L, o = .returned v ∧ Q v s₂.heap L ∧ E s o s₂ L K N
theorem own_back {a b : State} (k : ∀ t, Steps p.tables e below b t → Steps p.tables e below a t) (h : own_End p e below s Q K N b E) : own_End p e below s Q K N a E := by
  obtain ⟨s₂, o, h1, h2⟩ := h
  exact ⟨s₂, o, k _ h1, h2⟩
theorem own_via {a b : State} (k : Steps p.tables e below a b) (h : own_End p e below s Q K N b E) : own_End p e below s Q K N a E :=
  own_back (fun _ j => k.trans j) h
theorem own_selfsel {y : MethodName} {n : Nat} (wi : (Jvm.Cond.instantiable y.cls n).before args s = true) (hp : s.PrivateAt y) (hi : (Jvm.Cond.instanceMethod y).before args s = true) (hy : y.cls ≠ "java/lang/invoke/MethodHandle" ∧ y.cls ≠ "java/lang/invoke/VarHandle") : (Jvm.Cond.selects y.cls y y).before args s = true := by
  obtain ⟨c, k, h1, h2, -, h4, -⟩ := Cond.instantiable_spec wi
  exact selects_self_of_private h1 h2 (Bool.or_eq_false_iff.mp h4).1 hp hi hy
theorem own_cast {a b : State} (q : a = b) (h : own_End p e below s Q K N b E) : own_End p e below s Q K N a E := q ▸ h
theorem own_iadd (X : Stand p l e R s' m args below meth c T locs cells slots) (hx : p.tables.exec = Jvm.exec) {pc q : Nat} {Ls : Array Slot} {rest : List Value} (hd : decode c.code pc = .ok (.iadd, 1)) {x y : Int32} (hq : pc + 1 = q) (h : own_End p e below s Q K N (T.setTop (mkF m q Ls (.int (x + y) :: rest))) E) : own_End p e below s Q K N (T.setTop (mkF m pc Ls (.int y :: .int x :: rest))) E := by
  subst hq; exact own_back (fun _ k => XS.iadd X.here hx rfl hd rfl k) h
theorem own_isub (X : Stand p l e R s' m args below meth c T locs cells slots) (hx : p.tables.exec = Jvm.exec) {pc q : Nat} {Ls : Array Slot} {rest : List Value} (hd : decode c.code pc = .ok (.isub, 1)) {x y : Int32} (hq : pc + 1 = q) (h : own_End p e below s Q K N (T.setTop (mkF m q Ls (.int (x - y) :: rest))) E) : own_End p e below s Q K N (T.setTop (mkF m pc Ls (.int y :: .int x :: rest))) E := by
  subst hq; exact own_back (fun _ k => XS.isub X.here hx rfl hd rfl k) h
theorem own_imul (X : Stand p l e R s' m args below meth c T locs cells slots) (hx : p.tables.exec = Jvm.exec) {pc q : Nat} {Ls : Array Slot} {rest : List Value} (hd : decode c.code pc = .ok (.imul, 1)) {x y : Int32} (hq : pc + 1 = q) (h : own_End p e below s Q K N (T.setTop (mkF m q Ls (.int (x * y) :: rest))) E) : own_End p e below s Q K N (T.setTop (mkF m pc Ls (.int y :: .int x :: rest))) E := by
  subst hq; exact own_back (fun _ k => XS.imul X.here hx rfl hd rfl k) h
theorem own_iand (X : Stand p l e R s' m args below meth c T locs cells slots) (hx : p.tables.exec = Jvm.exec) {pc q : Nat} {Ls : Array Slot} {rest : List Value} (hd : decode c.code pc = .ok (.iand, 1)) {x y : Int32} (hq : pc + 1 = q) (h : own_End p e below s Q K N (T.setTop (mkF m q Ls (.int (x &&& y) :: rest))) E) : own_End p e below s Q K N (T.setTop (mkF m pc Ls (.int y :: .int x :: rest))) E := by
  subst hq; exact own_back (fun _ k => XS.iand X.here hx rfl hd rfl k) h
theorem own_ior (X : Stand p l e R s' m args below meth c T locs cells slots) (hx : p.tables.exec = Jvm.exec) {pc q : Nat} {Ls : Array Slot} {rest : List Value} (hd : decode c.code pc = .ok (.ior, 1)) {x y : Int32} (hq : pc + 1 = q) (h : own_End p e below s Q K N (T.setTop (mkF m q Ls (.int (x ||| y) :: rest))) E) : own_End p e below s Q K N (T.setTop (mkF m pc Ls (.int y :: .int x :: rest))) E := by
  subst hq; exact own_back (fun _ k => XS.ior X.here hx rfl hd rfl k) h
theorem own_ixor (X : Stand p l e R s' m args below meth c T locs cells slots) (hx : p.tables.exec = Jvm.exec) {pc q : Nat} {Ls : Array Slot} {rest : List Value} (hd : decode c.code pc = .ok (.ixor, 1)) {x y : Int32} (hq : pc + 1 = q) (h : own_End p e below s Q K N (T.setTop (mkF m q Ls (.int (x ^^^ y) :: rest))) E) : own_End p e below s Q K N (T.setTop (mkF m pc Ls (.int y :: .int x :: rest))) E := by
  subst hq; exact own_back (fun _ k => XS.ixor X.here hx rfl hd rfl k) h
theorem own_ishl (X : Stand p l e R s' m args below meth c T locs cells slots) (hx : p.tables.exec = Jvm.exec) {pc q : Nat} {Ls : Array Slot} {rest : List Value} (hd : decode c.code pc = .ok (.ishl, 1)) {x y : Int32} (hq : pc + 1 = q) (h : own_End p e below s Q K N (T.setTop (mkF m q Ls (.int (x <<< (y &&& 31)) :: rest))) E) : own_End p e below s Q K N (T.setTop (mkF m pc Ls (.int y :: .int x :: rest))) E := by
  subst hq; exact own_back (fun _ k => XS.ishl X.here hx rfl hd rfl k) h
theorem own_ishr (X : Stand p l e R s' m args below meth c T locs cells slots) (hx : p.tables.exec = Jvm.exec) {pc q : Nat} {Ls : Array Slot} {rest : List Value} (hd : decode c.code pc = .ok (.ishr, 1)) {x y : Int32} (hq : pc + 1 = q) (h : own_End p e below s Q K N (T.setTop (mkF m q Ls (.int (x >>> (y &&& 31)) :: rest))) E) : own_End p e below s Q K N (T.setTop (mkF m pc Ls (.int y :: .int x :: rest))) E := by
  subst hq; exact own_back (fun _ k => XS.ishr X.here hx rfl hd rfl k) h
theorem own_iushr (X : Stand p l e R s' m args below meth c T locs cells slots) (hx : p.tables.exec = Jvm.exec) {pc q : Nat} {Ls : Array Slot} {rest : List Value} (hd : decode c.code pc = .ok (.iushr, 1)) {x y : Int32} (hq : pc + 1 = q) (h : own_End p e below s Q K N (T.setTop (mkF m q Ls (.int ((x.toUInt32 >>> (y &&& 31).toUInt32).toInt32) :: rest))) E) : own_End p e below s Q K N (T.setTop (mkF m pc Ls (.int y :: .int x :: rest))) E := by
  subst hq; exact own_back (fun _ k => XS.iushr X.here hx rfl hd rfl k) h
theorem own_ladd (X : Stand p l e R s' m args below meth c T locs cells slots) (hx : p.tables.exec = Jvm.exec) {pc q : Nat} {Ls : Array Slot} {rest : List Value} (hd : decode c.code pc = .ok (.ladd, 1)) {x y : Int64} (hq : pc + 1 = q) (h : own_End p e below s Q K N (T.setTop (mkF m q Ls (.long (x + y) :: rest))) E) : own_End p e below s Q K N (T.setTop (mkF m pc Ls (.long y :: .long x :: rest))) E := by
  subst hq; exact own_back (fun _ k => XS.ladd X.here hx rfl hd rfl k) h
theorem own_lsub (X : Stand p l e R s' m args below meth c T locs cells slots) (hx : p.tables.exec = Jvm.exec) {pc q : Nat} {Ls : Array Slot} {rest : List Value} (hd : decode c.code pc = .ok (.lsub, 1)) {x y : Int64} (hq : pc + 1 = q) (h : own_End p e below s Q K N (T.setTop (mkF m q Ls (.long (x - y) :: rest))) E) : own_End p e below s Q K N (T.setTop (mkF m pc Ls (.long y :: .long x :: rest))) E := by
  subst hq; exact own_back (fun _ k => XS.lsub X.here hx rfl hd rfl k) h
theorem own_lmul (X : Stand p l e R s' m args below meth c T locs cells slots) (hx : p.tables.exec = Jvm.exec) {pc q : Nat} {Ls : Array Slot} {rest : List Value} (hd : decode c.code pc = .ok (.lmul, 1)) {x y : Int64} (hq : pc + 1 = q) (h : own_End p e below s Q K N (T.setTop (mkF m q Ls (.long (x * y) :: rest))) E) : own_End p e below s Q K N (T.setTop (mkF m pc Ls (.long y :: .long x :: rest))) E := by
  subst hq; exact own_back (fun _ k => XS.lmul X.here hx rfl hd rfl k) h
theorem own_land (X : Stand p l e R s' m args below meth c T locs cells slots) (hx : p.tables.exec = Jvm.exec) {pc q : Nat} {Ls : Array Slot} {rest : List Value} (hd : decode c.code pc = .ok (.land, 1)) {x y : Int64} (hq : pc + 1 = q) (h : own_End p e below s Q K N (T.setTop (mkF m q Ls (.long (x &&& y) :: rest))) E) : own_End p e below s Q K N (T.setTop (mkF m pc Ls (.long y :: .long x :: rest))) E := by
  subst hq; exact own_back (fun _ k => XS.land X.here hx rfl hd rfl k) h
theorem own_lor (X : Stand p l e R s' m args below meth c T locs cells slots) (hx : p.tables.exec = Jvm.exec) {pc q : Nat} {Ls : Array Slot} {rest : List Value} (hd : decode c.code pc = .ok (.lor, 1)) {x y : Int64} (hq : pc + 1 = q) (h : own_End p e below s Q K N (T.setTop (mkF m q Ls (.long (x ||| y) :: rest))) E) : own_End p e below s Q K N (T.setTop (mkF m pc Ls (.long y :: .long x :: rest))) E := by
  subst hq; exact own_back (fun _ k => XS.lor X.here hx rfl hd rfl k) h
theorem own_lxor (X : Stand p l e R s' m args below meth c T locs cells slots) (hx : p.tables.exec = Jvm.exec) {pc q : Nat} {Ls : Array Slot} {rest : List Value} (hd : decode c.code pc = .ok (.lxor, 1)) {x y : Int64} (hq : pc + 1 = q) (h : own_End p e below s Q K N (T.setTop (mkF m q Ls (.long (x ^^^ y) :: rest))) E) : own_End p e below s Q K N (T.setTop (mkF m pc Ls (.long y :: .long x :: rest))) E := by
  subst hq; exact own_back (fun _ k => XS.lxor X.here hx rfl hd rfl k) h
theorem own_lshl (X : Stand p l e R s' m args below meth c T locs cells slots) (hx : p.tables.exec = Jvm.exec) {pc q : Nat} {Ls : Array Slot} {rest : List Value} (hd : decode c.code pc = .ok (.lshl, 1)) {x : Int64} {y : Int32} (hq : pc + 1 = q) (h : own_End p e below s Q K N (T.setTop (mkF m q Ls (.long (x <<< (y &&& 0x3f).toInt64) :: rest))) E) : own_End p e below s Q K N (T.setTop (mkF m pc Ls (.int y :: .long x :: rest))) E := by
  subst hq; exact own_back (fun _ k => XS.lshl X.here hx rfl hd rfl k) h
theorem own_lshr (X : Stand p l e R s' m args below meth c T locs cells slots) (hx : p.tables.exec = Jvm.exec) {pc q : Nat} {Ls : Array Slot} {rest : List Value} (hd : decode c.code pc = .ok (.lshr, 1)) {x : Int64} {y : Int32} (hq : pc + 1 = q) (h : own_End p e below s Q K N (T.setTop (mkF m q Ls (.long (x >>> (y &&& 0x3f).toInt64) :: rest))) E) : own_End p e below s Q K N (T.setTop (mkF m pc Ls (.int y :: .long x :: rest))) E := by
  subst hq; exact own_back (fun _ k => XS.lshr X.here hx rfl hd rfl k) h
theorem own_lushr (X : Stand p l e R s' m args below meth c T locs cells slots) (hx : p.tables.exec = Jvm.exec) {pc q : Nat} {Ls : Array Slot} {rest : List Value} (hd : decode c.code pc = .ok (.lushr, 1)) {x : Int64} {y : Int32} (hq : pc + 1 = q) (h : own_End p e below s Q K N (T.setTop (mkF m q Ls (.long ((x.toUInt64 >>> (y &&& 0x3f).toInt64.toUInt64).toInt64) :: rest))) E) : own_End p e below s Q K N (T.setTop (mkF m pc Ls (.int y :: .long x :: rest))) E := by
  subst hq; exact own_back (fun _ k => XS.lushr X.here hx rfl hd rfl k) h
theorem own_idiv (X : Stand p l e R s' m args below meth c T locs cells slots) (hx : p.tables.exec = Jvm.exec) {pc q : Nat} {Ls : Array Slot} {rest : List Value} (hd : decode c.code pc = .ok (.idiv, 1)) {x y : Int32} (hy : y ≠ 0) (hq : pc + 1 = q) (h : own_End p e below s Q K N (T.setTop (mkF m q Ls (.int (x / y) :: rest))) E) : own_End p e below s Q K N (T.setTop (mkF m pc Ls (.int y :: .int x :: rest))) E := by
  subst hq; exact own_back (fun _ k => XS.idiv X.here hx rfl hd rfl hy k) h
theorem own_irem (X : Stand p l e R s' m args below meth c T locs cells slots) (hx : p.tables.exec = Jvm.exec) {pc q : Nat} {Ls : Array Slot} {rest : List Value} (hd : decode c.code pc = .ok (.irem, 1)) {x y : Int32} (hy : y ≠ 0) (hq : pc + 1 = q) (h : own_End p e below s Q K N (T.setTop (mkF m q Ls (.int (x % y) :: rest))) E) : own_End p e below s Q K N (T.setTop (mkF m pc Ls (.int y :: .int x :: rest))) E := by
  subst hq; exact own_back (fun _ k => iremM X hx rfl hd rfl hy k) h
theorem own_ldiv (X : Stand p l e R s' m args below meth c T locs cells slots) (hx : p.tables.exec = Jvm.exec) {pc q : Nat} {Ls : Array Slot} {rest : List Value} (hd : decode c.code pc = .ok (.ldiv, 1)) {x y : Int64} (hy : y ≠ 0) (hq : pc + 1 = q) (h : own_End p e below s Q K N (T.setTop (mkF m q Ls (.long (x / y) :: rest))) E) : own_End p e below s Q K N (T.setTop (mkF m pc Ls (.long y :: .long x :: rest))) E := by
  subst hq; exact own_back (fun _ k => XS.ldiv X.here hx rfl hd rfl hy k) h
theorem own_lrem (X : Stand p l e R s' m args below meth c T locs cells slots) (hx : p.tables.exec = Jvm.exec) {pc q : Nat} {Ls : Array Slot} {rest : List Value} (hd : decode c.code pc = .ok (.lrem, 1)) {x y : Int64} (hy : y ≠ 0) (hq : pc + 1 = q) (h : own_End p e below s Q K N (T.setTop (mkF m q Ls (.long (x - (x / y) * y) :: rest))) E) : own_End p e below s Q K N (T.setTop (mkF m pc Ls (.long y :: .long x :: rest))) E := by
  subst hq; exact own_back (fun _ k => XS.lrem X.here hx rfl hd rfl hy k) h
theorem own_ineg (X : Stand p l e R s' m args below meth c T locs cells slots) (hx : p.tables.exec = Jvm.exec) {pc q : Nat} {Ls : Array Slot} {rest : List Value} (hd : decode c.code pc = .ok (.ineg, 1)) {x : Int32} (hq : pc + 1 = q) (h : own_End p e below s Q K N (T.setTop (mkF m q Ls (.int (-x) :: rest))) E) : own_End p e below s Q K N (T.setTop (mkF m pc Ls (.int x :: rest))) E := by
  subst hq; exact own_back (fun _ k => XS.ineg X.here hx rfl hd rfl k) h
theorem own_lneg (X : Stand p l e R s' m args below meth c T locs cells slots) (hx : p.tables.exec = Jvm.exec) {pc q : Nat} {Ls : Array Slot} {rest : List Value} (hd : decode c.code pc = .ok (.lneg, 1)) {x : Int64} (hq : pc + 1 = q) (h : own_End p e below s Q K N (T.setTop (mkF m q Ls (.long (-x) :: rest))) E) : own_End p e below s Q K N (T.setTop (mkF m pc Ls (.long x :: rest))) E := by
  subst hq; exact own_back (fun _ k => XS.lneg X.here hx rfl hd rfl k) h
theorem own_i2l (X : Stand p l e R s' m args below meth c T locs cells slots) (hx : p.tables.exec = Jvm.exec) {pc q : Nat} {Ls : Array Slot} {rest : List Value} (hd : decode c.code pc = .ok (.i2l, 1)) {x : Int32} (hq : pc + 1 = q) (h : own_End p e below s Q K N (T.setTop (mkF m q Ls (.long (x.toInt64) :: rest))) E) : own_End p e below s Q K N (T.setTop (mkF m pc Ls (.int x :: rest))) E := by
  subst hq; exact own_back (fun _ k => XS.i2l X.here hx rfl hd rfl k) h
theorem own_l2i (X : Stand p l e R s' m args below meth c T locs cells slots) (hx : p.tables.exec = Jvm.exec) {pc q : Nat} {Ls : Array Slot} {rest : List Value} (hd : decode c.code pc = .ok (.l2i, 1)) {x : Int64} (hq : pc + 1 = q) (h : own_End p e below s Q K N (T.setTop (mkF m q Ls (.int (x.toInt32) :: rest))) E) : own_End p e below s Q K N (T.setTop (mkF m pc Ls (.long x :: rest))) E := by
  subst hq; exact own_back (fun _ k => XS.l2i X.here hx rfl hd rfl k) h
theorem own_i2c (X : Stand p l e R s' m args below meth c T locs cells slots) (hx : p.tables.exec = Jvm.exec) {pc q : Nat} {Ls : Array Slot} {rest : List Value} (hd : decode c.code pc = .ok (.i2c, 1)) {x : Int32} (hq : pc + 1 = q) (h : own_End p e below s Q K N (T.setTop (mkF m q Ls (.int (x.toUInt32.toUInt16.toUInt32.toInt32) :: rest))) E) : own_End p e below s Q K N (T.setTop (mkF m pc Ls (.int x :: rest))) E := by
  subst hq; exact own_back (fun _ k => XS.i2c X.here hx rfl hd rfl k) h
theorem own_i2b (X : Stand p l e R s' m args below meth c T locs cells slots) (hx : p.tables.exec = Jvm.exec) {pc q : Nat} {Ls : Array Slot} {rest : List Value} (hd : decode c.code pc = .ok (.i2b, 1)) {x : Int32} (hq : pc + 1 = q) (h : own_End p e below s Q K N (T.setTop (mkF m q Ls (.int (x.toInt8.toInt32) :: rest))) E) : own_End p e below s Q K N (T.setTop (mkF m pc Ls (.int x :: rest))) E := by
  subst hq; exact own_back (fun _ k => XS.i2b X.here hx rfl hd rfl k) h
theorem own_i2s (X : Stand p l e R s' m args below meth c T locs cells slots) (hx : p.tables.exec = Jvm.exec) {pc q : Nat} {Ls : Array Slot} {rest : List Value} (hd : decode c.code pc = .ok (.i2s, 1)) {x : Int32} (hq : pc + 1 = q) (h : own_End p e below s Q K N (T.setTop (mkF m q Ls (.int (x.toInt16.toInt32) :: rest))) E) : own_End p e below s Q K N (T.setTop (mkF m pc Ls (.int x :: rest))) E := by
  subst hq; exact own_back (fun _ k => XS.i2s X.here hx rfl hd rfl k) h
theorem own_lcmp (X : Stand p l e R s' m args below meth c T locs cells slots) (hx : p.tables.exec = Jvm.exec) {pc q : Nat} {Ls : Array Slot} {rest : List Value} (hd : decode c.code pc = .ok (.lcmp, 1)) {x y : Int64} (hq : pc + 1 = q) (h : own_End p e below s Q K N (T.setTop (mkF m q Ls (.int (lcmpW x y) :: rest))) E) : own_End p e below s Q K N (T.setTop (mkF m pc Ls (.long y :: .long x :: rest))) E := by
  subst hq; exact own_back (fun _ k => XS.lcmp X.here hx rfl hd rfl k) h
theorem own_dup (X : Stand p l e R s' m args below meth c T locs cells slots) (hx : p.tables.exec = Jvm.exec) {pc q : Nat} {Ls : Array Slot} {rest : List Value} (hd : decode c.code pc = .ok (.dup, 1)) {v : Value} (hv : v.category = 1) (hq : pc + 1 = q) (h : own_End p e below s Q K N (T.setTop (mkF m q Ls (v :: v :: rest))) E) : own_End p e below s Q K N (T.setTop (mkF m pc Ls (v :: rest))) E := by
  subst hq; exact own_back (fun _ k => XS.dup X.here hx rfl hd rfl hv k) h
theorem own_dupx1 (X : Stand p l e R s' m args below meth c T locs cells slots) (hx : p.tables.exec = Jvm.exec) {pc q : Nat} {Ls : Array Slot} {rest : List Value} (hd : decode c.code pc = .ok (.dup_x1, 1)) {v w : Value} (hv : v.category = 1) (hw : w.category = 1) (hq : pc + 1 = q) (h : own_End p e below s Q K N (T.setTop (mkF m q Ls (v :: w :: v :: rest))) E) : own_End p e below s Q K N (T.setTop (mkF m pc Ls (v :: w :: rest))) E := by
  subst hq; exact own_back (fun _ k => XS.dupX1 X.here hx rfl hd rfl hv hw k) h
theorem own_pop (X : Stand p l e R s' m args below meth c T locs cells slots) (hx : p.tables.exec = Jvm.exec) {pc q : Nat} {Ls : Array Slot} {rest : List Value} (hd : decode c.code pc = .ok (.pop, 1)) {v : Value} (hv : v.category = 1) (hq : pc + 1 = q) (h : own_End p e below s Q K N (T.setTop (mkF m q Ls (rest))) E) : own_End p e below s Q K N (T.setTop (mkF m pc Ls (v :: rest))) E := by
  subst hq; exact own_back (fun _ k => XS.pop X.here hx rfl hd rfl hv k) h
theorem own_anull (X : Stand p l e R s' m args below meth c T locs cells slots) (hx : p.tables.exec = Jvm.exec) {pc q : Nat} {Ls : Array Slot} {rest : List Value} (hd : decode c.code pc = .ok (.aconst_null, 1))  (hq : pc + 1 = q) (h : own_End p e below s Q K N (T.setTop (mkF m q Ls (.null :: rest))) E) : own_End p e below s Q K N (T.setTop (mkF m pc Ls (rest))) E := by
  subst hq; exact own_back (fun _ k => XS.aconstNull X.here hx rfl hd k) h
theorem own_iload (X : Stand p l e R s' m args below meth c T locs cells slots) (hx : p.tables.exec = Jvm.exec) {pc q : Nat} {Ls : Array Slot} {rest : List Value} {k : Nat} {v : Int32} (hd : decode c.code pc = .ok (.iload k, 2)) (hl : Ls[k]? = some (.val (.int v))) (hq : pc + 2 = q) (h : own_End p e below s Q K N (T.setTop (mkF m q Ls (.int v :: rest))) E) : own_End p e below s Q K N (T.setTop (mkF m pc Ls (rest))) E := by
  subst hq; exact own_back (fun _ k => XS.iload X.here hx rfl hd hl k) h
theorem own_iloadN (X : Stand p l e R s' m args below meth c T locs cells slots) (hx : p.tables.exec = Jvm.exec) {pc q : Nat} {Ls : Array Slot} {rest : List Value} {k : Fin 4} {v : Int32} (hd : decode c.code pc = .ok (.iload_n k, 1)) (hl : Ls[k.val]? = some (.val (.int v))) (hq : pc + 1 = q) (h : own_End p e below s Q K N (T.setTop (mkF m q Ls (.int v :: rest))) E) : own_End p e below s Q K N (T.setTop (mkF m pc Ls (rest))) E := by
  subst hq; exact own_back (fun _ k => XS.iloadN X.here hx rfl hd hl k) h
theorem own_istore (X : Stand p l e R s' m args below meth c T locs cells slots) (hx : p.tables.exec = Jvm.exec) {pc q : Nat} {Ls : Array Slot} {rest : List Value} {k : Nat} {v : Int32} {l' : Array Slot} (hd : decode c.code pc = .ok (.istore k, 2)) (hl : storeLocals Ls k (.int v) = some l') (hq : pc + 2 = q) (h : own_End p e below s Q K N (T.setTop (mkF m q l' (rest))) E) : own_End p e below s Q K N (T.setTop (mkF m pc Ls (.int v :: rest))) E := by
  subst hq; exact own_back (fun _ k => XS.istore X.here hx rfl hd rfl hl k) h
theorem own_istoreN (X : Stand p l e R s' m args below meth c T locs cells slots) (hx : p.tables.exec = Jvm.exec) {pc q : Nat} {Ls : Array Slot} {rest : List Value} {k : Fin 4} {v : Int32} {l' : Array Slot} (hd : decode c.code pc = .ok (.istore_n k, 1)) (hl : storeLocals Ls k.val (.int v) = some l') (hq : pc + 1 = q) (h : own_End p e below s Q K N (T.setTop (mkF m q l' (rest))) E) : own_End p e below s Q K N (T.setTop (mkF m pc Ls (.int v :: rest))) E := by
  subst hq; exact own_back (fun _ k => XS.istoreN X.here hx rfl hd rfl hl k) h
theorem own_lload (X : Stand p l e R s' m args below meth c T locs cells slots) (hx : p.tables.exec = Jvm.exec) {pc q : Nat} {Ls : Array Slot} {rest : List Value} {k : Nat} {v : Int64} (hd : decode c.code pc = .ok (.lload k, 2)) (hl : Ls[k]? = some (.val (.long v))) (hq : pc + 2 = q) (h : own_End p e below s Q K N (T.setTop (mkF m q Ls (.long v :: rest))) E) : own_End p e below s Q K N (T.setTop (mkF m pc Ls (rest))) E := by
  subst hq; exact own_back (fun _ k => XS.lload X.here hx rfl hd hl k) h
theorem own_lloadN (X : Stand p l e R s' m args below meth c T locs cells slots) (hx : p.tables.exec = Jvm.exec) {pc q : Nat} {Ls : Array Slot} {rest : List Value} {k : Fin 4} {v : Int64} (hd : decode c.code pc = .ok (.lload_n k, 1)) (hl : Ls[k.val]? = some (.val (.long v))) (hq : pc + 1 = q) (h : own_End p e below s Q K N (T.setTop (mkF m q Ls (.long v :: rest))) E) : own_End p e below s Q K N (T.setTop (mkF m pc Ls (rest))) E := by
  subst hq; exact own_back (fun _ k => XS.lloadN X.here hx rfl hd hl k) h
theorem own_lstore (X : Stand p l e R s' m args below meth c T locs cells slots) (hx : p.tables.exec = Jvm.exec) {pc q : Nat} {Ls : Array Slot} {rest : List Value} {k : Nat} {v : Int64} {l' : Array Slot} (hd : decode c.code pc = .ok (.lstore k, 2)) (hl : storeLocals Ls k (.long v) = some l') (hq : pc + 2 = q) (h : own_End p e below s Q K N (T.setTop (mkF m q l' (rest))) E) : own_End p e below s Q K N (T.setTop (mkF m pc Ls (.long v :: rest))) E := by
  subst hq; exact own_back (fun _ k => XS.lstore X.here hx rfl hd rfl hl k) h
theorem own_lstoreN (X : Stand p l e R s' m args below meth c T locs cells slots) (hx : p.tables.exec = Jvm.exec) {pc q : Nat} {Ls : Array Slot} {rest : List Value} {k : Fin 4} {v : Int64} {l' : Array Slot} (hd : decode c.code pc = .ok (.lstore_n k, 1)) (hl : storeLocals Ls k.val (.long v) = some l') (hq : pc + 1 = q) (h : own_End p e below s Q K N (T.setTop (mkF m q l' (rest))) E) : own_End p e below s Q K N (T.setTop (mkF m pc Ls (.long v :: rest))) E := by
  subst hq; exact own_back (fun _ k => XS.lstoreN X.here hx rfl hd rfl hl k) h
theorem own_aload (X : Stand p l e R s' m args below meth c T locs cells slots) (hx : p.tables.exec = Jvm.exec) {pc q : Nat} {Ls : Array Slot} {rest : List Value} {k : Nat} {v : Value} (hd : decode c.code pc = .ok (.aload k, 2)) (hl : Ls[k]? = some (.val v)) (hv : v.isRef = true) (hq : pc + 2 = q) (h : own_End p e below s Q K N (T.setTop (mkF m q Ls (v :: rest))) E) : own_End p e below s Q K N (T.setTop (mkF m pc Ls (rest))) E := by
  subst hq; exact own_back (fun _ k => XS.aload X.here hx rfl hd hl hv k) h
theorem own_aloadN (X : Stand p l e R s' m args below meth c T locs cells slots) (hx : p.tables.exec = Jvm.exec) {pc q : Nat} {Ls : Array Slot} {rest : List Value} {k : Fin 4} {v : Value} (hd : decode c.code pc = .ok (.aload_n k, 1)) (hl : Ls[k.val]? = some (.val v)) (hv : v.isRef = true) (hq : pc + 1 = q) (h : own_End p e below s Q K N (T.setTop (mkF m q Ls (v :: rest))) E) : own_End p e below s Q K N (T.setTop (mkF m pc Ls (rest))) E := by
  subst hq; exact own_back (fun _ k => XS.aloadN X.here hx rfl hd hl hv k) h
theorem own_astore (X : Stand p l e R s' m args below meth c T locs cells slots) (hx : p.tables.exec = Jvm.exec) {pc q : Nat} {Ls : Array Slot} {rest : List Value} {k : Nat} {v : Value} {l' : Array Slot} (hd : decode c.code pc = .ok (.astore k, 2)) (hv : v.isRef = true) (hl : storeLocals Ls k v = some l') (hq : pc + 2 = q) (h : own_End p e below s Q K N (T.setTop (mkF m q l' (rest))) E) : own_End p e below s Q K N (T.setTop (mkF m pc Ls (v :: rest))) E := by
  subst hq; exact own_back (fun _ k => XS.astore X.here hx rfl hd rfl hv hl k) h
theorem own_astoreN (X : Stand p l e R s' m args below meth c T locs cells slots) (hx : p.tables.exec = Jvm.exec) {pc q : Nat} {Ls : Array Slot} {rest : List Value} {k : Fin 4} {v : Value} {l' : Array Slot} (hd : decode c.code pc = .ok (.astore_n k, 1)) (hv : v.isRef = true) (hl : storeLocals Ls k.val v = some l') (hq : pc + 1 = q) (h : own_End p e below s Q K N (T.setTop (mkF m q l' (rest))) E) : own_End p e below s Q K N (T.setTop (mkF m pc Ls (v :: rest))) E := by
  subst hq; exact own_back (fun _ k => XS.astoreN X.here hx rfl hd rfl hv hl k) h
theorem own_iinc (X : Stand p l e R s' m args below meth c T locs cells slots) (hx : p.tables.exec = Jvm.exec) {pc q : Nat} {Ls : Array Slot} {rest : List Value} {k : Nat} {cst : Int} {x z : Int32} {l' : Array Slot} (hd : decode c.code pc = .ok (.iinc k cst, 3)) (hl : Ls[k]? = some (.val (.int x))) (hz : Int32.ofInt cst = z) (hl' : storeLocals Ls k (.int (x + z)) = some l') (hq : pc + 3 = q) (h : own_End p e below s Q K N (T.setTop (mkF m q l' (rest))) E) : own_End p e below s Q K N (T.setTop (mkF m pc Ls (rest))) E := by
  subst hq hz; exact own_back (fun _ k => XS.iinc X.here hx rfl hd hl hl' k) h
theorem own_iconst (X : Stand p l e R s' m args below meth c T locs cells slots) (hx : p.tables.exec = Jvm.exec) {pc q : Nat} {Ls : Array Slot} {rest : List Value} {i : Int} {z : Int32} (hd : decode c.code pc = .ok (.iconst i, 1)) (hz : Int32.ofInt i = z) (hq : pc + 1 = q) (h : own_End p e below s Q K N (T.setTop (mkF m q Ls (.int z :: rest))) E) : own_End p e below s Q K N (T.setTop (mkF m pc Ls (rest))) E := by
  subst hq hz; exact own_back (fun _ k => XS.iconst X.here hx rfl hd k) h
theorem own_bipush (X : Stand p l e R s' m args below meth c T locs cells slots) (hx : p.tables.exec = Jvm.exec) {pc q : Nat} {Ls : Array Slot} {rest : List Value} {i : Int} {z : Int32} (hd : decode c.code pc = .ok (.bipush i, 2)) (hz : (Int8.ofInt i).toInt32 = z) (hq : pc + 2 = q) (h : own_End p e below s Q K N (T.setTop (mkF m q Ls (.int z :: rest))) E) : own_End p e below s Q K N (T.setTop (mkF m pc Ls (rest))) E := by
  subst hq hz; exact own_back (fun _ k => XS.bipush X.here hx rfl hd k) h
theorem own_sipush (X : Stand p l e R s' m args below meth c T locs cells slots) (hx : p.tables.exec = Jvm.exec) {pc q : Nat} {Ls : Array Slot} {rest : List Value} {i : Int} {z : Int32} (hd : decode c.code pc = .ok (.sipush i, 3)) (hz : (Int16.ofInt i).toInt32 = z) (hq : pc + 3 = q) (h : own_End p e below s Q K N (T.setTop (mkF m q Ls (.int z :: rest))) E) : own_End p e below s Q K N (T.setTop (mkF m pc Ls (rest))) E := by
  subst hq hz; exact own_back (fun _ k => XS.sipush X.here hx rfl hd k) h
theorem own_lconst (X : Stand p l e R s' m args below meth c T locs cells slots) (hx : p.tables.exec = Jvm.exec) {pc q : Nat} {Ls : Array Slot} {rest : List Value} {i : Fin 2} {z : Int64} (hd : decode c.code pc = .ok (.lconst i, 1)) (hz : Int64.ofNat i = z) (hq : pc + 1 = q) (h : own_End p e below s Q K N (T.setTop (mkF m q Ls (.long z :: rest))) E) : own_End p e below s Q K N (T.setTop (mkF m pc Ls (rest))) E := by
  subst hq hz; exact own_back (fun _ k => XS.lconst X.here hx rfl hd k) h
theorem own_goto (X : Stand p l e R s' m args below meth c T locs cells slots) (hx : p.tables.exec = Jvm.exec) {pc q : Nat} {Ls : Array Slot} {rest : List Value} {o : Int} (hd : decode c.code pc = .ok (.goto o, 3)) (ho : 0 ≤ (pc : Int) + o) (hp : ((pc : Int) + o).toNat = q) (h : own_End p e below s Q K N (T.setTop (mkF m q Ls (rest))) E) : own_End p e below s Q K N (T.setTop (mkF m pc Ls (rest))) E := by
  exact own_back (fun _ k => XS.goto X.here hx rfl (pc0 := pc) (pc' := q) rfl hd ho hp k) h
theorem own_ifY (X : Stand p l e R s' m args below meth c T locs cells slots) (hx : p.tables.exec = Jvm.exec) {pc q : Nat} {Ls : Array Slot} {rest : List Value} {cd : ClassFile.Cond} {x : Int32} {o : Int} (hd : decode c.code pc = .ok (.ifCond cd o, 3)) (hc : if_icmp.holds cd x 0 = true) (ho : 0 ≤ (pc : Int) + o) (hp : ((pc : Int) + o).toNat = q) (h : own_End p e below s Q K N (T.setTop (mkF m q Ls (rest))) E) : own_End p e below s Q K N (T.setTop (mkF m pc Ls (.int x :: rest))) E := by
  exact own_back (fun _ k => XS.ifYes X.here hx rfl (pc0 := pc) (pc' := q) rfl hd rfl ((if0 _ _).trans hc) ho hp k) h
theorem own_ifN (X : Stand p l e R s' m args below meth c T locs cells slots) (hx : p.tables.exec = Jvm.exec) {pc q : Nat} {Ls : Array Slot} {rest : List Value} {cd : ClassFile.Cond} {x : Int32} {o : Int} (hd : decode c.code pc = .ok (.ifCond cd o, 3)) (hc : if_icmp.holds cd x 0 = false) (hq : pc + 3 = q) (h : own_End p e below s Q K N (T.setTop (mkF m q Ls (rest))) E) : own_End p e below s Q K N (T.setTop (mkF m pc Ls (.int x :: rest))) E := by
  subst hq; exact own_back (fun _ k => XS.ifNo X.here hx rfl hd rfl ((if0 _ _).trans hc) k) h
theorem own_icY (X : Stand p l e R s' m args below meth c T locs cells slots) (hx : p.tables.exec = Jvm.exec) {pc q : Nat} {Ls : Array Slot} {rest : List Value} {cd : ClassFile.Cond} {x y : Int32} {o : Int} (hd : decode c.code pc = .ok (.if_icmp cd o, 3)) (hc : if_icmp.holds cd x y = true) (ho : 0 ≤ (pc : Int) + o) (hp : ((pc : Int) + o).toNat = q) (h : own_End p e below s Q K N (T.setTop (mkF m q Ls (rest))) E) : own_End p e below s Q K N (T.setTop (mkF m pc Ls (.int y :: .int x :: rest))) E := by
  exact own_back (fun _ k => XS.icmpYes X.here hx rfl (pc0 := pc) (pc' := q) rfl hd rfl hc ho hp k) h
theorem own_icN (X : Stand p l e R s' m args below meth c T locs cells slots) (hx : p.tables.exec = Jvm.exec) {pc q : Nat} {Ls : Array Slot} {rest : List Value} {cd : ClassFile.Cond} {x y : Int32} {o : Int} (hd : decode c.code pc = .ok (.if_icmp cd o, 3)) (hc : if_icmp.holds cd x y = false) (hq : pc + 3 = q) (h : own_End p e below s Q K N (T.setTop (mkF m q Ls (rest))) E) : own_End p e below s Q K N (T.setTop (mkF m pc Ls (.int y :: .int x :: rest))) E := by
  subst hq; exact own_back (fun _ k => XS.icmpNo X.here hx rfl hd rfl hc k) h
theorem own_lcY (X : Stand p l e R s' m args below meth c T locs cells slots) (hx : p.tables.exec = Jvm.exec) {pc r q : Nat} {Ls : Array Slot} {rest : List Value} {cd : ClassFile.Cond} {x y : Int64} {o : Int} (hd : decode c.code pc = .ok (.lcmp, 1)) (hr : pc + 1 = r) (hd' : decode c.code r = .ok (.ifCond cd o, 3)) (hc : if_icmp.holds cd (lcmpW x y) 0 = true) (ho : 0 ≤ (r : Int) + o) (hp : ((r : Int) + o).toNat = q) (h : own_End p e below s Q K N (T.setTop (mkF m q Ls (rest))) E) : own_End p e below s Q K N (T.setTop (mkF m pc Ls (.long y :: .long x :: rest))) E := own_lcmp X hx hd hr (own_ifY X hx hd' hc ho hp h)
theorem own_lcN (X : Stand p l e R s' m args below meth c T locs cells slots) (hx : p.tables.exec = Jvm.exec) {pc r q : Nat} {Ls : Array Slot} {rest : List Value} {cd : ClassFile.Cond} {x y : Int64} {o : Int} (hd : decode c.code pc = .ok (.lcmp, 1)) (hr : pc + 1 = r) (hd' : decode c.code r = .ok (.ifCond cd o, 3)) (hc : if_icmp.holds cd (lcmpW x y) 0 = false) (hq : r + 3 = q) (h : own_End p e below s Q K N (T.setTop (mkF m q Ls (rest))) E) : own_End p e below s Q K N (T.setTop (mkF m pc Ls (.long y :: .long x :: rest))) E := own_lcmp X hx hd hr (own_ifN X hx hd' hc hq h)
theorem own_tlt {x y : Int64} (h : x < y) : if_icmp.holds .lt (lcmpW x y) 0 = true ∧ if_icmp.holds .ge (lcmpW x y) 0 = false ∧ if_icmp.holds .gt (lcmpW y x) 0 = true ∧ if_icmp.holds .le (lcmpW y x) 0 = false :=
  ⟨(tlt ((lw_lt x y).mpr h)).1, (tlt ((lw_lt x y).mpr h)).2.1, (tlt ((lw_gt y x).mpr h)).2.2.1, (tlt ((lw_gt y x).mpr h)).2.2.2⟩
theorem own_flt {x y : Int64} (h : ¬ x < y) : if_icmp.holds .lt (lcmpW x y) 0 = false ∧ if_icmp.holds .ge (lcmpW x y) 0 = true ∧ if_icmp.holds .gt (lcmpW y x) 0 = false ∧ if_icmp.holds .le (lcmpW y x) 0 = true :=
  ⟨(flt (fun q => h ((lw_lt x y).mp q))).1, (flt (fun q => h ((lw_lt x y).mp q))).2.1, (flt (fun q => h ((lw_gt y x).mp q))).2.2.1, (flt (fun q => h ((lw_gt y x).mp q))).2.2.2⟩
theorem own_teq {x y : Int64} (h : x = y) : if_icmp.holds .eq (lcmpW x y) 0 = true ∧ if_icmp.holds .ne (lcmpW x y) 0 = false := teq ((lw_eq x y).mpr h)
theorem own_feq {x y : Int64} (h : ¬ x = y) : if_icmp.holds .eq (lcmpW x y) 0 = false ∧ if_icmp.holds .ne (lcmpW x y) 0 = true := feq (fun q => h ((lw_eq x y).mp q))
theorem own_retV (X : Stand p l e R s m args below meth c T locs cells slots) (hx : p.tables.exec = Jvm.exec) {pc : Nat} {Ls : Array Slot}  (hret : meth.sig.returnType = none) (hlk : meth.locks = false) (hc : cells ≤ K) (hs : slots ≤ N) (hd : decode c.code pc = .ok (.return_, 1)) (hQ : Q none T.heap locs) : own_End p e below s Q K N (T.setTop (mkF m pc Ls [])) := by
  obtain ⟨fs, hr, hrun, hended, hW, hsame⟩ := X.leave (v := none) (fun _ => rfl) hlk
  refine ⟨_, _, ?_, hrun, hended, _, _, rfl, hQ, ⟨_, rfl⟩, hW, hsame.mono hc hs⟩
  exact X.returnOut hx hret hd hr
theorem own_retI (X : Stand p l e R s m args below meth c T locs cells slots) (hx : p.tables.exec = Jvm.exec) {pc : Nat} {Ls : Array Slot} {rest : List Value} {z : Int32} (hret : meth.sig.returnType = some .int) (hlk : meth.locks = false) (hc : cells ≤ K) (hs : slots ≤ N) (hd : decode c.code pc = .ok (.ireturn, 1)) (hQ : Q (some (.int z)) T.heap locs) : own_End p e below s Q K N (T.setTop (mkF m pc Ls (.int z :: rest))) := by
  obtain ⟨fs, hr, hrun, hended, hW, hsame⟩ := X.leave (v := (some (.int z))) (fun h => by rw [hret] at h; cases h) hlk
  refine ⟨_, _, ?_, hrun, hended, _, _, rfl, hQ, ⟨_, rfl⟩, hW, hsame.mono hc hs⟩
  have hm' : T.vm.method? m = some meth := X.method'
  have hn : narrow .int (.int z) = .int z := rfl
  show Steps p.tables e below (T.setTop { method := m, pc := pc, locals := Ls, stack := _ :: rest, locked := none }) _
  jvm_step X.here [X.here.top, hx, hd, hm', hret, hn]
  first | (intro acts; rw [hr _ acts rfl rfl rfl]) | rw [hr _ _ rfl rfl rfl]
  exact Steps.refl _
theorem own_retJ (X : Stand p l e R s m args below meth c T locs cells slots) (hx : p.tables.exec = Jvm.exec) {pc : Nat} {Ls : Array Slot} {rest : List Value} {z : Int64} (hret : meth.sig.returnType = some .long) (hlk : meth.locks = false) (hc : cells ≤ K) (hs : slots ≤ N) (hd : decode c.code pc = .ok (.lreturn, 1)) (hQ : Q (some (.long z)) T.heap locs) : own_End p e below s Q K N (T.setTop (mkF m pc Ls (.long z :: rest))) := by
  obtain ⟨fs, hr, hrun, hended, hW, hsame⟩ := X.leave (v := (some (.long z))) (fun h => by rw [hret] at h; cases h) hlk
  refine ⟨_, _, ?_, hrun, hended, _, _, rfl, hQ, ⟨_, rfl⟩, hW, hsame.mono hc hs⟩
  have hm' : T.vm.method? m = some meth := X.method'
  have hn : narrow .long (.long z) = .long z := rfl
  show Steps p.tables e below (T.setTop { method := m, pc := pc, locals := Ls, stack := _ :: rest, locked := none }) _
  jvm_step X.here [X.here.top, hx, hd, hm', hret, hn]
  first | (intro acts; rw [hr _ acts rfl rfl rfl]) | rw [hr _ _ rfl rfl rfl]
  exact Steps.refl _
theorem own_retN (X : Stand p l e R s m args below meth c T locs cells slots) (hx : p.tables.exec = Jvm.exec) {pc : Nat} {Ls : Array Slot} {rest : List Value} {z : Int32} {t : FieldType} (ht : t = .boolean ∨ t = .byte ∨ t = .char ∨ t = .short) (hret : meth.sig.returnType = some t) (hlk : meth.locks = false) (hc : cells ≤ K) (hs : slots ≤ N) (hd : decode c.code pc = .ok (.ireturn, 1)) (hQ : Q (some (.int (nar t z))) T.heap locs) : own_End p e below s Q K N (T.setTop (mkF m pc Ls (.int z :: rest))) := by
  obtain ⟨fs, hr, hrun, hended, hW, hsame⟩ := X.leave (v := (some (.int (nar t z)))) (fun h => by rw [hret] at h; cases h) hlk
  refine ⟨_, _, ?_, hrun, hended, _, _, rfl, hQ, ⟨_, rfl⟩, hW, hsame.mono hc hs⟩
  exact retN X hx hret ht hd hr
theorem own_b (P : Prop) [Decidable P] : nar .boolean (if P then (1 : Int32) else 0) = if P then (1 : Int32) else 0 := by
  split <;> rfl
end Own
theorem own_d1_0 : decode prog_25_method_1_code 0 = .ok (.aload_n 0, 1) := by decide +kernel
theorem own_d1_1 : decode prog_25_method_1_code 1 = .ok (.invokespecial 1, 3) := by decide +kernel
theorem own_d1_4 : decode prog_25_method_1_code 4 = .ok (.aload_n 0, 1) := by decide +kernel
theorem own_d1_5 : decode prog_25_method_1_code 5 = .ok (.ldc2_w 9, 3) := by decide +kernel
theorem own_d1_8 : decode prog_25_method_1_code 8 = .ok (.putfield 11, 3) := by decide +kernel
theorem own_d1_11 : decode prog_25_method_1_code 11 = .ok (.return_, 1) := by decide +kernel
def own_Q1 (Z : State) (o0 : Addr) (w_o0_pairsLeft : Int64) (h0 : Heap) (n0 : Nat) (v : Option Value) (h : Heap) (L : List Loc) : Prop := v = none ∧ Fr n0 L ∧ Keep h0 h [o0] ∧ Exa Z h o0 "com/example/arcwise/arcwise/constraints/TableBudget" ∧ Fld Z h o0 "com/example/arcwise/arcwise/constraints/TableBudget" "pairsLeft" "J" (.long (67108864 : Int64))
theorem own_pn_rm1 : plainName "com/example/arcwise/arcwise/constraints/TableBudget" = true := by first | (simp [plainName, overriddenIn]; done) | decide +kernel
theorem own_ef_rm1 (m : MethodId) (o0 : Addr) : entryFrame m #[(.ref o0)] 1 = mkF m 0 #[.val (.ref o0)] [] := by first | (simp [entryFrame, mkF, argsToLocals, Value.category]; done) | rfl
set_option maxRecDepth 65536 in
set_option maxHeartbeats 40000000 in
theorem own_rm1 (l : Launch) (Z : State) (a0 : Array Value) (hw : ∀ d ∈ tables_1, d.before a0 Z = true) (ws : List Jvm.Cond) (o0 : Addr) (w_o0_pairsLeft : Int64) (h0 : Heap) (n0 : Nat) (Z0 : n0 ≤ h0.size) (E_o0 : Exa Z h0 o0 "com/example/arcwise/arcwise/constraints/TableBudget") (F_o0_pairsLeft : Fld Z h0 o0 "com/example/arcwise/arcwise/constraints/TableBudget" "pairsLeft" "J" (.long w_o0_pairsLeft)) (g_o0 : n0 ≤ o0) :
    MetFree l (⟨"com/example/arcwise/arcwise/constraints/TableBudget", "<init>", "()V"⟩ : MethodName) (head1 (Jvm.Cond.code (⟨"com/example/arcwise/arcwise/constraints/TableBudget", "<init>", "()V"⟩ : MethodName) prog_25_method_1_code 1 none :: ws) ({ frames := 1, cells := 0, slots := 0, locals := 12 } : Room)) (fun a U => a = #[(.ref o0)] ∧ Z.Warmed39 U.vm ∧ U.heap = h0) (fun _ _ _ _ _ => True) (fun _ U o U' => ∃ v L, o = .returned v ∧ own_Q1 Z o0 w_o0_pairsLeft h0 n0 v U'.heap L ∧ FrameEnd U o U' L ({ frames := 1, cells := 0, slots := 0, locals := 12 } : Room).cells ({ frames := 1, cells := 0, slots := 0, locals := 12 } : Room).slots) := by
  refine MetFree.of_bodySF (plainFor_of_name own_pn_rm1) hisR ?_
  intro p e s m args below meth c s₁ Bd hml0 hP hK
  obtain ⟨rfl, hZ, hh⟩ := hP
  have hx := Bd.exec
  have hby := Bd.bytes
  have hml : c.maxLocals = 1 := hml0
  have hown : s.vm.findClass "com/example/arcwise/arcwise/constraints/TableBudget" = some m.cls := findClass_of_methodNamed Bd.named
  have hnm := (name_of_methodNamed Bd.named Bd.method).1
  have X0 : Stand p l e ({ frames := 1, cells := 0, slots := 0, locals := 12 } : Room) s m #[(.ref o0)] below meth c s₁ [] 0 0 := Stand.of_body Bd
  have e0 : s₁.heap = h0 := by rw [← hh, Bd.state]; rfl
  have N0 := Fr.nil n0
  show own_End p e below s (own_Q1 Z o0 w_o0_pairsLeft h0 n0) ({ frames := 1, cells := 0, slots := 0, locals := 12 } : Room).cells ({ frames := 1, cells := 0, slots := 0, locals := 12 } : Room).slots (s₁.setTop (entryFrame m #[(.ref o0)] 1))
  rw [own_ef_rm1]
  refine own_aloadN X0 hx (hb hby own_d1_0) rfl rfl (q := 1) rfl ?_
  obtain ⟨T1, X1, e1, st1⟩ := initO X0 hx hZ hown (hw _ (List.mem_of_getElem? (i := 7) rfl)) (hw _ (List.mem_of_getElem? (i := 8) rfl)) (hw _ (List.mem_of_getElem? (i := 9) rfl)) e0 (g := (mkF m 1 #[.val (.ref o0)] [(.ref o0)])) rfl (by rw [hml]; rfl) rfl (hb hby own_d1_1) (by decide) (W := 0) (by show 2 * 0 + _ ≤ _; exact Nat.le_of_eq rfl) (by decide)
  refine own_back st1 ?_
  show own_End p e below s _ _ _ (T1.setTop (mkF m 4 #[.val (.ref o0)] []))
  refine own_aloadN X1 hx (hb hby own_d1_4) rfl rfl (q := 5) rfl ?_
  refine own_back (X1.ldc2Long hx hown (mvT hZ (hw _ (List.mem_of_getElem? (i := 10) rfl))) (g := (mkF m 5 #[.val (.ref o0)] [(.ref o0)])) rfl (hb hby own_d1_5)) ?_
  show own_End p e below s _ _ _ (T1.setTop (mkF m 8 #[.val (.ref o0)] [(.long (67108864 : Int64)), (.ref o0)]))
  obtain ⟨T2, h2, X2, e2, W2, st2⟩ := putF X1 hx hZ hown (host := "") (Or.inl (hw _ (List.mem_of_getElem? (i := 11) rfl))) Via.refl e1 F_o0_pairsLeft E_o0 (Or.inl (hw _ (List.mem_of_getElem? (i := 12) rfl))) (hw _ (List.mem_of_getElem? (i := 2) rfl)) (ty := .long) (by decide) rfl rfl (g := (mkF m 8 #[.val (.ref o0)] [(.long (67108864 : Int64)), (.ref o0)])) rfl rfl (hb hby own_d1_8)
  have F_o0_pairsLeft_2 := F_o0_pairsLeft.same W2
  have E_o0_3 := E_o0.wr W2
  have Kp4 : Keep h0 _ [o0] := (Keep.refl h0 [o0]).wr W2 (Or.inl (List.mem_of_getElem? (i := 0) rfl))
  have Z5 := Nat.le_trans Z0 (Keep.of_wr W2).1
  have N2 := Fr.snoc X2 N0 g_o0
  refine own_back st2 ?_
  show own_End p e below s _ _ _ (T2.setTop (mkF m 11 #[.val (.ref o0)] []))
  refine own_retV X2 hx Bd.returns Bd.notSynchronized (by decide) (by decide) (hb hby own_d1_11) ?_
  show own_Q1 Z o0 w_o0_pairsLeft h0 n0 _ T2.heap _
  rw [e2]
  exact ⟨rfl, N2, Kp4, E_o0_3, F_o0_pairsLeft_2⟩
theorem own_d3_0 : decode jdk_29_method_70_code 0 = .ok (.lload_n 0, 1) := by decide +kernel
theorem own_d3_1 : decode jdk_29_method_70_code 1 = .ok (.lload_n 2, 1) := by decide +kernel
theorem own_d3_2 : decode jdk_29_method_70_code 2 = .ok (.lcmp, 1) := by decide +kernel
theorem own_d3_3 : decode jdk_29_method_70_code 3 = .ok (.ifCond .gt 7, 3) := by decide +kernel
theorem own_d3_10 : decode jdk_29_method_70_code 10 = .ok (.lload_n 2, 1) := by decide +kernel
theorem own_d3_11 : decode jdk_29_method_70_code 11 = .ok (.lreturn, 1) := by decide +kernel
theorem own_d3_6 : decode jdk_29_method_70_code 6 = .ok (.lload_n 0, 1) := by decide +kernel
theorem own_d3_7 : decode jdk_29_method_70_code 7 = .ok (.goto 4, 3) := by decide +kernel
def own_F3 (q0 : Int64) (q1 : Int64) : Int64 := (if q1 < q0 then q1 else q0)
def own_Q3 (Z : State) (q0 : Int64) (q1 : Int64) (h0 : Heap) (n0 : Nat) (v : Option Value) (h : Heap) (L : List Loc) : Prop := v = some (.long (own_F3 q0 q1)) ∧ Fr n0 L ∧ h = h0
theorem own_ef_rm3 (m : MethodId) (q0 : Int64) (q1 : Int64) : entryFrame m #[(.long q0), (.long q1)] 4 = mkF m 0 #[.val (.long q0), .second, .val (.long q1), .second] [] := by first | (simp [entryFrame, mkF, argsToLocals, Value.category]; done) | rfl
set_option maxRecDepth 65536 in
set_option maxHeartbeats 40000000 in
theorem own_rm3 (l : Launch) (Z : State) (a0 : Array Value) (hw : ∀ d ∈ tables_1, d.before a0 Z = true) (ws : List Jvm.Cond) (q0 : Int64) (q1 : Int64) (h0 : Heap) (n0 : Nat) (Z0 : n0 ≤ h0.size) :
    MetFree l (⟨"java/lang/Math", "min", "(JJ)J"⟩ : MethodName) (head1 (Jvm.Cond.code (⟨"java/lang/Math", "min", "(JJ)J"⟩ : MethodName) jdk_29_method_70_code 4 (some .long) :: ws) ({ frames := 0, cells := 0, slots := 0, locals := 0 } : Room)) (fun a U => a = #[(.long q0), (.long q1)] ∧ Z.Warmed39 U.vm ∧ U.heap = h0) (fun _ _ _ _ _ => True) (fun _ U o U' => ∃ v L, o = .returned v ∧ own_Q3 Z q0 q1 h0 n0 v U'.heap L ∧ FrameEnd U o U' L ({ frames := 0, cells := 0, slots := 0, locals := 0 } : Room).cells ({ frames := 0, cells := 0, slots := 0, locals := 0 } : Room).slots) := by
  refine MetFree.of_bodySF (Jvm.Free.JP.mathPlain rfl (by decide +kernel)) hisR ?_
  intro p e s m args below meth c s₁ Bd hml0 hP hK
  obtain ⟨rfl, hZ, hh⟩ := hP
  have hx := Bd.exec
  have hby := Bd.bytes
  have hml : c.maxLocals = 4 := hml0
  have hown : s.vm.findClass "java/lang/Math" = some m.cls := findClass_of_methodNamed Bd.named
  have hnm := (name_of_methodNamed Bd.named Bd.method).1
  have X0 : Stand p l e ({ frames := 0, cells := 0, slots := 0, locals := 0 } : Room) s m #[(.long q0), (.long q1)] below meth c s₁ [] 0 0 := Stand.of_body Bd
  have e0 : s₁.heap = h0 := by rw [← hh, Bd.state]; rfl
  have N0 := Fr.nil n0
  show own_End p e below s (own_Q3 Z q0 q1 h0 n0) ({ frames := 0, cells := 0, slots := 0, locals := 0 } : Room).cells ({ frames := 0, cells := 0, slots := 0, locals := 0 } : Room).slots (s₁.setTop (entryFrame m #[(.long q0), (.long q1)] 4))
  rw [own_ef_rm3]
  refine own_lloadN X0 hx (hb hby own_d3_0) rfl (q := 1) rfl ?_
  refine own_lloadN X0 hx (hb hby own_d3_1) rfl (q := 2) rfl ?_
  by_cases hc3_7 : q1 < q0
  · refine own_lcY X0 hx (hb hby own_d3_2) (r := 3) rfl (hb hby own_d3_3) (own_tlt hc3_7).2.2.1 (q := 10) (by decide) (by decide) ?_
    refine own_lloadN X0 hx (hb hby own_d3_10) rfl (q := 11) rfl ?_
    refine own_retJ X0 hx Bd.returns Bd.notSynchronized (by decide) (by decide) (hb hby own_d3_11) ?_
    show own_Q3 Z q0 q1 h0 n0 _ s₁.heap _
    exact ⟨(by simp only [own_F3, if_pos hc3_7]), N0, e0⟩
  · refine own_lcN X0 hx (hb hby own_d3_2) (r := 3) rfl (hb hby own_d3_3) (own_flt hc3_7).2.2.1 (q := 6) rfl ?_
    refine own_lloadN X0 hx (hb hby own_d3_6) rfl (q := 7) rfl ?_
    refine own_goto X0 hx (hb hby own_d3_7) (q := 11) (by decide) (by decide) ?_
    refine own_retJ X0 hx Bd.returns Bd.notSynchronized (by decide) (by decide) (hb hby own_d3_11) ?_
    show own_Q3 Z q0 q1 h0 n0 _ s₁.heap _
    exact ⟨(by simp only [own_F3, if_neg hc3_7]), N0, e0⟩
theorem own_d4_0 : decode prog_25_method_2_code 0 = .ok (.lload_n 1, 1) := by decide +kernel
theorem own_d4_1 : decode prog_25_method_2_code 1 = .ok (.ldc2_w 15, 3) := by decide +kernel
theorem own_d4_4 : decode prog_25_method_2_code 4 = .ok (.lcmp, 1) := by decide +kernel
theorem own_d4_5 : decode prog_25_method_2_code 5 = .ok (.ifCond .gt 12, 3) := by decide +kernel
theorem own_d4_17 : decode prog_25_method_2_code 17 = .ok (.iconst 0, 1) := by decide +kernel
theorem own_d4_18 : decode prog_25_method_2_code 18 = .ok (.ireturn, 1) := by decide +kernel
theorem own_d4_8 : decode prog_25_method_2_code 8 = .ok (.lload_n 1, 1) := by decide +kernel
theorem own_d4_9 : decode prog_25_method_2_code 9 = .ok (.aload_n 0, 1) := by decide +kernel
theorem own_d4_10 : decode prog_25_method_2_code 10 = .ok (.getfield 11, 3) := by decide +kernel
theorem own_d4_13 : decode prog_25_method_2_code 13 = .ok (.lcmp, 1) := by decide +kernel
theorem own_d4_14 : decode prog_25_method_2_code 14 = .ok (.ifCond .le 5, 3) := by decide +kernel
theorem own_d4_19 : decode prog_25_method_2_code 19 = .ok (.aload_n 0, 1) := by decide +kernel
theorem own_d4_20 : decode prog_25_method_2_code 20 = .ok (.dup, 1) := by decide +kernel
theorem own_d4_21 : decode prog_25_method_2_code 21 = .ok (.getfield 11, 3) := by decide +kernel
theorem own_d4_24 : decode prog_25_method_2_code 24 = .ok (.lload_n 1, 1) := by decide +kernel
theorem own_d4_25 : decode prog_25_method_2_code 25 = .ok (.lsub, 1) := by decide +kernel
theorem own_d4_26 : decode prog_25_method_2_code 26 = .ok (.putfield 11, 3) := by decide +kernel
theorem own_d4_29 : decode prog_25_method_2_code 29 = .ok (.iconst 1, 1) := by decide +kernel
theorem own_d4_30 : decode prog_25_method_2_code 30 = .ok (.ireturn, 1) := by decide +kernel
def own_F4 (q1 : Int64) (w_o0_pairsLeft : Int64) : Int32 := (if (65536 : Int64) < q1 then (0 : Int32) else (if w_o0_pairsLeft < q1 then (0 : Int32) else (1 : Int32)))
def own_G4_pairsLeft (q1 : Int64) (w_o0_pairsLeft : Int64) : Int64 := (if (65536 : Int64) < q1 then w_o0_pairsLeft else (if w_o0_pairsLeft < q1 then w_o0_pairsLeft else (w_o0_pairsLeft - q1)))
def own_Q4 (Z : State) (o0 : Addr) (q1 : Int64) (w_o0_pairsLeft : Int64) (h0 : Heap) (n0 : Nat) (v : Option Value) (h : Heap) (L : List Loc) : Prop := v = some (.int (own_F4 q1 w_o0_pairsLeft)) ∧ Fr n0 L ∧ Keep h0 h [o0] ∧ Exa Z h o0 "com/example/arcwise/arcwise/constraints/TableBudget" ∧ Fld Z h o0 "com/example/arcwise/arcwise/constraints/TableBudget" "pairsLeft" "J" (.long (own_G4_pairsLeft q1 w_o0_pairsLeft))
theorem own_pn_rm4 : plainName "com/example/arcwise/arcwise/constraints/TableBudget" = true := by first | (simp [plainName, overriddenIn]; done) | decide +kernel
theorem own_ef_rm4 (m : MethodId) (o0 : Addr) (q1 : Int64) : entryFrame m #[(.ref o0), (.long q1)] 3 = mkF m 0 #[.val (.ref o0), .val (.long q1), .second] [] := by first | (simp [entryFrame, mkF, argsToLocals, Value.category]; done) | rfl
set_option maxRecDepth 65536 in
set_option maxHeartbeats 40000000 in
theorem own_rm4 (l : Launch) (Z : State) (a0 : Array Value) (hw : ∀ d ∈ tables_1, d.before a0 Z = true) (ws : List Jvm.Cond) (o0 : Addr) (q1 : Int64) (w_o0_pairsLeft : Int64) (h0 : Heap) (n0 : Nat) (Z0 : n0 ≤ h0.size) (E_o0 : Exa Z h0 o0 "com/example/arcwise/arcwise/constraints/TableBudget") (F_o0_pairsLeft : Fld Z h0 o0 "com/example/arcwise/arcwise/constraints/TableBudget" "pairsLeft" "J" (.long w_o0_pairsLeft)) (g_o0 : n0 ≤ o0) :
    MetFree l (⟨"com/example/arcwise/arcwise/constraints/TableBudget", "spend", "(J)Z"⟩ : MethodName) (head1 (Jvm.Cond.code (⟨"com/example/arcwise/arcwise/constraints/TableBudget", "spend", "(J)Z"⟩ : MethodName) prog_25_method_2_code 3 (some .boolean) :: ws) ({ frames := 0, cells := 0, slots := 0, locals := 0 } : Room)) (fun a U => a = #[(.ref o0), (.long q1)] ∧ Z.Warmed39 U.vm ∧ U.heap = h0) (fun _ _ _ _ _ => True) (fun _ U o U' => ∃ v L, o = .returned v ∧ own_Q4 Z o0 q1 w_o0_pairsLeft h0 n0 v U'.heap L ∧ FrameEnd U o U' L ({ frames := 0, cells := 0, slots := 0, locals := 0 } : Room).cells ({ frames := 0, cells := 0, slots := 0, locals := 0 } : Room).slots) := by
  refine MetFree.of_bodySF (plainFor_of_name own_pn_rm4) hisR ?_
  intro p e s m args below meth c s₁ Bd hml0 hP hK
  obtain ⟨rfl, hZ, hh⟩ := hP
  have hx := Bd.exec
  have hby := Bd.bytes
  have hml : c.maxLocals = 3 := hml0
  have hown : s.vm.findClass "com/example/arcwise/arcwise/constraints/TableBudget" = some m.cls := findClass_of_methodNamed Bd.named
  have hnm := (name_of_methodNamed Bd.named Bd.method).1
  have X0 : Stand p l e ({ frames := 0, cells := 0, slots := 0, locals := 0 } : Room) s m #[(.ref o0), (.long q1)] below meth c s₁ [] 0 0 := Stand.of_body Bd
  have e0 : s₁.heap = h0 := by rw [← hh, Bd.state]; rfl
  have N0 := Fr.nil n0
  show own_End p e below s (own_Q4 Z o0 q1 w_o0_pairsLeft h0 n0) ({ frames := 0, cells := 0, slots := 0, locals := 0 } : Room).cells ({ frames := 0, cells := 0, slots := 0, locals := 0 } : Room).slots (s₁.setTop (entryFrame m #[(.ref o0), (.long q1)] 3))
  rw [own_ef_rm4]
  refine own_lloadN X0 hx (hb hby own_d4_0) rfl (q := 1) rfl ?_
  refine own_back (X0.ldc2Long hx hown (mvT hZ (hw _ (List.mem_of_getElem? (i := 23) rfl))) (g := (mkF m 1 #[.val (.ref o0), .val (.long q1), .second] [(.long q1)])) rfl (hb hby own_d4_1)) ?_
  show own_End p e below s _ _ _ (s₁.setTop (mkF m 4 #[.val (.ref o0), .val (.long q1), .second] [(.long (65536 : Int64)), (.long q1)]))
  by_cases hc5_10 : (65536 : Int64) < q1
  · refine own_lcY X0 hx (hb hby own_d4_4) (r := 5) rfl (hb hby own_d4_5) (own_tlt hc5_10).2.2.1 (q := 17) (by decide) (by decide) ?_
    refine own_iconst X0 hx (hb hby own_d4_17) (z := 0) rfl (q := 18) rfl ?_
    refine own_retN X0 hx (t := .boolean) (by simp) Bd.returns Bd.notSynchronized (by decide) (by decide) (hb hby own_d4_18) ?_
    show own_Q4 Z o0 q1 w_o0_pairsLeft h0 n0 _ s₁.heap _
    rw [e0]
    exact ⟨(by rw [show own_F4 q1 w_o0_pairsLeft = _ from (by simp only [own_F4, if_pos hc5_10] : _ = (0 : Int32))]; rfl), N0, (Keep.refl h0 [o0]), E_o0, (by have q := F_o0_pairsLeft; simp only [own_G4_pairsLeft, if_pos hc5_10]; exact q)⟩
  · refine own_lcN X0 hx (hb hby own_d4_4) (r := 5) rfl (hb hby own_d4_5) (own_flt hc5_10).2.2.1 (q := 8) rfl ?_
    refine own_lloadN X0 hx (hb hby own_d4_8) rfl (q := 9) rfl ?_
    refine own_aloadN X0 hx (hb hby own_d4_9) rfl rfl (q := 10) rfl ?_
    obtain ⟨T12, X12, e12, st12⟩ := getF X0 hx hZ hown (host := "") (Or.inl (hw _ (List.mem_of_getElem? (i := 11) rfl))) Via.refl e0 F_o0_pairsLeft (g := (mkF m 10 #[.val (.ref o0), .val (.long q1), .second] [(.ref o0), (.long q1)])) rfl rfl (hb hby own_d4_10)
    refine own_back st12 ?_
    show own_End p e below s _ _ _ (T12.setTop (mkF m 13 #[.val (.ref o0), .val (.long q1), .second] [(.long w_o0_pairsLeft), (.long q1)]))
    by_cases hc14_13 : w_o0_pairsLeft < q1
    · refine own_lcN X12 hx (hb hby own_d4_13) (r := 14) rfl (hb hby own_d4_14) (own_tlt hc14_13).2.2.2 (q := 17) rfl ?_
      refine own_iconst X12 hx (hb hby own_d4_17) (z := 0) rfl (q := 18) rfl ?_
      refine own_retN X12 hx (t := .boolean) (by simp) Bd.returns Bd.notSynchronized (by decide) (by decide) (hb hby own_d4_18) ?_
      show own_Q4 Z o0 q1 w_o0_pairsLeft h0 n0 _ T12.heap _
      rw [e12]
      exact ⟨(by rw [show own_F4 q1 w_o0_pairsLeft = _ from (by simp only [own_F4, if_neg hc5_10, if_pos hc14_13] : _ = (0 : Int32))]; rfl), N0, (Keep.refl h0 [o0]), E_o0, (by have q := F_o0_pairsLeft; simp only [own_G4_pairsLeft, if_neg hc5_10, if_pos hc14_13]; exact q)⟩
    · refine own_lcY X12 hx (hb hby own_d4_13) (r := 14) rfl (hb hby own_d4_14) (own_flt hc14_13).2.2.2 (q := 19) (by decide) (by decide) ?_
      refine own_aloadN X12 hx (hb hby own_d4_19) rfl rfl (q := 20) rfl ?_
      refine own_dup X12 hx (hb hby own_d4_20) rfl (q := 21) rfl ?_
      obtain ⟨T15, X15, e15, st15⟩ := getF X12 hx hZ hown (host := "") (Or.inl (hw _ (List.mem_of_getElem? (i := 11) rfl))) Via.refl e12 F_o0_pairsLeft (g := (mkF m 21 #[.val (.ref o0), .val (.long q1), .second] [(.ref o0), (.ref o0)])) rfl rfl (hb hby own_d4_21)
      refine own_back st15 ?_
      show own_End p e below s _ _ _ (T15.setTop (mkF m 24 #[.val (.ref o0), .val (.long q1), .second] [(.long w_o0_pairsLeft), (.ref o0)]))
      refine own_lloadN X15 hx (hb hby own_d4_24) rfl (q := 25) rfl ?_
      refine own_lsub X15 hx (hb hby own_d4_25) (q := 26) rfl ?_
      obtain ⟨T16, h16, X16, e16, W16, st16⟩ := putF X15 hx hZ hown (host := "") (Or.inl (hw _ (List.mem_of_getElem? (i := 11) rfl))) Via.refl e15 F_o0_pairsLeft E_o0 (Or.inl (hw _ (List.mem_of_getElem? (i := 12) rfl))) (hw _ (List.mem_of_getElem? (i := 2) rfl)) (ty := .long) (by decide) rfl rfl (g := (mkF m 26 #[.val (.ref o0), .val (.long q1), .second] [(.long (w_o0_pairsLeft - q1)), (.ref o0)])) rfl rfl (hb hby own_d4_26)
      have F_o0_pairsLeft_16 := F_o0_pairsLeft.same W16
      have E_o0_17 := E_o0.wr W16
      have Kp18 : Keep h0 _ [o0] := (Keep.refl h0 [o0]).wr W16 (Or.inl (List.mem_of_getElem? (i := 0) rfl))
      have Z19 := Nat.le_trans Z0 (Keep.of_wr W16).1
      have N16 := Fr.snoc X16 N0 g_o0
      refine own_back st16 ?_
      show own_End p e below s _ _ _ (T16.setTop (mkF m 29 #[.val (.ref o0), .val (.long q1), .second] []))
      refine own_iconst X16 hx (hb hby own_d4_29) (z := 1) rfl (q := 30) rfl ?_
      refine own_retN X16 hx (t := .boolean) (by simp) Bd.returns Bd.notSynchronized (by decide) (by decide) (hb hby own_d4_30) ?_
      show own_Q4 Z o0 q1 w_o0_pairsLeft h0 n0 _ T16.heap _
      rw [e16]
      exact ⟨(by rw [show own_F4 q1 w_o0_pairsLeft = _ from (by simp only [own_F4, if_neg hc5_10, if_neg hc14_13] : _ = (1 : Int32))]; rfl), N16, Kp18, E_o0_17, (by have q := F_o0_pairsLeft_16; simp only [own_G4_pairsLeft, if_neg hc5_10, if_neg hc14_13]; exact q)⟩
theorem own_mn (x m : Int64) : (own_F3 65536 m < x) ↔ (65536 < x ∨ m < x) := by
  have e : (65536 : Int64).toInt = 65536 := by decide
  rw [own_F3]
  split
  · rename_i h
    rw [Int64.lt_iff_toInt_lt, e] at h
    rw [Int64.lt_iff_toInt_lt, Int64.lt_iff_toInt_lt, e]; omega
  · rename_i h
    rw [Int64.lt_iff_toInt_lt, e] at h
    rw [Int64.lt_iff_toInt_lt, Int64.lt_iff_toInt_lt, e]; omega
theorem own_sp (x m : Int64) : own_F4 x m = if own_F3 65536 m < x then (0 : Int32) else 1 := by
  rw [own_F4]
  by_cases a : (65536 : Int64) < x
  · rw [if_pos a, if_pos ((own_mn x m).mpr (Or.inl a))]
  · by_cases b : m < x
    · rw [if_neg a, if_pos b, if_pos ((own_mn x m).mpr (Or.inr b))]
    · rw [if_neg a, if_neg b, if_neg (fun q => ((own_mn x m).mp q).elim a b)]
theorem own_lf (x m : Int64) : (if (if own_F3 65536 m < x then (0 : Int32) else 1) = 0 then m else m - x) = own_G4_pairsLeft x m := by
  rw [own_G4_pairsLeft]
  by_cases a : (65536 : Int64) < x
  · rw [if_pos a, if_pos ((own_mn x m).mpr (Or.inl a)), if_pos rfl]
  · by_cases b : m < x
    · rw [if_neg a, if_pos b, if_pos ((own_mn x m).mpr (Or.inr b)), if_pos rfl]
    · rw [if_neg a, if_neg b, if_neg (fun q => ((own_mn x m).mp q).elim a b), if_neg (by decide)]
theorem own_pd0 : parseMethodDescriptor "()V" = some ⟨[], none⟩ := by decide +kernel
theorem own_pd1 : parseMethodDescriptor "(JJ)J" = some ⟨[.long, .long], some .long⟩ := by decide +kernel
def own_M0_27 (q0 : Int64) : Int32 := (if (own_F3 (65536 : Int64) (67108864 : Int64)) < q0 then (0 : Int32) else (1 : Int32))
def own_M0_39 (q0 : Int64) : Int64 := (if (own_M0_27 q0) = (0 : Int32) then (67108864 : Int64) else ((67108864 : Int64) - q0))
theorem own_pd2 : parseMethodDescriptor "(J)Z" = some ⟨[.long], some .boolean⟩ := by decide +kernel
def own_M0_81 (q0 : Int64) (q1 : Int64) : Int32 := (if (own_F3 (65536 : Int64) (own_M0_39 q0)) < q1 then (0 : Int32) else (1 : Int32))
def own_M0_93 (q0 : Int64) (q1 : Int64) : Int64 := (if (own_M0_81 q0 q1) = (0 : Int32) then (own_M0_39 q0) else ((own_M0_39 q0) - q1))
def own_M0_136 (q0 : Int64) (q1 : Int64) (q2 : Int64) : Int32 := (if (own_F3 (65536 : Int64) (own_M0_93 q0 q1)) < q2 then (0 : Int32) else (1 : Int32))
def own_M0_148 (q0 : Int64) (q1 : Int64) (q2 : Int64) : Int64 := (if (own_M0_136 q0 q1 q2) = (0 : Int32) then (own_M0_93 q0 q1) else ((own_M0_93 q0 q1) - q2))
def own_M0_193 (q0 : Int64) (q1 : Int64) (q2 : Int64) (q3 : Int64) : Int32 := (if (own_F3 (65536 : Int64) (own_M0_148 q0 q1 q2)) < q3 then (0 : Int32) else (1 : Int32))
def own_M0_205 (q0 : Int64) (q1 : Int64) (q2 : Int64) (q3 : Int64) : Int64 := (if (own_M0_193 q0 q1 q2 q3) = (0 : Int32) then (own_M0_148 q0 q1 q2) else ((own_M0_148 q0 q1 q2) - q3))
def own_M0_250 (q0 : Int64) (q1 : Int64) (q2 : Int64) (q3 : Int64) (q4 : Int64) : Int32 := (if (own_F3 (65536 : Int64) (own_M0_205 q0 q1 q2 q3)) < q4 then (0 : Int32) else (1 : Int32))
def own_M0_262 (q0 : Int64) (q1 : Int64) (q2 : Int64) (q3 : Int64) (q4 : Int64) : Int64 := (if (own_M0_250 q0 q1 q2 q3 q4) = (0 : Int32) then (own_M0_205 q0 q1 q2 q3) else ((own_M0_205 q0 q1 q2 q3) - q4))
def own_Q0 (Z : State) (q0 : Int64) (q1 : Int64) (q2 : Int64) (q3 : Int64) (q4 : Int64) (h0 : Heap) (n0 : Nat) (v : Option Value) (h : Heap) (L : List Loc) : Prop := v = some (.int (1 : Int32)) ∧ Fr n0 L
theorem own_pn_rm0 : plainName "com/example/arcwise/arcwise/constraints/TableBudgetSpendPinLaw" = true := by first | (simp [plainName, overriddenIn]; done) | decide +kernel
theorem own_ef_rm0 (m : MethodId) (q0 : Int64) (q1 : Int64) (q2 : Int64) (q3 : Int64) (q4 : Int64) : entryFrame m #[(.long q0), (.long q1), (.long q2), (.long q3), (.long q4)] maxLocals = mkF m 0 #[.val (.long q0), .second, .val (.long q1), .second, .val (.long q2), .second, .val (.long q3), .second, .val (.long q4), .second, .unset, .unset, .unset, .unset, .unset, .unset, .unset, .unset, .unset] [] := by first | (simp [entryFrame, mkF, argsToLocals, Value.category, maxLocals]; done) | rfl
set_option maxRecDepth 65536 in
set_option maxHeartbeats 40000000 in
theorem own_rm0 (l : Launch) (Z : State) (a0 : Array Value) (hw : ∀ d ∈ tables_1, d.before a0 Z = true) (ws : List Jvm.Cond) (q0 : Int64) (q1 : Int64) (q2 : Int64) (q3 : Int64) (q4 : Int64) (h0 : Heap) (n0 : Nat) (Z0 : n0 ≤ h0.size) :
    MetFree l x (head1 (Jvm.Cond.code x code maxLocals ret :: ws) room_1) (fun a U => a = #[(.long q0), (.long q1), (.long q2), (.long q3), (.long q4)] ∧ Z.Warmed39 U.vm ∧ U.heap = h0) (fun _ _ _ _ _ => True) (fun _ U o U' => ∃ v L, o = .returned v ∧ own_Q0 Z q0 q1 q2 q3 q4 h0 n0 v U'.heap L ∧ FrameEnd U o U' L room_1.cells room_1.slots) := by
  refine MetFree.of_bodySF (plainFor_of_name own_pn_rm0) hisR ?_
  intro p e s m args below meth c s₁ Bd hml0 hP hK
  obtain ⟨rfl, hZ, hh⟩ := hP
  have hx := Bd.exec
  have hby := Bd.bytes
  have hml : c.maxLocals = 19 := hml0
  have hown : s.vm.findClass "com/example/arcwise/arcwise/constraints/TableBudgetSpendPinLaw" = some m.cls := findClass_of_methodNamed Bd.named
  have hnm := (name_of_methodNamed Bd.named Bd.method).1
  have X0 : Stand p l e room_1 s m #[(.long q0), (.long q1), (.long q2), (.long q3), (.long q4)] below meth c s₁ [] 0 0 := Stand.of_body Bd
  have e0 : s₁.heap = h0 := by rw [← hh, Bd.state]; rfl
  have N0 := Fr.nil n0
  show own_End p e below s (own_Q0 Z q0 q1 q2 q3 q4 h0 n0) room_1.cells room_1.slots (s₁.setTop (entryFrame m #[(.long q0), (.long q1), (.long q2), (.long q3), (.long q4)] maxLocals))
  rw [own_ef_rm0]
  refine own_back (X0.ldc2Long hx hown (mvT hZ (hw _ (List.mem_of_getElem? (i := 0) rfl))) (g := (mkF m 0 #[.val (.long q0), .second, .val (.long q1), .second, .val (.long q2), .second, .val (.long q3), .second, .val (.long q4), .second, .unset, .unset, .unset, .unset, .unset, .unset, .unset, .unset, .unset] [])) rfl (hb hby at_0)) ?_
  show own_End p e below s _ _ _ (s₁.setTop (mkF m 3 #[.val (.long q0), .second, .val (.long q1), .second, .val (.long q2), .second, .val (.long q3), .second, .val (.long q4), .second, .unset, .unset, .unset, .unset, .unset, .unset, .unset, .unset, .unset] [(.long (67108864 : Int64))]))
  refine own_lstore X0 hx (hb hby at_3) (l' := #[.val (.long q0), .second, .val (.long q1), .second, .val (.long q2), .second, .val (.long q3), .second, .val (.long q4), .second, .val (.long (67108864 : Int64)), .second, .unset, .unset, .unset, .unset, .unset, .unset, .unset]) rfl (q := 5) rfl ?_
  obtain ⟨T21, h21, X21, e21, E21, A21, D21, -, st21⟩ := newO X0 hx hZ hown (hw _ (List.mem_of_getElem? (i := 1) rfl)) (hw _ (List.mem_of_getElem? (i := 2) rfl)) (hw _ (List.mem_of_getElem? (i := 3) rfl)) e0 (g := (mkF m 5 #[.val (.long q0), .second, .val (.long q1), .second, .val (.long q2), .second, .val (.long q3), .second, .val (.long q4), .second, .val (.long (67108864 : Int64)), .second, .unset, .unset, .unset, .unset, .unset, .unset, .unset] [])) rfl (hb hby at_5) (by decide) (by decide)
  obtain ⟨b21, g21⟩ : ∃ z, z = h0.size := ⟨_, rfl⟩
  have g_b21 : n0 ≤ b21 := Nat.le_trans Z0 (Nat.le_of_eq g21.symm)
  have Z22 := Nat.le_trans Z0 E21.1
  rw [← g21] at A21 D21 st21
  have F_b21_pairsLeft : Fld Z h21 b21 "com/example/arcwise/arcwise/constraints/TableBudget" "pairsLeft" "J" (.long (0 : Int64)) := D21 (Or.inl (hw _ (List.mem_of_getElem? (i := 12) rfl))) (ty := .long) (by decide)
  refine own_back st21 ?_
  show own_End p e below s _ _ _ (T21.setTop (mkF m 8 #[.val (.long q0), .second, .val (.long q1), .second, .val (.long q2), .second, .val (.long q3), .second, .val (.long q4), .second, .val (.long (67108864 : Int64)), .second, .unset, .unset, .unset, .unset, .unset, .unset, .unset] [(.ref b21)]))
  refine own_dup X21 hx (hb hby at_8) rfl (q := 9) rfl ?_
  obtain ⟨_, _, ⟨T23, L23, k23, n23⟩, -, X23, ⟨Lc23, hQ23, l23, y23, z23⟩, st23⟩ := X21.specialBack hx (y := (⟨"com/example/arcwise/arcwise/constraints/TableBudget", "<init>", "()V"⟩ : MethodName)) rfl hown (mvT hZ (hw _ (List.mem_of_getElem? (i := 4) rfl))) (mvT hZ (hw _ (List.mem_of_getElem? (i := 5) rfl))) (mvT hZ (hw _ (List.mem_of_getElem? (i := 6) rfl))) (by decide) (backOf (W := 1) (own_rm1 l Z a0 hw [] b21 (0 : Int64) h21 n0 Z22 A21 F_b21_pairsLeft g_b21) hZ (hw _ (List.mem_of_getElem? (i := 6) rfl)) (hw _ (List.mem_of_getElem? (i := 3) rfl)) (by decide) (by decide)) (g := (mkF m 9 #[.val (.long q0), .second, .val (.long q1), .second, .val (.long q2), .second, .val (.long q3), .second, .val (.long q4), .second, .val (.long (67108864 : Int64)), .second, .unset, .unset, .unset, .unset, .unset, .unset, .unset] [(.ref b21), (.ref b21)])) rfl (by rw [hml]; rfl) (Steps.refl _) (a := b21) (argsL := []) (rest := [(.ref b21)]) (lenOf own_pd0 rfl) rfl (by show 2 * 0 + _ ≤ _; exact Nat.le_of_eq rfl) (hb hby at_9) (fun _ _ => ⟨rfl, e21, (by decide : 1 + 0 ≤ _), (by decide : 1 + 0 ≤ _)⟩)
  dsimp only [Pt.U, Pt.locs, Pt.cells, Pt.slots] at X23 l23 y23 z23 st23 hQ23
  subst l23 y23 z23
  obtain ⟨rfl, N23q, K23, Q23_0, Q23_1⟩ := hQ23
  have N23 := Fr.app N0 N23q
  have A21_24 := A21.keep K23
  have Z25 := Nat.le_trans Z22 K23.1
  refine own_via st23 ?_
  show own_End p e below s _ _ _ (T23.setTop (mkF m 12 #[.val (.long q0), .second, .val (.long q1), .second, .val (.long q2), .second, .val (.long q3), .second, .val (.long q4), .second, .val (.long (67108864 : Int64)), .second, .unset, .unset, .unset, .unset, .unset, .unset, .unset] [(.ref b21)]))
  refine own_astore X23 hx (hb hby at_12) rfl (l' := #[.val (.long q0), .second, .val (.long q1), .second, .val (.long q2), .second, .val (.long q3), .second, .val (.long q4), .second, .val (.long (67108864 : Int64)), .second, .val (.ref b21), .unset, .unset, .unset, .unset, .unset, .unset]) rfl (q := 14) rfl ?_
  refine own_iconst X23 hx (hb hby at_14) (z := 1) rfl (q := 15) rfl ?_
  refine own_istore X23 hx (hb hby at_15) (l' := #[.val (.long q0), .second, .val (.long q1), .second, .val (.long q2), .second, .val (.long q3), .second, .val (.long q4), .second, .val (.long (67108864 : Int64)), .second, .val (.ref b21), .val (.int (1 : Int32)), .unset, .unset, .unset, .unset, .unset]) rfl (q := 17) rfl ?_
  refine own_lloadN X23 hx (hb hby at_17) rfl (q := 18) rfl ?_
  refine own_back (X23.ldc2Long hx hown (mvT hZ (hw _ (List.mem_of_getElem? (i := 13) rfl))) (g := (mkF m 18 #[.val (.long q0), .second, .val (.long q1), .second, .val (.long q2), .second, .val (.long q3), .second, .val (.long q4), .second, .val (.long (67108864 : Int64)), .second, .val (.ref b21), .val (.int (1 : Int32)), .unset, .unset, .unset, .unset, .unset] [(.long q0)])) rfl (hb hby at_18)) ?_
  show own_End p e below s _ _ _ (T23.setTop (mkF m 21 #[.val (.long q0), .second, .val (.long q1), .second, .val (.long q2), .second, .val (.long q3), .second, .val (.long q4), .second, .val (.long (67108864 : Int64)), .second, .val (.ref b21), .val (.int (1 : Int32)), .unset, .unset, .unset, .unset, .unset] [(.long (65536 : Int64)), (.long q0)]))
  refine own_lload X23 hx (hb hby at_21) rfl (q := 23) rfl ?_
  obtain ⟨_, _, ⟨T26, L26, k26, n26⟩, -, X26, ⟨Lc26, hQ26, l26, y26, z26⟩, st26⟩ := Jvm.LawKit.callS X23 hx (y := (⟨"java/lang/Math", "min", "(JJ)J"⟩ : MethodName)) hown (mvT hZ (hw _ (List.mem_of_getElem? (i := 14) rfl))) (mvT hZ (hw _ (List.mem_of_getElem? (i := 15) rfl))) (mvT hZ (hw _ (List.mem_of_getElem? (i := 16) rfl))) (mvT hZ (hw _ (List.mem_of_getElem? (i := 17) rfl))) (by decide) (backOf (W := 2) (own_rm3 l Z a0 hw [] (65536 : Int64) (67108864 : Int64) T23.heap n0 Z25 ) hZ (hw _ (List.mem_of_getElem? (i := 17) rfl)) (hw _ (List.mem_of_getElem? (i := 16) rfl)) (by decide) (by decide)) (g := (mkF m 23 #[.val (.long q0), .second, .val (.long q1), .second, .val (.long q2), .second, .val (.long q3), .second, .val (.long q4), .second, .val (.long (67108864 : Int64)), .second, .val (.ref b21), .val (.int (1 : Int32)), .unset, .unset, .unset, .unset, .unset] [(.long (67108864 : Int64)), (.long (65536 : Int64)), (.long q0)])) rfl (by rw [hml]; rfl) (argsL := [(.long (65536 : Int64)), (.long (67108864 : Int64))]) (rest := [(.long q0)]) (lenOf own_pd1 rfl) rfl (by show 2 * 0 + _ ≤ _; exact Nat.le_of_eq rfl) (hb hby at_23) (fun _ _ => ⟨rfl, rfl, (by decide : 1 + 0 ≤ _), (by decide : 1 + 0 ≤ _)⟩)
  dsimp only [Pt.U, Pt.locs, Pt.cells, Pt.slots] at X26 l26 y26 z26 st26 hQ26
  subst l26 y26 z26
  obtain ⟨rfl, N26q, e26⟩ := hQ26
  have N26 := Fr.app N23 N26q
  refine own_back st26 ?_
  show own_End p e below s _ _ _ (T26.setTop (mkF m 26 #[.val (.long q0), .second, .val (.long q1), .second, .val (.long q2), .second, .val (.long q3), .second, .val (.long q4), .second, .val (.long (67108864 : Int64)), .second, .val (.ref b21), .val (.int (1 : Int32)), .unset, .unset, .unset, .unset, .unset] [(.long (own_F3 (65536 : Int64) (67108864 : Int64))), (.long q0)]))
  suffices J30 : own_End p e below s (own_Q0 Z q0 q1 q2 q3 q4 h0 n0) room_1.cells room_1.slots (T26.setTop (mkF m 35 #[.val (.long q0), .second, .val (.long q1), .second, .val (.long q2), .second, .val (.long q3), .second, .val (.long q4), .second, .val (.long (67108864 : Int64)), .second, .val (.ref b21), .val (.int (1 : Int32)), .unset, .unset, .unset, .unset, .unset] [(.int (own_M0_27 q0))])) by
    by_cases hc27_27 : (own_F3 (65536 : Int64) (67108864 : Int64)) < q0
    · refine own_lcY X26 hx (hb hby at_26) (r := 27) rfl (hb hby at_27) (own_tlt hc27_27).2.2.1 (q := 34) (by decide) (by decide) ?_
      refine own_iconst X26 hx (hb hby at_34) (z := 0) rfl (q := 35) rfl ?_
      simp only [own_M0_27, if_pos hc27_27] at J30
      exact J30
    · refine own_lcN X26 hx (hb hby at_26) (r := 27) rfl (hb hby at_27) (own_flt hc27_27).2.2.1 (q := 30) rfl ?_
      refine own_iconst X26 hx (hb hby at_30) (z := 1) rfl (q := 31) rfl ?_
      refine own_goto X26 hx (hb hby at_31) (q := 35) (by decide) (by decide) ?_
      simp only [own_M0_27, if_neg hc27_27] at J30
      exact J30
  refine own_istore X26 hx (hb hby at_35) (l' := #[.val (.long q0), .second, .val (.long q1), .second, .val (.long q2), .second, .val (.long q3), .second, .val (.long q4), .second, .val (.long (67108864 : Int64)), .second, .val (.ref b21), .val (.int (1 : Int32)), .val (.int (own_M0_27 q0)), .unset, .unset, .unset, .unset]) rfl (q := 37) rfl ?_
  refine own_iload X26 hx (hb hby at_37) rfl (q := 39) rfl ?_
  suffices J34 : own_End p e below s (own_Q0 Z q0 q1 q2 q3 q4 h0 n0) room_1.cells room_1.slots (T26.setTop (mkF m 48 #[.val (.long q0), .second, .val (.long q1), .second, .val (.long q2), .second, .val (.long q3), .second, .val (.long q4), .second, .val (.long (own_M0_39 q0)), .second, .val (.ref b21), .val (.int (1 : Int32)), .val (.int (own_M0_27 q0)), .unset, .unset, .unset, .unset] [])) by
    by_cases hc39_31 : (own_M0_27 q0) = (0 : Int32)
    · refine own_ifY X26 hx (hb hby at_39) (teq hc39_31).1 (q := 48) (by decide) (by decide) ?_
      simp only [own_M0_39, if_pos hc39_31] at J34
      exact J34
    · refine own_ifN X26 hx (hb hby at_39) (feq hc39_31).1 (q := 42) rfl ?_
      refine own_lload X26 hx (hb hby at_42) rfl (q := 44) rfl ?_
      refine own_lloadN X26 hx (hb hby at_44) rfl (q := 45) rfl ?_
      refine own_lsub X26 hx (hb hby at_45) (q := 46) rfl ?_
      refine own_lstore X26 hx (hb hby at_46) (l' := #[.val (.long q0), .second, .val (.long q1), .second, .val (.long q2), .second, .val (.long q3), .second, .val (.long q4), .second, .val (.long ((67108864 : Int64) - q0)), .second, .val (.ref b21), .val (.int (1 : Int32)), .val (.int (own_M0_27 q0)), .unset, .unset, .unset, .unset]) rfl (q := 48) rfl ?_
      simp only [own_M0_39, if_neg hc39_31] at J34
      exact J34
  refine own_iload X26 hx (hb hby at_48) rfl (q := 50) rfl ?_
  refine own_ifN X26 hx (hb hby at_50) (feq (by decide : ¬ ((1 : Int32) = (0 : Int32)))).1 (q := 53) rfl ?_
  refine own_aload X26 hx (hb hby at_53) rfl rfl (q := 55) rfl ?_
  refine own_lloadN X26 hx (hb hby at_55) rfl (q := 56) rfl ?_
  obtain ⟨cq35, kq35, q35a, q35b, q35c⟩ := isOf hZ e26 Q23_0
  obtain ⟨_, _, ⟨T35, L35, k35, n35⟩, -, X35, ⟨Lc35, hQ35, l35, y35, z35⟩, st35⟩ := X26.virtualBack hx (y := (⟨"com/example/arcwise/arcwise/constraints/TableBudget", "spend", "(J)Z"⟩ : MethodName)) (z := (⟨"com/example/arcwise/arcwise/constraints/TableBudget", "spend", "(J)Z"⟩ : MethodName)) hown (mvT hZ (hw _ (List.mem_of_getElem? (i := 18) rfl))) (mvT hZ (hw _ (List.mem_of_getElem? (i := 19) rfl))) (notFace_of_selects (args := #[]) (mvT hZ (hw _ (List.mem_of_getElem? (i := 21) rfl)))) (mvT hZ (hw _ (List.mem_of_getElem? (i := 21) rfl))) (mvT hZ (hw _ (List.mem_of_getElem? (i := 20) rfl))) (by decide) (backOf (W := 0) (own_rm4 l Z a0 hw [] b21 q0 (67108864 : Int64) T23.heap n0 Z25 Q23_0 Q23_1 g_b21) hZ (hw _ (List.mem_of_getElem? (i := 22) rfl)) (hw _ (List.mem_of_getElem? (i := 3) rfl)) (by decide) (by decide)) q35a q35c (g := (mkF m 56 #[.val (.long q0), .second, .val (.long q1), .second, .val (.long q2), .second, .val (.long q3), .second, .val (.long q4), .second, .val (.long (own_M0_39 q0)), .second, .val (.ref b21), .val (.int (1 : Int32)), .val (.int (own_M0_27 q0)), .unset, .unset, .unset, .unset] [(.long q0), (.ref b21)])) rfl (by rw [hml]; rfl) (Steps.refl _) (argsL := [(.long q0)]) (rest := []) (lenOf own_pd2 rfl) rfl (by show 2 * 0 + _ ≤ _; exact Nat.le_of_eq rfl) (hb hby at_56) (fun _ _ => ⟨rfl, e26, (by decide : 1 + 0 ≤ _), (by decide : 1 + 0 ≤ _)⟩)
  dsimp only [Pt.U, Pt.locs, Pt.cells, Pt.slots] at X35 l35 y35 z35 st35 hQ35
  subst l35 y35 z35
  obtain ⟨rfl, N35q, K35, Q35_0, Q35_1⟩ := hQ35
  have N35 := Fr.app N26 N35q
  have Q23_36 := Q23_0.keep K35
  have Z37 := Nat.le_trans Z25 K35.1
  refine own_via st35 ?_
  show own_End p e below s _ _ _ (T35.setTop (mkF m 59 #[.val (.long q0), .second, .val (.long q1), .second, .val (.long q2), .second, .val (.long q3), .second, .val (.long q4), .second, .val (.long (own_M0_39 q0)), .second, .val (.ref b21), .val (.int (1 : Int32)), .val (.int (own_M0_27 q0)), .unset, .unset, .unset, .unset] [(.int (own_F4 q0 (67108864 : Int64)))]))
  refine own_iload X35 hx (hb hby at_59) rfl (q := 61) rfl ?_
  have hk38 : (own_F4 q0 (67108864 : Int64)) = (own_M0_27 q0) := by rw [own_M0_27]; exact own_sp _ _
  refine own_icN X35 hx (hb hby at_61) (teq hk38).2 (q := 64) rfl ?_
  refine own_iconst X35 hx (hb hby at_64) (z := 1) rfl (q := 65) rfl ?_
  refine own_goto X35 hx (hb hby at_65) (q := 69) (by decide) (by decide) ?_
  refine own_istore X35 hx (hb hby at_69) (l' := #[.val (.long q0), .second, .val (.long q1), .second, .val (.long q2), .second, .val (.long q3), .second, .val (.long q4), .second, .val (.long (own_M0_39 q0)), .second, .val (.ref b21), .val (.int (1 : Int32)), .val (.int (own_M0_27 q0)), .unset, .unset, .unset, .unset]) rfl (q := 71) rfl ?_
  refine own_lloadN X35 hx (hb hby at_71) rfl (q := 72) rfl ?_
  refine own_back (X35.ldc2Long hx hown (mvT hZ (hw _ (List.mem_of_getElem? (i := 13) rfl))) (g := (mkF m 72 #[.val (.long q0), .second, .val (.long q1), .second, .val (.long q2), .second, .val (.long q3), .second, .val (.long q4), .second, .val (.long (own_M0_39 q0)), .second, .val (.ref b21), .val (.int (1 : Int32)), .val (.int (own_M0_27 q0)), .unset, .unset, .unset, .unset] [(.long q1)])) rfl (hb hby at_72)) ?_
  show own_End p e below s _ _ _ (T35.setTop (mkF m 75 #[.val (.long q0), .second, .val (.long q1), .second, .val (.long q2), .second, .val (.long q3), .second, .val (.long q4), .second, .val (.long (own_M0_39 q0)), .second, .val (.ref b21), .val (.int (1 : Int32)), .val (.int (own_M0_27 q0)), .unset, .unset, .unset, .unset] [(.long (65536 : Int64)), (.long q1)]))
  refine own_lload X35 hx (hb hby at_75) rfl (q := 77) rfl ?_
  obtain ⟨_, _, ⟨T39, L39, k39, n39⟩, -, X39, ⟨Lc39, hQ39, l39, y39, z39⟩, st39⟩ := Jvm.LawKit.callS X35 hx (y := (⟨"java/lang/Math", "min", "(JJ)J"⟩ : MethodName)) hown (mvT hZ (hw _ (List.mem_of_getElem? (i := 14) rfl))) (mvT hZ (hw _ (List.mem_of_getElem? (i := 15) rfl))) (mvT hZ (hw _ (List.mem_of_getElem? (i := 16) rfl))) (mvT hZ (hw _ (List.mem_of_getElem? (i := 17) rfl))) (by decide) (backOf (W := 2) (own_rm3 l Z a0 hw [] (65536 : Int64) (own_M0_39 q0) T35.heap n0 Z37 ) hZ (hw _ (List.mem_of_getElem? (i := 17) rfl)) (hw _ (List.mem_of_getElem? (i := 16) rfl)) (by decide) (by decide)) (g := (mkF m 77 #[.val (.long q0), .second, .val (.long q1), .second, .val (.long q2), .second, .val (.long q3), .second, .val (.long q4), .second, .val (.long (own_M0_39 q0)), .second, .val (.ref b21), .val (.int (1 : Int32)), .val (.int (own_M0_27 q0)), .unset, .unset, .unset, .unset] [(.long (own_M0_39 q0)), (.long (65536 : Int64)), (.long q1)])) rfl (by rw [hml]; rfl) (argsL := [(.long (65536 : Int64)), (.long (own_M0_39 q0))]) (rest := [(.long q1)]) (lenOf own_pd1 rfl) rfl (by show 2 * 0 + _ ≤ _; exact Nat.le_of_eq rfl) (hb hby at_77) (fun _ _ => ⟨rfl, rfl, (by decide : 1 + 0 ≤ _), (by decide : 1 + 0 ≤ _)⟩)
  dsimp only [Pt.U, Pt.locs, Pt.cells, Pt.slots] at X39 l39 y39 z39 st39 hQ39
  subst l39 y39 z39
  obtain ⟨rfl, N39q, e39⟩ := hQ39
  have N39 := Fr.app N35 N39q
  refine own_back st39 ?_
  show own_End p e below s _ _ _ (T39.setTop (mkF m 80 #[.val (.long q0), .second, .val (.long q1), .second, .val (.long q2), .second, .val (.long q3), .second, .val (.long q4), .second, .val (.long (own_M0_39 q0)), .second, .val (.ref b21), .val (.int (1 : Int32)), .val (.int (own_M0_27 q0)), .unset, .unset, .unset, .unset] [(.long (own_F3 (65536 : Int64) (own_M0_39 q0))), (.long q1)]))
  suffices J43 : own_End p e below s (own_Q0 Z q0 q1 q2 q3 q4 h0 n0) room_1.cells room_1.slots (T39.setTop (mkF m 89 #[.val (.long q0), .second, .val (.long q1), .second, .val (.long q2), .second, .val (.long q3), .second, .val (.long q4), .second, .val (.long (own_M0_39 q0)), .second, .val (.ref b21), .val (.int (1 : Int32)), .val (.int (own_M0_27 q0)), .unset, .unset, .unset, .unset] [(.int (own_M0_81 q0 q1))])) by
    by_cases hc81_40 : (own_F3 (65536 : Int64) (own_M0_39 q0)) < q1
    · refine own_lcY X39 hx (hb hby at_80) (r := 81) rfl (hb hby at_81) (own_tlt hc81_40).2.2.1 (q := 88) (by decide) (by decide) ?_
      refine own_iconst X39 hx (hb hby at_88) (z := 0) rfl (q := 89) rfl ?_
      simp only [own_M0_81, if_pos hc81_40] at J43
      exact J43
    · refine own_lcN X39 hx (hb hby at_80) (r := 81) rfl (hb hby at_81) (own_flt hc81_40).2.2.1 (q := 84) rfl ?_
      refine own_iconst X39 hx (hb hby at_84) (z := 1) rfl (q := 85) rfl ?_
      refine own_goto X39 hx (hb hby at_85) (q := 89) (by decide) (by decide) ?_
      simp only [own_M0_81, if_neg hc81_40] at J43
      exact J43
  refine own_istore X39 hx (hb hby at_89) (l' := #[.val (.long q0), .second, .val (.long q1), .second, .val (.long q2), .second, .val (.long q3), .second, .val (.long q4), .second, .val (.long (own_M0_39 q0)), .second, .val (.ref b21), .val (.int (1 : Int32)), .val (.int (own_M0_27 q0)), .val (.int (own_M0_81 q0 q1)), .unset, .unset, .unset]) rfl (q := 91) rfl ?_
  refine own_iload X39 hx (hb hby at_91) rfl (q := 93) rfl ?_
  suffices J47 : own_End p e below s (own_Q0 Z q0 q1 q2 q3 q4 h0 n0) room_1.cells room_1.slots (T39.setTop (mkF m 102 #[.val (.long q0), .second, .val (.long q1), .second, .val (.long q2), .second, .val (.long q3), .second, .val (.long q4), .second, .val (.long (own_M0_93 q0 q1)), .second, .val (.ref b21), .val (.int (1 : Int32)), .val (.int (own_M0_27 q0)), .val (.int (own_M0_81 q0 q1)), .unset, .unset, .unset] [])) by
    by_cases hc93_44 : (own_M0_81 q0 q1) = (0 : Int32)
    · refine own_ifY X39 hx (hb hby at_93) (teq hc93_44).1 (q := 102) (by decide) (by decide) ?_
      simp only [own_M0_93, if_pos hc93_44] at J47
      exact J47
    · refine own_ifN X39 hx (hb hby at_93) (feq hc93_44).1 (q := 96) rfl ?_
      refine own_lload X39 hx (hb hby at_96) rfl (q := 98) rfl ?_
      refine own_lloadN X39 hx (hb hby at_98) rfl (q := 99) rfl ?_
      refine own_lsub X39 hx (hb hby at_99) (q := 100) rfl ?_
      refine own_lstore X39 hx (hb hby at_100) (l' := #[.val (.long q0), .second, .val (.long q1), .second, .val (.long q2), .second, .val (.long q3), .second, .val (.long q4), .second, .val (.long ((own_M0_39 q0) - q1)), .second, .val (.ref b21), .val (.int (1 : Int32)), .val (.int (own_M0_27 q0)), .val (.int (own_M0_81 q0 q1)), .unset, .unset, .unset]) rfl (q := 102) rfl ?_
      simp only [own_M0_93, if_neg hc93_44] at J47
      exact J47
  refine own_iload X39 hx (hb hby at_102) rfl (q := 104) rfl ?_
  refine own_ifN X39 hx (hb hby at_104) (feq (by decide : ¬ ((1 : Int32) = (0 : Int32)))).1 (q := 107) rfl ?_
  refine own_aload X39 hx (hb hby at_107) rfl rfl (q := 109) rfl ?_
  refine own_lloadN X39 hx (hb hby at_109) rfl (q := 110) rfl ?_
  obtain ⟨cq48, kq48, q48a, q48b, q48c⟩ := isOf hZ e39 Q35_0
  obtain ⟨_, _, ⟨T48, L48, k48, n48⟩, -, X48, ⟨Lc48, hQ48, l48, y48, z48⟩, st48⟩ := X39.virtualBack hx (y := (⟨"com/example/arcwise/arcwise/constraints/TableBudget", "spend", "(J)Z"⟩ : MethodName)) (z := (⟨"com/example/arcwise/arcwise/constraints/TableBudget", "spend", "(J)Z"⟩ : MethodName)) hown (mvT hZ (hw _ (List.mem_of_getElem? (i := 18) rfl))) (mvT hZ (hw _ (List.mem_of_getElem? (i := 19) rfl))) (notFace_of_selects (args := #[]) (mvT hZ (hw _ (List.mem_of_getElem? (i := 21) rfl)))) (mvT hZ (hw _ (List.mem_of_getElem? (i := 21) rfl))) (mvT hZ (hw _ (List.mem_of_getElem? (i := 20) rfl))) (by decide) (backOf (W := 0) (own_rm4 l Z a0 hw [] b21 q1 (own_G4_pairsLeft q0 (67108864 : Int64)) T35.heap n0 Z37 Q35_0 Q35_1 g_b21) hZ (hw _ (List.mem_of_getElem? (i := 22) rfl)) (hw _ (List.mem_of_getElem? (i := 3) rfl)) (by decide) (by decide)) q48a q48c (g := (mkF m 110 #[.val (.long q0), .second, .val (.long q1), .second, .val (.long q2), .second, .val (.long q3), .second, .val (.long q4), .second, .val (.long (own_M0_93 q0 q1)), .second, .val (.ref b21), .val (.int (1 : Int32)), .val (.int (own_M0_27 q0)), .val (.int (own_M0_81 q0 q1)), .unset, .unset, .unset] [(.long q1), (.ref b21)])) rfl (by rw [hml]; rfl) (Steps.refl _) (argsL := [(.long q1)]) (rest := []) (lenOf own_pd2 rfl) rfl (by show 2 * 0 + _ ≤ _; exact Nat.le_of_eq rfl) (hb hby at_110) (fun _ _ => ⟨rfl, e39, (by decide : 1 + 0 ≤ _), (by decide : 1 + 0 ≤ _)⟩)
  dsimp only [Pt.U, Pt.locs, Pt.cells, Pt.slots] at X48 l48 y48 z48 st48 hQ48
  subst l48 y48 z48
  obtain ⟨rfl, N48q, K48, Q48_0, Q48_1⟩ := hQ48
  have N48 := Fr.app N39 N48q
  have Q35_49 := Q35_0.keep K48
  have Z50 := Nat.le_trans Z37 K48.1
  refine own_via st48 ?_
  show own_End p e below s _ _ _ (T48.setTop (mkF m 113 #[.val (.long q0), .second, .val (.long q1), .second, .val (.long q2), .second, .val (.long q3), .second, .val (.long q4), .second, .val (.long (own_M0_93 q0 q1)), .second, .val (.ref b21), .val (.int (1 : Int32)), .val (.int (own_M0_27 q0)), .val (.int (own_M0_81 q0 q1)), .unset, .unset, .unset] [(.int (own_F4 q1 (own_G4_pairsLeft q0 (67108864 : Int64))))]))
  refine own_iload X48 hx (hb hby at_113) rfl (q := 115) rfl ?_
  have hk51 : (own_F4 q1 (own_G4_pairsLeft q0 (67108864 : Int64))) = (own_M0_81 q0 q1) := by rw [own_M0_81, own_M0_39, own_M0_27, own_lf]; exact own_sp _ _
  refine own_icN X48 hx (hb hby at_115) (teq hk51).2 (q := 118) rfl ?_
  refine own_iconst X48 hx (hb hby at_118) (z := 1) rfl (q := 119) rfl ?_
  refine own_goto X48 hx (hb hby at_119) (q := 123) (by decide) (by decide) ?_
  refine own_istore X48 hx (hb hby at_123) (l' := #[.val (.long q0), .second, .val (.long q1), .second, .val (.long q2), .second, .val (.long q3), .second, .val (.long q4), .second, .val (.long (own_M0_93 q0 q1)), .second, .val (.ref b21), .val (.int (1 : Int32)), .val (.int (own_M0_27 q0)), .val (.int (own_M0_81 q0 q1)), .unset, .unset, .unset]) rfl (q := 125) rfl ?_
  refine own_lload X48 hx (hb hby at_125) rfl (q := 127) rfl ?_
  refine own_back (X48.ldc2Long hx hown (mvT hZ (hw _ (List.mem_of_getElem? (i := 13) rfl))) (g := (mkF m 127 #[.val (.long q0), .second, .val (.long q1), .second, .val (.long q2), .second, .val (.long q3), .second, .val (.long q4), .second, .val (.long (own_M0_93 q0 q1)), .second, .val (.ref b21), .val (.int (1 : Int32)), .val (.int (own_M0_27 q0)), .val (.int (own_M0_81 q0 q1)), .unset, .unset, .unset] [(.long q2)])) rfl (hb hby at_127)) ?_
  show own_End p e below s _ _ _ (T48.setTop (mkF m 130 #[.val (.long q0), .second, .val (.long q1), .second, .val (.long q2), .second, .val (.long q3), .second, .val (.long q4), .second, .val (.long (own_M0_93 q0 q1)), .second, .val (.ref b21), .val (.int (1 : Int32)), .val (.int (own_M0_27 q0)), .val (.int (own_M0_81 q0 q1)), .unset, .unset, .unset] [(.long (65536 : Int64)), (.long q2)]))
  refine own_lload X48 hx (hb hby at_130) rfl (q := 132) rfl ?_
  obtain ⟨_, _, ⟨T52, L52, k52, n52⟩, -, X52, ⟨Lc52, hQ52, l52, y52, z52⟩, st52⟩ := Jvm.LawKit.callS X48 hx (y := (⟨"java/lang/Math", "min", "(JJ)J"⟩ : MethodName)) hown (mvT hZ (hw _ (List.mem_of_getElem? (i := 14) rfl))) (mvT hZ (hw _ (List.mem_of_getElem? (i := 15) rfl))) (mvT hZ (hw _ (List.mem_of_getElem? (i := 16) rfl))) (mvT hZ (hw _ (List.mem_of_getElem? (i := 17) rfl))) (by decide) (backOf (W := 2) (own_rm3 l Z a0 hw [] (65536 : Int64) (own_M0_93 q0 q1) T48.heap n0 Z50 ) hZ (hw _ (List.mem_of_getElem? (i := 17) rfl)) (hw _ (List.mem_of_getElem? (i := 16) rfl)) (by decide) (by decide)) (g := (mkF m 132 #[.val (.long q0), .second, .val (.long q1), .second, .val (.long q2), .second, .val (.long q3), .second, .val (.long q4), .second, .val (.long (own_M0_93 q0 q1)), .second, .val (.ref b21), .val (.int (1 : Int32)), .val (.int (own_M0_27 q0)), .val (.int (own_M0_81 q0 q1)), .unset, .unset, .unset] [(.long (own_M0_93 q0 q1)), (.long (65536 : Int64)), (.long q2)])) rfl (by rw [hml]; rfl) (argsL := [(.long (65536 : Int64)), (.long (own_M0_93 q0 q1))]) (rest := [(.long q2)]) (lenOf own_pd1 rfl) rfl (by show 2 * 0 + _ ≤ _; exact Nat.le_of_eq rfl) (hb hby at_132) (fun _ _ => ⟨rfl, rfl, (by decide : 1 + 0 ≤ _), (by decide : 1 + 0 ≤ _)⟩)
  dsimp only [Pt.U, Pt.locs, Pt.cells, Pt.slots] at X52 l52 y52 z52 st52 hQ52
  subst l52 y52 z52
  obtain ⟨rfl, N52q, e52⟩ := hQ52
  have N52 := Fr.app N48 N52q
  refine own_back st52 ?_
  show own_End p e below s _ _ _ (T52.setTop (mkF m 135 #[.val (.long q0), .second, .val (.long q1), .second, .val (.long q2), .second, .val (.long q3), .second, .val (.long q4), .second, .val (.long (own_M0_93 q0 q1)), .second, .val (.ref b21), .val (.int (1 : Int32)), .val (.int (own_M0_27 q0)), .val (.int (own_M0_81 q0 q1)), .unset, .unset, .unset] [(.long (own_F3 (65536 : Int64) (own_M0_93 q0 q1))), (.long q2)]))
  suffices J56 : own_End p e below s (own_Q0 Z q0 q1 q2 q3 q4 h0 n0) room_1.cells room_1.slots (T52.setTop (mkF m 144 #[.val (.long q0), .second, .val (.long q1), .second, .val (.long q2), .second, .val (.long q3), .second, .val (.long q4), .second, .val (.long (own_M0_93 q0 q1)), .second, .val (.ref b21), .val (.int (1 : Int32)), .val (.int (own_M0_27 q0)), .val (.int (own_M0_81 q0 q1)), .unset, .unset, .unset] [(.int (own_M0_136 q0 q1 q2))])) by
    by_cases hc136_53 : (own_F3 (65536 : Int64) (own_M0_93 q0 q1)) < q2
    · refine own_lcY X52 hx (hb hby at_135) (r := 136) rfl (hb hby at_136) (own_tlt hc136_53).2.2.1 (q := 143) (by decide) (by decide) ?_
      refine own_iconst X52 hx (hb hby at_143) (z := 0) rfl (q := 144) rfl ?_
      simp only [own_M0_136, if_pos hc136_53] at J56
      exact J56
    · refine own_lcN X52 hx (hb hby at_135) (r := 136) rfl (hb hby at_136) (own_flt hc136_53).2.2.1 (q := 139) rfl ?_
      refine own_iconst X52 hx (hb hby at_139) (z := 1) rfl (q := 140) rfl ?_
      refine own_goto X52 hx (hb hby at_140) (q := 144) (by decide) (by decide) ?_
      simp only [own_M0_136, if_neg hc136_53] at J56
      exact J56
  refine own_istore X52 hx (hb hby at_144) (l' := #[.val (.long q0), .second, .val (.long q1), .second, .val (.long q2), .second, .val (.long q3), .second, .val (.long q4), .second, .val (.long (own_M0_93 q0 q1)), .second, .val (.ref b21), .val (.int (1 : Int32)), .val (.int (own_M0_27 q0)), .val (.int (own_M0_81 q0 q1)), .val (.int (own_M0_136 q0 q1 q2)), .unset, .unset]) rfl (q := 146) rfl ?_
  refine own_iload X52 hx (hb hby at_146) rfl (q := 148) rfl ?_
  suffices J60 : own_End p e below s (own_Q0 Z q0 q1 q2 q3 q4 h0 n0) room_1.cells room_1.slots (T52.setTop (mkF m 158 #[.val (.long q0), .second, .val (.long q1), .second, .val (.long q2), .second, .val (.long q3), .second, .val (.long q4), .second, .val (.long (own_M0_148 q0 q1 q2)), .second, .val (.ref b21), .val (.int (1 : Int32)), .val (.int (own_M0_27 q0)), .val (.int (own_M0_81 q0 q1)), .val (.int (own_M0_136 q0 q1 q2)), .unset, .unset] [])) by
    by_cases hc148_57 : (own_M0_136 q0 q1 q2) = (0 : Int32)
    · refine own_ifY X52 hx (hb hby at_148) (teq hc148_57).1 (q := 158) (by decide) (by decide) ?_
      simp only [own_M0_148, if_pos hc148_57] at J60
      exact J60
    · refine own_ifN X52 hx (hb hby at_148) (feq hc148_57).1 (q := 151) rfl ?_
      refine own_lload X52 hx (hb hby at_151) rfl (q := 153) rfl ?_
      refine own_lload X52 hx (hb hby at_153) rfl (q := 155) rfl ?_
      refine own_lsub X52 hx (hb hby at_155) (q := 156) rfl ?_
      refine own_lstore X52 hx (hb hby at_156) (l' := #[.val (.long q0), .second, .val (.long q1), .second, .val (.long q2), .second, .val (.long q3), .second, .val (.long q4), .second, .val (.long ((own_M0_93 q0 q1) - q2)), .second, .val (.ref b21), .val (.int (1 : Int32)), .val (.int (own_M0_27 q0)), .val (.int (own_M0_81 q0 q1)), .val (.int (own_M0_136 q0 q1 q2)), .unset, .unset]) rfl (q := 158) rfl ?_
      simp only [own_M0_148, if_neg hc148_57] at J60
      exact J60
  refine own_iload X52 hx (hb hby at_158) rfl (q := 160) rfl ?_
  refine own_ifN X52 hx (hb hby at_160) (feq (by decide : ¬ ((1 : Int32) = (0 : Int32)))).1 (q := 163) rfl ?_
  refine own_aload X52 hx (hb hby at_163) rfl rfl (q := 165) rfl ?_
  refine own_lload X52 hx (hb hby at_165) rfl (q := 167) rfl ?_
  obtain ⟨cq61, kq61, q61a, q61b, q61c⟩ := isOf hZ e52 Q48_0
  obtain ⟨_, _, ⟨T61, L61, k61, n61⟩, -, X61, ⟨Lc61, hQ61, l61, y61, z61⟩, st61⟩ := X52.virtualBack hx (y := (⟨"com/example/arcwise/arcwise/constraints/TableBudget", "spend", "(J)Z"⟩ : MethodName)) (z := (⟨"com/example/arcwise/arcwise/constraints/TableBudget", "spend", "(J)Z"⟩ : MethodName)) hown (mvT hZ (hw _ (List.mem_of_getElem? (i := 18) rfl))) (mvT hZ (hw _ (List.mem_of_getElem? (i := 19) rfl))) (notFace_of_selects (args := #[]) (mvT hZ (hw _ (List.mem_of_getElem? (i := 21) rfl)))) (mvT hZ (hw _ (List.mem_of_getElem? (i := 21) rfl))) (mvT hZ (hw _ (List.mem_of_getElem? (i := 20) rfl))) (by decide) (backOf (W := 0) (own_rm4 l Z a0 hw [] b21 q2 (own_G4_pairsLeft q1 (own_G4_pairsLeft q0 (67108864 : Int64))) T48.heap n0 Z50 Q48_0 Q48_1 g_b21) hZ (hw _ (List.mem_of_getElem? (i := 22) rfl)) (hw _ (List.mem_of_getElem? (i := 3) rfl)) (by decide) (by decide)) q61a q61c (g := (mkF m 167 #[.val (.long q0), .second, .val (.long q1), .second, .val (.long q2), .second, .val (.long q3), .second, .val (.long q4), .second, .val (.long (own_M0_148 q0 q1 q2)), .second, .val (.ref b21), .val (.int (1 : Int32)), .val (.int (own_M0_27 q0)), .val (.int (own_M0_81 q0 q1)), .val (.int (own_M0_136 q0 q1 q2)), .unset, .unset] [(.long q2), (.ref b21)])) rfl (by rw [hml]; rfl) (Steps.refl _) (argsL := [(.long q2)]) (rest := []) (lenOf own_pd2 rfl) rfl (by show 2 * 0 + _ ≤ _; exact Nat.le_of_eq rfl) (hb hby at_167) (fun _ _ => ⟨rfl, e52, (by decide : 1 + 0 ≤ _), (by decide : 1 + 0 ≤ _)⟩)
  dsimp only [Pt.U, Pt.locs, Pt.cells, Pt.slots] at X61 l61 y61 z61 st61 hQ61
  subst l61 y61 z61
  obtain ⟨rfl, N61q, K61, Q61_0, Q61_1⟩ := hQ61
  have N61 := Fr.app N52 N61q
  have Q48_62 := Q48_0.keep K61
  have Z63 := Nat.le_trans Z50 K61.1
  refine own_via st61 ?_
  show own_End p e below s _ _ _ (T61.setTop (mkF m 170 #[.val (.long q0), .second, .val (.long q1), .second, .val (.long q2), .second, .val (.long q3), .second, .val (.long q4), .second, .val (.long (own_M0_148 q0 q1 q2)), .second, .val (.ref b21), .val (.int (1 : Int32)), .val (.int (own_M0_27 q0)), .val (.int (own_M0_81 q0 q1)), .val (.int (own_M0_136 q0 q1 q2)), .unset, .unset] [(.int (own_F4 q2 (own_G4_pairsLeft q1 (own_G4_pairsLeft q0 (67108864 : Int64)))))]))
  refine own_iload X61 hx (hb hby at_170) rfl (q := 172) rfl ?_
  have hk64 : (own_F4 q2 (own_G4_pairsLeft q1 (own_G4_pairsLeft q0 (67108864 : Int64)))) = (own_M0_136 q0 q1 q2) := by rw [own_M0_136, own_M0_93, own_M0_81, own_M0_39, own_M0_27, own_lf, own_lf]; exact own_sp _ _
  refine own_icN X61 hx (hb hby at_172) (teq hk64).2 (q := 175) rfl ?_
  refine own_iconst X61 hx (hb hby at_175) (z := 1) rfl (q := 176) rfl ?_
  refine own_goto X61 hx (hb hby at_176) (q := 180) (by decide) (by decide) ?_
  refine own_istore X61 hx (hb hby at_180) (l' := #[.val (.long q0), .second, .val (.long q1), .second, .val (.long q2), .second, .val (.long q3), .second, .val (.long q4), .second, .val (.long (own_M0_148 q0 q1 q2)), .second, .val (.ref b21), .val (.int (1 : Int32)), .val (.int (own_M0_27 q0)), .val (.int (own_M0_81 q0 q1)), .val (.int (own_M0_136 q0 q1 q2)), .unset, .unset]) rfl (q := 182) rfl ?_
  refine own_lload X61 hx (hb hby at_182) rfl (q := 184) rfl ?_
  refine own_back (X61.ldc2Long hx hown (mvT hZ (hw _ (List.mem_of_getElem? (i := 13) rfl))) (g := (mkF m 184 #[.val (.long q0), .second, .val (.long q1), .second, .val (.long q2), .second, .val (.long q3), .second, .val (.long q4), .second, .val (.long (own_M0_148 q0 q1 q2)), .second, .val (.ref b21), .val (.int (1 : Int32)), .val (.int (own_M0_27 q0)), .val (.int (own_M0_81 q0 q1)), .val (.int (own_M0_136 q0 q1 q2)), .unset, .unset] [(.long q3)])) rfl (hb hby at_184)) ?_
  show own_End p e below s _ _ _ (T61.setTop (mkF m 187 #[.val (.long q0), .second, .val (.long q1), .second, .val (.long q2), .second, .val (.long q3), .second, .val (.long q4), .second, .val (.long (own_M0_148 q0 q1 q2)), .second, .val (.ref b21), .val (.int (1 : Int32)), .val (.int (own_M0_27 q0)), .val (.int (own_M0_81 q0 q1)), .val (.int (own_M0_136 q0 q1 q2)), .unset, .unset] [(.long (65536 : Int64)), (.long q3)]))
  refine own_lload X61 hx (hb hby at_187) rfl (q := 189) rfl ?_
  obtain ⟨_, _, ⟨T65, L65, k65, n65⟩, -, X65, ⟨Lc65, hQ65, l65, y65, z65⟩, st65⟩ := Jvm.LawKit.callS X61 hx (y := (⟨"java/lang/Math", "min", "(JJ)J"⟩ : MethodName)) hown (mvT hZ (hw _ (List.mem_of_getElem? (i := 14) rfl))) (mvT hZ (hw _ (List.mem_of_getElem? (i := 15) rfl))) (mvT hZ (hw _ (List.mem_of_getElem? (i := 16) rfl))) (mvT hZ (hw _ (List.mem_of_getElem? (i := 17) rfl))) (by decide) (backOf (W := 2) (own_rm3 l Z a0 hw [] (65536 : Int64) (own_M0_148 q0 q1 q2) T61.heap n0 Z63 ) hZ (hw _ (List.mem_of_getElem? (i := 17) rfl)) (hw _ (List.mem_of_getElem? (i := 16) rfl)) (by decide) (by decide)) (g := (mkF m 189 #[.val (.long q0), .second, .val (.long q1), .second, .val (.long q2), .second, .val (.long q3), .second, .val (.long q4), .second, .val (.long (own_M0_148 q0 q1 q2)), .second, .val (.ref b21), .val (.int (1 : Int32)), .val (.int (own_M0_27 q0)), .val (.int (own_M0_81 q0 q1)), .val (.int (own_M0_136 q0 q1 q2)), .unset, .unset] [(.long (own_M0_148 q0 q1 q2)), (.long (65536 : Int64)), (.long q3)])) rfl (by rw [hml]; rfl) (argsL := [(.long (65536 : Int64)), (.long (own_M0_148 q0 q1 q2))]) (rest := [(.long q3)]) (lenOf own_pd1 rfl) rfl (by show 2 * 0 + _ ≤ _; exact Nat.le_of_eq rfl) (hb hby at_189) (fun _ _ => ⟨rfl, rfl, (by decide : 1 + 0 ≤ _), (by decide : 1 + 0 ≤ _)⟩)
  dsimp only [Pt.U, Pt.locs, Pt.cells, Pt.slots] at X65 l65 y65 z65 st65 hQ65
  subst l65 y65 z65
  obtain ⟨rfl, N65q, e65⟩ := hQ65
  have N65 := Fr.app N61 N65q
  refine own_back st65 ?_
  show own_End p e below s _ _ _ (T65.setTop (mkF m 192 #[.val (.long q0), .second, .val (.long q1), .second, .val (.long q2), .second, .val (.long q3), .second, .val (.long q4), .second, .val (.long (own_M0_148 q0 q1 q2)), .second, .val (.ref b21), .val (.int (1 : Int32)), .val (.int (own_M0_27 q0)), .val (.int (own_M0_81 q0 q1)), .val (.int (own_M0_136 q0 q1 q2)), .unset, .unset] [(.long (own_F3 (65536 : Int64) (own_M0_148 q0 q1 q2))), (.long q3)]))
  suffices J69 : own_End p e below s (own_Q0 Z q0 q1 q2 q3 q4 h0 n0) room_1.cells room_1.slots (T65.setTop (mkF m 201 #[.val (.long q0), .second, .val (.long q1), .second, .val (.long q2), .second, .val (.long q3), .second, .val (.long q4), .second, .val (.long (own_M0_148 q0 q1 q2)), .second, .val (.ref b21), .val (.int (1 : Int32)), .val (.int (own_M0_27 q0)), .val (.int (own_M0_81 q0 q1)), .val (.int (own_M0_136 q0 q1 q2)), .unset, .unset] [(.int (own_M0_193 q0 q1 q2 q3))])) by
    by_cases hc193_66 : (own_F3 (65536 : Int64) (own_M0_148 q0 q1 q2)) < q3
    · refine own_lcY X65 hx (hb hby at_192) (r := 193) rfl (hb hby at_193) (own_tlt hc193_66).2.2.1 (q := 200) (by decide) (by decide) ?_
      refine own_iconst X65 hx (hb hby at_200) (z := 0) rfl (q := 201) rfl ?_
      simp only [own_M0_193, if_pos hc193_66] at J69
      exact J69
    · refine own_lcN X65 hx (hb hby at_192) (r := 193) rfl (hb hby at_193) (own_flt hc193_66).2.2.1 (q := 196) rfl ?_
      refine own_iconst X65 hx (hb hby at_196) (z := 1) rfl (q := 197) rfl ?_
      refine own_goto X65 hx (hb hby at_197) (q := 201) (by decide) (by decide) ?_
      simp only [own_M0_193, if_neg hc193_66] at J69
      exact J69
  refine own_istore X65 hx (hb hby at_201) (l' := #[.val (.long q0), .second, .val (.long q1), .second, .val (.long q2), .second, .val (.long q3), .second, .val (.long q4), .second, .val (.long (own_M0_148 q0 q1 q2)), .second, .val (.ref b21), .val (.int (1 : Int32)), .val (.int (own_M0_27 q0)), .val (.int (own_M0_81 q0 q1)), .val (.int (own_M0_136 q0 q1 q2)), .val (.int (own_M0_193 q0 q1 q2 q3)), .unset]) rfl (q := 203) rfl ?_
  refine own_iload X65 hx (hb hby at_203) rfl (q := 205) rfl ?_
  suffices J73 : own_End p e below s (own_Q0 Z q0 q1 q2 q3 q4 h0 n0) room_1.cells room_1.slots (T65.setTop (mkF m 215 #[.val (.long q0), .second, .val (.long q1), .second, .val (.long q2), .second, .val (.long q3), .second, .val (.long q4), .second, .val (.long (own_M0_205 q0 q1 q2 q3)), .second, .val (.ref b21), .val (.int (1 : Int32)), .val (.int (own_M0_27 q0)), .val (.int (own_M0_81 q0 q1)), .val (.int (own_M0_136 q0 q1 q2)), .val (.int (own_M0_193 q0 q1 q2 q3)), .unset] [])) by
    by_cases hc205_70 : (own_M0_193 q0 q1 q2 q3) = (0 : Int32)
    · refine own_ifY X65 hx (hb hby at_205) (teq hc205_70).1 (q := 215) (by decide) (by decide) ?_
      simp only [own_M0_205, if_pos hc205_70] at J73
      exact J73
    · refine own_ifN X65 hx (hb hby at_205) (feq hc205_70).1 (q := 208) rfl ?_
      refine own_lload X65 hx (hb hby at_208) rfl (q := 210) rfl ?_
      refine own_lload X65 hx (hb hby at_210) rfl (q := 212) rfl ?_
      refine own_lsub X65 hx (hb hby at_212) (q := 213) rfl ?_
      refine own_lstore X65 hx (hb hby at_213) (l' := #[.val (.long q0), .second, .val (.long q1), .second, .val (.long q2), .second, .val (.long q3), .second, .val (.long q4), .second, .val (.long ((own_M0_148 q0 q1 q2) - q3)), .second, .val (.ref b21), .val (.int (1 : Int32)), .val (.int (own_M0_27 q0)), .val (.int (own_M0_81 q0 q1)), .val (.int (own_M0_136 q0 q1 q2)), .val (.int (own_M0_193 q0 q1 q2 q3)), .unset]) rfl (q := 215) rfl ?_
      simp only [own_M0_205, if_neg hc205_70] at J73
      exact J73
  refine own_iload X65 hx (hb hby at_215) rfl (q := 217) rfl ?_
  refine own_ifN X65 hx (hb hby at_217) (feq (by decide : ¬ ((1 : Int32) = (0 : Int32)))).1 (q := 220) rfl ?_
  refine own_aload X65 hx (hb hby at_220) rfl rfl (q := 222) rfl ?_
  refine own_lload X65 hx (hb hby at_222) rfl (q := 224) rfl ?_
  obtain ⟨cq74, kq74, q74a, q74b, q74c⟩ := isOf hZ e65 Q61_0
  obtain ⟨_, _, ⟨T74, L74, k74, n74⟩, -, X74, ⟨Lc74, hQ74, l74, y74, z74⟩, st74⟩ := X65.virtualBack hx (y := (⟨"com/example/arcwise/arcwise/constraints/TableBudget", "spend", "(J)Z"⟩ : MethodName)) (z := (⟨"com/example/arcwise/arcwise/constraints/TableBudget", "spend", "(J)Z"⟩ : MethodName)) hown (mvT hZ (hw _ (List.mem_of_getElem? (i := 18) rfl))) (mvT hZ (hw _ (List.mem_of_getElem? (i := 19) rfl))) (notFace_of_selects (args := #[]) (mvT hZ (hw _ (List.mem_of_getElem? (i := 21) rfl)))) (mvT hZ (hw _ (List.mem_of_getElem? (i := 21) rfl))) (mvT hZ (hw _ (List.mem_of_getElem? (i := 20) rfl))) (by decide) (backOf (W := 0) (own_rm4 l Z a0 hw [] b21 q3 (own_G4_pairsLeft q2 (own_G4_pairsLeft q1 (own_G4_pairsLeft q0 (67108864 : Int64)))) T61.heap n0 Z63 Q61_0 Q61_1 g_b21) hZ (hw _ (List.mem_of_getElem? (i := 22) rfl)) (hw _ (List.mem_of_getElem? (i := 3) rfl)) (by decide) (by decide)) q74a q74c (g := (mkF m 224 #[.val (.long q0), .second, .val (.long q1), .second, .val (.long q2), .second, .val (.long q3), .second, .val (.long q4), .second, .val (.long (own_M0_205 q0 q1 q2 q3)), .second, .val (.ref b21), .val (.int (1 : Int32)), .val (.int (own_M0_27 q0)), .val (.int (own_M0_81 q0 q1)), .val (.int (own_M0_136 q0 q1 q2)), .val (.int (own_M0_193 q0 q1 q2 q3)), .unset] [(.long q3), (.ref b21)])) rfl (by rw [hml]; rfl) (Steps.refl _) (argsL := [(.long q3)]) (rest := []) (lenOf own_pd2 rfl) rfl (by show 2 * 0 + _ ≤ _; exact Nat.le_of_eq rfl) (hb hby at_224) (fun _ _ => ⟨rfl, e65, (by decide : 1 + 0 ≤ _), (by decide : 1 + 0 ≤ _)⟩)
  dsimp only [Pt.U, Pt.locs, Pt.cells, Pt.slots] at X74 l74 y74 z74 st74 hQ74
  subst l74 y74 z74
  obtain ⟨rfl, N74q, K74, Q74_0, Q74_1⟩ := hQ74
  have N74 := Fr.app N65 N74q
  have Q61_75 := Q61_0.keep K74
  have Z76 := Nat.le_trans Z63 K74.1
  refine own_via st74 ?_
  show own_End p e below s _ _ _ (T74.setTop (mkF m 227 #[.val (.long q0), .second, .val (.long q1), .second, .val (.long q2), .second, .val (.long q3), .second, .val (.long q4), .second, .val (.long (own_M0_205 q0 q1 q2 q3)), .second, .val (.ref b21), .val (.int (1 : Int32)), .val (.int (own_M0_27 q0)), .val (.int (own_M0_81 q0 q1)), .val (.int (own_M0_136 q0 q1 q2)), .val (.int (own_M0_193 q0 q1 q2 q3)), .unset] [(.int (own_F4 q3 (own_G4_pairsLeft q2 (own_G4_pairsLeft q1 (own_G4_pairsLeft q0 (67108864 : Int64))))))]))
  refine own_iload X74 hx (hb hby at_227) rfl (q := 229) rfl ?_
  have hk77 : (own_F4 q3 (own_G4_pairsLeft q2 (own_G4_pairsLeft q1 (own_G4_pairsLeft q0 (67108864 : Int64))))) = (own_M0_193 q0 q1 q2 q3) := by rw [own_M0_193, own_M0_148, own_M0_136, own_M0_93, own_M0_81, own_M0_39, own_M0_27, own_lf, own_lf, own_lf]; exact own_sp _ _
  refine own_icN X74 hx (hb hby at_229) (teq hk77).2 (q := 232) rfl ?_
  refine own_iconst X74 hx (hb hby at_232) (z := 1) rfl (q := 233) rfl ?_
  refine own_goto X74 hx (hb hby at_233) (q := 237) (by decide) (by decide) ?_
  refine own_istore X74 hx (hb hby at_237) (l' := #[.val (.long q0), .second, .val (.long q1), .second, .val (.long q2), .second, .val (.long q3), .second, .val (.long q4), .second, .val (.long (own_M0_205 q0 q1 q2 q3)), .second, .val (.ref b21), .val (.int (1 : Int32)), .val (.int (own_M0_27 q0)), .val (.int (own_M0_81 q0 q1)), .val (.int (own_M0_136 q0 q1 q2)), .val (.int (own_M0_193 q0 q1 q2 q3)), .unset]) rfl (q := 239) rfl ?_
  refine own_lload X74 hx (hb hby at_239) rfl (q := 241) rfl ?_
  refine own_back (X74.ldc2Long hx hown (mvT hZ (hw _ (List.mem_of_getElem? (i := 13) rfl))) (g := (mkF m 241 #[.val (.long q0), .second, .val (.long q1), .second, .val (.long q2), .second, .val (.long q3), .second, .val (.long q4), .second, .val (.long (own_M0_205 q0 q1 q2 q3)), .second, .val (.ref b21), .val (.int (1 : Int32)), .val (.int (own_M0_27 q0)), .val (.int (own_M0_81 q0 q1)), .val (.int (own_M0_136 q0 q1 q2)), .val (.int (own_M0_193 q0 q1 q2 q3)), .unset] [(.long q4)])) rfl (hb hby at_241)) ?_
  show own_End p e below s _ _ _ (T74.setTop (mkF m 244 #[.val (.long q0), .second, .val (.long q1), .second, .val (.long q2), .second, .val (.long q3), .second, .val (.long q4), .second, .val (.long (own_M0_205 q0 q1 q2 q3)), .second, .val (.ref b21), .val (.int (1 : Int32)), .val (.int (own_M0_27 q0)), .val (.int (own_M0_81 q0 q1)), .val (.int (own_M0_136 q0 q1 q2)), .val (.int (own_M0_193 q0 q1 q2 q3)), .unset] [(.long (65536 : Int64)), (.long q4)]))
  refine own_lload X74 hx (hb hby at_244) rfl (q := 246) rfl ?_
  obtain ⟨_, _, ⟨T78, L78, k78, n78⟩, -, X78, ⟨Lc78, hQ78, l78, y78, z78⟩, st78⟩ := Jvm.LawKit.callS X74 hx (y := (⟨"java/lang/Math", "min", "(JJ)J"⟩ : MethodName)) hown (mvT hZ (hw _ (List.mem_of_getElem? (i := 14) rfl))) (mvT hZ (hw _ (List.mem_of_getElem? (i := 15) rfl))) (mvT hZ (hw _ (List.mem_of_getElem? (i := 16) rfl))) (mvT hZ (hw _ (List.mem_of_getElem? (i := 17) rfl))) (by decide) (backOf (W := 2) (own_rm3 l Z a0 hw [] (65536 : Int64) (own_M0_205 q0 q1 q2 q3) T74.heap n0 Z76 ) hZ (hw _ (List.mem_of_getElem? (i := 17) rfl)) (hw _ (List.mem_of_getElem? (i := 16) rfl)) (by decide) (by decide)) (g := (mkF m 246 #[.val (.long q0), .second, .val (.long q1), .second, .val (.long q2), .second, .val (.long q3), .second, .val (.long q4), .second, .val (.long (own_M0_205 q0 q1 q2 q3)), .second, .val (.ref b21), .val (.int (1 : Int32)), .val (.int (own_M0_27 q0)), .val (.int (own_M0_81 q0 q1)), .val (.int (own_M0_136 q0 q1 q2)), .val (.int (own_M0_193 q0 q1 q2 q3)), .unset] [(.long (own_M0_205 q0 q1 q2 q3)), (.long (65536 : Int64)), (.long q4)])) rfl (by rw [hml]; rfl) (argsL := [(.long (65536 : Int64)), (.long (own_M0_205 q0 q1 q2 q3))]) (rest := [(.long q4)]) (lenOf own_pd1 rfl) rfl (by show 2 * 0 + _ ≤ _; exact Nat.le_of_eq rfl) (hb hby at_246) (fun _ _ => ⟨rfl, rfl, (by decide : 1 + 0 ≤ _), (by decide : 1 + 0 ≤ _)⟩)
  dsimp only [Pt.U, Pt.locs, Pt.cells, Pt.slots] at X78 l78 y78 z78 st78 hQ78
  subst l78 y78 z78
  obtain ⟨rfl, N78q, e78⟩ := hQ78
  have N78 := Fr.app N74 N78q
  refine own_back st78 ?_
  show own_End p e below s _ _ _ (T78.setTop (mkF m 249 #[.val (.long q0), .second, .val (.long q1), .second, .val (.long q2), .second, .val (.long q3), .second, .val (.long q4), .second, .val (.long (own_M0_205 q0 q1 q2 q3)), .second, .val (.ref b21), .val (.int (1 : Int32)), .val (.int (own_M0_27 q0)), .val (.int (own_M0_81 q0 q1)), .val (.int (own_M0_136 q0 q1 q2)), .val (.int (own_M0_193 q0 q1 q2 q3)), .unset] [(.long (own_F3 (65536 : Int64) (own_M0_205 q0 q1 q2 q3))), (.long q4)]))
  suffices J82 : own_End p e below s (own_Q0 Z q0 q1 q2 q3 q4 h0 n0) room_1.cells room_1.slots (T78.setTop (mkF m 258 #[.val (.long q0), .second, .val (.long q1), .second, .val (.long q2), .second, .val (.long q3), .second, .val (.long q4), .second, .val (.long (own_M0_205 q0 q1 q2 q3)), .second, .val (.ref b21), .val (.int (1 : Int32)), .val (.int (own_M0_27 q0)), .val (.int (own_M0_81 q0 q1)), .val (.int (own_M0_136 q0 q1 q2)), .val (.int (own_M0_193 q0 q1 q2 q3)), .unset] [(.int (own_M0_250 q0 q1 q2 q3 q4))])) by
    by_cases hc250_79 : (own_F3 (65536 : Int64) (own_M0_205 q0 q1 q2 q3)) < q4
    · refine own_lcY X78 hx (hb hby at_249) (r := 250) rfl (hb hby at_250) (own_tlt hc250_79).2.2.1 (q := 257) (by decide) (by decide) ?_
      refine own_iconst X78 hx (hb hby at_257) (z := 0) rfl (q := 258) rfl ?_
      simp only [own_M0_250, if_pos hc250_79] at J82
      exact J82
    · refine own_lcN X78 hx (hb hby at_249) (r := 250) rfl (hb hby at_250) (own_flt hc250_79).2.2.1 (q := 253) rfl ?_
      refine own_iconst X78 hx (hb hby at_253) (z := 1) rfl (q := 254) rfl ?_
      refine own_goto X78 hx (hb hby at_254) (q := 258) (by decide) (by decide) ?_
      simp only [own_M0_250, if_neg hc250_79] at J82
      exact J82
  refine own_istore X78 hx (hb hby at_258) (l' := #[.val (.long q0), .second, .val (.long q1), .second, .val (.long q2), .second, .val (.long q3), .second, .val (.long q4), .second, .val (.long (own_M0_205 q0 q1 q2 q3)), .second, .val (.ref b21), .val (.int (1 : Int32)), .val (.int (own_M0_27 q0)), .val (.int (own_M0_81 q0 q1)), .val (.int (own_M0_136 q0 q1 q2)), .val (.int (own_M0_193 q0 q1 q2 q3)), .val (.int (own_M0_250 q0 q1 q2 q3 q4))]) rfl (q := 260) rfl ?_
  refine own_iload X78 hx (hb hby at_260) rfl (q := 262) rfl ?_
  suffices J86 : own_End p e below s (own_Q0 Z q0 q1 q2 q3 q4 h0 n0) room_1.cells room_1.slots (T78.setTop (mkF m 272 #[.val (.long q0), .second, .val (.long q1), .second, .val (.long q2), .second, .val (.long q3), .second, .val (.long q4), .second, .val (.long (own_M0_262 q0 q1 q2 q3 q4)), .second, .val (.ref b21), .val (.int (1 : Int32)), .val (.int (own_M0_27 q0)), .val (.int (own_M0_81 q0 q1)), .val (.int (own_M0_136 q0 q1 q2)), .val (.int (own_M0_193 q0 q1 q2 q3)), .val (.int (own_M0_250 q0 q1 q2 q3 q4))] [])) by
    by_cases hc262_83 : (own_M0_250 q0 q1 q2 q3 q4) = (0 : Int32)
    · refine own_ifY X78 hx (hb hby at_262) (teq hc262_83).1 (q := 272) (by decide) (by decide) ?_
      simp only [own_M0_262, if_pos hc262_83] at J86
      exact J86
    · refine own_ifN X78 hx (hb hby at_262) (feq hc262_83).1 (q := 265) rfl ?_
      refine own_lload X78 hx (hb hby at_265) rfl (q := 267) rfl ?_
      refine own_lload X78 hx (hb hby at_267) rfl (q := 269) rfl ?_
      refine own_lsub X78 hx (hb hby at_269) (q := 270) rfl ?_
      refine own_lstore X78 hx (hb hby at_270) (l' := #[.val (.long q0), .second, .val (.long q1), .second, .val (.long q2), .second, .val (.long q3), .second, .val (.long q4), .second, .val (.long ((own_M0_205 q0 q1 q2 q3) - q4)), .second, .val (.ref b21), .val (.int (1 : Int32)), .val (.int (own_M0_27 q0)), .val (.int (own_M0_81 q0 q1)), .val (.int (own_M0_136 q0 q1 q2)), .val (.int (own_M0_193 q0 q1 q2 q3)), .val (.int (own_M0_250 q0 q1 q2 q3 q4))]) rfl (q := 272) rfl ?_
      simp only [own_M0_262, if_neg hc262_83] at J86
      exact J86
  refine own_iload X78 hx (hb hby at_272) rfl (q := 274) rfl ?_
  refine own_ifN X78 hx (hb hby at_274) (feq (by decide : ¬ ((1 : Int32) = (0 : Int32)))).1 (q := 277) rfl ?_
  refine own_aload X78 hx (hb hby at_277) rfl rfl (q := 279) rfl ?_
  refine own_lload X78 hx (hb hby at_279) rfl (q := 281) rfl ?_
  obtain ⟨cq87, kq87, q87a, q87b, q87c⟩ := isOf hZ e78 Q74_0
  obtain ⟨_, _, ⟨T87, L87, k87, n87⟩, -, X87, ⟨Lc87, hQ87, l87, y87, z87⟩, st87⟩ := X78.virtualBack hx (y := (⟨"com/example/arcwise/arcwise/constraints/TableBudget", "spend", "(J)Z"⟩ : MethodName)) (z := (⟨"com/example/arcwise/arcwise/constraints/TableBudget", "spend", "(J)Z"⟩ : MethodName)) hown (mvT hZ (hw _ (List.mem_of_getElem? (i := 18) rfl))) (mvT hZ (hw _ (List.mem_of_getElem? (i := 19) rfl))) (notFace_of_selects (args := #[]) (mvT hZ (hw _ (List.mem_of_getElem? (i := 21) rfl)))) (mvT hZ (hw _ (List.mem_of_getElem? (i := 21) rfl))) (mvT hZ (hw _ (List.mem_of_getElem? (i := 20) rfl))) (by decide) (backOf (W := 0) (own_rm4 l Z a0 hw [] b21 q4 (own_G4_pairsLeft q3 (own_G4_pairsLeft q2 (own_G4_pairsLeft q1 (own_G4_pairsLeft q0 (67108864 : Int64))))) T74.heap n0 Z76 Q74_0 Q74_1 g_b21) hZ (hw _ (List.mem_of_getElem? (i := 22) rfl)) (hw _ (List.mem_of_getElem? (i := 3) rfl)) (by decide) (by decide)) q87a q87c (g := (mkF m 281 #[.val (.long q0), .second, .val (.long q1), .second, .val (.long q2), .second, .val (.long q3), .second, .val (.long q4), .second, .val (.long (own_M0_262 q0 q1 q2 q3 q4)), .second, .val (.ref b21), .val (.int (1 : Int32)), .val (.int (own_M0_27 q0)), .val (.int (own_M0_81 q0 q1)), .val (.int (own_M0_136 q0 q1 q2)), .val (.int (own_M0_193 q0 q1 q2 q3)), .val (.int (own_M0_250 q0 q1 q2 q3 q4))] [(.long q4), (.ref b21)])) rfl (by rw [hml]; rfl) (Steps.refl _) (argsL := [(.long q4)]) (rest := []) (lenOf own_pd2 rfl) rfl (by show 2 * 0 + _ ≤ _; exact Nat.le_of_eq rfl) (hb hby at_281) (fun _ _ => ⟨rfl, e78, (by decide : 1 + 0 ≤ _), (by decide : 1 + 0 ≤ _)⟩)
  dsimp only [Pt.U, Pt.locs, Pt.cells, Pt.slots] at X87 l87 y87 z87 st87 hQ87
  subst l87 y87 z87
  obtain ⟨rfl, N87q, K87, Q87_0, Q87_1⟩ := hQ87
  have N87 := Fr.app N78 N87q
  have Q74_88 := Q74_0.keep K87
  have Z89 := Nat.le_trans Z76 K87.1
  refine own_via st87 ?_
  show own_End p e below s _ _ _ (T87.setTop (mkF m 284 #[.val (.long q0), .second, .val (.long q1), .second, .val (.long q2), .second, .val (.long q3), .second, .val (.long q4), .second, .val (.long (own_M0_262 q0 q1 q2 q3 q4)), .second, .val (.ref b21), .val (.int (1 : Int32)), .val (.int (own_M0_27 q0)), .val (.int (own_M0_81 q0 q1)), .val (.int (own_M0_136 q0 q1 q2)), .val (.int (own_M0_193 q0 q1 q2 q3)), .val (.int (own_M0_250 q0 q1 q2 q3 q4))] [(.int (own_F4 q4 (own_G4_pairsLeft q3 (own_G4_pairsLeft q2 (own_G4_pairsLeft q1 (own_G4_pairsLeft q0 (67108864 : Int64)))))))]))
  refine own_iload X87 hx (hb hby at_284) rfl (q := 286) rfl ?_
  have hk90 : (own_F4 q4 (own_G4_pairsLeft q3 (own_G4_pairsLeft q2 (own_G4_pairsLeft q1 (own_G4_pairsLeft q0 (67108864 : Int64)))))) = (own_M0_250 q0 q1 q2 q3 q4) := by rw [own_M0_250, own_M0_205, own_M0_193, own_M0_148, own_M0_136, own_M0_93, own_M0_81, own_M0_39, own_M0_27, own_lf, own_lf, own_lf, own_lf]; exact own_sp _ _
  refine own_icN X87 hx (hb hby at_286) (teq hk90).2 (q := 289) rfl ?_
  refine own_iconst X87 hx (hb hby at_289) (z := 1) rfl (q := 290) rfl ?_
  refine own_goto X87 hx (hb hby at_290) (q := 294) (by decide) (by decide) ?_
  refine own_istore X87 hx (hb hby at_294) (l' := #[.val (.long q0), .second, .val (.long q1), .second, .val (.long q2), .second, .val (.long q3), .second, .val (.long q4), .second, .val (.long (own_M0_262 q0 q1 q2 q3 q4)), .second, .val (.ref b21), .val (.int (1 : Int32)), .val (.int (own_M0_27 q0)), .val (.int (own_M0_81 q0 q1)), .val (.int (own_M0_136 q0 q1 q2)), .val (.int (own_M0_193 q0 q1 q2 q3)), .val (.int (own_M0_250 q0 q1 q2 q3 q4))]) rfl (q := 296) rfl ?_
  refine own_iload X87 hx (hb hby at_296) rfl (q := 298) rfl ?_
  refine own_retN X87 hx (t := .boolean) (by simp) Bd.returns Bd.notSynchronized (by decide) (by decide) (hb hby at_298) ?_
  show own_Q0 Z q0 q1 q2 q3 q4 h0 n0 _ T87.heap _
  exact ⟨rfl, N87⟩

set_option maxRecDepth 65536 in
set_option maxHeartbeats 40000000 in
theorem comes_1 {Post : Tables → Env → Array Value → State → Outcome → State → Prop} (hpost : ∀ tb e args s v u, (limb_1_1.after args s (.returned v) u = true ∧ limb_1_2.after args s (.returned v) u = true ∧ True) → FrameEnd s (.returned v) u (Jvm.fieldLocs frame_1_writes args s ++ Jvm.arrayLocs frame_1_arrays args s ++ Jvm.staticLocs frame_1_statics s) 16 128 → Post tb e args s (.returned v) u) :
    ArmFor flags0 classFile x code maxLocals ret World_1 tables_1 room_1 Calls_1 rest_1 Pre_1 Post := by
  intro l hfl _ _ p e ha hc hk s m args below hf hA hF happ hP
  obtain ⟨hcalls, hrest, hpre⟩ := hP
  obtain ⟨-, -, -, hnamed, -, -, -, hat⟩ := (Spec.applies_iff hf).mp happ
  obtain ⟨hg, hn⟩ := and_e (Cond.before_iff.mp (show (Jvm.Cond.and given_1 narrow_1).before args s = true from hpre))
  obtain ⟨g92, g93⟩ := and_e hg
  obtain ⟨g94, g95⟩ := and_e g93
  obtain ⟨g96, g97⟩ := and_e g95
  obtain ⟨g98, g99⟩ := and_e g97
  obtain ⟨g100, g101⟩ := and_e g99
  obtain ⟨w0, w1, w2, w3, w4, rfl⟩ : ∃ w0 w1 w2 w3 w4 : Value, args = #[w0, w1, w2, w3, w4] := by
    have hs : args.size = 5 := by simpa [Cond.value, given_1] using g92
    obtain ⟨L⟩ := args
    match L, hs with
    | [w0, w1, w2, w3, w4], _ => exact ⟨w0, w1, w2, w3, w4, rfl⟩
  have hw := fun d (hd : d ∈ tables_1) => atoms_spec (ws := Jvm.Cond.code x code maxLocals ret :: tables_1) hat d (List.mem_cons_of_mem _ hd)
  have hfit : Fit s := fun {y c} hc i hi => by
    obtain ⟨ha, rfl⟩ := Array.getElem?_eq_some_iff.mp hc
    have q := List.all_eq_true.mp ((Array.all_eq_true_iff_forall_mem.mp hF) _ (Array.getElem_mem ha)) i (List.mem_range.mpr hi)
    simpa [Array.getElem?_eq_getElem hi] using q
  obtain ⟨i0, ei0⟩ := isL_v g94
  obtain rfl : w0 = (.long i0) := Option.some.inj ei0
  obtain ⟨i1, ei1⟩ := isL_v g96
  obtain rfl : w1 = (.long i1) := Option.some.inj ei1
  obtain ⟨i2, ei2⟩ := isL_v g98
  obtain rfl : w2 = (.long i2) := Option.some.inj ei2
  obtain ⟨i3, ei3⟩ := isL_v g100
  obtain rfl : w3 = (.long i3) := Option.some.inj ei3
  obtain ⟨i4, ei4⟩ := isL_v g101
  obtain rfl : w4 = (.long i4) := Option.some.inj ei4
  obtain ⟨n, o, h1, h2, h3, _, L, rfl, ⟨hv, N⟩, hq⟩ := own_rm0 l s _ hw tables_1 i0 i1 i2 i3 i4 s.heap s.heap.size (Nat.le_refl _)  p e ha hc hk s m _ below hf ((Spec.applies_iff_loose hf).mp happ).1 ⟨rfl, State.Warmed39.refl s, rfl⟩ trivial
  subst hv
  refine ⟨n, _, h1, h2, h3, hpost _ _ _ _ _ _ ⟨Cond.after_iff.mpr rfl, Cond.after_iff.mpr (eq_i res_at (Term.int_eval (1)) rfl), trivial⟩ ⟨hq.1, hq.2.1, (hq.2.2.sift fun y hy => Or.inr (N y hy)).mono (by decide) (by decide)⟩⟩
theorem main_1_1 : Claimed_1_1 := comes_1 fun _ _ _ _ _ _ h hF => ⟨h.1, hF⟩
theorem main_1_2 : Claimed_1_2 := comes_1 fun _ _ _ _ _ _ h hF => ⟨h.2.1, hF⟩
end Jvm.Pilot.@@N@@
namespace Jvm.Pilot.@@N@@
open Jvm Jvm.ClassFile Sem Op Lib Jvm.Free Jvm.Stand Jvm.Pilot.@@N@@.Jvm.D
/-! MADE BY PROGRAM (witnessworld.py) out of the Statement's table words and the real class files: 10 classes; the members and pool entries that the words name. The judged class is class 1, her method 1. -/
namespace start1
open Jvm.ClassFile
def u (s : String) : CpInfo := .utf8 (stringToUtf16 s)
/-- a pool by its gaps: so many unusable entries, then the entry; so many at the end -/
def gap : Nat → List CpInfo → List CpInfo
  | 0, r => r
  | n + 1, r => .unusable :: gap n r
def poolList (es : List (Nat × CpInfo)) (last : Nat) : List CpInfo := es.foldr (fun e r => gap e.1 (e.2 :: r)) (gap last [])
def pool (es : List (Nat × CpInfo)) (last : Nat) : Array CpInfo := ⟨poolList es last⟩
def fileOf (pool : Array CpInfo) (this : Nat) (attrs : Array Attribute := #[]) (ms : Array MethodInfo := #[]) (fl : Nat := 33) (sup : Nat := 0) (ifs : Array Nat := #[]) (fds : Array FieldInfo := #[]) : ClassFile where
  minorVersion := 0
  majorVersion := 65
  constantPool := pool
  accessFlags := fl
  thisClass := this
  superClass := sup
  interfaces := ifs
  fields := fds
  methods := ms
  attributes := attrs
def plain (name : String) (sup : Option ClassId) : Class where
  name := name
  kind := .ordinary
  loader := none
  accessFlags := 33
  super := sup
  interfaces := #[]
  cf := none
  fields := #[]
  methods := #[]
  instanceTypes := #[]
  staticTypes := #[]
  resolved := #[]
  callSites := []
  init := .initialized
  statics := none
  mirror := none

def pool0 : Array CpInfo := pool [(5, u "<init>"), (0, u "()V"), (1, .class_ 10), (1, u "java/lang/Object")] 113

def k0c0 : Code := { maxStack := 0, maxLocals := 1, code := object_method_1_code, exceptionTable := #[], attributes := #[] }
def k0m0 : Method := { name := "<init>", desc := "()V", sig := { parameters := [], returnType := none }, accessFlags := 1, code := some k0c0 }
/-- java/lang/Object -/
def k0 : Class := { plain "java/lang/Object" none with
  accessFlags := 33
  interfaces := #[]
  cf := some (fileOf pool0 8 #[] #[{ accessFlags := 1, nameIndex := 5, descriptorIndex := 6, attributes := #[] }] 33 0 #[] #[])
  fields := #[]
  methods := #[k0m0]
  instanceTypes := #[]
  staticTypes := #[]
  resolved := Array.replicate 124 none
  statics := none }

def pool1 : Array CpInfo := pool [(2, .class_ 4), (0, .nameAndType 5 6), (0, u "java/lang/Object"), (0, u "<init>"), (0, u "()V"), (0, .long 67108864), (1, .class_ 10), (0, u "com/example/arcwise/arcwise/constraints/TableBudget"), (0, .methodref 9 3), (0, .long 65536), (1, .methodref 15 16), (0, .class_ 17), (0, .nameAndType 18 19), (0, u "java/lang/Math"), (0, u "min"), (0, u "(JJ)J"), (0, .methodref 9 21), (0, .nameAndType 22 23), (0, u "spend"), (0, u "(J)Z"), (0, .class_ 25), (0, u "com/example/arcwise/arcwise/constraints/TableBudgetSpendPinLaw"), (2, u "law"), (0, u "(JJJJJ)Z")] 3

def k1m0 : Method := { name := "<init>", desc := "()V", sig := { parameters := [], returnType := none }, accessFlags := 1, code := none }
def k1c1 : Code := { maxStack := 6, maxLocals := 19, code := code, exceptionTable := #[], attributes := #[] }
def k1m1 : Method := { name := "law", desc := "(JJJJJ)Z", sig := { parameters := [.long, .long, .long, .long, .long], returnType := some .boolean }, accessFlags := 9, code := some k1c1 }
/-- com/example/arcwise/arcwise/constraints/TableBudgetSpendPinLaw -/
def k1 : Class := { plain "com/example/arcwise/arcwise/constraints/TableBudgetSpendPinLaw" (some 0) with
  accessFlags := 49
  interfaces := #[]
  cf := some (fileOf pool1 24 #[] #[{ accessFlags := 1, nameIndex := 5, descriptorIndex := 6, attributes := #[] }, { accessFlags := 9, nameIndex := 28, descriptorIndex := 29, attributes := #[] }] 49 2 #[] #[])
  fields := #[]
  methods := #[k1m0, k1m1]
  instanceTypes := #[]
  staticTypes := #[]
  resolved := Array.replicate 33 none
  statics := none }

def pool2 : Array CpInfo := pool [(1, .methodref 2 3), (0, .class_ 4), (0, .nameAndType 5 6), (0, u "java/lang/Object"), (0, u "<init>"), (0, u "()V"), (0, .class_ 8), (0, u "com/example/arcwise/arcwise/constraints/TableBudget"), (0, .long 67108864), (1, .fieldref 7 12), (0, .nameAndType 13 14), (0, u "pairsLeft"), (0, u "J"), (0, .long 65536), (1, u "PAIRS_PER_CONSTRAINT"), (1, u "PAIRS_PER_NETWORK"), (2, u "spend"), (0, u "(J)Z")] 3

def k2c0 : Code := { maxStack := 3, maxLocals := 1, code := prog_25_method_1_code, exceptionTable := #[], attributes := #[] }
def k2m0 : Method := { name := "<init>", desc := "()V", sig := { parameters := [], returnType := none }, accessFlags := 1, code := some k2c0 }
def k2c1 : Code := { maxStack := 5, maxLocals := 3, code := prog_25_method_2_code, exceptionTable := #[], attributes := #[] }
def k2m1 : Method := { name := "spend", desc := "(J)Z", sig := { parameters := [.long], returnType := some .boolean }, accessFlags := 0, code := some k2c1 }
/-- com/example/arcwise/arcwise/constraints/TableBudget -/
def k2 : Class := { plain "com/example/arcwise/arcwise/constraints/TableBudget" (some 0) with
  accessFlags := 49
  interfaces := #[]
  cf := some (fileOf pool2 7 #[] #[{ accessFlags := 1, nameIndex := 5, descriptorIndex := 6, attributes := #[] }, { accessFlags := 0, nameIndex := 22, descriptorIndex := 23, attributes := #[] }] 49 2 #[] #[{ accessFlags := 24, nameIndex := 17, descriptorIndex := 14, attributes := #[] }, { accessFlags := 24, nameIndex := 19, descriptorIndex := 14, attributes := #[] }, { accessFlags := 2, nameIndex := 13, descriptorIndex := 14, attributes := #[] }])
  fields := #[{ name := "PAIRS_PER_CONSTRAINT", type := .long, accessFlags := 24, slot := 0, constantValue := 0 }, { name := "PAIRS_PER_NETWORK", type := .long, accessFlags := 24, slot := 1, constantValue := 0 }, { name := "pairsLeft", type := .long, accessFlags := 2, slot := 0, constantValue := 0 }]
  methods := #[k2m0, k2m1]
  instanceTypes := #[.long]
  staticTypes := #[.long, .long]
  resolved := Array.replicate 27 none
  statics := none }

def pool3 : Array CpInfo := pool [(1, .class_ 2), (0, u "java/lang/Math"), (1, .class_ 6), (1, u "java/lang/Object"), (0, u "<init>"), (0, u "()V"), (89, .class_ 100), (1, u "java/lang/Math$RandomNumberGeneratorHolder"), (20, u "(JJ)J"), (50, u "negativeZeroFloatBits"), (0, u "J"), (2, u "negativeZeroDoubleBits"), (24, u "min"), (43, u "$assertionsDisabled"), (0, u "Z"), (91, u "twoToTheDoubleScaleDown"), (0, u "D"), (4, u "twoToTheDoubleScaleUp"), (9, u "E"), (3, u "PI"), (2, u "TAU"), (2, u "DEGREES_TO_RADIANS"), (0, u "RADIANS_TO_DEGREES")] 94

def k3m0 : Method := { name := "<init>", desc := "()V", sig := { parameters := [], returnType := none }, accessFlags := 2, code := none }
def k3c1 : Code := { maxStack := 4, maxLocals := 4, code := jdk_29_method_70_code, exceptionTable := #[], attributes := #[] }
def k3m1 : Method := { name := "min", desc := "(JJ)J", sig := { parameters := [.long, .long], returnType := some .long }, accessFlags := 9, code := some k3c1 }
/-- java/lang/Math -/
def k3 : Class := { plain "java/lang/Math" (some 0) with
  accessFlags := 49
  interfaces := #[]
  cf := some (fileOf pool3 1 #[.nestMembers #[98]] #[{ accessFlags := 2, nameIndex := 7, descriptorIndex := 8, attributes := #[] }, { accessFlags := 9, nameIndex := 201, descriptorIndex := 121, attributes := #[] }] 49 4 #[] #[{ accessFlags := 25, nameIndex := 354, descriptorIndex := 339, attributes := #[] }, { accessFlags := 25, nameIndex := 358, descriptorIndex := 339, attributes := #[] }, { accessFlags := 25, nameIndex := 361, descriptorIndex := 339, attributes := #[] }, { accessFlags := 26, nameIndex := 364, descriptorIndex := 339, attributes := #[] }, { accessFlags := 26, nameIndex := 365, descriptorIndex := 339, attributes := #[] }, { accessFlags := 26, nameIndex := 172, descriptorIndex := 173, attributes := #[] }, { accessFlags := 26, nameIndex := 176, descriptorIndex := 173, attributes := #[] }, { accessFlags := 8, nameIndex := 344, descriptorIndex := 339, attributes := #[] }, { accessFlags := 8, nameIndex := 338, descriptorIndex := 339, attributes := #[] }, { accessFlags := 4120, nameIndex := 245, descriptorIndex := 246, attributes := #[] }])
  fields := #[{ name := "E", type := .double, accessFlags := 25, slot := 0, constantValue := 0 }, { name := "PI", type := .double, accessFlags := 25, slot := 1, constantValue := 0 }, { name := "TAU", type := .double, accessFlags := 25, slot := 2, constantValue := 0 }, { name := "DEGREES_TO_RADIANS", type := .double, accessFlags := 26, slot := 3, constantValue := 0 }, { name := "RADIANS_TO_DEGREES", type := .double, accessFlags := 26, slot := 4, constantValue := 0 }, { name := "negativeZeroFloatBits", type := .long, accessFlags := 26, slot := 5, constantValue := 0 }, { name := "negativeZeroDoubleBits", type := .long, accessFlags := 26, slot := 6, constantValue := 0 }, { name := "twoToTheDoubleScaleUp", type := .double, accessFlags := 8, slot := 7, constantValue := 0 }, { name := "twoToTheDoubleScaleDown", type := .double, accessFlags := 8, slot := 8, constantValue := 0 }, { name := "$assertionsDisabled", type := .boolean, accessFlags := 4120, slot := 9, constantValue := 0 }]
  methods := #[k3m0, k3m1]
  instanceTypes := #[]
  staticTypes := #[.double, .double, .double, .double, .double, .long, .long, .double, .double, .boolean]
  resolved := Array.replicate 460 none
  statics := none }

def pool4 : Array CpInfo := pool [(1, u "java/lang/Cloneable"), (0, .class_ 1), (0, u "java/lang/Object"), (0, .class_ 3)] 3

/-- java/lang/Cloneable -/
def k4 : Class := { plain "java/lang/Cloneable" (some 0) with
  accessFlags := 1537
  interfaces := #[]
  cf := some (fileOf pool4 2 #[] #[] 1537 4 #[] #[])
  fields := #[]
  methods := #[]
  instanceTypes := #[]
  staticTypes := #[]
  resolved := Array.replicate 8 none
  statics := none }

def pool5 : Array CpInfo := pool [(1, u "java/io/Serializable"), (0, .class_ 1), (0, u "java/lang/Object"), (0, .class_ 3)] 3

/-- java/io/Serializable -/
def k5 : Class := { plain "java/io/Serializable" (some 0) with
  accessFlags := 1537
  interfaces := #[]
  cf := some (fileOf pool5 2 #[] #[] 1537 4 #[] #[])
  fields := #[]
  methods := #[]
  instanceTypes := #[]
  staticTypes := #[]
  resolved := Array.replicate 8 none
  statics := none }

/-- the primitive byte -/
def k6 : Class := { plain "byte" none with kind := .primitive 'B', accessFlags := 0x411 }
/-- [B -/
def k7 : Class := { plain "[B" (some 0) with kind := .array 6 .byte, interfaces := #[4, 5], accessFlags := 1041 }

/-- the primitive int -/
def k8 : Class := { plain "int" none with kind := .primitive 'I', accessFlags := 0x411 }
/-- [I -/
def k9 : Class := { plain "[I" (some 0) with kind := .array 8 .int, interfaces := #[4, 5], accessFlags := 1041 }

def heap : Heap := #[]
def classes : Array Class := #[k0, k1, k2, k3, k4, k5, k6, k7, k8, k9]
def interned : List (Array UInt16 × Addr) := []
def slotsUsed : Nat := 0
def theMethod : MethodId := ⟨1, 1⟩
def args0 : Array Value := #[.long 5, .long 6, .long 7, .long 8, .long 9]
def aboutOver (below : List Frame) : State where
  vm := { classes := classes, interned := interned.toArray }
  heap := heap
  slotsUsed := slotsUsed
  threads := #[{ frames := .invoking theMethod args0 :: below }]
def below0 : List Frame := [.native { method := ⟨0, 0⟩, args := #[] }]
def about1 : State := aboutOver below0
def p0 : Program := .bare "" "" ""
def e0 : Env := launch0.env 0 0 0
theorem w_frames : about1.frames = Frame.invoking theMethod args0 :: below0 := rfl
set_option maxRecDepth 65536 in
theorem w_args : argsFit about1.vm theMethod args0 = true := by decide +kernel
set_option maxRecDepth 65536 in
theorem w_heap : heapFits about1 = true := by decide +kernel
set_option maxRecDepth 65536 in
theorem w_runnable : about1.curStatus? = some .runnable := by decide +kernel
set_option maxRecDepth 65536 in
theorem w_alone : about1.alone = true := by decide +kernel
set_option maxRecDepth 65536 in
theorem w_named : about1.methodNamed? x = some theMethod := by decide +kernel
set_option maxRecDepth 65536 in
theorem w_hears : about1.hears theMethod below0 = true := by decide +kernel
set_option maxRecDepth 65536 in
theorem w_ripe : about1.ripe theMethod args0 below0 = true := by decide +kernel
theorem w_running : about1.status = .running := rfl
set_option maxRecDepth 65536 in
theorem w_room : about1.hasRoom e0.platform room_1 = true :=
  launch0.hasRoom_least _ room_1 (by decide +kernel) (by decide +kernel) (by decide +kernel) (by decide +kernel) (by decide +kernel) (by decide +kernel)
theorem allAtoms_all (ts : List Jvm.Cond) (a : Array Jvm.Value) (st : Jvm.State) : (allAtoms ts).before a st = ts.all (fun c => c.before a st) := by
  induction ts with
  | nil => rfl
  | cons c t ih =>
    show (Jvm.Cond.and c (allAtoms t)).before a st = _
    rw [Jvm.Cond.before_and, ih, List.all_cons]
def words1 : List Jvm.Cond := Jvm.Cond.code x code maxLocals ret :: tables_1
/-- a 'code' word, met by the world's own term for the bytes: nothing is compared byte by byte -/
theorem code_word {y : MethodName} {bytes : ByteArray} {mx : Nat} {rt : Option FieldType} {a : Array Value} {s : State} {m : MethodId} {meth : Method} {c : Code} (h1 : s.methodNamed? y = some m) (h2 : s.vm.method? m = some meth) (h3 : meth.code = some c) (h4 : c.code = bytes)
    (h5 : (c.maxLocals == mx && c.exceptionTable.isEmpty && decide (c.maxStack ≤ mostOperands) && decide (meth.sig.returnType = rt) && !meth.locks && decide (parseMethodDescriptor y.desc = some meth.sig)) = true) : (Jvm.Cond.code y bytes mx rt).before a s = true := by
  simp only [Bool.and_eq_true, beq_iff_eq, Bool.not_eq_true', decide_eq_true_eq] at h5
  obtain ⟨⟨⟨⟨⟨g1, g2⟩, g3⟩, g4⟩, g5⟩, g6⟩ := h5
  simp [Cond.before, Cond.holds, Cond.value, h1, h2, h3, h4, g1, g2, g3, g4, g5, g6]
def isCode : Jvm.Cond → Bool
  | .code _ _ _ _ => true
  | _ => false
theorem all_split {L : List Jvm.Cond} {P : Jvm.Cond → Bool} (h1 : L.all (fun c => isCode c || P c) = true) (h2 : ∀ c ∈ L.filter isCode, P c = true) : L.all P = true := by
  refine List.all_eq_true.mpr fun c hc => ?_
  have h := List.all_eq_true.mp h1 c hc
  rcases Bool.eq_false_or_eq_true (isCode c) with hi | hi
  · exact h2 c (List.mem_filter.mpr ⟨hc, hi⟩)
  · simpa [hi] using h
set_option maxRecDepth 65536 in
theorem w_c0 : (Jvm.Cond.code x code maxLocals ret).before args0 about1 = true := code_word (m := ⟨1, 1⟩) (meth := k1m1) (c := k1c1) (by decide +kernel) rfl rfl rfl (by decide +kernel)
set_option maxRecDepth 65536 in
theorem w_c1 : (Jvm.Cond.code ({ cls := "com/example/arcwise/arcwise/constraints/TableBudget", name := "<init>", desc := "()V" } : Jvm.MethodName) prog_25_method_1_code (1 : Nat) (Option.none : Option Jvm.ClassFile.FieldType)).before args0 about1 = true := code_word (m := ⟨2, 0⟩) (meth := k2m0) (c := k2c0) (by decide +kernel) rfl rfl rfl (by decide +kernel)
set_option maxRecDepth 65536 in
theorem w_c2 : (Jvm.Cond.code ({ cls := "java/lang/Object", name := "<init>", desc := "()V" } : Jvm.MethodName) object_method_1_code (1 : Nat) (Option.none : Option Jvm.ClassFile.FieldType)).before args0 about1 = true := code_word (m := ⟨0, 0⟩) (meth := k0m0) (c := k0c0) (by decide +kernel) rfl rfl rfl (by decide +kernel)
set_option maxRecDepth 65536 in
theorem w_c3 : (Jvm.Cond.code ({ cls := "java/lang/Math", name := "min", desc := "(JJ)J" } : Jvm.MethodName) jdk_29_method_70_code (4 : Nat) (Option.some Jvm.ClassFile.FieldType.long)).before args0 about1 = true := code_word (m := ⟨3, 1⟩) (meth := k3m1) (c := k3c1) (by decide +kernel) rfl rfl rfl (by decide +kernel)
set_option maxRecDepth 65536 in
theorem w_c4 : (Jvm.Cond.code ({ cls := "com/example/arcwise/arcwise/constraints/TableBudget", name := "spend", desc := "(J)Z" } : Jvm.MethodName) prog_25_method_2_code (3 : Nat) (Option.some Jvm.ClassFile.FieldType.boolean)).before args0 about1 = true := code_word (m := ⟨2, 1⟩) (meth := k2m1) (c := k2c1) (by decide +kernel) rfl rfl rfl (by decide +kernel)
def codes1 : List Jvm.Cond := [Jvm.Cond.code x code maxLocals ret, Jvm.Cond.code ({ cls := "com/example/arcwise/arcwise/constraints/TableBudget", name := "<init>", desc := "()V" } : Jvm.MethodName) prog_25_method_1_code (1 : Nat) (Option.none : Option Jvm.ClassFile.FieldType), Jvm.Cond.code ({ cls := "java/lang/Object", name := "<init>", desc := "()V" } : Jvm.MethodName) object_method_1_code (1 : Nat) (Option.none : Option Jvm.ClassFile.FieldType), Jvm.Cond.code ({ cls := "java/lang/Math", name := "min", desc := "(JJ)J" } : Jvm.MethodName) jdk_29_method_70_code (4 : Nat) (Option.some Jvm.ClassFile.FieldType.long), Jvm.Cond.code ({ cls := "com/example/arcwise/arcwise/constraints/TableBudget", name := "spend", desc := "(J)Z" } : Jvm.MethodName) prog_25_method_2_code (3 : Nat) (Option.some Jvm.ClassFile.FieldType.boolean)]
set_option maxRecDepth 65536 in
theorem codes_eq : words1.filter isCode = codes1 := rfl
theorem w_codes : ∀ c ∈ words1.filter isCode, c.before args0 about1 = true := by
  rw [codes_eq]
  intro c hc
  simp only [codes1, List.mem_cons, List.not_mem_nil, or_false] at hc
  rcases hc with rfl | rfl | rfl | rfl | rfl
  · exact w_c0
  · exact w_c1
  · exact w_c2
  · exact w_c3
  · exact w_c4
set_option maxRecDepth 65536 in
theorem w_t1 : (words1.take 24).all (fun c => isCode c || c.before args0 about1) = true := by decide +kernel
set_option maxRecDepth 65536 in
theorem w_t2 : (words1.drop 24).all (fun c => isCode c || c.before args0 about1) = true := by decide +kernel
theorem w_tables : (allAtoms (Jvm.Cond.code x code maxLocals ret :: tables_1)).before args0 about1 = true := by
  rw [allAtoms_all]
  show words1.all (fun c => c.before args0 about1) = true
  refine all_split ?_ w_codes
  rw [← List.take_append_drop 24 words1, List.all_append, w_t1, w_t2]
  rfl
set_option maxRecDepth 65536 in
theorem w_case : (Jvm.Cond.and given_1 narrow_1).before args0 about1 = true := by decide +kernel
theorem w_applies : (headSpec (Jvm.Cond.code x code maxLocals ret :: tables_1) room_1).applies x e0.platform about1 = true :=
  (Spec.applies_iff w_frames).mpr ⟨w_running, w_runnable, w_alone, w_named, w_hears, w_ripe, w_room, w_tables⟩
theorem atStart : AtStart classFile x code maxLocals ret World_1 tables_1 room_1 Calls_1 rest_1 Pre_1 launch0 p0 e0 about1 theMethod args0 below0 :=
  ⟨lists_1, trivial, launch0.admits_env _ _ _, launch0.least_env, fairChoices_fair.cas, fairChoices_fair.clock, w_frames, w_args, w_heap, w_applies, trivial, trivial, w_case⟩
end start1
theorem witness_1 : WitnessClaimed_1 := ⟨start1.p0, start1.e0, start1.about1, start1.theMethod, start1.args0, start1.below0, start1.atStart⟩
end Jvm.Pilot.@@N@@
