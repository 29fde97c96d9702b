import JvmDerived
import JvmDerived.Pilot.@@N@@Statement
import JvmDerived.Pilot.@@N@@Code
set_option linter.unusedVariables false
set_option linter.unusedSimpArgs false
namespace Jvm.Pilot.@@N@@
open Jvm Jvm.ClassFile Sem Op Lib Jvm.Free Jvm.Stand Jvm.LawKit Jvm.RoadKit Bundle Jvm.Pilot.@@N@@.Jvm.D
section Own
variable {p : Program} {l : Launch} {e : Env} {R : Room} {s : State} {m : MethodId} {args : Array Value} {below : List Frame} {meth : Method} {c : Code} {T : State} {locs : List Loc} {cells slots : Nat} {Q : Option Value → Heap → List Loc → Prop} {K N : Nat} {s' : State} {E : State → Outcome → State → List Loc → Nat → Nat → Prop}
/-- the run from a ends in a return of which Q holds, within the frame -/
def own_End (p : Program) (e : Env) (below : List Frame) (s : State) (Q : Option Value → Heap → List Loc → Prop) (K N : Nat) (a : State) (E : State → Outcome → State → List Loc → Nat → Nat → Prop := FrameEnd) : Prop :=
  ∃ s₂ o, Steps p.tables e below a s₂ ∧ s₂.status = .running ∧ Ended s₂ below o ∧ ∃ v L, o = .returned v ∧ Q v s₂.heap L ∧ E s o s₂ L K N
theorem own_back {a b : State} (k : ∀ t, Steps p.tables e below b t → Steps p.tables e below a t) (h : own_End p e below s Q K N b E) : own_End p e below s Q K N a E := by
  obtain ⟨s₂, o, h1, h2⟩ := h
  exact ⟨s₂, o, k _ h1, h2⟩
theorem own_via {a b : State} (k : Steps p.tables e below a b) (h : own_End p e below s Q K N b E) : own_End p e below s Q K N a E :=
  own_back (fun _ j => k.trans j) h
theorem own_selfsel {y : MethodName} {n : Nat} (wi : (Jvm.Cond.instantiable y.cls n).before args s = true) (hp : s.PrivateAt y) (hi : (Jvm.Cond.instanceMethod y).before args s = true) (hy : y.cls ≠ "java/lang/invoke/MethodHandle" ∧ y.cls ≠ "java/lang/invoke/VarHandle") : (Jvm.Cond.selects y.cls y y).before args s = true := by
  obtain ⟨c, k, h1, h2, -, h4, -⟩ := Cond.instantiable_spec wi
  exact selects_self_of_private h1 h2 (Bool.or_eq_false_iff.mp h4).1 hp hi hy
theorem own_cast {a b : State} (q : a = b) (h : own_End p e below s Q K N b E) : own_End p e below s Q K N a E := q ▸ h
theorem own_iadd (X : Stand p l e R s' m args below meth c T locs cells slots) (hx : p.tables.exec = Jvm.exec) {pc q : Nat} {Ls : Array Slot} {rest : List Value} (hd : decode c.code pc = .ok (.iadd, 1)) {x y : Int32} (hq : pc + 1 = q) (h : own_End p e below s Q K N (T.setTop (mkF m q Ls (.int (x + y) :: rest))) E) : own_End p e below s Q K N (T.setTop (mkF m pc Ls (.int y :: .int x :: rest))) E := by
  subst hq; exact own_back (fun _ k => XS.iadd X.here hx rfl hd rfl k) h
theorem own_isub (X : Stand p l e R s' m args below meth c T locs cells slots) (hx : p.tables.exec = Jvm.exec) {pc q : Nat} {Ls : Array Slot} {rest : List Value} (hd : decode c.code pc = .ok (.isub, 1)) {x y : Int32} (hq : pc + 1 = q) (h : own_End p e below s Q K N (T.setTop (mkF m q Ls (.int (x - y) :: rest))) E) : own_End p e below s Q K N (T.setTop (mkF m pc Ls (.int y :: .int x :: rest))) E := by
  subst hq; exact own_back (fun _ k => XS.isub X.here hx rfl hd rfl k) h
theorem own_imul (X : Stand p l e R s' m args below meth c T locs cells slots) (hx : p.tables.exec = Jvm.exec) {pc q : Nat} {Ls : Array Slot} {rest : List Value} (hd : decode c.code pc = .ok (.imul, 1)) {x y : Int32} (hq : pc + 1 = q) (h : own_End p e below s Q K N (T.setTop (mkF m q Ls (.int (x * y) :: rest))) E) : own_End p e below s Q K N (T.setTop (mkF m pc Ls (.int y :: .int x :: rest))) E := by
  subst hq; exact own_back (fun _ k => XS.imul X.here hx rfl hd rfl k) h
theorem own_iand (X : Stand p l e R s' m args below meth c T locs cells slots) (hx : p.tables.exec = Jvm.exec) {pc q : Nat} {Ls : Array Slot} {rest : List Value} (hd : decode c.code pc = .ok (.iand, 1)) {x y : Int32} (hq : pc + 1 = q) (h : own_End p e below s Q K N (T.setTop (mkF m q Ls (.int (x &&& y) :: rest))) E) : own_End p e below s Q K N (T.setTop (mkF m pc Ls (.int y :: .int x :: rest))) E := by
  subst hq; exact own_back (fun _ k => XS.iand X.here hx rfl hd rfl k) h
theorem own_ior (X : Stand p l e R s' m args below meth c T locs cells slots) (hx : p.tables.exec = Jvm.exec) {pc q : Nat} {Ls : Array Slot} {rest : List Value} (hd : decode c.code pc = .ok (.ior, 1)) {x y : Int32} (hq : pc + 1 = q) (h : own_End p e below s Q K N (T.setTop (mkF m q Ls (.int (x ||| y) :: rest))) E) : own_End p e below s Q K N (T.setTop (mkF m pc Ls (.int y :: .int x :: rest))) E := by
  subst hq; exact own_back (fun _ k => XS.ior X.here hx rfl hd rfl k) h
theorem own_ixor (X : Stand p l e R s' m args below meth c T locs cells slots) (hx : p.tables.exec = Jvm.exec) {pc q : Nat} {Ls : Array Slot} {rest : List Value} (hd : decode c.code pc = .ok (.ixor, 1)) {x y : Int32} (hq : pc + 1 = q) (h : own_End p e below s Q K N (T.setTop (mkF m q Ls (.int (x ^^^ y) :: rest))) E) : own_End p e below s Q K N (T.setTop (mkF m pc Ls (.int y :: .int x :: rest))) E := by
  subst hq; exact own_back (fun _ k => XS.ixor X.here hx rfl hd rfl k) h
theorem own_ishl (X : Stand p l e R s' m args below meth c T locs cells slots) (hx : p.tables.exec = Jvm.exec) {pc q : Nat} {Ls : Array Slot} {rest : List Value} (hd : decode c.code pc = .ok (.ishl, 1)) {x y : Int32} (hq : pc + 1 = q) (h : own_End p e below s Q K N (T.setTop (mkF m q Ls (.int (x <<< (y &&& 31)) :: rest))) E) : own_End p e below s Q K N (T.setTop (mkF m pc Ls (.int y :: .int x :: rest))) E := by
  subst hq; exact own_back (fun _ k => XS.ishl X.here hx rfl hd rfl k) h
theorem own_ishr (X : Stand p l e R s' m args below meth c T locs cells slots) (hx : p.tables.exec = Jvm.exec) {pc q : Nat} {Ls : Array Slot} {rest : List Value} (hd : decode c.code pc = .ok (.ishr, 1)) {x y : Int32} (hq : pc + 1 = q) (h : own_End p e below s Q K N (T.setTop (mkF m q Ls (.int (x >>> (y &&& 31)) :: rest))) E) : own_End p e below s Q K N (T.setTop (mkF m pc Ls (.int y :: .int x :: rest))) E := by
  subst hq; exact own_back (fun _ k => XS.ishr X.here hx rfl hd rfl k) h
theorem own_iushr (X : Stand p l e R s' m args below meth c T locs cells slots) (hx : p.tables.exec = Jvm.exec) {pc q : Nat} {Ls : Array Slot} {rest : List Value} (hd : decode c.code pc = .ok (.iushr, 1)) {x y : Int32} (hq : pc + 1 = q) (h : own_End p e below s Q K N (T.setTop (mkF m q Ls (.int ((x.toUInt32 >>> (y &&& 31).toUInt32).toInt32) :: rest))) E) : own_End p e below s Q K N (T.setTop (mkF m pc Ls (.int y :: .int x :: rest))) E := by
  subst hq; exact own_back (fun _ k => XS.iushr X.here hx rfl hd rfl k) h
theorem own_ladd (X : Stand p l e R s' m args below meth c T locs cells slots) (hx : p.tables.exec = Jvm.exec) {pc q : Nat} {Ls : Array Slot} {rest : List Value} (hd : decode c.code pc = .ok (.ladd, 1)) {x y : Int64} (hq : pc + 1 = q) (h : own_End p e below s Q K N (T.setTop (mkF m q Ls (.long (x + y) :: rest))) E) : own_End p e below s Q K N (T.setTop (mkF m pc Ls (.long y :: .long x :: rest))) E := by
  subst hq; exact own_back (fun _ k => XS.ladd X.here hx rfl hd rfl k) h
theorem own_lsub (X : Stand p l e R s' m args below meth c T locs cells slots) (hx : p.tables.exec = Jvm.exec) {pc q : Nat} {Ls : Array Slot} {rest : List Value} (hd : decode c.code pc = .ok (.lsub, 1)) {x y : Int64} (hq : pc + 1 = q) (h : own_End p e below s Q K N (T.setTop (mkF m q Ls (.long (x - y) :: rest))) E) : own_End p e below s Q K N (T.setTop (mkF m pc Ls (.long y :: .long x :: rest))) E := by
  subst hq; exact own_back (fun _ k => XS.lsub X.here hx rfl hd rfl k) h
theorem own_lmul (X : Stand p l e R s' m args below meth c T locs cells slots) (hx : p.tables.exec = Jvm.exec) {pc q : Nat} {Ls : Array Slot} {rest : List Value} (hd : decode c.code pc = .ok (.lmul, 1)) {x y : Int64} (hq : pc + 1 = q) (h : own_End p e below s Q K N (T.setTop (mkF m q Ls (.long (x * y) :: rest))) E) : own_End p e below s Q K N (T.setTop (mkF m pc Ls (.long y :: .long x :: rest))) E := by
  subst hq; exact own_back (fun _ k => XS.lmul X.here hx rfl hd rfl k) h
theorem own_land (X : Stand p l e R s' m args below meth c T locs cells slots) (hx : p.tables.exec = Jvm.exec) {pc q : Nat} {Ls : Array Slot} {rest : List Value} (hd : decode c.code pc = .ok (.land, 1)) {x y : Int64} (hq : pc + 1 = q) (h : own_End p e below s Q K N (T.setTop (mkF m q Ls (.long (x &&& y) :: rest))) E) : own_End p e below s Q K N (T.setTop (mkF m pc Ls (.long y :: .long x :: rest))) E := by
  subst hq; exact own_back (fun _ k => XS.land X.here hx rfl hd rfl k) h
theorem own_lor (X : Stand p l e R s' m args below meth c T locs cells slots) (hx : p.tables.exec = Jvm.exec) {pc q : Nat} {Ls : Array Slot} {rest : List Value} (hd : decode c.code pc = .ok (.lor, 1)) {x y : Int64} (hq : pc + 1 = q) (h : own_End p e below s Q K N (T.setTop (mkF m q Ls (.long (x ||| y) :: rest))) E) : own_End p e below s Q K N (T.setTop (mkF m pc Ls (.long y :: .long x :: rest))) E := by
  subst hq; exact own_back (fun _ k => XS.lor X.here hx rfl hd rfl k) h
theorem own_lxor (X : Stand p l e R s' m args below meth c T locs cells slots) (hx : p.tables.exec = Jvm.exec) {pc q : Nat} {Ls : Array Slot} {rest : List Value} (hd : decode c.code pc = .ok (.lxor, 1)) {x y : Int64} (hq : pc + 1 = q) (h : own_End p e below s Q K N (T.setTop (mkF m q Ls (.long (x ^^^ y) :: rest))) E) : own_End p e below s Q K N (T.setTop (mkF m pc Ls (.long y :: .long x :: rest))) E := by
  subst hq; exact own_back (fun _ k => XS.lxor X.here hx rfl hd rfl k) h
theorem own_lshl (X : Stand p l e R s' m args below meth c T locs cells slots) (hx : p.tables.exec = Jvm.exec) {pc q : Nat} {Ls : Array Slot} {rest : List Value} (hd : decode c.code pc = .ok (.lshl, 1)) {x : Int64} {y : Int32} (hq : pc + 1 = q) (h : own_End p e below s Q K N (T.setTop (mkF m q Ls (.long (x <<< (y &&& 0x3f).toInt64) :: rest))) E) : own_End p e below s Q K N (T.setTop (mkF m pc Ls (.int y :: .long x :: rest))) E := by
  subst hq; exact own_back (fun _ k => XS.lshl X.here hx rfl hd rfl k) h
theorem own_lshr (X : Stand p l e R s' m args below meth c T locs cells slots) (hx : p.tables.exec = Jvm.exec) {pc q : Nat} {Ls : Array Slot} {rest : List Value} (hd : decode c.code pc = .ok (.lshr, 1)) {x : Int64} {y : Int32} (hq : pc + 1 = q) (h : own_End p e below s Q K N (T.setTop (mkF m q Ls (.long (x >>> (y &&& 0x3f).toInt64) :: rest))) E) : own_End p e below s Q K N (T.setTop (mkF m pc Ls (.int y :: .long x :: rest))) E := by
  subst hq; exact own_back (fun _ k => XS.lshr X.here hx rfl hd rfl k) h
theorem own_lushr (X : Stand p l e R s' m args below meth c T locs cells slots) (hx : p.tables.exec = Jvm.exec) {pc q : Nat} {Ls : Array Slot} {rest : List Value} (hd : decode c.code pc = .ok (.lushr, 1)) {x : Int64} {y : Int32} (hq : pc + 1 = q) (h : own_End p e below s Q K N (T.setTop (mkF m q Ls (.long ((x.toUInt64 >>> (y &&& 0x3f).toInt64.toUInt64).toInt64) :: rest))) E) : own_End p e below s Q K N (T.setTop (mkF m pc Ls (.int y :: .long x :: rest))) E := by
  subst hq; exact own_back (fun _ k => XS.lushr X.here hx rfl hd rfl k) h
theorem own_idiv (X : Stand p l e R s' m args below meth c T locs cells slots) (hx : p.tables.exec = Jvm.exec) {pc q : Nat} {Ls : Array Slot} {rest : List Value} (hd : decode c.code pc = .ok (.idiv, 1)) {x y : Int32} (hy : y ≠ 0) (hq : pc + 1 = q) (h : own_End p e below s Q K N (T.setTop (mkF m q Ls (.int (x / y) :: rest))) E) : own_End p e below s Q K N (T.setTop (mkF m pc Ls (.int y :: .int x :: rest))) E := by
  subst hq; exact own_back (fun _ k => XS.idiv X.here hx rfl hd rfl hy k) h
theorem own_irem (X : Stand p l e R s' m args below meth c T locs cells slots) (hx : p.tables.exec = Jvm.exec) {pc q : Nat} {Ls : Array Slot} {rest : List Value} (hd : decode c.code pc = .ok (.irem, 1)) {x y : Int32} (hy : y ≠ 0) (hq : pc + 1 = q) (h : own_End p e below s Q K N (T.setTop (mkF m q Ls (.int (x % y) :: rest))) E) : own_End p e below s Q K N (T.setTop (mkF m pc Ls (.int y :: .int x :: rest))) E := by
  subst hq; exact own_back (fun _ k => iremM X hx rfl hd rfl hy k) h
theorem own_ldiv (X : Stand p l e R s' m args below meth c T locs cells slots) (hx : p.tables.exec = Jvm.exec) {pc q : Nat} {Ls : Array Slot} {rest : List Value} (hd : decode c.code pc = .ok (.ldiv, 1)) {x y : Int64} (hy : y ≠ 0) (hq : pc + 1 = q) (h : own_End p e below s Q K N (T.setTop (mkF m q Ls (.long (x / y) :: rest))) E) : own_End p e below s Q K N (T.setTop (mkF m pc Ls (.long y :: .long x :: rest))) E := by
  subst hq; exact own_back (fun _ k => XS.ldiv X.here hx rfl hd rfl hy k) h
theorem own_lrem (X : Stand p l e R s' m args below meth c T locs cells slots) (hx : p.tables.exec = Jvm.exec) {pc q : Nat} {Ls : Array Slot} {rest : List Value} (hd : decode c.code pc = .ok (.lrem, 1)) {x y : Int64} (hy : y ≠ 0) (hq : pc + 1 = q) (h : own_End p e below s Q K N (T.setTop (mkF m q Ls (.long (x - (x / y) * y) :: rest))) E) : own_End p e below s Q K N (T.setTop (mkF m pc Ls (.long y :: .long x :: rest))) E := by
  subst hq; exact own_back (fun _ k => XS.lrem X.here hx rfl hd rfl hy k) h
theorem own_ineg (X : Stand p l e R s' m args below meth c T locs cells slots) (hx : p.tables.exec = Jvm.exec) {pc q : Nat} {Ls : Array Slot} {rest : List Value} (hd : decode c.code pc = .ok (.ineg, 1)) {x : Int32} (hq : pc + 1 = q) (h : own_End p e below s Q K N (T.setTop (mkF m q Ls (.int (-x) :: rest))) E) : own_End p e below s Q K N (T.setTop (mkF m pc Ls (.int x :: rest))) E := by
  subst hq; exact own_back (fun _ k => XS.ineg X.here hx rfl hd rfl k) h
theorem own_lneg (X : Stand p l e R s' m args below meth c T locs cells slots) (hx : p.tables.exec = Jvm.exec) {pc q : Nat} {Ls : Array Slot} {rest : List Value} (hd : decode c.code pc = .ok (.lneg, 1)) {x : Int64} (hq : pc + 1 = q) (h : own_End p e below s Q K N (T.setTop (mkF m q Ls (.long (-x) :: rest))) E) : own_End p e below s Q K N (T.setTop (mkF m pc Ls (.long x :: rest))) E := by
  subst hq; exact own_back (fun _ k => XS.lneg X.here hx rfl hd rfl k) h
theorem own_i2l (X : Stand p l e R s' m args below meth c T locs cells slots) (hx : p.tables.exec = Jvm.exec) {pc q : Nat} {Ls : Array Slot} {rest : List Value} (hd : decode c.code pc = .ok (.i2l, 1)) {x : Int32} (hq : pc + 1 = q) (h : own_End p e below s Q K N (T.setTop (mkF m q Ls (.long (x.toInt64) :: rest))) E) : own_End p e below s Q K N (T.setTop (mkF m pc Ls (.int x :: rest))) E := by
  subst hq; exact own_back (fun _ k => XS.i2l X.here hx rfl hd rfl k) h
theorem own_l2i (X : Stand p l e R s' m args below meth c T locs cells slots) (hx : p.tables.exec = Jvm.exec) {pc q : Nat} {Ls : Array Slot} {rest : List Value} (hd : decode c.code pc = .ok (.l2i, 1)) {x : Int64} (hq : pc + 1 = q) (h : own_End p e below s Q K N (T.setTop (mkF m q Ls (.int (x.toInt32) :: rest))) E) : own_End p e below s Q K N (T.setTop (mkF m pc Ls (.long x :: rest))) E := by
  subst hq; exact own_back (fun _ k => XS.l2i X.here hx rfl hd rfl k) h
theorem own_i2c (X : Stand p l e R s' m args below meth c T locs cells slots) (hx : p.tables.exec = Jvm.exec) {pc q : Nat} {Ls : Array Slot} {rest : List Value} (hd : decode c.code pc = .ok (.i2c, 1)) {x : Int32} (hq : pc + 1 = q) (h : own_End p e below s Q K N (T.setTop (mkF m q Ls (.int (x.toUInt32.toUInt16.toUInt32.toInt32) :: rest))) E) : own_End p e below s Q K N (T.setTop (mkF m pc Ls (.int x :: rest))) E := by
  subst hq; exact own_back (fun _ k => XS.i2c X.here hx rfl hd rfl k) h
theorem own_i2b (X : Stand p l e R s' m args below meth c T locs cells slots) (hx : p.tables.exec = Jvm.exec) {pc q : Nat} {Ls : Array Slot} {rest : List Value} (hd : decode c.code pc = .ok (.i2b, 1)) {x : Int32} (hq : pc + 1 = q) (h : own_End p e below s Q K N (T.setTop (mkF m q Ls (.int (x.toInt8.toInt32) :: rest))) E) : own_End p e below s Q K N (T.setTop (mkF m pc Ls (.int x :: rest))) E := by
  subst hq; exact own_back (fun _ k => XS.i2b X.here hx rfl hd rfl k) h
theorem own_i2s (X : Stand p l e R s' m args below meth c T locs cells slots) (hx : p.tables.exec = Jvm.exec) {pc q : Nat} {Ls : Array Slot} {rest : List Value} (hd : decode c.code pc = .ok (.i2s, 1)) {x : Int32} (hq : pc + 1 = q) (h : own_End p e below s Q K N (T.setTop (mkF m q Ls (.int (x.toInt16.toInt32) :: rest))) E) : own_End p e below s Q K N (T.setTop (mkF m pc Ls (.int x :: rest))) E := by
  subst hq; exact own_back (fun _ k => XS.i2s X.here hx rfl hd rfl k) h
theorem own_lcmp (X : Stand p l e R s' m args below meth c T locs cells slots) (hx : p.tables.exec = Jvm.exec) {pc q : Nat} {Ls : Array Slot} {rest : List Value} (hd : decode c.code pc = .ok (.lcmp, 1)) {x y : Int64} (hq : pc + 1 = q) (h : own_End p e below s Q K N (T.setTop (mkF m q Ls (.int (lcmpW x y) :: rest))) E) : own_End p e below s Q K N (T.setTop (mkF m pc Ls (.long y :: .long x :: rest))) E := by
  subst hq; exact own_back (fun _ k => XS.lcmp X.here hx rfl hd rfl k) h
theorem own_dup (X : Stand p l e R s' m args below meth c T locs cells slots) (hx : p.tables.exec = Jvm.exec) {pc q : Nat} {Ls : Array Slot} {rest : List Value} (hd : decode c.code pc = .ok (.dup, 1)) {v : Value} (hv : v.category = 1) (hq : pc + 1 = q) (h : own_End p e below s Q K N (T.setTop (mkF m q Ls (v :: v :: rest))) E) : own_End p e below s Q K N (T.setTop (mkF m pc Ls (v :: rest))) E := by
  subst hq; exact own_back (fun _ k => XS.dup X.here hx rfl hd rfl hv k) h
theorem own_dupx1 (X : Stand p l e R s' m args below meth c T locs cells slots) (hx : p.tables.exec = Jvm.exec) {pc q : Nat} {Ls : Array Slot} {rest : List Value} (hd : decode c.code pc = .ok (.dup_x1, 1)) {v w : Value} (hv : v.category = 1) (hw : w.category = 1) (hq : pc + 1 = q) (h : own_End p e below s Q K N (T.setTop (mkF m q Ls (v :: w :: v :: rest))) E) : own_End p e below s Q K N (T.setTop (mkF m pc Ls (v :: w :: rest))) E := by
  subst hq; exact own_back (fun _ k => XS.dupX1 X.here hx rfl hd rfl hv hw k) h
theorem own_pop (X : Stand p l e R s' m args below meth c T locs cells slots) (hx : p.tables.exec = Jvm.exec) {pc q : Nat} {Ls : Array Slot} {rest : List Value} (hd : decode c.code pc = .ok (.pop, 1)) {v : Value} (hv : v.category = 1) (hq : pc + 1 = q) (h : own_End p e below s Q K N (T.setTop (mkF m q Ls (rest))) E) : own_End p e below s Q K N (T.setTop (mkF m pc Ls (v :: rest))) E := by
  subst hq; exact own_back (fun _ k => XS.pop X.here hx rfl hd rfl hv k) h
theorem own_anull (X : Stand p l e R s' m args below meth c T locs cells slots) (hx : p.tables.exec = Jvm.exec) {pc q : Nat} {Ls : Array Slot} {rest : List Value} (hd : decode c.code pc = .ok (.aconst_null, 1))  (hq : pc + 1 = q) (h : own_End p e below s Q K N (T.setTop (mkF m q Ls (.null :: rest))) E) : own_End p e below s Q K N (T.setTop (mkF m pc Ls (rest))) E := by
  subst hq; exact own_back (fun _ k => XS.aconstNull X.here hx rfl hd k) h
theorem own_iload (X : Stand p l e R s' m args below meth c T locs cells slots) (hx : p.tables.exec = Jvm.exec) {pc q : Nat} {Ls : Array Slot} {rest : List Value} {k : Nat} {v : Int32} (hd : decode c.code pc = .ok (.iload k, 2)) (hl : Ls[k]? = some (.val (.int v))) (hq : pc + 2 = q) (h : own_End p e below s Q K N (T.setTop (mkF m q Ls (.int v :: rest))) E) : own_End p e below s Q K N (T.setTop (mkF m pc Ls (rest))) E := by
  subst hq; exact own_back (fun _ k => XS.iload X.here hx rfl hd hl k) h
theorem own_iloadN (X : Stand p l e R s' m args below meth c T locs cells slots) (hx : p.tables.exec = Jvm.exec) {pc q : Nat} {Ls : Array Slot} {rest : List Value} {k : Fin 4} {v : Int32} (hd : decode c.code pc = .ok (.iload_n k, 1)) (hl : Ls[k.val]? = some (.val (.int v))) (hq : pc + 1 = q) (h : own_End p e below s Q K N (T.setTop (mkF m q Ls (.int v :: rest))) E) : own_End p e below s Q K N (T.setTop (mkF m pc Ls (rest))) E := by
  subst hq; exact own_back (fun _ k => XS.iloadN X.here hx rfl hd hl k) h
theorem own_istore (X : Stand p l e R s' m args below meth c T locs cells slots) (hx : p.tables.exec = Jvm.exec) {pc q : Nat} {Ls : Array Slot} {rest : List Value} {k : Nat} {v : Int32} {l' : Array Slot} (hd : decode c.code pc = .ok (.istore k, 2)) (hl : storeLocals Ls k (.int v) = some l') (hq : pc + 2 = q) (h : own_End p e below s Q K N (T.setTop (mkF m q l' (rest))) E) : own_End p e below s Q K N (T.setTop (mkF m pc Ls (.int v :: rest))) E := by
  subst hq; exact own_back (fun _ k => XS.istore X.here hx rfl hd rfl hl k) h
theorem own_istoreN (X : Stand p l e R s' m args below meth c T locs cells slots) (hx : p.tables.exec = Jvm.exec) {pc q : Nat} {Ls : Array Slot} {rest : List Value} {k : Fin 4} {v : Int32} {l' : Array Slot} (hd : decode c.code pc = .ok (.istore_n k, 1)) (hl : storeLocals Ls k.val (.int v) = some l') (hq : pc + 1 = q) (h : own_End p e below s Q K N (T.setTop (mkF m q l' (rest))) E) : own_End p e below s Q K N (T.setTop (mkF m pc Ls (.int v :: rest))) E := by
  subst hq; exact own_back (fun _ k => XS.istoreN X.here hx rfl hd rfl hl k) h
theorem own_lload (X : Stand p l e R s' m args below meth c T locs cells slots) (hx : p.tables.exec = Jvm.exec) {pc q : Nat} {Ls : Array Slot} {rest : List Value} {k : Nat} {v : Int64} (hd : decode c.code pc = .ok (.lload k, 2)) (hl : Ls[k]? = some (.val (.long v))) (hq : pc + 2 = q) (h : own_End p e below s Q K N (T.setTop (mkF m q Ls (.long v :: rest))) E) : own_End p e below s Q K N (T.setTop (mkF m pc Ls (rest))) E := by
  subst hq; exact own_back (fun _ k => XS.lload X.here hx rfl hd hl k) h
theorem own_lloadN (X : Stand p l e R s' m args below meth c T locs cells slots) (hx : p.tables.exec = Jvm.exec) {pc q : Nat} {Ls : Array Slot} {rest : List Value} {k : Fin 4} {v : Int64} (hd : decode c.code pc = .ok (.lload_n k, 1)) (hl : Ls[k.val]? = some (.val (.long v))) (hq : pc + 1 = q) (h : own_End p e below s Q K N (T.setTop (mkF m q Ls (.long v :: rest))) E) : own_End p e below s Q K N (T.setTop (mkF m pc Ls (rest))) E := by
  subst hq; exact own_back (fun _ k => XS.lloadN X.here hx rfl hd hl k) h
theorem own_lstore (X : Stand p l e R s' m args below meth c T locs cells slots) (hx : p.tables.exec = Jvm.exec) {pc q : Nat} {Ls : Array Slot} {rest : List Value} {k : Nat} {v : Int64} {l' : Array Slot} (hd : decode c.code pc = .ok (.lstore k, 2)) (hl : storeLocals Ls k (.long v) = some l') (hq : pc + 2 = q) (h : own_End p e below s Q K N (T.setTop (mkF m q l' (rest))) E) : own_End p e below s Q K N (T.setTop (mkF m pc Ls (.long v :: rest))) E := by
  subst hq; exact own_back (fun _ k => XS.lstore X.here hx rfl hd rfl hl k) h
theorem own_lstoreN (X : Stand p l e R s' m args below meth c T locs cells slots) (hx : p.tables.exec = Jvm.exec) {pc q : Nat} {Ls : Array Slot} {rest : List Value} {k : Fin 4} {v : Int64} {l' : Array Slot} (hd : decode c.code pc = .ok (.lstore_n k, 1)) (hl : storeLocals Ls k.val (.long v) = some l') (hq : pc + 1 = q) (h : own_End p e below s Q K N (T.setTop (mkF m q l' (rest))) E) : own_End p e below s Q K N (T.setTop (mkF m pc Ls (.long v :: rest))) E := by
  subst hq; exact own_back (fun _ k => XS.lstoreN X.here hx rfl hd rfl hl k) h
theorem own_aload (X : Stand p l e R s' m args below meth c T locs cells slots) (hx : p.tables.exec = Jvm.exec) {pc q : Nat} {Ls : Array Slot} {rest : List Value} {k : Nat} {v : Value} (hd : decode c.code pc = .ok (.aload k, 2)) (hl : Ls[k]? = some (.val v)) (hv : v.isRef = true) (hq : pc + 2 = q) (h : own_End p e below s Q K N (T.setTop (mkF m q Ls (v :: rest))) E) : own_End p e below s Q K N (T.setTop (mkF m pc Ls (rest))) E := by
  subst hq; exact own_back (fun _ k => XS.aload X.here hx rfl hd hl hv k) h
theorem own_aloadN (X : Stand p l e R s' m args below meth c T locs cells slots) (hx : p.tables.exec = Jvm.exec) {pc q : Nat} {Ls : Array Slot} {rest : List Value} {k : Fin 4} {v : Value} (hd : decode c.code pc = .ok (.aload_n k, 1)) (hl : Ls[k.val]? = some (.val v)) (hv : v.isRef = true) (hq : pc + 1 = q) (h : own_End p e below s Q K N (T.setTop (mkF m q Ls (v :: rest))) E) : own_End p e below s Q K N (T.setTop (mkF m pc Ls (rest))) E := by
  subst hq; exact own_back (fun _ k => XS.aloadN X.here hx rfl hd hl hv k) h
theorem own_astore (X : Stand p l e R s' m args below meth c T locs cells slots) (hx : p.tables.exec = Jvm.exec) {pc q : Nat} {Ls : Array Slot} {rest : List Value} {k : Nat} {v : Value} {l' : Array Slot} (hd : decode c.code pc = .ok (.astore k, 2)) (hv : v.isRef = true) (hl : storeLocals Ls k v = some l') (hq : pc + 2 = q) (h : own_End p e below s Q K N (T.setTop (mkF m q l' (rest))) E) : own_End p e below s Q K N (T.setTop (mkF m pc Ls (v :: rest))) E := by
  subst hq; exact own_back (fun _ k => XS.astore X.here hx rfl hd rfl hv hl k) h
theorem own_astoreN (X : Stand p l e R s' m args below meth c T locs cells slots) (hx : p.tables.exec = Jvm.exec) {pc q : Nat} {Ls : Array Slot} {rest : List Value} {k : Fin 4} {v : Value} {l' : Array Slot} (hd : decode c.code pc = .ok (.astore_n k, 1)) (hv : v.isRef = true) (hl : storeLocals Ls k.val v = some l') (hq : pc + 1 = q) (h : own_End p e below s Q K N (T.setTop (mkF m q l' (rest))) E) : own_End p e below s Q K N (T.setTop (mkF m pc Ls (v :: rest))) E := by
  subst hq; exact own_back (fun _ k => XS.astoreN X.here hx rfl hd rfl hv hl k) h
theorem own_iinc (X : Stand p l e R s' m args below meth c T locs cells slots) (hx : p.tables.exec = Jvm.exec) {pc q : Nat} {Ls : Array Slot} {rest : List Value} {k : Nat} {cst : Int} {x z : Int32} {l' : Array Slot} (hd : decode c.code pc = .ok (.iinc k cst, 3)) (hl : Ls[k]? = some (.val (.int x))) (hz : Int32.ofInt cst = z) (hl' : storeLocals Ls k (.int (x + z)) = some l') (hq : pc + 3 = q) (h : own_End p e below s Q K N (T.setTop (mkF m q l' (rest))) E) : own_End p e below s Q K N (T.setTop (mkF m pc Ls (rest))) E := by
  subst hq hz; exact own_back (fun _ k => XS.iinc X.here hx rfl hd hl hl' k) h
theorem own_iconst (X : Stand p l e R s' m args below meth c T locs cells slots) (hx : p.tables.exec = Jvm.exec) {pc q : Nat} {Ls : Array Slot} {rest : List Value} {i : Int} {z : Int32} (hd : decode c.code pc = .ok (.iconst i, 1)) (hz : Int32.ofInt i = z) (hq : pc + 1 = q) (h : own_End p e below s Q K N (T.setTop (mkF m q Ls (.int z :: rest))) E) : own_End p e below s Q K N (T.setTop (mkF m pc Ls (rest))) E := by
  subst hq hz; exact own_back (fun _ k => XS.iconst X.here hx rfl hd k) h
theorem own_bipush (X : Stand p l e R s' m args below meth c T locs cells slots) (hx : p.tables.exec = Jvm.exec) {pc q : Nat} {Ls : Array Slot} {rest : List Value} {i : Int} {z : Int32} (hd : decode c.code pc = .ok (.bipush i, 2)) (hz : (Int8.ofInt i).toInt32 = z) (hq : pc + 2 = q) (h : own_End p e below s Q K N (T.setTop (mkF m q Ls (.int z :: rest))) E) : own_End p e below s Q K N (T.setTop (mkF m pc Ls (rest))) E := by
  subst hq hz; exact own_back (fun _ k => XS.bipush X.here hx rfl hd k) h
theorem own_sipush (X : Stand p l e R s' m args below meth c T locs cells slots) (hx : p.tables.exec = Jvm.exec) {pc q : Nat} {Ls : Array Slot} {rest : List Value} {i : Int} {z : Int32} (hd : decode c.code pc = .ok (.sipush i, 3)) (hz : (Int16.ofInt i).toInt32 = z) (hq : pc + 3 = q) (h : own_End p e below s Q K N (T.setTop (mkF m q Ls (.int z :: rest))) E) : own_End p e below s Q K N (T.setTop (mkF m pc Ls (rest))) E := by
  subst hq hz; exact own_back (fun _ k => XS.sipush X.here hx rfl hd k) h
theorem own_lconst (X : Stand p l e R s' m args below meth c T locs cells slots) (hx : p.tables.exec = Jvm.exec) {pc q : Nat} {Ls : Array Slot} {rest : List Value} {i : Fin 2} {z : Int64} (hd : decode c.code pc = .ok (.lconst i, 1)) (hz : Int64.ofNat i = z) (hq : pc + 1 = q) (h : own_End p e below s Q K N (T.setTop (mkF m q Ls (.long z :: rest))) E) : own_End p e below s Q K N (T.setTop (mkF m pc Ls (rest))) E := by
  subst hq hz; exact own_back (fun _ k => XS.lconst X.here hx rfl hd k) h
theorem own_goto (X : Stand p l e R s' m args below meth c T locs cells slots) (hx : p.tables.exec = Jvm.exec) {pc q : Nat} {Ls : Array Slot} {rest : List Value} {o : Int} (hd : decode c.code pc = .ok (.goto o, 3)) (ho : 0 ≤ (pc : Int) + o) (hp : ((pc : Int) + o).toNat = q) (h : own_End p e below s Q K N (T.setTop (mkF m q Ls (rest))) E) : own_End p e below s Q K N (T.setTop (mkF m pc Ls (rest))) E := by
  exact own_back (fun _ k => XS.goto X.here hx rfl (pc0 := pc) (pc' := q) rfl hd ho hp k) h
theorem own_ifY (X : Stand p l e R s' m args below meth c T locs cells slots) (hx : p.tables.exec = Jvm.exec) {pc q : Nat} {Ls : Array Slot} {rest : List Value} {cd : ClassFile.Cond} {x : Int32} {o : Int} (hd : decode c.code pc = .ok (.ifCond cd o, 3)) (hc : if_icmp.holds cd x 0 = true) (ho : 0 ≤ (pc : Int) + o) (hp : ((pc : Int) + o).toNat = q) (h : own_End p e below s Q K N (T.setTop (mkF m q Ls (rest))) E) : own_End p e below s Q K N (T.setTop (mkF m pc Ls (.int x :: rest))) E := by
  exact own_back (fun _ k => XS.ifYes X.here hx rfl (pc0 := pc) (pc' := q) rfl hd rfl ((if0 _ _).trans hc) ho hp k) h
theorem own_ifN (X : Stand p l e R s' m args below meth c T locs cells slots) (hx : p.tables.exec = Jvm.exec) {pc q : Nat} {Ls : Array Slot} {rest : List Value} {cd : ClassFile.Cond} {x : Int32} {o : Int} (hd : decode c.code pc = .ok (.ifCond cd o, 3)) (hc : if_icmp.holds cd x 0 = false) (hq : pc + 3 = q) (h : own_End p e below s Q K N (T.setTop (mkF m q Ls (rest))) E) : own_End p e below s Q K N (T.setTop (mkF m pc Ls (.int x :: rest))) E := by
  subst hq; exact own_back (fun _ k => XS.ifNo X.here hx rfl hd rfl ((if0 _ _).trans hc) k) h
theorem own_icY (X : Stand p l e R s' m args below meth c T locs cells slots) (hx : p.tables.exec = Jvm.exec) {pc q : Nat} {Ls : Array Slot} {rest : List Value} {cd : ClassFile.Cond} {x y : Int32} {o : Int} (hd : decode c.code pc = .ok (.if_icmp cd o, 3)) (hc : if_icmp.holds cd x y = true) (ho : 0 ≤ (pc : Int) + o) (hp : ((pc : Int) + o).toNat = q) (h : own_End p e below s Q K N (T.setTop (mkF m q Ls (rest))) E) : own_End p e below s Q K N (T.setTop (mkF m pc Ls (.int y :: .int x :: rest))) E := by
  exact own_back (fun _ k => XS.icmpYes X.here hx rfl (pc0 := pc) (pc' := q) rfl hd rfl hc ho hp k) h
theorem own_icN (X : Stand p l e R s' m args below meth c T locs cells slots) (hx : p.tables.exec = Jvm.exec) {pc q : Nat} {Ls : Array Slot} {rest : List Value} {cd : ClassFile.Cond} {x y : Int32} {o : Int} (hd : decode c.code pc = .ok (.if_icmp cd o, 3)) (hc : if_icmp.holds cd x y = false) (hq : pc + 3 = q) (h : own_End p e below s Q K N (T.setTop (mkF m q Ls (rest))) E) : own_End p e below s Q K N (T.setTop (mkF m pc Ls (.int y :: .int x :: rest))) E := by
  subst hq; exact own_back (fun _ k => XS.icmpNo X.here hx rfl hd rfl hc k) h
theorem own_lcY (X : Stand p l e R s' m args below meth c T locs cells slots) (hx : p.tables.exec = Jvm.exec) {pc r q : Nat} {Ls : Array Slot} {rest : List Value} {cd : ClassFile.Cond} {x y : Int64} {o : Int} (hd : decode c.code pc = .ok (.lcmp, 1)) (hr : pc + 1 = r) (hd' : decode c.code r = .ok (.ifCond cd o, 3)) (hc : if_icmp.holds cd (lcmpW x y) 0 = true) (ho : 0 ≤ (r : Int) + o) (hp : ((r : Int) + o).toNat = q) (h : own_End p e below s Q K N (T.setTop (mkF m q Ls (rest))) E) : own_End p e below s Q K N (T.setTop (mkF m pc Ls (.long y :: .long x :: rest))) E := own_lcmp X hx hd hr (own_ifY X hx hd' hc ho hp h)
theorem own_lcN (X : Stand p l e R s' m args below meth c T locs cells slots) (hx : p.tables.exec = Jvm.exec) {pc r q : Nat} {Ls : Array Slot} {rest : List Value} {cd : ClassFile.Cond} {x y : Int64} {o : Int} (hd : decode c.code pc = .ok (.lcmp, 1)) (hr : pc + 1 = r) (hd' : decode c.code r = .ok (.ifCond cd o, 3)) (hc : if_icmp.holds cd (lcmpW x y) 0 = false) (hq : r + 3 = q) (h : own_End p e below s Q K N (T.setTop (mkF m q Ls (rest))) E) : own_End p e below s Q K N (T.setTop (mkF m pc Ls (.long y :: .long x :: rest))) E := own_lcmp X hx hd hr (own_ifN X hx hd' hc hq h)
theorem own_tlt {x y : Int64} (h : x < y) : if_icmp.holds .lt (lcmpW x y) 0 = true ∧ if_icmp.holds .ge (lcmpW x y) 0 = false ∧ if_icmp.holds .gt (lcmpW y x) 0 = true ∧ if_icmp.holds .le (lcmpW y x) 0 = false :=
  ⟨(tlt ((lw_lt x y).mpr h)).1, (tlt ((lw_lt x y).mpr h)).2.1, (tlt ((lw_gt y x).mpr h)).2.2.1, (tlt ((lw_gt y x).mpr h)).2.2.2⟩
theorem own_flt {x y : Int64} (h : ¬ x < y) : if_icmp.holds .lt (lcmpW x y) 0 = false ∧ if_icmp.holds .ge (lcmpW x y) 0 = true ∧ if_icmp.holds .gt (lcmpW y x) 0 = false ∧ if_icmp.holds .le (lcmpW y x) 0 = true :=
  ⟨(flt (fun q => h ((lw_lt x y).mp q))).1, (flt (fun q => h ((lw_lt x y).mp q))).2.1, (flt (fun q => h ((lw_gt y x).mp q))).2.2.1, (flt (fun q => h ((lw_gt y x).mp q))).2.2.2⟩
theorem own_teq {x y : Int64} (h : x = y) : if_icmp.holds .eq (lcmpW x y) 0 = true ∧ if_icmp.holds .ne (lcmpW x y) 0 = false := teq ((lw_eq x y).mpr h)
theorem own_feq {x y : Int64} (h : ¬ x = y) : if_icmp.holds .eq (lcmpW x y) 0 = false ∧ if_icmp.holds .ne (lcmpW x y) 0 = true := feq (fun q => h ((lw_eq x y).mp q))
theorem own_retV (X : Stand p l e R s m args below meth c T locs cells slots) (hx : p.tables.exec = Jvm.exec) {pc : Nat} {Ls : Array Slot}  (hret : meth.sig.returnType = none) (hlk : meth.locks = false) (hc : cells ≤ K) (hs : slots ≤ N) (hd : decode c.code pc = .ok (.return_, 1)) (hQ : Q none T.heap locs) : own_End p e below s Q K N (T.setTop (mkF m pc Ls [])) := by
  obtain ⟨fs, hr, hrun, hended, hW, hsame⟩ := X.leave (v := none) (fun _ => rfl) hlk
  refine ⟨_, _, ?_, hrun, hended, _, _, rfl, hQ, ⟨_, rfl⟩, hW, hsame.mono hc hs⟩
  exact X.returnOut hx hret hd hr
theorem own_retI (X : Stand p l e R s m args below meth c T locs cells slots) (hx : p.tables.exec = Jvm.exec) {pc : Nat} {Ls : Array Slot} {rest : List Value} {z : Int32} (hret : meth.sig.returnType = some .int) (hlk : meth.locks = false) (hc : cells ≤ K) (hs : slots ≤ N) (hd : decode c.code pc = .ok (.ireturn, 1)) (hQ : Q (some (.int z)) T.heap locs) : own_End p e below s Q K N (T.setTop (mkF m pc Ls (.int z :: rest))) := by
  obtain ⟨fs, hr, hrun, hended, hW, hsame⟩ := X.leave (v := (some (.int z))) (fun h => by rw [hret] at h; cases h) hlk
  refine ⟨_, _, ?_, hrun, hended, _, _, rfl, hQ, ⟨_, rfl⟩, hW, hsame.mono hc hs⟩
  have hm' : T.vm.method? m = some meth := X.method'
  have hn : narrow .int (.int z) = .int z := rfl
  show Steps p.tables e below (T.setTop { method := m, pc := pc, locals := Ls, stack := _ :: rest, locked := none }) _
  jvm_step X.here [X.here.top, hx, hd, hm', hret, hn]
  first | (intro acts; rw [hr _ acts rfl rfl rfl]) | rw [hr _ _ rfl rfl rfl]
  exact Steps.refl _
theorem own_retJ (X : Stand p l e R s m args below meth c T locs cells slots) (hx : p.tables.exec = Jvm.exec) {pc : Nat} {Ls : Array Slot} {rest : List Value} {z : Int64} (hret : meth.sig.returnType = some .long) (hlk : meth.locks = false) (hc : cells ≤ K) (hs : slots ≤ N) (hd : decode c.code pc = .ok (.lreturn, 1)) (hQ : Q (some (.long z)) T.heap locs) : own_End p e below s Q K N (T.setTop (mkF m pc Ls (.long z :: rest))) := by
  obtain ⟨fs, hr, hrun, hended, hW, hsame⟩ := X.leave (v := (some (.long z))) (fun h => by rw [hret] at h; cases h) hlk
  refine ⟨_, _, ?_, hrun, hended, _, _, rfl, hQ, ⟨_, rfl⟩, hW, hsame.mono hc hs⟩
  have hm' : T.vm.method? m = some meth := X.method'
  have hn : narrow .long (.long z) = .long z := rfl
  show Steps p.tables e below (T.setTop { method := m, pc := pc, locals := Ls, stack := _ :: rest, locked := none }) _
  jvm_step X.here [X.here.top, hx, hd, hm', hret, hn]
  first | (intro acts; rw [hr _ acts rfl rfl rfl]) | rw [hr _ _ rfl rfl rfl]
  exact Steps.refl _
theorem own_retN (X : Stand p l e R s m args below meth c T locs cells slots) (hx : p.tables.exec = Jvm.exec) {pc : Nat} {Ls : Array Slot} {rest : List Value} {z : Int32} {t : FieldType} (ht : t = .boolean ∨ t = .byte ∨ t = .char ∨ t = .short) (hret : meth.sig.returnType = some t) (hlk : meth.locks = false) (hc : cells ≤ K) (hs : slots ≤ N) (hd : decode c.code pc = .ok (.ireturn, 1)) (hQ : Q (some (.int (nar t z))) T.heap locs) : own_End p e below s Q K N (T.setTop (mkF m pc Ls (.int z :: rest))) := by
  obtain ⟨fs, hr, hrun, hended, hW, hsame⟩ := X.leave (v := (some (.int (nar t z)))) (fun h => by rw [hret] at h; cases h) hlk
  refine ⟨_, _, ?_, hrun, hended, _, _, rfl, hQ, ⟨_, rfl⟩, hW, hsame.mono hc hs⟩
  exact retN X hx hret ht hd hr
theorem own_b (P : Prop) [Decidable P] : nar .boolean (if P then (1 : Int32) else 0) = if P then (1 : Int32) else 0 := by
  split <;> rfl
end Own
theorem own_d1_0 : decode prog_31_method_1_code 0 = .ok (.aload_n 0, 1) := by decide +kernel
theorem own_d1_1 : decode prog_31_method_1_code 1 = .ok (.invokespecial 1, 3) := by decide +kernel
theorem own_d1_4 : decode prog_31_method_1_code 4 = .ok (.aload_n 0, 1) := by decide +kernel
theorem own_d1_5 : decode prog_31_method_1_code 5 = .ok (.sipush 128, 3) := by decide +kernel
theorem own_d1_8 : decode prog_31_method_1_code 8 = .ok (.putfield 9, 3) := by decide +kernel
theorem own_d1_11 : decode prog_31_method_1_code 11 = .ok (.aload_n 0, 1) := by decide +kernel
theorem own_d1_12 : decode prog_31_method_1_code 12 = .ok (.sipush 191, 3) := by decide +kernel
theorem own_d1_15 : decode prog_31_method_1_code 15 = .ok (.putfield 13, 3) := by decide +kernel
theorem own_d1_18 : decode prog_31_method_1_code 18 = .ok (.return_, 1) := by decide +kernel
def own_Q1 (Z : State) (o0 : Addr) (w_o0_lowest : Int32) (w_o0_highest : Int32) (w_o0_needed : Int32) (h0 : Heap) (n0 : Nat) (v : Option Value) (h : Heap) (L : List Loc) : Prop := v = none ∧ Fr n0 L ∧ Keep h0 h [o0] ∧ Exa Z h o0 "com/example/dawdling_reader/dawdlingreader/mqtt/Utf8" ∧ Fld Z h o0 "com/example/dawdling_reader/dawdlingreader/mqtt/Utf8" "lowest" "I" (.int (128 : Int32)) ∧ Fld Z h o0 "com/example/dawdling_reader/dawdlingreader/mqtt/Utf8" "highest" "I" (.int (191 : Int32)) ∧ Fld Z h o0 "com/example/dawdling_reader/dawdlingreader/mqtt/Utf8" "needed" "I" (.int w_o0_needed)
theorem own_pn_rm1 : plainName "com/example/dawdling_reader/dawdlingreader/mqtt/Utf8" = true := by first | (simp [plainName, overriddenIn]; done) | decide +kernel
theorem own_ef_rm1 (m : MethodId) (o0 : Addr) : entryFrame m #[(.ref o0)] 1 = mkF m 0 #[.val (.ref o0)] [] := by first | (simp [entryFrame, mkF, argsToLocals, Value.category]; done) | rfl
set_option maxRecDepth 65536 in
set_option maxHeartbeats 40000000 in
theorem own_rm1 (l : Launch) (Z : State) (a0 : Array Value) (hw : ∀ d ∈ tables_1, d.before a0 Z = true) (ws : List Jvm.Cond) (o0 : Addr) (w_o0_lowest : Int32) (w_o0_highest : Int32) (w_o0_needed : Int32) (h0 : Heap) (n0 : Nat) (Z0 : n0 ≤ h0.size) (E_o0 : Exa Z h0 o0 "com/example/dawdling_reader/dawdlingreader/mqtt/Utf8") (F_o0_lowest : Fld Z h0 o0 "com/example/dawdling_reader/dawdlingreader/mqtt/Utf8" "lowest" "I" (.int w_o0_lowest)) (F_o0_highest : Fld Z h0 o0 "com/example/dawdling_reader/dawdlingreader/mqtt/Utf8" "highest" "I" (.int w_o0_highest)) (F_o0_needed : Fld Z h0 o0 "com/example/dawdling_reader/dawdlingreader/mqtt/Utf8" "needed" "I" (.int w_o0_needed)) (g_o0 : n0 ≤ o0) :
    MetFree l (⟨"com/example/dawdling_reader/dawdlingreader/mqtt/Utf8", "<init>", "()V"⟩ : MethodName) (head1 (Jvm.Cond.code (⟨"com/example/dawdling_reader/dawdlingreader/mqtt/Utf8", "<init>", "()V"⟩ : MethodName) prog_31_method_1_code 1 none :: ws) ({ frames := 1, cells := 0, slots := 0, locals := 12 } : Room)) (fun a U => a = #[(.ref o0)] ∧ Z.Warmed39 U.vm ∧ U.heap = h0) (fun _ _ _ _ _ => True) (fun _ U o U' => ∃ v L, o = .returned v ∧ own_Q1 Z o0 w_o0_lowest w_o0_highest w_o0_needed h0 n0 v U'.heap L ∧ FrameEnd U o U' L ({ frames := 1, cells := 0, slots := 0, locals := 12 } : Room).cells ({ frames := 1, cells := 0, slots := 0, locals := 12 } : Room).slots) := by
  refine MetFree.of_bodySF (plainFor_of_name own_pn_rm1) hisR ?_
  intro p e s m args below meth c s₁ Bd hml0 hP hK
  obtain ⟨rfl, hZ, hh⟩ := hP
  have hx := Bd.exec
  have hby := Bd.bytes
  have hml : c.maxLocals = 1 := hml0
  have hown : s.vm.findClass "com/example/dawdling_reader/dawdlingreader/mqtt/Utf8" = some m.cls := findClass_of_methodNamed Bd.named
  have hnm := (name_of_methodNamed Bd.named Bd.method).1
  have X0 : Stand p l e ({ frames := 1, cells := 0, slots := 0, locals := 12 } : Room) s m #[(.ref o0)] below meth c s₁ [] 0 0 := Stand.of_body Bd
  have e0 : s₁.heap = h0 := by rw [← hh, Bd.state]; rfl
  have N0 := Fr.nil n0
  show own_End p e below s (own_Q1 Z o0 w_o0_lowest w_o0_highest w_o0_needed h0 n0) ({ frames := 1, cells := 0, slots := 0, locals := 12 } : Room).cells ({ frames := 1, cells := 0, slots := 0, locals := 12 } : Room).slots (s₁.setTop (entryFrame m #[(.ref o0)] 1))
  rw [own_ef_rm1]
  refine own_aloadN X0 hx (hb hby own_d1_0) rfl rfl (q := 1) rfl ?_
  obtain ⟨T1, X1, e1, st1⟩ := initO X0 hx hZ hown (hw _ (List.mem_of_getElem? (i := 6) rfl)) (hw _ (List.mem_of_getElem? (i := 7) rfl)) (hw _ (List.mem_of_getElem? (i := 8) rfl)) e0 (g := (mkF m 1 #[.val (.ref o0)] [(.ref o0)])) rfl (by rw [hml]; rfl) rfl (hb hby own_d1_1) (by decide) (W := 0) (by show 2 * 0 + _ ≤ _; exact Nat.le_of_eq rfl) (by decide)
  refine own_back st1 ?_
  show own_End p e below s _ _ _ (T1.setTop (mkF m 4 #[.val (.ref o0)] []))
  refine own_aloadN X1 hx (hb hby own_d1_4) rfl rfl (q := 5) rfl ?_
  refine own_sipush X1 hx (hb hby own_d1_5) (z := 128) rfl (q := 8) rfl ?_
  obtain ⟨T2, h2, X2, e2, W2, st2⟩ := putF X1 hx hZ hown (host := "") (Or.inl (hw _ (List.mem_of_getElem? (i := 9) rfl))) Via.refl e1 F_o0_lowest E_o0 (Or.inl (hw _ (List.mem_of_getElem? (i := 10) rfl))) (hw _ (List.mem_of_getElem? (i := 1) rfl)) (ty := .int) (by decide) rfl rfl (g := (mkF m 8 #[.val (.ref o0)] [(.int (128 : Int32)), (.ref o0)])) rfl rfl (hb hby own_d1_8)
  have F_o0_lowest_2 := F_o0_lowest.same W2
  have E_o0_3 := E_o0.wr W2
  have F_o0_highest_4 := F_o0_highest.other W2 (Or.inr (slot_ne (Or.inl (hw _ (List.mem_of_getElem? (i := 12) rfl))) (Or.inl (hw _ (List.mem_of_getElem? (i := 10) rfl))) (by decide) (t := .int) (t' := .int) (by decide) (by decide)))
  have F_o0_needed_5 := F_o0_needed.other W2 (Or.inr (slot_ne (Or.inl (hw _ (List.mem_of_getElem? (i := 19) rfl))) (Or.inl (hw _ (List.mem_of_getElem? (i := 10) rfl))) (by decide) (t := .int) (t' := .int) (by decide) (by decide)))
  have Kp6 : Keep h0 _ [o0] := (Keep.refl h0 [o0]).wr W2 (Or.inl (List.mem_of_getElem? (i := 0) rfl))
  have Z7 := Nat.le_trans Z0 (Keep.of_wr W2).1
  have N2 := Fr.snoc X2 N0 g_o0
  refine own_back st2 ?_
  show own_End p e below s _ _ _ (T2.setTop (mkF m 11 #[.val (.ref o0)] []))
  refine own_aloadN X2 hx (hb hby own_d1_11) rfl rfl (q := 12) rfl ?_
  refine own_sipush X2 hx (hb hby own_d1_12) (z := 191) rfl (q := 15) rfl ?_
  obtain ⟨T8, h8, X8, e8, W8, st8⟩ := putF X2 hx hZ hown (host := "") (Or.inl (hw _ (List.mem_of_getElem? (i := 11) rfl))) Via.refl e2 F_o0_highest_4 E_o0_3 (Or.inl (hw _ (List.mem_of_getElem? (i := 12) rfl))) (hw _ (List.mem_of_getElem? (i := 1) rfl)) (ty := .int) (by decide) rfl rfl (g := (mkF m 15 #[.val (.ref o0)] [(.int (191 : Int32)), (.ref o0)])) rfl rfl (hb hby own_d1_15)
  have F_o0_highest_8 := F_o0_highest_4.same W8
  have E_o0_9 := E_o0_3.wr W8
  have F_o0_lowest_10 := F_o0_lowest_2.other W8 (Or.inr (slot_ne (Or.inl (hw _ (List.mem_of_getElem? (i := 10) rfl))) (Or.inl (hw _ (List.mem_of_getElem? (i := 12) rfl))) (by decide) (t := .int) (t' := .int) (by decide) (by decide)))
  have F_o0_needed_11 := F_o0_needed_5.other W8 (Or.inr (slot_ne (Or.inl (hw _ (List.mem_of_getElem? (i := 19) rfl))) (Or.inl (hw _ (List.mem_of_getElem? (i := 12) rfl))) (by decide) (t := .int) (t' := .int) (by decide) (by decide)))
  have Kp12 : Keep h0 _ [o0] := Kp6.wr W8 (Or.inl (List.mem_of_getElem? (i := 0) rfl))
  have Z13 := Nat.le_trans Z7 (Keep.of_wr W8).1
  have N8 := Fr.snoc X8 N2 g_o0
  refine own_back st8 ?_
  show own_End p e below s _ _ _ (T8.setTop (mkF m 18 #[.val (.ref o0)] []))
  refine own_retV X8 hx Bd.returns Bd.notSynchronized (by decide) (by decide) (hb hby own_d1_18) ?_
  show own_Q1 Z o0 w_o0_lowest w_o0_highest w_o0_needed h0 n0 _ T8.heap _
  rw [e8]
  exact ⟨rfl, N8, Kp12, E_o0_9, F_o0_lowest_10, F_o0_highest_8, F_o0_needed_11⟩
theorem own_d3_0 : decode prog_31_method_2_code 0 = .ok (.aload_n 0, 1) := by decide +kernel
theorem own_d3_1 : decode prog_31_method_2_code 1 = .ok (.getfield 16, 3) := by decide +kernel
theorem own_d3_4 : decode prog_31_method_2_code 4 = .ok (.ifCond .ne 123, 3) := by decide +kernel
theorem own_d3_7 : decode prog_31_method_2_code 7 = .ok (.iload_n 1, 1) := by decide +kernel
theorem own_d3_8 : decode prog_31_method_2_code 8 = .ok (.sipush 128, 3) := by decide +kernel
theorem own_d3_11 : decode prog_31_method_2_code 11 = .ok (.if_icmp .ge 5, 3) := by decide +kernel
theorem own_d3_14 : decode prog_31_method_2_code 14 = .ok (.iconst 1, 1) := by decide +kernel
theorem own_d3_15 : decode prog_31_method_2_code 15 = .ok (.ireturn, 1) := by decide +kernel
theorem own_d3_16 : decode prog_31_method_2_code 16 = .ok (.iload_n 1, 1) := by decide +kernel
theorem own_d3_17 : decode prog_31_method_2_code 17 = .ok (.sipush 194, 3) := by decide +kernel
theorem own_d3_20 : decode prog_31_method_2_code 20 = .ok (.if_icmp .lt 10, 3) := by decide +kernel
theorem own_d3_30 : decode prog_31_method_2_code 30 = .ok (.iconst 0, 1) := by decide +kernel
theorem own_d3_31 : decode prog_31_method_2_code 31 = .ok (.ireturn, 1) := by decide +kernel
theorem own_d3_23 : decode prog_31_method_2_code 23 = .ok (.iload_n 1, 1) := by decide +kernel
theorem own_d3_24 : decode prog_31_method_2_code 24 = .ok (.sipush 244, 3) := by decide +kernel
theorem own_d3_27 : decode prog_31_method_2_code 27 = .ok (.if_icmp .le 5, 3) := by decide +kernel
theorem own_d3_32 : decode prog_31_method_2_code 32 = .ok (.aload_n 0, 1) := by decide +kernel
theorem own_d3_33 : decode prog_31_method_2_code 33 = .ok (.iload_n 1, 1) := by decide +kernel
theorem own_d3_34 : decode prog_31_method_2_code 34 = .ok (.sipush 224, 3) := by decide +kernel
theorem own_d3_37 : decode prog_31_method_2_code 37 = .ok (.if_icmp .ge 7, 3) := by decide +kernel
theorem own_d3_40 : decode prog_31_method_2_code 40 = .ok (.iconst 1, 1) := by decide +kernel
theorem own_d3_41 : decode prog_31_method_2_code 41 = .ok (.goto 15, 3) := by decide +kernel
theorem own_d3_44 : decode prog_31_method_2_code 44 = .ok (.iload_n 1, 1) := by decide +kernel
theorem own_d3_45 : decode prog_31_method_2_code 45 = .ok (.sipush 240, 3) := by decide +kernel
theorem own_d3_48 : decode prog_31_method_2_code 48 = .ok (.if_icmp .ge 7, 3) := by decide +kernel
theorem own_d3_51 : decode prog_31_method_2_code 51 = .ok (.iconst 2, 1) := by decide +kernel
theorem own_d3_52 : decode prog_31_method_2_code 52 = .ok (.goto 4, 3) := by decide +kernel
theorem own_d3_55 : decode prog_31_method_2_code 55 = .ok (.iconst 3, 1) := by decide +kernel
def own_M3_48 (p1 : Int32) : Int32 := (if p1 < (240 : Int32) then (2 : Int32) else (3 : Int32))
def own_M3_37 (p1 : Int32) : Int32 := (if p1 < (224 : Int32) then (1 : Int32) else (own_M3_48 p1))
theorem own_d3_56 : decode prog_31_method_2_code 56 = .ok (.putfield 16, 3) := by decide +kernel
theorem own_d3_59 : decode prog_31_method_2_code 59 = .ok (.aload_n 0, 1) := by decide +kernel
theorem own_d3_60 : decode prog_31_method_2_code 60 = .ok (.iload_n 1, 1) := by decide +kernel
theorem own_d3_61 : decode prog_31_method_2_code 61 = .ok (.sipush 224, 3) := by decide +kernel
theorem own_d3_64 : decode prog_31_method_2_code 64 = .ok (.if_icmp .ne 9, 3) := by decide +kernel
theorem own_d3_67 : decode prog_31_method_2_code 67 = .ok (.sipush 160, 3) := by decide +kernel
theorem own_d3_70 : decode prog_31_method_2_code 70 = .ok (.goto 19, 3) := by decide +kernel
theorem own_d3_73 : decode prog_31_method_2_code 73 = .ok (.iload_n 1, 1) := by decide +kernel
theorem own_d3_74 : decode prog_31_method_2_code 74 = .ok (.sipush 240, 3) := by decide +kernel
theorem own_d3_77 : decode prog_31_method_2_code 77 = .ok (.if_icmp .ne 9, 3) := by decide +kernel
theorem own_d3_80 : decode prog_31_method_2_code 80 = .ok (.sipush 144, 3) := by decide +kernel
theorem own_d3_83 : decode prog_31_method_2_code 83 = .ok (.goto 6, 3) := by decide +kernel
theorem own_d3_86 : decode prog_31_method_2_code 86 = .ok (.sipush 128, 3) := by decide +kernel
def own_M3_77 (p1 : Int32) : Int32 := (if p1 = (240 : Int32) then (144 : Int32) else (128 : Int32))
def own_M3_64 (p1 : Int32) : Int32 := (if p1 = (224 : Int32) then (160 : Int32) else (own_M3_77 p1))
theorem own_d3_89 : decode prog_31_method_2_code 89 = .ok (.putfield 9, 3) := by decide +kernel
theorem own_d3_92 : decode prog_31_method_2_code 92 = .ok (.aload_n 0, 1) := by decide +kernel
theorem own_d3_93 : decode prog_31_method_2_code 93 = .ok (.iload_n 1, 1) := by decide +kernel
theorem own_d3_94 : decode prog_31_method_2_code 94 = .ok (.sipush 237, 3) := by decide +kernel
theorem own_d3_97 : decode prog_31_method_2_code 97 = .ok (.if_icmp .ne 9, 3) := by decide +kernel
theorem own_d3_100 : decode prog_31_method_2_code 100 = .ok (.sipush 159, 3) := by decide +kernel
theorem own_d3_103 : decode prog_31_method_2_code 103 = .ok (.goto 19, 3) := by decide +kernel
theorem own_d3_106 : decode prog_31_method_2_code 106 = .ok (.iload_n 1, 1) := by decide +kernel
theorem own_d3_107 : decode prog_31_method_2_code 107 = .ok (.sipush 244, 3) := by decide +kernel
theorem own_d3_110 : decode prog_31_method_2_code 110 = .ok (.if_icmp .ne 9, 3) := by decide +kernel
theorem own_d3_113 : decode prog_31_method_2_code 113 = .ok (.sipush 143, 3) := by decide +kernel
theorem own_d3_116 : decode prog_31_method_2_code 116 = .ok (.goto 6, 3) := by decide +kernel
theorem own_d3_119 : decode prog_31_method_2_code 119 = .ok (.sipush 191, 3) := by decide +kernel
def own_M3_110 (p1 : Int32) : Int32 := (if p1 = (244 : Int32) then (143 : Int32) else (191 : Int32))
def own_M3_97 (p1 : Int32) : Int32 := (if p1 = (237 : Int32) then (159 : Int32) else (own_M3_110 p1))
theorem own_d3_122 : decode prog_31_method_2_code 122 = .ok (.putfield 13, 3) := by decide +kernel
theorem own_d3_125 : decode prog_31_method_2_code 125 = .ok (.iconst 1, 1) := by decide +kernel
theorem own_d3_126 : decode prog_31_method_2_code 126 = .ok (.ireturn, 1) := by decide +kernel
theorem own_d3_127 : decode prog_31_method_2_code 127 = .ok (.iload_n 1, 1) := by decide +kernel
theorem own_d3_128 : decode prog_31_method_2_code 128 = .ok (.aload_n 0, 1) := by decide +kernel
theorem own_d3_129 : decode prog_31_method_2_code 129 = .ok (.getfield 9, 3) := by decide +kernel
theorem own_d3_132 : decode prog_31_method_2_code 132 = .ok (.if_icmp .lt 11, 3) := by decide +kernel
theorem own_d3_143 : decode prog_31_method_2_code 143 = .ok (.iconst 0, 1) := by decide +kernel
theorem own_d3_144 : decode prog_31_method_2_code 144 = .ok (.ireturn, 1) := by decide +kernel
theorem own_d3_135 : decode prog_31_method_2_code 135 = .ok (.iload_n 1, 1) := by decide +kernel
theorem own_d3_136 : decode prog_31_method_2_code 136 = .ok (.aload_n 0, 1) := by decide +kernel
theorem own_d3_137 : decode prog_31_method_2_code 137 = .ok (.getfield 13, 3) := by decide +kernel
theorem own_d3_140 : decode prog_31_method_2_code 140 = .ok (.if_icmp .le 5, 3) := by decide +kernel
theorem own_d3_145 : decode prog_31_method_2_code 145 = .ok (.aload_n 0, 1) := by decide +kernel
theorem own_d3_146 : decode prog_31_method_2_code 146 = .ok (.dup, 1) := by decide +kernel
theorem own_d3_147 : decode prog_31_method_2_code 147 = .ok (.getfield 16, 3) := by decide +kernel
theorem own_d3_150 : decode prog_31_method_2_code 150 = .ok (.iconst 1, 1) := by decide +kernel
theorem own_d3_151 : decode prog_31_method_2_code 151 = .ok (.isub, 1) := by decide +kernel
theorem own_d3_152 : decode prog_31_method_2_code 152 = .ok (.putfield 16, 3) := by decide +kernel
theorem own_d3_155 : decode prog_31_method_2_code 155 = .ok (.aload_n 0, 1) := by decide +kernel
theorem own_d3_156 : decode prog_31_method_2_code 156 = .ok (.sipush 128, 3) := by decide +kernel
theorem own_d3_159 : decode prog_31_method_2_code 159 = .ok (.putfield 9, 3) := by decide +kernel
theorem own_d3_162 : decode prog_31_method_2_code 162 = .ok (.aload_n 0, 1) := by decide +kernel
theorem own_d3_163 : decode prog_31_method_2_code 163 = .ok (.sipush 191, 3) := by decide +kernel
theorem own_d3_166 : decode prog_31_method_2_code 166 = .ok (.putfield 13, 3) := by decide +kernel
theorem own_d3_169 : decode prog_31_method_2_code 169 = .ok (.iconst 1, 1) := by decide +kernel
theorem own_d3_170 : decode prog_31_method_2_code 170 = .ok (.ireturn, 1) := by decide +kernel
def own_F3 (p1 : Int32) (w_o0_lowest : Int32) (w_o0_highest : Int32) (w_o0_needed : Int32) : Int32 := (if w_o0_needed = (0 : Int32) then (if p1 < (128 : Int32) then (1 : Int32) else (if p1 < (194 : Int32) then (0 : Int32) else (if (244 : Int32) < p1 then (0 : Int32) else (1 : Int32)))) else (if p1 < w_o0_lowest then (0 : Int32) else (if w_o0_highest < p1 then (0 : Int32) else (1 : Int32))))
def own_G3_lowest (p1 : Int32) (w_o0_lowest : Int32) (w_o0_highest : Int32) (w_o0_needed : Int32) : Int32 := (if w_o0_needed = (0 : Int32) then (if p1 < (128 : Int32) then w_o0_lowest else (if p1 < (194 : Int32) then w_o0_lowest else (if (244 : Int32) < p1 then w_o0_lowest else (own_M3_64 p1)))) else (if p1 < w_o0_lowest then w_o0_lowest else (if w_o0_highest < p1 then w_o0_lowest else (128 : Int32))))
def own_G3_highest (p1 : Int32) (w_o0_lowest : Int32) (w_o0_highest : Int32) (w_o0_needed : Int32) : Int32 := (if w_o0_needed = (0 : Int32) then (if p1 < (128 : Int32) then w_o0_highest else (if p1 < (194 : Int32) then w_o0_highest else (if (244 : Int32) < p1 then w_o0_highest else (own_M3_97 p1)))) else (if p1 < w_o0_lowest then w_o0_highest else (if w_o0_highest < p1 then w_o0_highest else (191 : Int32))))
def own_G3_needed (p1 : Int32) (w_o0_lowest : Int32) (w_o0_highest : Int32) (w_o0_needed : Int32) : Int32 := (if w_o0_needed = (0 : Int32) then (if p1 < (128 : Int32) then w_o0_needed else (if p1 < (194 : Int32) then w_o0_needed else (if (244 : Int32) < p1 then w_o0_needed else (own_M3_37 p1)))) else (if p1 < w_o0_lowest then w_o0_needed else (if w_o0_highest < p1 then w_o0_needed else (w_o0_needed - (1 : Int32)))))
def own_Q3 (Z : State) (o0 : Addr) (p1 : Int32) (w_o0_lowest : Int32) (w_o0_highest : Int32) (w_o0_needed : Int32) (h0 : Heap) (n0 : Nat) (v : Option Value) (h : Heap) (L : List Loc) : Prop := v = some (.int (own_F3 p1 w_o0_lowest w_o0_highest w_o0_needed)) ∧ Fr n0 L ∧ Keep h0 h [o0] ∧ Exa Z h o0 "com/example/dawdling_reader/dawdlingreader/mqtt/Utf8" ∧ Fld Z h o0 "com/example/dawdling_reader/dawdlingreader/mqtt/Utf8" "lowest" "I" (.int (own_G3_lowest p1 w_o0_lowest w_o0_highest w_o0_needed)) ∧ Fld Z h o0 "com/example/dawdling_reader/dawdlingreader/mqtt/Utf8" "highest" "I" (.int (own_G3_highest p1 w_o0_lowest w_o0_highest w_o0_needed)) ∧ Fld Z h o0 "com/example/dawdling_reader/dawdlingreader/mqtt/Utf8" "needed" "I" (.int (own_G3_needed p1 w_o0_lowest w_o0_highest w_o0_needed))
theorem own_pn_rm3 : plainName "com/example/dawdling_reader/dawdlingreader/mqtt/Utf8" = true := by first | (simp [plainName, overriddenIn]; done) | decide +kernel
theorem own_ef_rm3 (m : MethodId) (o0 : Addr) (p1 : Int32) : entryFrame m #[(.ref o0), (.int p1)] 2 = mkF m 0 #[.val (.ref o0), .val (.int p1)] [] := by first | (simp [entryFrame, mkF, argsToLocals, Value.category]; done) | rfl
set_option maxRecDepth 65536 in
set_option maxHeartbeats 40000000 in
theorem own_rm3 (l : Launch) (Z : State) (a0 : Array Value) (hw : ∀ d ∈ tables_1, d.before a0 Z = true) (ws : List Jvm.Cond) (o0 : Addr) (p1 : Int32) (w_o0_lowest : Int32) (w_o0_highest : Int32) (w_o0_needed : Int32) (h0 : Heap) (n0 : Nat) (Z0 : n0 ≤ h0.size) (E_o0 : Exa Z h0 o0 "com/example/dawdling_reader/dawdlingreader/mqtt/Utf8") (F_o0_lowest : Fld Z h0 o0 "com/example/dawdling_reader/dawdlingreader/mqtt/Utf8" "lowest" "I" (.int w_o0_lowest)) (F_o0_highest : Fld Z h0 o0 "com/example/dawdling_reader/dawdlingreader/mqtt/Utf8" "highest" "I" (.int w_o0_highest)) (F_o0_needed : Fld Z h0 o0 "com/example/dawdling_reader/dawdlingreader/mqtt/Utf8" "needed" "I" (.int w_o0_needed)) (g_o0 : n0 ≤ o0) :
    MetFree l (⟨"com/example/dawdling_reader/dawdlingreader/mqtt/Utf8", "accept", "(I)Z"⟩ : MethodName) (head1 (Jvm.Cond.code (⟨"com/example/dawdling_reader/dawdlingreader/mqtt/Utf8", "accept", "(I)Z"⟩ : MethodName) prog_31_method_2_code 2 (some .boolean) :: ws) ({ frames := 0, cells := 0, slots := 0, locals := 0 } : Room)) (fun a U => a = #[(.ref o0), (.int p1)] ∧ Z.Warmed39 U.vm ∧ U.heap = h0) (fun _ _ _ _ _ => True) (fun _ U o U' => ∃ v L, o = .returned v ∧ own_Q3 Z o0 p1 w_o0_lowest w_o0_highest w_o0_needed h0 n0 v U'.heap L ∧ FrameEnd U o U' L ({ frames := 0, cells := 0, slots := 0, locals := 0 } : Room).cells ({ frames := 0, cells := 0, slots := 0, locals := 0 } : Room).slots) := by
  refine MetFree.of_bodySF (plainFor_of_name own_pn_rm3) hisR ?_
  intro p e s m args below meth c s₁ Bd hml0 hP hK
  obtain ⟨rfl, hZ, hh⟩ := hP
  have hx := Bd.exec
  have hby := Bd.bytes
  have hml : c.maxLocals = 2 := hml0
  have hown : s.vm.findClass "com/example/dawdling_reader/dawdlingreader/mqtt/Utf8" = some m.cls := findClass_of_methodNamed Bd.named
  have hnm := (name_of_methodNamed Bd.named Bd.method).1
  have X0 : Stand p l e ({ frames := 0, cells := 0, slots := 0, locals := 0 } : Room) s m #[(.ref o0), (.int p1)] below meth c s₁ [] 0 0 := Stand.of_body Bd
  have e0 : s₁.heap = h0 := by rw [← hh, Bd.state]; rfl
  have N0 := Fr.nil n0
  show own_End p e below s (own_Q3 Z o0 p1 w_o0_lowest w_o0_highest w_o0_needed h0 n0) ({ frames := 0, cells := 0, slots := 0, locals := 0 } : Room).cells ({ frames := 0, cells := 0, slots := 0, locals := 0 } : Room).slots (s₁.setTop (entryFrame m #[(.ref o0), (.int p1)] 2))
  rw [own_ef_rm3]
  refine own_aloadN X0 hx (hb hby own_d3_0) rfl rfl (q := 1) rfl ?_
  obtain ⟨T15, X15, e15, st15⟩ := getF X0 hx hZ hown (host := "") (Or.inl (hw _ (List.mem_of_getElem? (i := 18) rfl))) Via.refl e0 F_o0_needed (g := (mkF m 1 #[.val (.ref o0), .val (.int p1)] [(.ref o0)])) rfl rfl (hb hby own_d3_1)
  refine own_back st15 ?_
  show own_End p e below s _ _ _ (T15.setTop (mkF m 4 #[.val (.ref o0), .val (.int p1)] [(.int w_o0_needed)]))
  by_cases hc4_16 : w_o0_needed = (0 : Int32)
  · refine own_ifN X15 hx (hb hby own_d3_4) (teq hc4_16).2 (q := 7) rfl ?_
    refine own_iloadN X15 hx (hb hby own_d3_7) rfl (q := 8) rfl ?_
    refine own_sipush X15 hx (hb hby own_d3_8) (z := 128) rfl (q := 11) rfl ?_
    by_cases hc11_17 : p1 < (128 : Int32)
    · refine own_icN X15 hx (hb hby own_d3_11) (tlt hc11_17).2.1 (q := 14) rfl ?_
      refine own_iconst X15 hx (hb hby own_d3_14) (z := 1) rfl (q := 15) rfl ?_
      refine own_retN X15 hx (t := .boolean) (by simp) Bd.returns Bd.notSynchronized (by decide) (by decide) (hb hby own_d3_15) ?_
      show own_Q3 Z o0 p1 w_o0_lowest w_o0_highest w_o0_needed h0 n0 _ T15.heap _
      rw [e15]
      exact ⟨(by rw [show own_F3 p1 w_o0_lowest w_o0_highest w_o0_needed = _ from (by simp only [own_F3, if_pos hc4_16, if_pos hc11_17] : _ = (1 : Int32))]; rfl), N0, (Keep.refl h0 [o0]), E_o0, (by have q := F_o0_lowest; simp only [own_G3_lowest, if_pos hc4_16, if_pos hc11_17]; exact q), (by have q := F_o0_highest; simp only [own_G3_highest, if_pos hc4_16, if_pos hc11_17]; exact q), (by have q := F_o0_needed; simp only [own_G3_needed, if_pos hc4_16, if_pos hc11_17]; exact q)⟩
    · refine own_icY X15 hx (hb hby own_d3_11) (flt hc11_17).2.1 (q := 16) (by decide) (by decide) ?_
      refine own_iloadN X15 hx (hb hby own_d3_16) rfl (q := 17) rfl ?_
      refine own_sipush X15 hx (hb hby own_d3_17) (z := 194) rfl (q := 20) rfl ?_
      by_cases hc20_19 : p1 < (194 : Int32)
      · refine own_icY X15 hx (hb hby own_d3_20) (tlt hc20_19).1 (q := 30) (by decide) (by decide) ?_
        refine own_iconst X15 hx (hb hby own_d3_30) (z := 0) rfl (q := 31) rfl ?_
        refine own_retN X15 hx (t := .boolean) (by simp) Bd.returns Bd.notSynchronized (by decide) (by decide) (hb hby own_d3_31) ?_
        show own_Q3 Z o0 p1 w_o0_lowest w_o0_highest w_o0_needed h0 n0 _ T15.heap _
        rw [e15]
        exact ⟨(by rw [show own_F3 p1 w_o0_lowest w_o0_highest w_o0_needed = _ from (by simp only [own_F3, if_pos hc4_16, if_neg hc11_17, if_pos hc20_19] : _ = (0 : Int32))]; rfl), N0, (Keep.refl h0 [o0]), E_o0, (by have q := F_o0_lowest; simp only [own_G3_lowest, if_pos hc4_16, if_neg hc11_17, if_pos hc20_19]; exact q), (by have q := F_o0_highest; simp only [own_G3_highest, if_pos hc4_16, if_neg hc11_17, if_pos hc20_19]; exact q), (by have q := F_o0_needed; simp only [own_G3_needed, if_pos hc4_16, if_neg hc11_17, if_pos hc20_19]; exact q)⟩
      · refine own_icN X15 hx (hb hby own_d3_20) (flt hc20_19).1 (q := 23) rfl ?_
        refine own_iloadN X15 hx (hb hby own_d3_23) rfl (q := 24) rfl ?_
        refine own_sipush X15 hx (hb hby own_d3_24) (z := 244) rfl (q := 27) rfl ?_
        by_cases hc27_21 : (244 : Int32) < p1
        · refine own_icN X15 hx (hb hby own_d3_27) (tlt hc27_21).2.2.2 (q := 30) rfl ?_
          refine own_iconst X15 hx (hb hby own_d3_30) (z := 0) rfl (q := 31) rfl ?_
          refine own_retN X15 hx (t := .boolean) (by simp) Bd.returns Bd.notSynchronized (by decide) (by decide) (hb hby own_d3_31) ?_
          show own_Q3 Z o0 p1 w_o0_lowest w_o0_highest w_o0_needed h0 n0 _ T15.heap _
          rw [e15]
          exact ⟨(by rw [show own_F3 p1 w_o0_lowest w_o0_highest w_o0_needed = _ from (by simp only [own_F3, if_pos hc4_16, if_neg hc11_17, if_neg hc20_19, if_pos hc27_21] : _ = (0 : Int32))]; rfl), N0, (Keep.refl h0 [o0]), E_o0, (by have q := F_o0_lowest; simp only [own_G3_lowest, if_pos hc4_16, if_neg hc11_17, if_neg hc20_19, if_pos hc27_21]; exact q), (by have q := F_o0_highest; simp only [own_G3_highest, if_pos hc4_16, if_neg hc11_17, if_neg hc20_19, if_pos hc27_21]; exact q), (by have q := F_o0_needed; simp only [own_G3_needed, if_pos hc4_16, if_neg hc11_17, if_neg hc20_19, if_pos hc27_21]; exact q)⟩
        · refine own_icY X15 hx (hb hby own_d3_27) (flt hc27_21).2.2.2 (q := 32) (by decide) (by decide) ?_
          refine own_aloadN X15 hx (hb hby own_d3_32) rfl rfl (q := 33) rfl ?_
          refine own_iloadN X15 hx (hb hby own_d3_33) rfl (q := 34) rfl ?_
          refine own_sipush X15 hx (hb hby own_d3_34) (z := 224) rfl (q := 37) rfl ?_
          suffices J30 : own_End p e below s (own_Q3 Z o0 p1 w_o0_lowest w_o0_highest w_o0_needed h0 n0) ({ frames := 0, cells := 0, slots := 0, locals := 0 } : Room).cells ({ frames := 0, cells := 0, slots := 0, locals := 0 } : Room).slots (T15.setTop (mkF m 56 #[.val (.ref o0), .val (.int p1)] [(.int (own_M3_37 p1)), (.ref o0)])) by
            by_cases hc37_23 : p1 < (224 : Int32)
            · refine own_icN X15 hx (hb hby own_d3_37) (tlt hc37_23).2.1 (q := 40) rfl ?_
              refine own_iconst X15 hx (hb hby own_d3_40) (z := 1) rfl (q := 41) rfl ?_
              refine own_goto X15 hx (hb hby own_d3_41) (q := 56) (by decide) (by decide) ?_
              simp only [own_M3_37, if_pos hc37_23] at J30
              exact J30
            · refine own_icY X15 hx (hb hby own_d3_37) (flt hc37_23).2.1 (q := 44) (by decide) (by decide) ?_
              refine own_iloadN X15 hx (hb hby own_d3_44) rfl (q := 45) rfl ?_
              refine own_sipush X15 hx (hb hby own_d3_45) (z := 240) rfl (q := 48) rfl ?_
              suffices J28 : own_End p e below s (own_Q3 Z o0 p1 w_o0_lowest w_o0_highest w_o0_needed h0 n0) ({ frames := 0, cells := 0, slots := 0, locals := 0 } : Room).cells ({ frames := 0, cells := 0, slots := 0, locals := 0 } : Room).slots (T15.setTop (mkF m 56 #[.val (.ref o0), .val (.int p1)] [(.int (own_M3_48 p1)), (.ref o0)])) by
                by_cases hc48_25 : p1 < (240 : Int32)
                · refine own_icN X15 hx (hb hby own_d3_48) (tlt hc48_25).2.1 (q := 51) rfl ?_
                  refine own_iconst X15 hx (hb hby own_d3_51) (z := 2) rfl (q := 52) rfl ?_
                  refine own_goto X15 hx (hb hby own_d3_52) (q := 56) (by decide) (by decide) ?_
                  simp only [own_M3_48, if_pos hc48_25] at J28
                  exact J28
                · refine own_icY X15 hx (hb hby own_d3_48) (flt hc48_25).2.1 (q := 55) (by decide) (by decide) ?_
                  refine own_iconst X15 hx (hb hby own_d3_55) (z := 3) rfl (q := 56) rfl ?_
                  simp only [own_M3_48, if_neg hc48_25] at J28
                  exact J28
              simp only [own_M3_37, if_neg hc37_23] at J30
              exact J30
          obtain ⟨T31, h31, X31, e31, W31, st31⟩ := putF X15 hx hZ hown (host := "") (Or.inl (hw _ (List.mem_of_getElem? (i := 18) rfl))) Via.refl e15 F_o0_needed E_o0 (Or.inl (hw _ (List.mem_of_getElem? (i := 19) rfl))) (hw _ (List.mem_of_getElem? (i := 1) rfl)) (ty := .int) (by decide) rfl rfl (g := (mkF m 56 #[.val (.ref o0), .val (.int p1)] [(.int (own_M3_37 p1)), (.ref o0)])) rfl rfl (hb hby own_d3_56)
          have F_o0_needed_31 := F_o0_needed.same W31
          have E_o0_32 := E_o0.wr W31
          have F_o0_lowest_33 := F_o0_lowest.other W31 (Or.inr (slot_ne (Or.inl (hw _ (List.mem_of_getElem? (i := 10) rfl))) (Or.inl (hw _ (List.mem_of_getElem? (i := 19) rfl))) (by decide) (t := .int) (t' := .int) (by decide) (by decide)))
          have F_o0_highest_34 := F_o0_highest.other W31 (Or.inr (slot_ne (Or.inl (hw _ (List.mem_of_getElem? (i := 12) rfl))) (Or.inl (hw _ (List.mem_of_getElem? (i := 19) rfl))) (by decide) (t := .int) (t' := .int) (by decide) (by decide)))
          have Kp35 : Keep h0 _ [o0] := (Keep.refl h0 [o0]).wr W31 (Or.inl (List.mem_of_getElem? (i := 0) rfl))
          have Z36 := Nat.le_trans Z0 (Keep.of_wr W31).1
          have N31 := Fr.snoc X31 N0 g_o0
          refine own_back st31 ?_
          show own_End p e below s _ _ _ (T31.setTop (mkF m 59 #[.val (.ref o0), .val (.int p1)] []))
          refine own_aloadN X31 hx (hb hby own_d3_59) rfl rfl (q := 60) rfl ?_
          refine own_iloadN X31 hx (hb hby own_d3_60) rfl (q := 61) rfl ?_
          refine own_sipush X31 hx (hb hby own_d3_61) (z := 224) rfl (q := 64) rfl ?_
          suffices J44 : own_End p e below s (own_Q3 Z o0 p1 w_o0_lowest w_o0_highest w_o0_needed h0 n0) ({ frames := 0, cells := 0, slots := 0, locals := 0 } : Room).cells ({ frames := 0, cells := 0, slots := 0, locals := 0 } : Room).slots (T31.setTop (mkF m 89 #[.val (.ref o0), .val (.int p1)] [(.int (own_M3_64 p1)), (.ref o0)])) by
            by_cases hc64_37 : p1 = (224 : Int32)
            · refine own_icN X31 hx (hb hby own_d3_64) (teq hc64_37).2 (q := 67) rfl ?_
              refine own_sipush X31 hx (hb hby own_d3_67) (z := 160) rfl (q := 70) rfl ?_
              refine own_goto X31 hx (hb hby own_d3_70) (q := 89) (by decide) (by decide) ?_
              simp only [own_M3_64, if_pos hc64_37] at J44
              exact J44
            · refine own_icY X31 hx (hb hby own_d3_64) (feq hc64_37).2 (q := 73) (by decide) (by decide) ?_
              refine own_iloadN X31 hx (hb hby own_d3_73) rfl (q := 74) rfl ?_
              refine own_sipush X31 hx (hb hby own_d3_74) (z := 240) rfl (q := 77) rfl ?_
              suffices J42 : own_End p e below s (own_Q3 Z o0 p1 w_o0_lowest w_o0_highest w_o0_needed h0 n0) ({ frames := 0, cells := 0, slots := 0, locals := 0 } : Room).cells ({ frames := 0, cells := 0, slots := 0, locals := 0 } : Room).slots (T31.setTop (mkF m 89 #[.val (.ref o0), .val (.int p1)] [(.int (own_M3_77 p1)), (.ref o0)])) by
                by_cases hc77_39 : p1 = (240 : Int32)
                · refine own_icN X31 hx (hb hby own_d3_77) (teq hc77_39).2 (q := 80) rfl ?_
                  refine own_sipush X31 hx (hb hby own_d3_80) (z := 144) rfl (q := 83) rfl ?_
                  refine own_goto X31 hx (hb hby own_d3_83) (q := 89) (by decide) (by decide) ?_
                  simp only [own_M3_77, if_pos hc77_39] at J42
                  exact J42
                · refine own_icY X31 hx (hb hby own_d3_77) (feq hc77_39).2 (q := 86) (by decide) (by decide) ?_
                  refine own_sipush X31 hx (hb hby own_d3_86) (z := 128) rfl (q := 89) rfl ?_
                  simp only [own_M3_77, if_neg hc77_39] at J42
                  exact J42
              simp only [own_M3_64, if_neg hc64_37] at J44
              exact J44
          obtain ⟨T45, h45, X45, e45, W45, st45⟩ := putF X31 hx hZ hown (host := "") (Or.inl (hw _ (List.mem_of_getElem? (i := 9) rfl))) Via.refl e31 F_o0_lowest_33 E_o0_32 (Or.inl (hw _ (List.mem_of_getElem? (i := 10) rfl))) (hw _ (List.mem_of_getElem? (i := 1) rfl)) (ty := .int) (by decide) rfl rfl (g := (mkF m 89 #[.val (.ref o0), .val (.int p1)] [(.int (own_M3_64 p1)), (.ref o0)])) rfl rfl (hb hby own_d3_89)
          have F_o0_lowest_45 := F_o0_lowest_33.same W45
          have E_o0_46 := E_o0_32.wr W45
          have F_o0_highest_47 := F_o0_highest_34.other W45 (Or.inr (slot_ne (Or.inl (hw _ (List.mem_of_getElem? (i := 12) rfl))) (Or.inl (hw _ (List.mem_of_getElem? (i := 10) rfl))) (by decide) (t := .int) (t' := .int) (by decide) (by decide)))
          have F_o0_needed_48 := F_o0_needed_31.other W45 (Or.inr (slot_ne (Or.inl (hw _ (List.mem_of_getElem? (i := 19) rfl))) (Or.inl (hw _ (List.mem_of_getElem? (i := 10) rfl))) (by decide) (t := .int) (t' := .int) (by decide) (by decide)))
          have Kp49 : Keep h0 _ [o0] := Kp35.wr W45 (Or.inl (List.mem_of_getElem? (i := 0) rfl))
          have Z50 := Nat.le_trans Z36 (Keep.of_wr W45).1
          have N45 := Fr.snoc X45 N31 g_o0
          refine own_back st45 ?_
          show own_End p e below s _ _ _ (T45.setTop (mkF m 92 #[.val (.ref o0), .val (.int p1)] []))
          refine own_aloadN X45 hx (hb hby own_d3_92) rfl rfl (q := 93) rfl ?_
          refine own_iloadN X45 hx (hb hby own_d3_93) rfl (q := 94) rfl ?_
          refine own_sipush X45 hx (hb hby own_d3_94) (z := 237) rfl (q := 97) rfl ?_
          suffices J58 : own_End p e below s (own_Q3 Z o0 p1 w_o0_lowest w_o0_highest w_o0_needed h0 n0) ({ frames := 0, cells := 0, slots := 0, locals := 0 } : Room).cells ({ frames := 0, cells := 0, slots := 0, locals := 0 } : Room).slots (T45.setTop (mkF m 122 #[.val (.ref o0), .val (.int p1)] [(.int (own_M3_97 p1)), (.ref o0)])) by
            by_cases hc97_51 : p1 = (237 : Int32)
            · refine own_icN X45 hx (hb hby own_d3_97) (teq hc97_51).2 (q := 100) rfl ?_
              refine own_sipush X45 hx (hb hby own_d3_100) (z := 159) rfl (q := 103) rfl ?_
              refine own_goto X45 hx (hb hby own_d3_103) (q := 122) (by decide) (by decide) ?_
              simp only [own_M3_97, if_pos hc97_51] at J58
              exact J58
            · refine own_icY X45 hx (hb hby own_d3_97) (feq hc97_51).2 (q := 106) (by decide) (by decide) ?_
              refine own_iloadN X45 hx (hb hby own_d3_106) rfl (q := 107) rfl ?_
              refine own_sipush X45 hx (hb hby own_d3_107) (z := 244) rfl (q := 110) rfl ?_
              suffices J56 : own_End p e below s (own_Q3 Z o0 p1 w_o0_lowest w_o0_highest w_o0_needed h0 n0) ({ frames := 0, cells := 0, slots := 0, locals := 0 } : Room).cells ({ frames := 0, cells := 0, slots := 0, locals := 0 } : Room).slots (T45.setTop (mkF m 122 #[.val (.ref o0), .val (.int p1)] [(.int (own_M3_110 p1)), (.ref o0)])) by
                by_cases hc110_53 : p1 = (244 : Int32)
                · refine own_icN X45 hx (hb hby own_d3_110) (teq hc110_53).2 (q := 113) rfl ?_
                  refine own_sipush X45 hx (hb hby own_d3_113) (z := 143) rfl (q := 116) rfl ?_
                  refine own_goto X45 hx (hb hby own_d3_116) (q := 122) (by decide) (by decide) ?_
                  simp only [own_M3_110, if_pos hc110_53] at J56
                  exact J56
                · refine own_icY X45 hx (hb hby own_d3_110) (feq hc110_53).2 (q := 119) (by decide) (by decide) ?_
                  refine own_sipush X45 hx (hb hby own_d3_119) (z := 191) rfl (q := 122) rfl ?_
                  simp only [own_M3_110, if_neg hc110_53] at J56
                  exact J56
              simp only [own_M3_97, if_neg hc97_51] at J58
              exact J58
          obtain ⟨T59, h59, X59, e59, W59, st59⟩ := putF X45 hx hZ hown (host := "") (Or.inl (hw _ (List.mem_of_getElem? (i := 11) rfl))) Via.refl e45 F_o0_highest_47 E_o0_46 (Or.inl (hw _ (List.mem_of_getElem? (i := 12) rfl))) (hw _ (List.mem_of_getElem? (i := 1) rfl)) (ty := .int) (by decide) rfl rfl (g := (mkF m 122 #[.val (.ref o0), .val (.int p1)] [(.int (own_M3_97 p1)), (.ref o0)])) rfl rfl (hb hby own_d3_122)
          have F_o0_highest_59 := F_o0_highest_47.same W59
          have E_o0_60 := E_o0_46.wr W59
          have F_o0_lowest_61 := F_o0_lowest_45.other W59 (Or.inr (slot_ne (Or.inl (hw _ (List.mem_of_getElem? (i := 10) rfl))) (Or.inl (hw _ (List.mem_of_getElem? (i := 12) rfl))) (by decide) (t := .int) (t' := .int) (by decide) (by decide)))
          have F_o0_needed_62 := F_o0_needed_48.other W59 (Or.inr (slot_ne (Or.inl (hw _ (List.mem_of_getElem? (i := 19) rfl))) (Or.inl (hw _ (List.mem_of_getElem? (i := 12) rfl))) (by decide) (t := .int) (t' := .int) (by decide) (by decide)))
          have Kp63 : Keep h0 _ [o0] := Kp49.wr W59 (Or.inl (List.mem_of_getElem? (i := 0) rfl))
          have Z64 := Nat.le_trans Z50 (Keep.of_wr W59).1
          have N59 := Fr.snoc X59 N45 g_o0
          refine own_back st59 ?_
          show own_End p e below s _ _ _ (T59.setTop (mkF m 125 #[.val (.ref o0), .val (.int p1)] []))
          refine own_iconst X59 hx (hb hby own_d3_125) (z := 1) rfl (q := 126) rfl ?_
          refine own_retN X59 hx (t := .boolean) (by simp) Bd.returns Bd.notSynchronized (by decide) (by decide) (hb hby own_d3_126) ?_
          show own_Q3 Z o0 p1 w_o0_lowest w_o0_highest w_o0_needed h0 n0 _ T59.heap _
          rw [e59]
          exact ⟨(by rw [show own_F3 p1 w_o0_lowest w_o0_highest w_o0_needed = _ from (by simp only [own_F3, if_pos hc4_16, if_neg hc11_17, if_neg hc20_19, if_neg hc27_21] : _ = (1 : Int32))]; rfl), N59, Kp63, E_o0_60, (by have q := F_o0_lowest_61; simp only [own_G3_lowest, if_pos hc4_16, if_neg hc11_17, if_neg hc20_19, if_neg hc27_21]; exact q), (by have q := F_o0_highest_59; simp only [own_G3_highest, if_pos hc4_16, if_neg hc11_17, if_neg hc20_19, if_neg hc27_21]; exact q), (by have q := F_o0_needed_62; simp only [own_G3_needed, if_pos hc4_16, if_neg hc11_17, if_neg hc20_19, if_neg hc27_21]; exact q)⟩
  · refine own_ifY X15 hx (hb hby own_d3_4) (feq hc4_16).2 (q := 127) (by decide) (by decide) ?_
    refine own_iloadN X15 hx (hb hby own_d3_127) rfl (q := 128) rfl ?_
    refine own_aloadN X15 hx (hb hby own_d3_128) rfl rfl (q := 129) rfl ?_
    obtain ⟨T66, X66, e66, st66⟩ := getF X15 hx hZ hown (host := "") (Or.inl (hw _ (List.mem_of_getElem? (i := 9) rfl))) Via.refl e15 F_o0_lowest (g := (mkF m 129 #[.val (.ref o0), .val (.int p1)] [(.ref o0), (.int p1)])) rfl rfl (hb hby own_d3_129)
    refine own_back st66 ?_
    show own_End p e below s _ _ _ (T66.setTop (mkF m 132 #[.val (.ref o0), .val (.int p1)] [(.int w_o0_lowest), (.int p1)]))
    by_cases hc132_67 : p1 < w_o0_lowest
    · refine own_icY X66 hx (hb hby own_d3_132) (tlt hc132_67).1 (q := 143) (by decide) (by decide) ?_
      refine own_iconst X66 hx (hb hby own_d3_143) (z := 0) rfl (q := 144) rfl ?_
      refine own_retN X66 hx (t := .boolean) (by simp) Bd.returns Bd.notSynchronized (by decide) (by decide) (hb hby own_d3_144) ?_
      show own_Q3 Z o0 p1 w_o0_lowest w_o0_highest w_o0_needed h0 n0 _ T66.heap _
      rw [e66]
      exact ⟨(by rw [show own_F3 p1 w_o0_lowest w_o0_highest w_o0_needed = _ from (by simp only [own_F3, if_neg hc4_16, if_pos hc132_67] : _ = (0 : Int32))]; rfl), N0, (Keep.refl h0 [o0]), E_o0, (by have q := F_o0_lowest; simp only [own_G3_lowest, if_neg hc4_16, if_pos hc132_67]; exact q), (by have q := F_o0_highest; simp only [own_G3_highest, if_neg hc4_16, if_pos hc132_67]; exact q), (by have q := F_o0_needed; simp only [own_G3_needed, if_neg hc4_16, if_pos hc132_67]; exact q)⟩
    · refine own_icN X66 hx (hb hby own_d3_132) (flt hc132_67).1 (q := 135) rfl ?_
      refine own_iloadN X66 hx (hb hby own_d3_135) rfl (q := 136) rfl ?_
      refine own_aloadN X66 hx (hb hby own_d3_136) rfl rfl (q := 137) rfl ?_
      obtain ⟨T69, X69, e69, st69⟩ := getF X66 hx hZ hown (host := "") (Or.inl (hw _ (List.mem_of_getElem? (i := 11) rfl))) Via.refl e66 F_o0_highest (g := (mkF m 137 #[.val (.ref o0), .val (.int p1)] [(.ref o0), (.int p1)])) rfl rfl (hb hby own_d3_137)
      refine own_back st69 ?_
      show own_End p e below s _ _ _ (T69.setTop (mkF m 140 #[.val (.ref o0), .val (.int p1)] [(.int w_o0_highest), (.int p1)]))
      by_cases hc140_70 : w_o0_highest < p1
      · refine own_icN X69 hx (hb hby own_d3_140) (tlt hc140_70).2.2.2 (q := 143) rfl ?_
        refine own_iconst X69 hx (hb hby own_d3_143) (z := 0) rfl (q := 144) rfl ?_
        refine own_retN X69 hx (t := .boolean) (by simp) Bd.returns Bd.notSynchronized (by decide) (by decide) (hb hby own_d3_144) ?_
        show own_Q3 Z o0 p1 w_o0_lowest w_o0_highest w_o0_needed h0 n0 _ T69.heap _
        rw [e69]
        exact ⟨(by rw [show own_F3 p1 w_o0_lowest w_o0_highest w_o0_needed = _ from (by simp only [own_F3, if_neg hc4_16, if_neg hc132_67, if_pos hc140_70] : _ = (0 : Int32))]; rfl), N0, (Keep.refl h0 [o0]), E_o0, (by have q := F_o0_lowest; simp only [own_G3_lowest, if_neg hc4_16, if_neg hc132_67, if_pos hc140_70]; exact q), (by have q := F_o0_highest; simp only [own_G3_highest, if_neg hc4_16, if_neg hc132_67, if_pos hc140_70]; exact q), (by have q := F_o0_needed; simp only [own_G3_needed, if_neg hc4_16, if_neg hc132_67, if_pos hc140_70]; exact q)⟩
      · refine own_icY X69 hx (hb hby own_d3_140) (flt hc140_70).2.2.2 (q := 145) (by decide) (by decide) ?_
        refine own_aloadN X69 hx (hb hby own_d3_145) rfl rfl (q := 146) rfl ?_
        refine own_dup X69 hx (hb hby own_d3_146) rfl (q := 147) rfl ?_
        obtain ⟨T72, X72, e72, st72⟩ := getF X69 hx hZ hown (host := "") (Or.inl (hw _ (List.mem_of_getElem? (i := 18) rfl))) Via.refl e69 F_o0_needed (g := (mkF m 147 #[.val (.ref o0), .val (.int p1)] [(.ref o0), (.ref o0)])) rfl rfl (hb hby own_d3_147)
        refine own_back st72 ?_
        show own_End p e below s _ _ _ (T72.setTop (mkF m 150 #[.val (.ref o0), .val (.int p1)] [(.int w_o0_needed), (.ref o0)]))
        refine own_iconst X72 hx (hb hby own_d3_150) (z := 1) rfl (q := 151) rfl ?_
        refine own_isub X72 hx (hb hby own_d3_151) (q := 152) rfl ?_
        obtain ⟨T73, h73, X73, e73, W73, st73⟩ := putF X72 hx hZ hown (host := "") (Or.inl (hw _ (List.mem_of_getElem? (i := 18) rfl))) Via.refl e72 F_o0_needed E_o0 (Or.inl (hw _ (List.mem_of_getElem? (i := 19) rfl))) (hw _ (List.mem_of_getElem? (i := 1) rfl)) (ty := .int) (by decide) rfl rfl (g := (mkF m 152 #[.val (.ref o0), .val (.int p1)] [(.int (w_o0_needed - (1 : Int32))), (.ref o0)])) rfl rfl (hb hby own_d3_152)
        have F_o0_needed_73 := F_o0_needed.same W73
        have E_o0_74 := E_o0.wr W73
        have F_o0_lowest_75 := F_o0_lowest.other W73 (Or.inr (slot_ne (Or.inl (hw _ (List.mem_of_getElem? (i := 10) rfl))) (Or.inl (hw _ (List.mem_of_getElem? (i := 19) rfl))) (by decide) (t := .int) (t' := .int) (by decide) (by decide)))
        have F_o0_highest_76 := F_o0_highest.other W73 (Or.inr (slot_ne (Or.inl (hw _ (List.mem_of_getElem? (i := 12) rfl))) (Or.inl (hw _ (List.mem_of_getElem? (i := 19) rfl))) (by decide) (t := .int) (t' := .int) (by decide) (by decide)))
        have Kp77 : Keep h0 _ [o0] := (Keep.refl h0 [o0]).wr W73 (Or.inl (List.mem_of_getElem? (i := 0) rfl))
        have Z78 := Nat.le_trans Z0 (Keep.of_wr W73).1
        have N73 := Fr.snoc X73 N0 g_o0
        refine own_back st73 ?_
        show own_End p e below s _ _ _ (T73.setTop (mkF m 155 #[.val (.ref o0), .val (.int p1)] []))
        refine own_aloadN X73 hx (hb hby own_d3_155) rfl rfl (q := 156) rfl ?_
        refine own_sipush X73 hx (hb hby own_d3_156) (z := 128) rfl (q := 159) rfl ?_
        obtain ⟨T79, h79, X79, e79, W79, st79⟩ := putF X73 hx hZ hown (host := "") (Or.inl (hw _ (List.mem_of_getElem? (i := 9) rfl))) Via.refl e73 F_o0_lowest_75 E_o0_74 (Or.inl (hw _ (List.mem_of_getElem? (i := 10) rfl))) (hw _ (List.mem_of_getElem? (i := 1) rfl)) (ty := .int) (by decide) rfl rfl (g := (mkF m 159 #[.val (.ref o0), .val (.int p1)] [(.int (128 : Int32)), (.ref o0)])) rfl rfl (hb hby own_d3_159)
        have F_o0_lowest_79 := F_o0_lowest_75.same W79
        have E_o0_80 := E_o0_74.wr W79
        have F_o0_highest_81 := F_o0_highest_76.other W79 (Or.inr (slot_ne (Or.inl (hw _ (List.mem_of_getElem? (i := 12) rfl))) (Or.inl (hw _ (List.mem_of_getElem? (i := 10) rfl))) (by decide) (t := .int) (t' := .int) (by decide) (by decide)))
        have F_o0_needed_82 := F_o0_needed_73.other W79 (Or.inr (slot_ne (Or.inl (hw _ (List.mem_of_getElem? (i := 19) rfl))) (Or.inl (hw _ (List.mem_of_getElem? (i := 10) rfl))) (by decide) (t := .int) (t' := .int) (by decide) (by decide)))
        have Kp83 : Keep h0 _ [o0] := Kp77.wr W79 (Or.inl (List.mem_of_getElem? (i := 0) rfl))
        have Z84 := Nat.le_trans Z78 (Keep.of_wr W79).1
        have N79 := Fr.snoc X79 N73 g_o0
        refine own_back st79 ?_
        show own_End p e below s _ _ _ (T79.setTop (mkF m 162 #[.val (.ref o0), .val (.int p1)] []))
        refine own_aloadN X79 hx (hb hby own_d3_162) rfl rfl (q := 163) rfl ?_
        refine own_sipush X79 hx (hb hby own_d3_163) (z := 191) rfl (q := 166) rfl ?_
        obtain ⟨T85, h85, X85, e85, W85, st85⟩ := putF X79 hx hZ hown (host := "") (Or.inl (hw _ (List.mem_of_getElem? (i := 11) rfl))) Via.refl e79 F_o0_highest_81 E_o0_80 (Or.inl (hw _ (List.mem_of_getElem? (i := 12) rfl))) (hw _ (List.mem_of_getElem? (i := 1) rfl)) (ty := .int) (by decide) rfl rfl (g := (mkF m 166 #[.val (.ref o0), .val (.int p1)] [(.int (191 : Int32)), (.ref o0)])) rfl rfl (hb hby own_d3_166)
        have F_o0_highest_85 := F_o0_highest_81.same W85
        have E_o0_86 := E_o0_80.wr W85
        have F_o0_lowest_87 := F_o0_lowest_79.other W85 (Or.inr (slot_ne (Or.inl (hw _ (List.mem_of_getElem? (i := 10) rfl))) (Or.inl (hw _ (List.mem_of_getElem? (i := 12) rfl))) (by decide) (t := .int) (t' := .int) (by decide) (by decide)))
        have F_o0_needed_88 := F_o0_needed_82.other W85 (Or.inr (slot_ne (Or.inl (hw _ (List.mem_of_getElem? (i := 19) rfl))) (Or.inl (hw _ (List.mem_of_getElem? (i := 12) rfl))) (by decide) (t := .int) (t' := .int) (by decide) (by decide)))
        have Kp89 : Keep h0 _ [o0] := Kp83.wr W85 (Or.inl (List.mem_of_getElem? (i := 0) rfl))
        have Z90 := Nat.le_trans Z84 (Keep.of_wr W85).1
        have N85 := Fr.snoc X85 N79 g_o0
        refine own_back st85 ?_
        show own_End p e below s _ _ _ (T85.setTop (mkF m 169 #[.val (.ref o0), .val (.int p1)] []))
        refine own_iconst X85 hx (hb hby own_d3_169) (z := 1) rfl (q := 170) rfl ?_
        refine own_retN X85 hx (t := .boolean) (by simp) Bd.returns Bd.notSynchronized (by decide) (by decide) (hb hby own_d3_170) ?_
        show own_Q3 Z o0 p1 w_o0_lowest w_o0_highest w_o0_needed h0 n0 _ T85.heap _
        rw [e85]
        exact ⟨(by rw [show own_F3 p1 w_o0_lowest w_o0_highest w_o0_needed = _ from (by simp only [own_F3, if_neg hc4_16, if_neg hc132_67, if_neg hc140_70] : _ = (1 : Int32))]; rfl), N85, Kp89, E_o0_86, (by have q := F_o0_lowest_87; simp only [own_G3_lowest, if_neg hc4_16, if_neg hc132_67, if_neg hc140_70]; exact q), (by have q := F_o0_highest_85; simp only [own_G3_highest, if_neg hc4_16, if_neg hc132_67, if_neg hc140_70]; exact q), (by have q := F_o0_needed_88; simp only [own_G3_needed, if_neg hc4_16, if_neg hc132_67, if_neg hc140_70]; exact q)⟩
theorem own_d4_0 : decode prog_31_method_4_code 0 = .ok (.aload_n 0, 1) := by decide +kernel
theorem own_d4_1 : decode prog_31_method_4_code 1 = .ok (.iconst 0, 1) := by decide +kernel
theorem own_d4_2 : decode prog_31_method_4_code 2 = .ok (.putfield 16, 3) := by decide +kernel
theorem own_d4_5 : decode prog_31_method_4_code 5 = .ok (.aload_n 0, 1) := by decide +kernel
theorem own_d4_6 : decode prog_31_method_4_code 6 = .ok (.sipush 128, 3) := by decide +kernel
theorem own_d4_9 : decode prog_31_method_4_code 9 = .ok (.putfield 9, 3) := by decide +kernel
theorem own_d4_12 : decode prog_31_method_4_code 12 = .ok (.aload_n 0, 1) := by decide +kernel
theorem own_d4_13 : decode prog_31_method_4_code 13 = .ok (.sipush 191, 3) := by decide +kernel
theorem own_d4_16 : decode prog_31_method_4_code 16 = .ok (.putfield 13, 3) := by decide +kernel
theorem own_d4_19 : decode prog_31_method_4_code 19 = .ok (.return_, 1) := by decide +kernel
def own_Q4 (Z : State) (o0 : Addr) (w_o0_lowest : Int32) (w_o0_highest : Int32) (w_o0_needed : Int32) (h0 : Heap) (n0 : Nat) (v : Option Value) (h : Heap) (L : List Loc) : Prop := v = none ∧ Fr n0 L ∧ Keep h0 h [o0] ∧ Exa Z h o0 "com/example/dawdling_reader/dawdlingreader/mqtt/Utf8" ∧ Fld Z h o0 "com/example/dawdling_reader/dawdlingreader/mqtt/Utf8" "lowest" "I" (.int (128 : Int32)) ∧ Fld Z h o0 "com/example/dawdling_reader/dawdlingreader/mqtt/Utf8" "highest" "I" (.int (191 : Int32)) ∧ Fld Z h o0 "com/example/dawdling_reader/dawdlingreader/mqtt/Utf8" "needed" "I" (.int (0 : Int32))
theorem own_pn_rm4 : plainName "com/example/dawdling_reader/dawdlingreader/mqtt/Utf8" = true := by first | (simp [plainName, overriddenIn]; done) | decide +kernel
theorem own_ef_rm4 (m : MethodId) (o0 : Addr) : entryFrame m #[(.ref o0)] 1 = mkF m 0 #[.val (.ref o0)] [] := by first | (simp [entryFrame, mkF, argsToLocals, Value.category]; done) | rfl
set_option maxRecDepth 65536 in
set_option maxHeartbeats 40000000 in
theorem own_rm4 (l : Launch) (Z : State) (a0 : Array Value) (hw : ∀ d ∈ tables_1, d.before a0 Z = true) (ws : List Jvm.Cond) (o0 : Addr) (w_o0_lowest : Int32) (w_o0_highest : Int32) (w_o0_needed : Int32) (h0 : Heap) (n0 : Nat) (Z0 : n0 ≤ h0.size) (E_o0 : Exa Z h0 o0 "com/example/dawdling_reader/dawdlingreader/mqtt/Utf8") (F_o0_lowest : Fld Z h0 o0 "com/example/dawdling_reader/dawdlingreader/mqtt/Utf8" "lowest" "I" (.int w_o0_lowest)) (F_o0_highest : Fld Z h0 o0 "com/example/dawdling_reader/dawdlingreader/mqtt/Utf8" "highest" "I" (.int w_o0_highest)) (F_o0_needed : Fld Z h0 o0 "com/example/dawdling_reader/dawdlingreader/mqtt/Utf8" "needed" "I" (.int w_o0_needed)) (g_o0 : n0 ≤ o0) :
    MetFree l (⟨"com/example/dawdling_reader/dawdlingreader/mqtt/Utf8", "reset", "()V"⟩ : MethodName) (head1 (Jvm.Cond.code (⟨"com/example/dawdling_reader/dawdlingreader/mqtt/Utf8", "reset", "()V"⟩ : MethodName) prog_31_method_4_code 1 none :: ws) ({ frames := 0, cells := 0, slots := 0, locals := 0 } : Room)) (fun a U => a = #[(.ref o0)] ∧ Z.Warmed39 U.vm ∧ U.heap = h0) (fun _ _ _ _ _ => True) (fun _ U o U' => ∃ v L, o = .returned v ∧ own_Q4 Z o0 w_o0_lowest w_o0_highest w_o0_needed h0 n0 v U'.heap L ∧ FrameEnd U o U' L ({ frames := 0, cells := 0, slots := 0, locals := 0 } : Room).cells ({ frames := 0, cells := 0, slots := 0, locals := 0 } : Room).slots) := by
  refine MetFree.of_bodySF (plainFor_of_name own_pn_rm4) hisR ?_
  intro p e s m args below meth c s₁ Bd hml0 hP hK
  obtain ⟨rfl, hZ, hh⟩ := hP
  have hx := Bd.exec
  have hby := Bd.bytes
  have hml : c.maxLocals = 1 := hml0
  have hown : s.vm.findClass "com/example/dawdling_reader/dawdlingreader/mqtt/Utf8" = some m.cls := findClass_of_methodNamed Bd.named
  have hnm := (name_of_methodNamed Bd.named Bd.method).1
  have X0 : Stand p l e ({ frames := 0, cells := 0, slots := 0, locals := 0 } : Room) s m #[(.ref o0)] below meth c s₁ [] 0 0 := Stand.of_body Bd
  have e0 : s₁.heap = h0 := by rw [← hh, Bd.state]; rfl
  have N0 := Fr.nil n0
  show own_End p e below s (own_Q4 Z o0 w_o0_lowest w_o0_highest w_o0_needed h0 n0) ({ frames := 0, cells := 0, slots := 0, locals := 0 } : Room).cells ({ frames := 0, cells := 0, slots := 0, locals := 0 } : Room).slots (s₁.setTop (entryFrame m #[(.ref o0)] 1))
  rw [own_ef_rm4]
  refine own_aloadN X0 hx (hb hby own_d4_0) rfl rfl (q := 1) rfl ?_
  refine own_iconst X0 hx (hb hby own_d4_1) (z := 0) rfl (q := 2) rfl ?_
  obtain ⟨T92, h92, X92, e92, W92, st92⟩ := putF X0 hx hZ hown (host := "") (Or.inl (hw _ (List.mem_of_getElem? (i := 18) rfl))) Via.refl e0 F_o0_needed E_o0 (Or.inl (hw _ (List.mem_of_getElem? (i := 19) rfl))) (hw _ (List.mem_of_getElem? (i := 1) rfl)) (ty := .int) (by decide) rfl rfl (g := (mkF m 2 #[.val (.ref o0)] [(.int (0 : Int32)), (.ref o0)])) rfl rfl (hb hby own_d4_2)
  have F_o0_needed_92 := F_o0_needed.same W92
  have E_o0_93 := E_o0.wr W92
  have F_o0_lowest_94 := F_o0_lowest.other W92 (Or.inr (slot_ne (Or.inl (hw _ (List.mem_of_getElem? (i := 10) rfl))) (Or.inl (hw _ (List.mem_of_getElem? (i := 19) rfl))) (by decide) (t := .int) (t' := .int) (by decide) (by decide)))
  have F_o0_highest_95 := F_o0_highest.other W92 (Or.inr (slot_ne (Or.inl (hw _ (List.mem_of_getElem? (i := 12) rfl))) (Or.inl (hw _ (List.mem_of_getElem? (i := 19) rfl))) (by decide) (t := .int) (t' := .int) (by decide) (by decide)))
  have Kp96 : Keep h0 _ [o0] := (Keep.refl h0 [o0]).wr W92 (Or.inl (List.mem_of_getElem? (i := 0) rfl))
  have Z97 := Nat.le_trans Z0 (Keep.of_wr W92).1
  have N92 := Fr.snoc X92 N0 g_o0
  refine own_back st92 ?_
  show own_End p e below s _ _ _ (T92.setTop (mkF m 5 #[.val (.ref o0)] []))
  refine own_aloadN X92 hx (hb hby own_d4_5) rfl rfl (q := 6) rfl ?_
  refine own_sipush X92 hx (hb hby own_d4_6) (z := 128) rfl (q := 9) rfl ?_
  obtain ⟨T98, h98, X98, e98, W98, st98⟩ := putF X92 hx hZ hown (host := "") (Or.inl (hw _ (List.mem_of_getElem? (i := 9) rfl))) Via.refl e92 F_o0_lowest_94 E_o0_93 (Or.inl (hw _ (List.mem_of_getElem? (i := 10) rfl))) (hw _ (List.mem_of_getElem? (i := 1) rfl)) (ty := .int) (by decide) rfl rfl (g := (mkF m 9 #[.val (.ref o0)] [(.int (128 : Int32)), (.ref o0)])) rfl rfl (hb hby own_d4_9)
  have F_o0_lowest_98 := F_o0_lowest_94.same W98
  have E_o0_99 := E_o0_93.wr W98
  have F_o0_highest_100 := F_o0_highest_95.other W98 (Or.inr (slot_ne (Or.inl (hw _ (List.mem_of_getElem? (i := 12) rfl))) (Or.inl (hw _ (List.mem_of_getElem? (i := 10) rfl))) (by decide) (t := .int) (t' := .int) (by decide) (by decide)))
  have F_o0_needed_101 := F_o0_needed_92.other W98 (Or.inr (slot_ne (Or.inl (hw _ (List.mem_of_getElem? (i := 19) rfl))) (Or.inl (hw _ (List.mem_of_getElem? (i := 10) rfl))) (by decide) (t := .int) (t' := .int) (by decide) (by decide)))
  have Kp102 : Keep h0 _ [o0] := Kp96.wr W98 (Or.inl (List.mem_of_getElem? (i := 0) rfl))
  have Z103 := Nat.le_trans Z97 (Keep.of_wr W98).1
  have N98 := Fr.snoc X98 N92 g_o0
  refine own_back st98 ?_
  show own_End p e below s _ _ _ (T98.setTop (mkF m 12 #[.val (.ref o0)] []))
  refine own_aloadN X98 hx (hb hby own_d4_12) rfl rfl (q := 13) rfl ?_
  refine own_sipush X98 hx (hb hby own_d4_13) (z := 191) rfl (q := 16) rfl ?_
  obtain ⟨T104, h104, X104, e104, W104, st104⟩ := putF X98 hx hZ hown (host := "") (Or.inl (hw _ (List.mem_of_getElem? (i := 11) rfl))) Via.refl e98 F_o0_highest_100 E_o0_99 (Or.inl (hw _ (List.mem_of_getElem? (i := 12) rfl))) (hw _ (List.mem_of_getElem? (i := 1) rfl)) (ty := .int) (by decide) rfl rfl (g := (mkF m 16 #[.val (.ref o0)] [(.int (191 : Int32)), (.ref o0)])) rfl rfl (hb hby own_d4_16)
  have F_o0_highest_104 := F_o0_highest_100.same W104
  have E_o0_105 := E_o0_99.wr W104
  have F_o0_lowest_106 := F_o0_lowest_98.other W104 (Or.inr (slot_ne (Or.inl (hw _ (List.mem_of_getElem? (i := 10) rfl))) (Or.inl (hw _ (List.mem_of_getElem? (i := 12) rfl))) (by decide) (t := .int) (t' := .int) (by decide) (by decide)))
  have F_o0_needed_107 := F_o0_needed_101.other W104 (Or.inr (slot_ne (Or.inl (hw _ (List.mem_of_getElem? (i := 19) rfl))) (Or.inl (hw _ (List.mem_of_getElem? (i := 12) rfl))) (by decide) (t := .int) (t' := .int) (by decide) (by decide)))
  have Kp108 : Keep h0 _ [o0] := Kp102.wr W104 (Or.inl (List.mem_of_getElem? (i := 0) rfl))
  have Z109 := Nat.le_trans Z103 (Keep.of_wr W104).1
  have N104 := Fr.snoc X104 N98 g_o0
  refine own_back st104 ?_
  show own_End p e below s _ _ _ (T104.setTop (mkF m 19 #[.val (.ref o0)] []))
  refine own_retV X104 hx Bd.returns Bd.notSynchronized (by decide) (by decide) (hb hby own_d4_19) ?_
  show own_Q4 Z o0 w_o0_lowest w_o0_highest w_o0_needed h0 n0 _ T104.heap _
  rw [e104]
  exact ⟨rfl, N104, Kp108, E_o0_105, F_o0_lowest_106, F_o0_highest_104, F_o0_needed_107⟩
theorem own_d5_0 : decode prog_31_method_3_code 0 = .ok (.aload_n 0, 1) := by decide +kernel
theorem own_d5_1 : decode prog_31_method_3_code 1 = .ok (.getfield 16, 3) := by decide +kernel
theorem own_d5_4 : decode prog_31_method_3_code 4 = .ok (.ifCond .ne 7, 3) := by decide +kernel
theorem own_d5_7 : decode prog_31_method_3_code 7 = .ok (.iconst 1, 1) := by decide +kernel
theorem own_d5_8 : decode prog_31_method_3_code 8 = .ok (.goto 4, 3) := by decide +kernel
theorem own_d5_12 : decode prog_31_method_3_code 12 = .ok (.ireturn, 1) := by decide +kernel
theorem own_d5_11 : decode prog_31_method_3_code 11 = .ok (.iconst 0, 1) := by decide +kernel
def own_F5 (w_o0_lowest : Int32) (w_o0_highest : Int32) (w_o0_needed : Int32) : Int32 := (if w_o0_needed = (0 : Int32) then (1 : Int32) else (0 : Int32))
def own_Q5 (Z : State) (o0 : Addr) (w_o0_lowest : Int32) (w_o0_highest : Int32) (w_o0_needed : Int32) (h0 : Heap) (n0 : Nat) (v : Option Value) (h : Heap) (L : List Loc) : Prop := v = some (.int (own_F5 w_o0_lowest w_o0_highest w_o0_needed)) ∧ Fr n0 L ∧ h = h0
theorem own_pn_rm5 : plainName "com/example/dawdling_reader/dawdlingreader/mqtt/Utf8" = true := by first | (simp [plainName, overriddenIn]; done) | decide +kernel
theorem own_ef_rm5 (m : MethodId) (o0 : Addr) : entryFrame m #[(.ref o0)] 1 = mkF m 0 #[.val (.ref o0)] [] := by first | (simp [entryFrame, mkF, argsToLocals, Value.category]; done) | rfl
set_option maxRecDepth 65536 in
set_option maxHeartbeats 40000000 in
theorem own_rm5 (l : Launch) (Z : State) (a0 : Array Value) (hw : ∀ d ∈ tables_1, d.before a0 Z = true) (ws : List Jvm.Cond) (o0 : Addr) (w_o0_lowest : Int32) (w_o0_highest : Int32) (w_o0_needed : Int32) (h0 : Heap) (n0 : Nat) (Z0 : n0 ≤ h0.size) (E_o0 : Exa Z h0 o0 "com/example/dawdling_reader/dawdlingreader/mqtt/Utf8") (F_o0_lowest : Fld Z h0 o0 "com/example/dawdling_reader/dawdlingreader/mqtt/Utf8" "lowest" "I" (.int w_o0_lowest)) (F_o0_highest : Fld Z h0 o0 "com/example/dawdling_reader/dawdlingreader/mqtt/Utf8" "highest" "I" (.int w_o0_highest)) (F_o0_needed : Fld Z h0 o0 "com/example/dawdling_reader/dawdlingreader/mqtt/Utf8" "needed" "I" (.int w_o0_needed)) :
    MetFree l (⟨"com/example/dawdling_reader/dawdlingreader/mqtt/Utf8", "atCharacterEnd", "()Z"⟩ : MethodName) (head1 (Jvm.Cond.code (⟨"com/example/dawdling_reader/dawdlingreader/mqtt/Utf8", "atCharacterEnd", "()Z"⟩ : MethodName) prog_31_method_3_code 1 (some .boolean) :: ws) ({ frames := 0, cells := 0, slots := 0, locals := 0 } : Room)) (fun a U => a = #[(.ref o0)] ∧ Z.Warmed39 U.vm ∧ U.heap = h0) (fun _ _ _ _ _ => True) (fun _ U o U' => ∃ v L, o = .returned v ∧ own_Q5 Z o0 w_o0_lowest w_o0_highest w_o0_needed h0 n0 v U'.heap L ∧ FrameEnd U o U' L ({ frames := 0, cells := 0, slots := 0, locals := 0 } : Room).cells ({ frames := 0, cells := 0, slots := 0, locals := 0 } : Room).slots) := by
  refine MetFree.of_bodySF (plainFor_of_name own_pn_rm5) hisR ?_
  intro p e s m args below meth c s₁ Bd hml0 hP hK
  obtain ⟨rfl, hZ, hh⟩ := hP
  have hx := Bd.exec
  have hby := Bd.bytes
  have hml : c.maxLocals = 1 := hml0
  have hown : s.vm.findClass "com/example/dawdling_reader/dawdlingreader/mqtt/Utf8" = some m.cls := findClass_of_methodNamed Bd.named
  have hnm := (name_of_methodNamed Bd.named Bd.method).1
  have X0 : Stand p l e ({ frames := 0, cells := 0, slots := 0, locals := 0 } : Room) s m #[(.ref o0)] below meth c s₁ [] 0 0 := Stand.of_body Bd
  have e0 : s₁.heap = h0 := by rw [← hh, Bd.state]; rfl
  have N0 := Fr.nil n0
  show own_End p e below s (own_Q5 Z o0 w_o0_lowest w_o0_highest w_o0_needed h0 n0) ({ frames := 0, cells := 0, slots := 0, locals := 0 } : Room).cells ({ frames := 0, cells := 0, slots := 0, locals := 0 } : Room).slots (s₁.setTop (entryFrame m #[(.ref o0)] 1))
  rw [own_ef_rm5]
  refine own_aloadN X0 hx (hb hby own_d5_0) rfl rfl (q := 1) rfl ?_
  obtain ⟨T111, X111, e111, st111⟩ := getF X0 hx hZ hown (host := "") (Or.inl (hw _ (List.mem_of_getElem? (i := 18) rfl))) Via.refl e0 F_o0_needed (g := (mkF m 1 #[.val (.ref o0)] [(.ref o0)])) rfl rfl (hb hby own_d5_1)
  refine own_back st111 ?_
  show own_End p e below s _ _ _ (T111.setTop (mkF m 4 #[.val (.ref o0)] [(.int w_o0_needed)]))
  by_cases hc4_112 : w_o0_needed = (0 : Int32)
  · refine own_ifN X111 hx (hb hby own_d5_4) (teq hc4_112).2 (q := 7) rfl ?_
    refine own_iconst X111 hx (hb hby own_d5_7) (z := 1) rfl (q := 8) rfl ?_
    refine own_goto X111 hx (hb hby own_d5_8) (q := 12) (by decide) (by decide) ?_
    refine own_retN X111 hx (t := .boolean) (by simp) Bd.returns Bd.notSynchronized (by decide) (by decide) (hb hby own_d5_12) ?_
    show own_Q5 Z o0 w_o0_lowest w_o0_highest w_o0_needed h0 n0 _ T111.heap _
    exact ⟨(by rw [show own_F5 w_o0_lowest w_o0_highest w_o0_needed = _ from (by simp only [own_F5, if_pos hc4_112] : _ = (1 : Int32))]; rfl), N0, e111⟩
  · refine own_ifY X111 hx (hb hby own_d5_4) (feq hc4_112).2 (q := 11) (by decide) (by decide) ?_
    refine own_iconst X111 hx (hb hby own_d5_11) (z := 0) rfl (q := 12) rfl ?_
    refine own_retN X111 hx (t := .boolean) (by simp) Bd.returns Bd.notSynchronized (by decide) (by decide) (hb hby own_d5_12) ?_
    show own_Q5 Z o0 w_o0_lowest w_o0_highest w_o0_needed h0 n0 _ T111.heap _
    exact ⟨(by rw [show own_F5 w_o0_lowest w_o0_highest w_o0_needed = _ from (by simp only [own_F5, if_neg hc4_112] : _ = (0 : Int32))]; rfl), N0, e111⟩
theorem own_pd0 : parseMethodDescriptor "()V" = some ⟨[], none⟩ := by decide +kernel
theorem own_pd1 : parseMethodDescriptor "(I)Z" = some ⟨[.int], some .boolean⟩ := by decide +kernel
theorem own_pd2 : parseMethodDescriptor "()Z" = some ⟨[], some .boolean⟩ := by decide +kernel
def own_M0_144  : Int32 := (if (own_F5 (128 : Int32) (191 : Int32) (0 : Int32)) = (0 : Int32) then (0 : Int32) else (1 : Int32))
def own_Q0 (Z : State) (p0 : Int32) (p1 : Int32) (p2 : Int32) (p3 : Int32) (h0 : Heap) (n0 : Nat) (v : Option Value) (h : Heap) (L : List Loc) : Prop := v = some (.int (own_M0_144 &&& 1)) ∧ Fr n0 L
theorem own_pn_rm0 : plainName "com/example/dawdling_reader/dawdlingreader/mqtt/Utf8ResetPinLaw" = true := by first | (simp [plainName, overriddenIn]; done) | decide +kernel
theorem own_ef_rm0 (m : MethodId) (p0 : Int32) (p1 : Int32) (p2 : Int32) (p3 : Int32) : entryFrame m #[(.int p0), (.int p1), (.int p2), (.int p3)] maxLocals = mkF m 0 #[.val (.int p0), .val (.int p1), .val (.int p2), .val (.int p3), .unset, .unset, .unset, .unset, .unset, .unset, .unset, .unset, .unset, .unset] [] := by first | (simp [entryFrame, mkF, argsToLocals, Value.category, maxLocals]; done) | rfl
set_option maxRecDepth 65536 in
set_option maxHeartbeats 40000000 in
theorem own_rm0 (l : Launch) (Z : State) (a0 : Array Value) (hw : ∀ d ∈ tables_1, d.before a0 Z = true) (ws : List Jvm.Cond) (p0 : Int32) (p1 : Int32) (p2 : Int32) (p3 : Int32) (h0 : Heap) (n0 : Nat) (Z0 : n0 ≤ h0.size) :
    MetFree l x (head1 (Jvm.Cond.code x code maxLocals ret :: ws) room_1) (fun a U => a = #[(.int p0), (.int p1), (.int p2), (.int p3)] ∧ Z.Warmed39 U.vm ∧ U.heap = h0) (fun _ _ _ _ _ => True) (fun _ U o U' => ∃ v L, o = .returned v ∧ own_Q0 Z p0 p1 p2 p3 h0 n0 v U'.heap L ∧ FrameEnd U o U' L room_1.cells room_1.slots) := by
  refine MetFree.of_bodySF (plainFor_of_name own_pn_rm0) hisR ?_
  intro p e s m args below meth c s₁ Bd hml0 hP hK
  obtain ⟨rfl, hZ, hh⟩ := hP
  have hx := Bd.exec
  have hby := Bd.bytes
  have hml : c.maxLocals = 14 := hml0
  have hown : s.vm.findClass "com/example/dawdling_reader/dawdlingreader/mqtt/Utf8ResetPinLaw" = some m.cls := findClass_of_methodNamed Bd.named
  have hnm := (name_of_methodNamed Bd.named Bd.method).1
  have X0 : Stand p l e room_1 s m #[(.int p0), (.int p1), (.int p2), (.int p3)] below meth c s₁ [] 0 0 := Stand.of_body Bd
  have e0 : s₁.heap = h0 := by rw [← hh, Bd.state]; rfl
  have N0 := Fr.nil n0
  show own_End p e below s (own_Q0 Z p0 p1 p2 p3 h0 n0) room_1.cells room_1.slots (s₁.setTop (entryFrame m #[(.int p0), (.int p1), (.int p2), (.int p3)] maxLocals))
  rw [own_ef_rm0]
  refine own_iloadN X0 hx (hb hby at_0) rfl (q := 1) rfl ?_
  refine own_sipush X0 hx (hb hby at_1) (z := 255) rfl (q := 4) rfl ?_
  refine own_iand X0 hx (hb hby at_4) (q := 5) rfl ?_
  refine own_istore X0 hx (hb hby at_5) (l' := #[.val (.int p0), .val (.int p1), .val (.int p2), .val (.int p3), .val (.int (p0 &&& (255 : Int32))), .unset, .unset, .unset, .unset, .unset, .unset, .unset, .unset, .unset]) rfl (q := 7) rfl ?_
  refine own_iloadN X0 hx (hb hby at_7) rfl (q := 8) rfl ?_
  refine own_sipush X0 hx (hb hby at_8) (z := 255) rfl (q := 11) rfl ?_
  refine own_iand X0 hx (hb hby at_11) (q := 12) rfl ?_
  refine own_istore X0 hx (hb hby at_12) (l' := #[.val (.int p0), .val (.int p1), .val (.int p2), .val (.int p3), .val (.int (p0 &&& (255 : Int32))), .val (.int (p1 &&& (255 : Int32))), .unset, .unset, .unset, .unset, .unset, .unset, .unset, .unset]) rfl (q := 14) rfl ?_
  refine own_iloadN X0 hx (hb hby at_14) rfl (q := 15) rfl ?_
  refine own_sipush X0 hx (hb hby at_15) (z := 255) rfl (q := 18) rfl ?_
  refine own_iand X0 hx (hb hby at_18) (q := 19) rfl ?_
  refine own_istore X0 hx (hb hby at_19) (l' := #[.val (.int p0), .val (.int p1), .val (.int p2), .val (.int p3), .val (.int (p0 &&& (255 : Int32))), .val (.int (p1 &&& (255 : Int32))), .val (.int (p2 &&& (255 : Int32))), .unset, .unset, .unset, .unset, .unset, .unset, .unset]) rfl (q := 21) rfl ?_
  refine own_iloadN X0 hx (hb hby at_21) rfl (q := 22) rfl ?_
  refine own_sipush X0 hx (hb hby at_22) (z := 255) rfl (q := 25) rfl ?_
  refine own_iand X0 hx (hb hby at_25) (q := 26) rfl ?_
  refine own_istore X0 hx (hb hby at_26) (l' := #[.val (.int p0), .val (.int p1), .val (.int p2), .val (.int p3), .val (.int (p0 &&& (255 : Int32))), .val (.int (p1 &&& (255 : Int32))), .val (.int (p2 &&& (255 : Int32))), .val (.int (p3 &&& (255 : Int32))), .unset, .unset, .unset, .unset, .unset, .unset]) rfl (q := 28) rfl ?_
  obtain ⟨T115, h115, X115, e115, E115, A115, D115, -, st115⟩ := newO X0 hx hZ hown (hw _ (List.mem_of_getElem? (i := 0) rfl)) (hw _ (List.mem_of_getElem? (i := 1) rfl)) (hw _ (List.mem_of_getElem? (i := 2) rfl)) e0 (g := (mkF m 28 #[.val (.int p0), .val (.int p1), .val (.int p2), .val (.int p3), .val (.int (p0 &&& (255 : Int32))), .val (.int (p1 &&& (255 : Int32))), .val (.int (p2 &&& (255 : Int32))), .val (.int (p3 &&& (255 : Int32))), .unset, .unset, .unset, .unset, .unset, .unset] [])) rfl (hb hby at_28) (by decide) (by decide)
  obtain ⟨b115, g115⟩ : ∃ z, z = h0.size := ⟨_, rfl⟩
  have g_b115 : n0 ≤ b115 := Nat.le_trans Z0 (Nat.le_of_eq g115.symm)
  have Z116 := Nat.le_trans Z0 E115.1
  rw [← g115] at A115 D115 st115
  have F_b115_lowest : Fld Z h115 b115 "com/example/dawdling_reader/dawdlingreader/mqtt/Utf8" "lowest" "I" (.int (0 : Int32)) := D115 (Or.inl (hw _ (List.mem_of_getElem? (i := 10) rfl))) (ty := .int) (by decide)
  have F_b115_highest : Fld Z h115 b115 "com/example/dawdling_reader/dawdlingreader/mqtt/Utf8" "highest" "I" (.int (0 : Int32)) := D115 (Or.inl (hw _ (List.mem_of_getElem? (i := 12) rfl))) (ty := .int) (by decide)
  have F_b115_needed : Fld Z h115 b115 "com/example/dawdling_reader/dawdlingreader/mqtt/Utf8" "needed" "I" (.int (0 : Int32)) := D115 (Or.inl (hw _ (List.mem_of_getElem? (i := 19) rfl))) (ty := .int) (by decide)
  refine own_back st115 ?_
  show own_End p e below s _ _ _ (T115.setTop (mkF m 31 #[.val (.int p0), .val (.int p1), .val (.int p2), .val (.int p3), .val (.int (p0 &&& (255 : Int32))), .val (.int (p1 &&& (255 : Int32))), .val (.int (p2 &&& (255 : Int32))), .val (.int (p3 &&& (255 : Int32))), .unset, .unset, .unset, .unset, .unset, .unset] [(.ref b115)]))
  refine own_dup X115 hx (hb hby at_31) rfl (q := 32) rfl ?_
  obtain ⟨_, _, ⟨T117, L117, k117, n117⟩, -, X117, ⟨Lc117, hQ117, l117, y117, z117⟩, st117⟩ := X115.specialBack hx (y := (⟨"com/example/dawdling_reader/dawdlingreader/mqtt/Utf8", "<init>", "()V"⟩ : MethodName)) rfl hown (mvT hZ (hw _ (List.mem_of_getElem? (i := 3) rfl))) (mvT hZ (hw _ (List.mem_of_getElem? (i := 4) rfl))) (mvT hZ (hw _ (List.mem_of_getElem? (i := 5) rfl))) (by decide) (backOf (W := 1) (own_rm1 l Z a0 hw [] b115 (0 : Int32) (0 : Int32) (0 : Int32) h115 n0 Z116 A115 F_b115_lowest F_b115_highest F_b115_needed g_b115) hZ (hw _ (List.mem_of_getElem? (i := 5) rfl)) (hw _ (List.mem_of_getElem? (i := 2) rfl)) (by decide) (by decide)) (g := (mkF m 32 #[.val (.int p0), .val (.int p1), .val (.int p2), .val (.int p3), .val (.int (p0 &&& (255 : Int32))), .val (.int (p1 &&& (255 : Int32))), .val (.int (p2 &&& (255 : Int32))), .val (.int (p3 &&& (255 : Int32))), .unset, .unset, .unset, .unset, .unset, .unset] [(.ref b115), (.ref b115)])) rfl (by rw [hml]; rfl) (Steps.refl _) (a := b115) (argsL := []) (rest := [(.ref b115)]) (lenOf own_pd0 rfl) rfl (by show 2 * 0 + _ ≤ _; exact Nat.le_of_eq rfl) (hb hby at_32) (fun _ _ => ⟨rfl, e115, (by decide : 1 + 0 ≤ _), (by decide : 3 + 0 ≤ _)⟩)
  dsimp only [Pt.U, Pt.locs, Pt.cells, Pt.slots] at X117 l117 y117 z117 st117 hQ117
  subst l117 y117 z117
  obtain ⟨rfl, N117q, K117, Q117_0, Q117_1, Q117_2, Q117_3⟩ := hQ117
  have N117 := Fr.app N0 N117q
  have A115_118 := A115.keep K117
  have Z119 := Nat.le_trans Z116 K117.1
  refine own_via st117 ?_
  show own_End p e below s _ _ _ (T117.setTop (mkF m 35 #[.val (.int p0), .val (.int p1), .val (.int p2), .val (.int p3), .val (.int (p0 &&& (255 : Int32))), .val (.int (p1 &&& (255 : Int32))), .val (.int (p2 &&& (255 : Int32))), .val (.int (p3 &&& (255 : Int32))), .unset, .unset, .unset, .unset, .unset, .unset] [(.ref b115)]))
  refine own_astore X117 hx (hb hby at_35) rfl (l' := #[.val (.int p0), .val (.int p1), .val (.int p2), .val (.int p3), .val (.int (p0 &&& (255 : Int32))), .val (.int (p1 &&& (255 : Int32))), .val (.int (p2 &&& (255 : Int32))), .val (.int (p3 &&& (255 : Int32))), .val (.ref b115), .unset, .unset, .unset, .unset, .unset]) rfl (q := 37) rfl ?_
  obtain ⟨T120, h120, X120, e120, E120, A120, D120, -, st120⟩ := newO X117 hx hZ hown (hw _ (List.mem_of_getElem? (i := 0) rfl)) (hw _ (List.mem_of_getElem? (i := 1) rfl)) (hw _ (List.mem_of_getElem? (i := 2) rfl)) rfl (g := (mkF m 37 #[.val (.int p0), .val (.int p1), .val (.int p2), .val (.int p3), .val (.int (p0 &&& (255 : Int32))), .val (.int (p1 &&& (255 : Int32))), .val (.int (p2 &&& (255 : Int32))), .val (.int (p3 &&& (255 : Int32))), .val (.ref b115), .unset, .unset, .unset, .unset, .unset] [])) rfl (hb hby at_37) (by decide) (by decide)
  obtain ⟨b120, g120⟩ : ∃ z, z = T117.heap.size := ⟨_, rfl⟩
  have ne_b115_b120 : b115 ≠ b120 := Nat.ne_of_lt (Nat.lt_of_lt_of_le Q117_0.lt (Nat.le_of_eq g120.symm))
  have g_b120 : n0 ≤ b120 := Nat.le_trans Z119 (Nat.le_of_eq g120.symm)
  have Z121 := Nat.le_trans Z119 E120.1
  rw [← g120] at A120 D120 st120
  have Q117_122 := Q117_0.ext E120
  have Q117_123 := Q117_1.ext E120
  have Q117_124 := Q117_2.ext E120
  have Q117_125 := Q117_3.ext E120
  have F_b120_lowest : Fld Z h120 b120 "com/example/dawdling_reader/dawdlingreader/mqtt/Utf8" "lowest" "I" (.int (0 : Int32)) := D120 (Or.inl (hw _ (List.mem_of_getElem? (i := 10) rfl))) (ty := .int) (by decide)
  have F_b120_highest : Fld Z h120 b120 "com/example/dawdling_reader/dawdlingreader/mqtt/Utf8" "highest" "I" (.int (0 : Int32)) := D120 (Or.inl (hw _ (List.mem_of_getElem? (i := 12) rfl))) (ty := .int) (by decide)
  have F_b120_needed : Fld Z h120 b120 "com/example/dawdling_reader/dawdlingreader/mqtt/Utf8" "needed" "I" (.int (0 : Int32)) := D120 (Or.inl (hw _ (List.mem_of_getElem? (i := 19) rfl))) (ty := .int) (by decide)
  refine own_back st120 ?_
  show own_End p e below s _ _ _ (T120.setTop (mkF m 40 #[.val (.int p0), .val (.int p1), .val (.int p2), .val (.int p3), .val (.int (p0 &&& (255 : Int32))), .val (.int (p1 &&& (255 : Int32))), .val (.int (p2 &&& (255 : Int32))), .val (.int (p3 &&& (255 : Int32))), .val (.ref b115), .unset, .unset, .unset, .unset, .unset] [(.ref b120)]))
  refine own_dup X120 hx (hb hby at_40) rfl (q := 41) rfl ?_
  obtain ⟨_, _, ⟨T126, L126, k126, n126⟩, -, X126, ⟨Lc126, hQ126, l126, y126, z126⟩, st126⟩ := X120.specialBack hx (y := (⟨"com/example/dawdling_reader/dawdlingreader/mqtt/Utf8", "<init>", "()V"⟩ : MethodName)) rfl hown (mvT hZ (hw _ (List.mem_of_getElem? (i := 3) rfl))) (mvT hZ (hw _ (List.mem_of_getElem? (i := 4) rfl))) (mvT hZ (hw _ (List.mem_of_getElem? (i := 5) rfl))) (by decide) (backOf (W := 1) (own_rm1 l Z a0 hw [] b120 (0 : Int32) (0 : Int32) (0 : Int32) h120 n0 Z121 A120 F_b120_lowest F_b120_highest F_b120_needed g_b120) hZ (hw _ (List.mem_of_getElem? (i := 5) rfl)) (hw _ (List.mem_of_getElem? (i := 2) rfl)) (by decide) (by decide)) (g := (mkF m 41 #[.val (.int p0), .val (.int p1), .val (.int p2), .val (.int p3), .val (.int (p0 &&& (255 : Int32))), .val (.int (p1 &&& (255 : Int32))), .val (.int (p2 &&& (255 : Int32))), .val (.int (p3 &&& (255 : Int32))), .val (.ref b115), .unset, .unset, .unset, .unset, .unset] [(.ref b120), (.ref b120)])) rfl (by rw [hml]; rfl) (Steps.refl _) (a := b120) (argsL := []) (rest := [(.ref b120)]) (lenOf own_pd0 rfl) rfl (by show 2 * 0 + _ ≤ _; exact Nat.le_of_eq rfl) (hb hby at_41) (fun _ _ => ⟨rfl, e120, (by decide : 2 + 0 ≤ _), (by decide : 6 + 0 ≤ _)⟩)
  dsimp only [Pt.U, Pt.locs, Pt.cells, Pt.slots] at X126 l126 y126 z126 st126 hQ126
  subst l126 y126 z126
  obtain ⟨rfl, N126q, K126, Q126_0, Q126_1, Q126_2, Q126_3⟩ := hQ126
  have N126 := Fr.app N117 N126q
  have Q117_127 := Q117_122.keep K126
  have Q117_128 := Q117_123.keep K126 (ninS ne_b115_b120 nin0)
  have Q117_129 := Q117_124.keep K126 (ninS ne_b115_b120 nin0)
  have Q117_130 := Q117_125.keep K126 (ninS ne_b115_b120 nin0)
  have A120_131 := A120.keep K126
  have Z132 := Nat.le_trans Z121 K126.1
  refine own_via st126 ?_
  show own_End p e below s _ _ _ (T126.setTop (mkF m 44 #[.val (.int p0), .val (.int p1), .val (.int p2), .val (.int p3), .val (.int (p0 &&& (255 : Int32))), .val (.int (p1 &&& (255 : Int32))), .val (.int (p2 &&& (255 : Int32))), .val (.int (p3 &&& (255 : Int32))), .val (.ref b115), .unset, .unset, .unset, .unset, .unset] [(.ref b120)]))
  refine own_astore X126 hx (hb hby at_44) rfl (l' := #[.val (.int p0), .val (.int p1), .val (.int p2), .val (.int p3), .val (.int (p0 &&& (255 : Int32))), .val (.int (p1 &&& (255 : Int32))), .val (.int (p2 &&& (255 : Int32))), .val (.int (p3 &&& (255 : Int32))), .val (.ref b115), .val (.ref b120), .unset, .unset, .unset, .unset]) rfl (q := 46) rfl ?_
  refine own_aload X126 hx (hb hby at_46) rfl rfl (q := 48) rfl ?_
  refine own_iload X126 hx (hb hby at_48) rfl (q := 50) rfl ?_
  obtain ⟨cq133, kq133, q133a, q133b, q133c⟩ := isOf hZ rfl Q117_127
  obtain ⟨_, _, ⟨T133, L133, k133, n133⟩, -, X133, ⟨Lc133, hQ133, l133, y133, z133⟩, st133⟩ := X126.virtualBack hx (y := (⟨"com/example/dawdling_reader/dawdlingreader/mqtt/Utf8", "accept", "(I)Z"⟩ : MethodName)) (z := (⟨"com/example/dawdling_reader/dawdlingreader/mqtt/Utf8", "accept", "(I)Z"⟩ : MethodName)) hown (mvT hZ (hw _ (List.mem_of_getElem? (i := 13) rfl))) (mvT hZ (hw _ (List.mem_of_getElem? (i := 14) rfl))) (notFace_of_selects (args := #[]) (mvT hZ (hw _ (List.mem_of_getElem? (i := 16) rfl)))) (mvT hZ (hw _ (List.mem_of_getElem? (i := 16) rfl))) (mvT hZ (hw _ (List.mem_of_getElem? (i := 15) rfl))) (by decide) (backOf (W := 0) (own_rm3 l Z a0 hw [] b115 (p0 &&& (255 : Int32)) (128 : Int32) (191 : Int32) (0 : Int32) T126.heap n0 Z132 Q117_127 Q117_128 Q117_129 Q117_130 g_b115) hZ (hw _ (List.mem_of_getElem? (i := 17) rfl)) (hw _ (List.mem_of_getElem? (i := 2) rfl)) (by decide) (by decide)) q133a q133c (g := (mkF m 50 #[.val (.int p0), .val (.int p1), .val (.int p2), .val (.int p3), .val (.int (p0 &&& (255 : Int32))), .val (.int (p1 &&& (255 : Int32))), .val (.int (p2 &&& (255 : Int32))), .val (.int (p3 &&& (255 : Int32))), .val (.ref b115), .val (.ref b120), .unset, .unset, .unset, .unset] [(.int (p0 &&& (255 : Int32))), (.ref b115)])) rfl (by rw [hml]; rfl) (Steps.refl _) (argsL := [(.int (p0 &&& (255 : Int32)))]) (rest := []) (lenOf own_pd1 rfl) rfl (by show 2 * 0 + _ ≤ _; exact Nat.le_of_eq rfl) (hb hby at_50) (fun _ _ => ⟨rfl, rfl, (by decide : 2 + 0 ≤ _), (by decide : 6 + 0 ≤ _)⟩)
  dsimp only [Pt.U, Pt.locs, Pt.cells, Pt.slots] at X133 l133 y133 z133 st133 hQ133
  subst l133 y133 z133
  obtain ⟨rfl, N133q, K133, Q133_0, Q133_1, Q133_2, Q133_3⟩ := hQ133
  have N133 := Fr.app N126 N133q
  have Q117_134 := Q117_127.keep K133
  have Q126_135 := Q126_0.keep K133
  have Q126_136 := Q126_1.keep K133 (ninS (Ne.symm ne_b115_b120) nin0)
  have Q126_137 := Q126_2.keep K133 (ninS (Ne.symm ne_b115_b120) nin0)
  have Q126_138 := Q126_3.keep K133 (ninS (Ne.symm ne_b115_b120) nin0)
  have Z139 := Nat.le_trans Z132 K133.1
  refine own_via st133 ?_
  show own_End p e below s _ _ _ (T133.setTop (mkF m 53 #[.val (.int p0), .val (.int p1), .val (.int p2), .val (.int p3), .val (.int (p0 &&& (255 : Int32))), .val (.int (p1 &&& (255 : Int32))), .val (.int (p2 &&& (255 : Int32))), .val (.int (p3 &&& (255 : Int32))), .val (.ref b115), .val (.ref b120), .unset, .unset, .unset, .unset] [(.int (own_F3 (p0 &&& (255 : Int32)) (128 : Int32) (191 : Int32) (0 : Int32)))]))
  refine own_pop X133 hx (hb hby at_53) rfl (q := 54) rfl ?_
  refine own_aload X133 hx (hb hby at_54) rfl rfl (q := 56) rfl ?_
  refine own_iload X133 hx (hb hby at_56) rfl (q := 58) rfl ?_
  obtain ⟨cq140, kq140, q140a, q140b, q140c⟩ := isOf hZ rfl Q133_0
  obtain ⟨_, _, ⟨T140, L140, k140, n140⟩, -, X140, ⟨Lc140, hQ140, l140, y140, z140⟩, st140⟩ := X133.virtualBack hx (y := (⟨"com/example/dawdling_reader/dawdlingreader/mqtt/Utf8", "accept", "(I)Z"⟩ : MethodName)) (z := (⟨"com/example/dawdling_reader/dawdlingreader/mqtt/Utf8", "accept", "(I)Z"⟩ : MethodName)) hown (mvT hZ (hw _ (List.mem_of_getElem? (i := 13) rfl))) (mvT hZ (hw _ (List.mem_of_getElem? (i := 14) rfl))) (notFace_of_selects (args := #[]) (mvT hZ (hw _ (List.mem_of_getElem? (i := 16) rfl)))) (mvT hZ (hw _ (List.mem_of_getElem? (i := 16) rfl))) (mvT hZ (hw _ (List.mem_of_getElem? (i := 15) rfl))) (by decide) (backOf (W := 0) (own_rm3 l Z a0 hw [] b115 (p1 &&& (255 : Int32)) (own_G3_lowest (p0 &&& (255 : Int32)) (128 : Int32) (191 : Int32) (0 : Int32)) (own_G3_highest (p0 &&& (255 : Int32)) (128 : Int32) (191 : Int32) (0 : Int32)) (own_G3_needed (p0 &&& (255 : Int32)) (128 : Int32) (191 : Int32) (0 : Int32)) T133.heap n0 Z139 Q133_0 Q133_1 Q133_2 Q133_3 g_b115) hZ (hw _ (List.mem_of_getElem? (i := 17) rfl)) (hw _ (List.mem_of_getElem? (i := 2) rfl)) (by decide) (by decide)) q140a q140c (g := (mkF m 58 #[.val (.int p0), .val (.int p1), .val (.int p2), .val (.int p3), .val (.int (p0 &&& (255 : Int32))), .val (.int (p1 &&& (255 : Int32))), .val (.int (p2 &&& (255 : Int32))), .val (.int (p3 &&& (255 : Int32))), .val (.ref b115), .val (.ref b120), .unset, .unset, .unset, .unset] [(.int (p1 &&& (255 : Int32))), (.ref b115)])) rfl (by rw [hml]; rfl) (Steps.refl _) (argsL := [(.int (p1 &&& (255 : Int32)))]) (rest := []) (lenOf own_pd1 rfl) rfl (by show 2 * 0 + _ ≤ _; exact Nat.le_of_eq rfl) (hb hby at_58) (fun _ _ => ⟨rfl, rfl, (by decide : 2 + 0 ≤ _), (by decide : 6 + 0 ≤ _)⟩)
  dsimp only [Pt.U, Pt.locs, Pt.cells, Pt.slots] at X140 l140 y140 z140 st140 hQ140
  subst l140 y140 z140
  obtain ⟨rfl, N140q, K140, Q140_0, Q140_1, Q140_2, Q140_3⟩ := hQ140
  have N140 := Fr.app N133 N140q
  have Q133_141 := Q133_0.keep K140
  have Q126_142 := Q126_135.keep K140
  have Q126_143 := Q126_136.keep K140 (ninS (Ne.symm ne_b115_b120) nin0)
  have Q126_144 := Q126_137.keep K140 (ninS (Ne.symm ne_b115_b120) nin0)
  have Q126_145 := Q126_138.keep K140 (ninS (Ne.symm ne_b115_b120) nin0)
  have Z146 := Nat.le_trans Z139 K140.1
  refine own_via st140 ?_
  show own_End p e below s _ _ _ (T140.setTop (mkF m 61 #[.val (.int p0), .val (.int p1), .val (.int p2), .val (.int p3), .val (.int (p0 &&& (255 : Int32))), .val (.int (p1 &&& (255 : Int32))), .val (.int (p2 &&& (255 : Int32))), .val (.int (p3 &&& (255 : Int32))), .val (.ref b115), .val (.ref b120), .unset, .unset, .unset, .unset] [(.int (own_F3 (p1 &&& (255 : Int32)) (own_G3_lowest (p0 &&& (255 : Int32)) (128 : Int32) (191 : Int32) (0 : Int32)) (own_G3_highest (p0 &&& (255 : Int32)) (128 : Int32) (191 : Int32) (0 : Int32)) (own_G3_needed (p0 &&& (255 : Int32)) (128 : Int32) (191 : Int32) (0 : Int32))))]))
  refine own_pop X140 hx (hb hby at_61) rfl (q := 62) rfl ?_
  refine own_aload X140 hx (hb hby at_62) rfl rfl (q := 64) rfl ?_
  obtain ⟨cq147, kq147, q147a, q147b, q147c⟩ := isOf hZ rfl Q140_0
  obtain ⟨_, _, ⟨T147, L147, k147, n147⟩, -, X147, ⟨Lc147, hQ147, l147, y147, z147⟩, st147⟩ := X140.virtualBack hx (y := (⟨"com/example/dawdling_reader/dawdlingreader/mqtt/Utf8", "reset", "()V"⟩ : MethodName)) (z := (⟨"com/example/dawdling_reader/dawdlingreader/mqtt/Utf8", "reset", "()V"⟩ : MethodName)) hown (mvT hZ (hw _ (List.mem_of_getElem? (i := 20) rfl))) (mvT hZ (hw _ (List.mem_of_getElem? (i := 21) rfl))) (notFace_of_selects (args := #[]) (mvT hZ (hw _ (List.mem_of_getElem? (i := 23) rfl)))) (mvT hZ (hw _ (List.mem_of_getElem? (i := 23) rfl))) (mvT hZ (hw _ (List.mem_of_getElem? (i := 22) rfl))) (by decide) (backOf (W := 0) (own_rm4 l Z a0 hw [] b115 (own_G3_lowest (p1 &&& (255 : Int32)) (own_G3_lowest (p0 &&& (255 : Int32)) (128 : Int32) (191 : Int32) (0 : Int32)) (own_G3_highest (p0 &&& (255 : Int32)) (128 : Int32) (191 : Int32) (0 : Int32)) (own_G3_needed (p0 &&& (255 : Int32)) (128 : Int32) (191 : Int32) (0 : Int32))) (own_G3_highest (p1 &&& (255 : Int32)) (own_G3_lowest (p0 &&& (255 : Int32)) (128 : Int32) (191 : Int32) (0 : Int32)) (own_G3_highest (p0 &&& (255 : Int32)) (128 : Int32) (191 : Int32) (0 : Int32)) (own_G3_needed (p0 &&& (255 : Int32)) (128 : Int32) (191 : Int32) (0 : Int32))) (own_G3_needed (p1 &&& (255 : Int32)) (own_G3_lowest (p0 &&& (255 : Int32)) (128 : Int32) (191 : Int32) (0 : Int32)) (own_G3_highest (p0 &&& (255 : Int32)) (128 : Int32) (191 : Int32) (0 : Int32)) (own_G3_needed (p0 &&& (255 : Int32)) (128 : Int32) (191 : Int32) (0 : Int32))) T140.heap n0 Z146 Q140_0 Q140_1 Q140_2 Q140_3 g_b115) hZ (hw _ (List.mem_of_getElem? (i := 24) rfl)) (hw _ (List.mem_of_getElem? (i := 2) rfl)) (by decide) (by decide)) q147a q147c (g := (mkF m 64 #[.val (.int p0), .val (.int p1), .val (.int p2), .val (.int p3), .val (.int (p0 &&& (255 : Int32))), .val (.int (p1 &&& (255 : Int32))), .val (.int (p2 &&& (255 : Int32))), .val (.int (p3 &&& (255 : Int32))), .val (.ref b115), .val (.ref b120), .unset, .unset, .unset, .unset] [(.ref b115)])) rfl (by rw [hml]; rfl) (Steps.refl _) (argsL := []) (rest := []) (lenOf own_pd0 rfl) rfl (by show 2 * 0 + _ ≤ _; exact Nat.le_of_eq rfl) (hb hby at_64) (fun _ _ => ⟨rfl, rfl, (by decide : 2 + 0 ≤ _), (by decide : 6 + 0 ≤ _)⟩)
  dsimp only [Pt.U, Pt.locs, Pt.cells, Pt.slots] at X147 l147 y147 z147 st147 hQ147
  subst l147 y147 z147
  obtain ⟨rfl, N147q, K147, Q147_0, Q147_1, Q147_2, Q147_3⟩ := hQ147
  have N147 := Fr.app N140 N147q
  have Q140_148 := Q140_0.keep K147
  have Q126_149 := Q126_142.keep K147
  have Q126_150 := Q126_143.keep K147 (ninS (Ne.symm ne_b115_b120) nin0)
  have Q126_151 := Q126_144.keep K147 (ninS (Ne.symm ne_b115_b120) nin0)
  have Q126_152 := Q126_145.keep K147 (ninS (Ne.symm ne_b115_b120) nin0)
  have Z153 := Nat.le_trans Z146 K147.1
  refine own_via st147 ?_
  show own_End p e below s _ _ _ (T147.setTop (mkF m 67 #[.val (.int p0), .val (.int p1), .val (.int p2), .val (.int p3), .val (.int (p0 &&& (255 : Int32))), .val (.int (p1 &&& (255 : Int32))), .val (.int (p2 &&& (255 : Int32))), .val (.int (p3 &&& (255 : Int32))), .val (.ref b115), .val (.ref b120), .unset, .unset, .unset, .unset] []))
  refine own_aload X147 hx (hb hby at_67) rfl rfl (q := 69) rfl ?_
  obtain ⟨cq154, kq154, q154a, q154b, q154c⟩ := isOf hZ rfl Q147_0
  obtain ⟨_, _, ⟨T154, L154, k154, n154⟩, -, X154, ⟨Lc154, hQ154, l154, y154, z154⟩, st154⟩ := X147.virtualBack hx (y := (⟨"com/example/dawdling_reader/dawdlingreader/mqtt/Utf8", "atCharacterEnd", "()Z"⟩ : MethodName)) (z := (⟨"com/example/dawdling_reader/dawdlingreader/mqtt/Utf8", "atCharacterEnd", "()Z"⟩ : MethodName)) hown (mvT hZ (hw _ (List.mem_of_getElem? (i := 25) rfl))) (mvT hZ (hw _ (List.mem_of_getElem? (i := 26) rfl))) (notFace_of_selects (args := #[]) (mvT hZ (hw _ (List.mem_of_getElem? (i := 28) rfl)))) (mvT hZ (hw _ (List.mem_of_getElem? (i := 28) rfl))) (mvT hZ (hw _ (List.mem_of_getElem? (i := 27) rfl))) (by decide) (backOf (W := 0) (own_rm5 l Z a0 hw [] b115 (128 : Int32) (191 : Int32) (0 : Int32) T147.heap n0 Z153 Q147_0 Q147_1 Q147_2 Q147_3) hZ (hw _ (List.mem_of_getElem? (i := 29) rfl)) (hw _ (List.mem_of_getElem? (i := 2) rfl)) (by decide) (by decide)) q154a q154c (g := (mkF m 69 #[.val (.int p0), .val (.int p1), .val (.int p2), .val (.int p3), .val (.int (p0 &&& (255 : Int32))), .val (.int (p1 &&& (255 : Int32))), .val (.int (p2 &&& (255 : Int32))), .val (.int (p3 &&& (255 : Int32))), .val (.ref b115), .val (.ref b120), .unset, .unset, .unset, .unset] [(.ref b115)])) rfl (by rw [hml]; rfl) (Steps.refl _) (argsL := []) (rest := []) (lenOf own_pd2 rfl) rfl (by show 2 * 0 + _ ≤ _; exact Nat.le_of_eq rfl) (hb hby at_69) (fun _ _ => ⟨rfl, rfl, (by decide : 2 + 0 ≤ _), (by decide : 6 + 0 ≤ _)⟩)
  dsimp only [Pt.U, Pt.locs, Pt.cells, Pt.slots] at X154 l154 y154 z154 st154 hQ154
  subst l154 y154 z154
  obtain ⟨rfl, N154q, e154⟩ := hQ154
  have N154 := Fr.app N147 N154q
  refine own_via st154 ?_
  show own_End p e below s _ _ _ (T154.setTop (mkF m 72 #[.val (.int p0), .val (.int p1), .val (.int p2), .val (.int p3), .val (.int (p0 &&& (255 : Int32))), .val (.int (p1 &&& (255 : Int32))), .val (.int (p2 &&& (255 : Int32))), .val (.int (p3 &&& (255 : Int32))), .val (.ref b115), .val (.ref b120), .unset, .unset, .unset, .unset] [(.int (own_F5 (128 : Int32) (191 : Int32) (0 : Int32)))]))
  refine own_istore X154 hx (hb hby at_72) (l' := #[.val (.int p0), .val (.int p1), .val (.int p2), .val (.int p3), .val (.int (p0 &&& (255 : Int32))), .val (.int (p1 &&& (255 : Int32))), .val (.int (p2 &&& (255 : Int32))), .val (.int (p3 &&& (255 : Int32))), .val (.ref b115), .val (.ref b120), .val (.int (own_F5 (128 : Int32) (191 : Int32) (0 : Int32))), .unset, .unset, .unset]) rfl (q := 74) rfl ?_
  refine own_aload X154 hx (hb hby at_74) rfl rfl (q := 76) rfl ?_
  refine own_iload X154 hx (hb hby at_76) rfl (q := 78) rfl ?_
  obtain ⟨cq155, kq155, q155a, q155b, q155c⟩ := isOf hZ e154 Q147_0
  obtain ⟨_, _, ⟨T155, L155, k155, n155⟩, -, X155, ⟨Lc155, hQ155, l155, y155, z155⟩, st155⟩ := X154.virtualBack hx (y := (⟨"com/example/dawdling_reader/dawdlingreader/mqtt/Utf8", "accept", "(I)Z"⟩ : MethodName)) (z := (⟨"com/example/dawdling_reader/dawdlingreader/mqtt/Utf8", "accept", "(I)Z"⟩ : MethodName)) hown (mvT hZ (hw _ (List.mem_of_getElem? (i := 13) rfl))) (mvT hZ (hw _ (List.mem_of_getElem? (i := 14) rfl))) (notFace_of_selects (args := #[]) (mvT hZ (hw _ (List.mem_of_getElem? (i := 16) rfl)))) (mvT hZ (hw _ (List.mem_of_getElem? (i := 16) rfl))) (mvT hZ (hw _ (List.mem_of_getElem? (i := 15) rfl))) (by decide) (backOf (W := 0) (own_rm3 l Z a0 hw [] b115 (p2 &&& (255 : Int32)) (128 : Int32) (191 : Int32) (0 : Int32) T147.heap n0 Z153 Q147_0 Q147_1 Q147_2 Q147_3 g_b115) hZ (hw _ (List.mem_of_getElem? (i := 17) rfl)) (hw _ (List.mem_of_getElem? (i := 2) rfl)) (by decide) (by decide)) q155a q155c (g := (mkF m 78 #[.val (.int p0), .val (.int p1), .val (.int p2), .val (.int p3), .val (.int (p0 &&& (255 : Int32))), .val (.int (p1 &&& (255 : Int32))), .val (.int (p2 &&& (255 : Int32))), .val (.int (p3 &&& (255 : Int32))), .val (.ref b115), .val (.ref b120), .val (.int (own_F5 (128 : Int32) (191 : Int32) (0 : Int32))), .unset, .unset, .unset] [(.int (p2 &&& (255 : Int32))), (.ref b115)])) rfl (by rw [hml]; rfl) (Steps.refl _) (argsL := [(.int (p2 &&& (255 : Int32)))]) (rest := []) (lenOf own_pd1 rfl) rfl (by show 2 * 0 + _ ≤ _; exact Nat.le_of_eq rfl) (hb hby at_78) (fun _ _ => ⟨rfl, e154, (by decide : 2 + 0 ≤ _), (by decide : 6 + 0 ≤ _)⟩)
  dsimp only [Pt.U, Pt.locs, Pt.cells, Pt.slots] at X155 l155 y155 z155 st155 hQ155
  subst l155 y155 z155
  obtain ⟨rfl, N155q, K155, Q155_0, Q155_1, Q155_2, Q155_3⟩ := hQ155
  have N155 := Fr.app N154 N155q
  have Q147_156 := Q147_0.keep K155
  have Q126_157 := Q126_149.keep K155
  have Q126_158 := Q126_150.keep K155 (ninS (Ne.symm ne_b115_b120) nin0)
  have Q126_159 := Q126_151.keep K155 (ninS (Ne.symm ne_b115_b120) nin0)
  have Q126_160 := Q126_152.keep K155 (ninS (Ne.symm ne_b115_b120) nin0)
  have Z161 := Nat.le_trans Z153 K155.1
  refine own_via st155 ?_
  show own_End p e below s _ _ _ (T155.setTop (mkF m 81 #[.val (.int p0), .val (.int p1), .val (.int p2), .val (.int p3), .val (.int (p0 &&& (255 : Int32))), .val (.int (p1 &&& (255 : Int32))), .val (.int (p2 &&& (255 : Int32))), .val (.int (p3 &&& (255 : Int32))), .val (.ref b115), .val (.ref b120), .val (.int (own_F5 (128 : Int32) (191 : Int32) (0 : Int32))), .unset, .unset, .unset] [(.int (own_F3 (p2 &&& (255 : Int32)) (128 : Int32) (191 : Int32) (0 : Int32)))]))
  refine own_aload X155 hx (hb hby at_81) rfl rfl (q := 83) rfl ?_
  refine own_iload X155 hx (hb hby at_83) rfl (q := 85) rfl ?_
  obtain ⟨cq162, kq162, q162a, q162b, q162c⟩ := isOf hZ rfl Q126_157
  obtain ⟨_, _, ⟨T162, L162, k162, n162⟩, -, X162, ⟨Lc162, hQ162, l162, y162, z162⟩, st162⟩ := X155.virtualBack hx (y := (⟨"com/example/dawdling_reader/dawdlingreader/mqtt/Utf8", "accept", "(I)Z"⟩ : MethodName)) (z := (⟨"com/example/dawdling_reader/dawdlingreader/mqtt/Utf8", "accept", "(I)Z"⟩ : MethodName)) hown (mvT hZ (hw _ (List.mem_of_getElem? (i := 13) rfl))) (mvT hZ (hw _ (List.mem_of_getElem? (i := 14) rfl))) (notFace_of_selects (args := #[]) (mvT hZ (hw _ (List.mem_of_getElem? (i := 16) rfl)))) (mvT hZ (hw _ (List.mem_of_getElem? (i := 16) rfl))) (mvT hZ (hw _ (List.mem_of_getElem? (i := 15) rfl))) (by decide) (backOf (W := 1) (own_rm3 l Z a0 hw [] b120 (p2 &&& (255 : Int32)) (128 : Int32) (191 : Int32) (0 : Int32) T155.heap n0 Z161 Q126_157 Q126_158 Q126_159 Q126_160 g_b120) hZ (hw _ (List.mem_of_getElem? (i := 17) rfl)) (hw _ (List.mem_of_getElem? (i := 2) rfl)) (by decide) (by decide)) q162a q162c (g := (mkF m 85 #[.val (.int p0), .val (.int p1), .val (.int p2), .val (.int p3), .val (.int (p0 &&& (255 : Int32))), .val (.int (p1 &&& (255 : Int32))), .val (.int (p2 &&& (255 : Int32))), .val (.int (p3 &&& (255 : Int32))), .val (.ref b115), .val (.ref b120), .val (.int (own_F5 (128 : Int32) (191 : Int32) (0 : Int32))), .unset, .unset, .unset] [(.int (p2 &&& (255 : Int32))), (.ref b120), (.int (own_F3 (p2 &&& (255 : Int32)) (128 : Int32) (191 : Int32) (0 : Int32)))])) rfl (by rw [hml]; rfl) (Steps.refl _) (argsL := [(.int (p2 &&& (255 : Int32)))]) (rest := [(.int (own_F3 (p2 &&& (255 : Int32)) (128 : Int32) (191 : Int32) (0 : Int32)))]) (lenOf own_pd1 rfl) rfl (by show 2 * 0 + _ ≤ _; exact Nat.le_of_eq rfl) (hb hby at_85) (fun _ _ => ⟨rfl, rfl, (by decide : 2 + 0 ≤ _), (by decide : 6 + 0 ≤ _)⟩)
  dsimp only [Pt.U, Pt.locs, Pt.cells, Pt.slots] at X162 l162 y162 z162 st162 hQ162
  subst l162 y162 z162
  obtain ⟨rfl, N162q, K162, Q162_0, Q162_1, Q162_2, Q162_3⟩ := hQ162
  have N162 := Fr.app N155 N162q
  have Q155_163 := Q155_0.keep K162
  have Q126_164 := Q126_157.keep K162
  have Q155_165 := Q155_1.keep K162 (ninS ne_b115_b120 nin0)
  have Q155_166 := Q155_2.keep K162 (ninS ne_b115_b120 nin0)
  have Q155_167 := Q155_3.keep K162 (ninS ne_b115_b120 nin0)
  have Z168 := Nat.le_trans Z161 K162.1
  refine own_via st162 ?_
  show own_End p e below s _ _ _ (T162.setTop (mkF m 88 #[.val (.int p0), .val (.int p1), .val (.int p2), .val (.int p3), .val (.int (p0 &&& (255 : Int32))), .val (.int (p1 &&& (255 : Int32))), .val (.int (p2 &&& (255 : Int32))), .val (.int (p3 &&& (255 : Int32))), .val (.ref b115), .val (.ref b120), .val (.int (own_F5 (128 : Int32) (191 : Int32) (0 : Int32))), .unset, .unset, .unset] [(.int (own_F3 (p2 &&& (255 : Int32)) (128 : Int32) (191 : Int32) (0 : Int32))), (.int (own_F3 (p2 &&& (255 : Int32)) (128 : Int32) (191 : Int32) (0 : Int32)))]))
  refine own_icN X162 hx (hb hby at_88) (teq (rfl : (own_F3 (p2 &&& (255 : Int32)) (128 : Int32) (191 : Int32) (0 : Int32)) = (own_F3 (p2 &&& (255 : Int32)) (128 : Int32) (191 : Int32) (0 : Int32)))).2 (q := 91) rfl ?_
  refine own_iconst X162 hx (hb hby at_91) (z := 1) rfl (q := 92) rfl ?_
  refine own_goto X162 hx (hb hby at_92) (q := 96) (by decide) (by decide) ?_
  refine own_istore X162 hx (hb hby at_96) (l' := #[.val (.int p0), .val (.int p1), .val (.int p2), .val (.int p3), .val (.int (p0 &&& (255 : Int32))), .val (.int (p1 &&& (255 : Int32))), .val (.int (p2 &&& (255 : Int32))), .val (.int (p3 &&& (255 : Int32))), .val (.ref b115), .val (.ref b120), .val (.int (own_F5 (128 : Int32) (191 : Int32) (0 : Int32))), .val (.int (1 : Int32)), .unset, .unset]) rfl (q := 98) rfl ?_
  refine own_aload X162 hx (hb hby at_98) rfl rfl (q := 100) rfl ?_
  refine own_iload X162 hx (hb hby at_100) rfl (q := 102) rfl ?_
  obtain ⟨cq169, kq169, q169a, q169b, q169c⟩ := isOf hZ rfl Q155_163
  obtain ⟨_, _, ⟨T169, L169, k169, n169⟩, -, X169, ⟨Lc169, hQ169, l169, y169, z169⟩, st169⟩ := X162.virtualBack hx (y := (⟨"com/example/dawdling_reader/dawdlingreader/mqtt/Utf8", "accept", "(I)Z"⟩ : MethodName)) (z := (⟨"com/example/dawdling_reader/dawdlingreader/mqtt/Utf8", "accept", "(I)Z"⟩ : MethodName)) hown (mvT hZ (hw _ (List.mem_of_getElem? (i := 13) rfl))) (mvT hZ (hw _ (List.mem_of_getElem? (i := 14) rfl))) (notFace_of_selects (args := #[]) (mvT hZ (hw _ (List.mem_of_getElem? (i := 16) rfl)))) (mvT hZ (hw _ (List.mem_of_getElem? (i := 16) rfl))) (mvT hZ (hw _ (List.mem_of_getElem? (i := 15) rfl))) (by decide) (backOf (W := 0) (own_rm3 l Z a0 hw [] b115 (p3 &&& (255 : Int32)) (own_G3_lowest (p2 &&& (255 : Int32)) (128 : Int32) (191 : Int32) (0 : Int32)) (own_G3_highest (p2 &&& (255 : Int32)) (128 : Int32) (191 : Int32) (0 : Int32)) (own_G3_needed (p2 &&& (255 : Int32)) (128 : Int32) (191 : Int32) (0 : Int32)) T162.heap n0 Z168 Q155_163 Q155_165 Q155_166 Q155_167 g_b115) hZ (hw _ (List.mem_of_getElem? (i := 17) rfl)) (hw _ (List.mem_of_getElem? (i := 2) rfl)) (by decide) (by decide)) q169a q169c (g := (mkF m 102 #[.val (.int p0), .val (.int p1), .val (.int p2), .val (.int p3), .val (.int (p0 &&& (255 : Int32))), .val (.int (p1 &&& (255 : Int32))), .val (.int (p2 &&& (255 : Int32))), .val (.int (p3 &&& (255 : Int32))), .val (.ref b115), .val (.ref b120), .val (.int (own_F5 (128 : Int32) (191 : Int32) (0 : Int32))), .val (.int (1 : Int32)), .unset, .unset] [(.int (p3 &&& (255 : Int32))), (.ref b115)])) rfl (by rw [hml]; rfl) (Steps.refl _) (argsL := [(.int (p3 &&& (255 : Int32)))]) (rest := []) (lenOf own_pd1 rfl) rfl (by show 2 * 0 + _ ≤ _; exact Nat.le_of_eq rfl) (hb hby at_102) (fun _ _ => ⟨rfl, rfl, (by decide : 2 + 0 ≤ _), (by decide : 6 + 0 ≤ _)⟩)
  dsimp only [Pt.U, Pt.locs, Pt.cells, Pt.slots] at X169 l169 y169 z169 st169 hQ169
  subst l169 y169 z169
  obtain ⟨rfl, N169q, K169, Q169_0, Q169_1, Q169_2, Q169_3⟩ := hQ169
  have N169 := Fr.app N162 N169q
  have Q155_170 := Q155_163.keep K169
  have Q162_171 := Q162_0.keep K169
  have Q162_172 := Q162_1.keep K169 (ninS (Ne.symm ne_b115_b120) nin0)
  have Q162_173 := Q162_2.keep K169 (ninS (Ne.symm ne_b115_b120) nin0)
  have Q162_174 := Q162_3.keep K169 (ninS (Ne.symm ne_b115_b120) nin0)
  have Z175 := Nat.le_trans Z168 K169.1
  refine own_via st169 ?_
  show own_End p e below s _ _ _ (T169.setTop (mkF m 105 #[.val (.int p0), .val (.int p1), .val (.int p2), .val (.int p3), .val (.int (p0 &&& (255 : Int32))), .val (.int (p1 &&& (255 : Int32))), .val (.int (p2 &&& (255 : Int32))), .val (.int (p3 &&& (255 : Int32))), .val (.ref b115), .val (.ref b120), .val (.int (own_F5 (128 : Int32) (191 : Int32) (0 : Int32))), .val (.int (1 : Int32)), .unset, .unset] [(.int (own_F3 (p3 &&& (255 : Int32)) (own_G3_lowest (p2 &&& (255 : Int32)) (128 : Int32) (191 : Int32) (0 : Int32)) (own_G3_highest (p2 &&& (255 : Int32)) (128 : Int32) (191 : Int32) (0 : Int32)) (own_G3_needed (p2 &&& (255 : Int32)) (128 : Int32) (191 : Int32) (0 : Int32))))]))
  refine own_aload X169 hx (hb hby at_105) rfl rfl (q := 107) rfl ?_
  refine own_iload X169 hx (hb hby at_107) rfl (q := 109) rfl ?_
  obtain ⟨cq176, kq176, q176a, q176b, q176c⟩ := isOf hZ rfl Q162_171
  obtain ⟨_, _, ⟨T176, L176, k176, n176⟩, -, X176, ⟨Lc176, hQ176, l176, y176, z176⟩, st176⟩ := X169.virtualBack hx (y := (⟨"com/example/dawdling_reader/dawdlingreader/mqtt/Utf8", "accept", "(I)Z"⟩ : MethodName)) (z := (⟨"com/example/dawdling_reader/dawdlingreader/mqtt/Utf8", "accept", "(I)Z"⟩ : MethodName)) hown (mvT hZ (hw _ (List.mem_of_getElem? (i := 13) rfl))) (mvT hZ (hw _ (List.mem_of_getElem? (i := 14) rfl))) (notFace_of_selects (args := #[]) (mvT hZ (hw _ (List.mem_of_getElem? (i := 16) rfl)))) (mvT hZ (hw _ (List.mem_of_getElem? (i := 16) rfl))) (mvT hZ (hw _ (List.mem_of_getElem? (i := 15) rfl))) (by decide) (backOf (W := 1) (own_rm3 l Z a0 hw [] b120 (p3 &&& (255 : Int32)) (own_G3_lowest (p2 &&& (255 : Int32)) (128 : Int32) (191 : Int32) (0 : Int32)) (own_G3_highest (p2 &&& (255 : Int32)) (128 : Int32) (191 : Int32) (0 : Int32)) (own_G3_needed (p2 &&& (255 : Int32)) (128 : Int32) (191 : Int32) (0 : Int32)) T169.heap n0 Z175 Q162_171 Q162_172 Q162_173 Q162_174 g_b120) hZ (hw _ (List.mem_of_getElem? (i := 17) rfl)) (hw _ (List.mem_of_getElem? (i := 2) rfl)) (by decide) (by decide)) q176a q176c (g := (mkF m 109 #[.val (.int p0), .val (.int p1), .val (.int p2), .val (.int p3), .val (.int (p0 &&& (255 : Int32))), .val (.int (p1 &&& (255 : Int32))), .val (.int (p2 &&& (255 : Int32))), .val (.int (p3 &&& (255 : Int32))), .val (.ref b115), .val (.ref b120), .val (.int (own_F5 (128 : Int32) (191 : Int32) (0 : Int32))), .val (.int (1 : Int32)), .unset, .unset] [(.int (p3 &&& (255 : Int32))), (.ref b120), (.int (own_F3 (p3 &&& (255 : Int32)) (own_G3_lowest (p2 &&& (255 : Int32)) (128 : Int32) (191 : Int32) (0 : Int32)) (own_G3_highest (p2 &&& (255 : Int32)) (128 : Int32) (191 : Int32) (0 : Int32)) (own_G3_needed (p2 &&& (255 : Int32)) (128 : Int32) (191 : Int32) (0 : Int32))))])) rfl (by rw [hml]; rfl) (Steps.refl _) (argsL := [(.int (p3 &&& (255 : Int32)))]) (rest := [(.int (own_F3 (p3 &&& (255 : Int32)) (own_G3_lowest (p2 &&& (255 : Int32)) (128 : Int32) (191 : Int32) (0 : Int32)) (own_G3_highest (p2 &&& (255 : Int32)) (128 : Int32) (191 : Int32) (0 : Int32)) (own_G3_needed (p2 &&& (255 : Int32)) (128 : Int32) (191 : Int32) (0 : Int32))))]) (lenOf own_pd1 rfl) rfl (by show 2 * 0 + _ ≤ _; exact Nat.le_of_eq rfl) (hb hby at_109) (fun _ _ => ⟨rfl, rfl, (by decide : 2 + 0 ≤ _), (by decide : 6 + 0 ≤ _)⟩)
  dsimp only [Pt.U, Pt.locs, Pt.cells, Pt.slots] at X176 l176 y176 z176 st176 hQ176
  subst l176 y176 z176
  obtain ⟨rfl, N176q, K176, Q176_0, Q176_1, Q176_2, Q176_3⟩ := hQ176
  have N176 := Fr.app N169 N176q
  have Q169_177 := Q169_0.keep K176
  have Q162_178 := Q162_171.keep K176
  have Q169_179 := Q169_1.keep K176 (ninS ne_b115_b120 nin0)
  have Q169_180 := Q169_2.keep K176 (ninS ne_b115_b120 nin0)
  have Q169_181 := Q169_3.keep K176 (ninS ne_b115_b120 nin0)
  have Z182 := Nat.le_trans Z175 K176.1
  refine own_via st176 ?_
  show own_End p e below s _ _ _ (T176.setTop (mkF m 112 #[.val (.int p0), .val (.int p1), .val (.int p2), .val (.int p3), .val (.int (p0 &&& (255 : Int32))), .val (.int (p1 &&& (255 : Int32))), .val (.int (p2 &&& (255 : Int32))), .val (.int (p3 &&& (255 : Int32))), .val (.ref b115), .val (.ref b120), .val (.int (own_F5 (128 : Int32) (191 : Int32) (0 : Int32))), .val (.int (1 : Int32)), .unset, .unset] [(.int (own_F3 (p3 &&& (255 : Int32)) (own_G3_lowest (p2 &&& (255 : Int32)) (128 : Int32) (191 : Int32) (0 : Int32)) (own_G3_highest (p2 &&& (255 : Int32)) (128 : Int32) (191 : Int32) (0 : Int32)) (own_G3_needed (p2 &&& (255 : Int32)) (128 : Int32) (191 : Int32) (0 : Int32)))), (.int (own_F3 (p3 &&& (255 : Int32)) (own_G3_lowest (p2 &&& (255 : Int32)) (128 : Int32) (191 : Int32) (0 : Int32)) (own_G3_highest (p2 &&& (255 : Int32)) (128 : Int32) (191 : Int32) (0 : Int32)) (own_G3_needed (p2 &&& (255 : Int32)) (128 : Int32) (191 : Int32) (0 : Int32))))]))
  refine own_icN X176 hx (hb hby at_112) (teq (rfl : (own_F3 (p3 &&& (255 : Int32)) (own_G3_lowest (p2 &&& (255 : Int32)) (128 : Int32) (191 : Int32) (0 : Int32)) (own_G3_highest (p2 &&& (255 : Int32)) (128 : Int32) (191 : Int32) (0 : Int32)) (own_G3_needed (p2 &&& (255 : Int32)) (128 : Int32) (191 : Int32) (0 : Int32))) = (own_F3 (p3 &&& (255 : Int32)) (own_G3_lowest (p2 &&& (255 : Int32)) (128 : Int32) (191 : Int32) (0 : Int32)) (own_G3_highest (p2 &&& (255 : Int32)) (128 : Int32) (191 : Int32) (0 : Int32)) (own_G3_needed (p2 &&& (255 : Int32)) (128 : Int32) (191 : Int32) (0 : Int32))))).2 (q := 115) rfl ?_
  refine own_iconst X176 hx (hb hby at_115) (z := 1) rfl (q := 116) rfl ?_
  refine own_goto X176 hx (hb hby at_116) (q := 120) (by decide) (by decide) ?_
  refine own_istore X176 hx (hb hby at_120) (l' := #[.val (.int p0), .val (.int p1), .val (.int p2), .val (.int p3), .val (.int (p0 &&& (255 : Int32))), .val (.int (p1 &&& (255 : Int32))), .val (.int (p2 &&& (255 : Int32))), .val (.int (p3 &&& (255 : Int32))), .val (.ref b115), .val (.ref b120), .val (.int (own_F5 (128 : Int32) (191 : Int32) (0 : Int32))), .val (.int (1 : Int32)), .val (.int (1 : Int32)), .unset]) rfl (q := 122) rfl ?_
  refine own_aload X176 hx (hb hby at_122) rfl rfl (q := 124) rfl ?_
  obtain ⟨cq183, kq183, q183a, q183b, q183c⟩ := isOf hZ rfl Q169_177
  obtain ⟨_, _, ⟨T183, L183, k183, n183⟩, -, X183, ⟨Lc183, hQ183, l183, y183, z183⟩, st183⟩ := X176.virtualBack hx (y := (⟨"com/example/dawdling_reader/dawdlingreader/mqtt/Utf8", "atCharacterEnd", "()Z"⟩ : MethodName)) (z := (⟨"com/example/dawdling_reader/dawdlingreader/mqtt/Utf8", "atCharacterEnd", "()Z"⟩ : MethodName)) hown (mvT hZ (hw _ (List.mem_of_getElem? (i := 25) rfl))) (mvT hZ (hw _ (List.mem_of_getElem? (i := 26) rfl))) (notFace_of_selects (args := #[]) (mvT hZ (hw _ (List.mem_of_getElem? (i := 28) rfl)))) (mvT hZ (hw _ (List.mem_of_getElem? (i := 28) rfl))) (mvT hZ (hw _ (List.mem_of_getElem? (i := 27) rfl))) (by decide) (backOf (W := 0) (own_rm5 l Z a0 hw [] b115 (own_G3_lowest (p3 &&& (255 : Int32)) (own_G3_lowest (p2 &&& (255 : Int32)) (128 : Int32) (191 : Int32) (0 : Int32)) (own_G3_highest (p2 &&& (255 : Int32)) (128 : Int32) (191 : Int32) (0 : Int32)) (own_G3_needed (p2 &&& (255 : Int32)) (128 : Int32) (191 : Int32) (0 : Int32))) (own_G3_highest (p3 &&& (255 : Int32)) (own_G3_lowest (p2 &&& (255 : Int32)) (128 : Int32) (191 : Int32) (0 : Int32)) (own_G3_highest (p2 &&& (255 : Int32)) (128 : Int32) (191 : Int32) (0 : Int32)) (own_G3_needed (p2 &&& (255 : Int32)) (128 : Int32) (191 : Int32) (0 : Int32))) (own_G3_needed (p3 &&& (255 : Int32)) (own_G3_lowest (p2 &&& (255 : Int32)) (128 : Int32) (191 : Int32) (0 : Int32)) (own_G3_highest (p2 &&& (255 : Int32)) (128 : Int32) (191 : Int32) (0 : Int32)) (own_G3_needed (p2 &&& (255 : Int32)) (128 : Int32) (191 : Int32) (0 : Int32))) T176.heap n0 Z182 Q169_177 Q169_179 Q169_180 Q169_181) hZ (hw _ (List.mem_of_getElem? (i := 29) rfl)) (hw _ (List.mem_of_getElem? (i := 2) rfl)) (by decide) (by decide)) q183a q183c (g := (mkF m 124 #[.val (.int p0), .val (.int p1), .val (.int p2), .val (.int p3), .val (.int (p0 &&& (255 : Int32))), .val (.int (p1 &&& (255 : Int32))), .val (.int (p2 &&& (255 : Int32))), .val (.int (p3 &&& (255 : Int32))), .val (.ref b115), .val (.ref b120), .val (.int (own_F5 (128 : Int32) (191 : Int32) (0 : Int32))), .val (.int (1 : Int32)), .val (.int (1 : Int32)), .unset] [(.ref b115)])) rfl (by rw [hml]; rfl) (Steps.refl _) (argsL := []) (rest := []) (lenOf own_pd2 rfl) rfl (by show 2 * 0 + _ ≤ _; exact Nat.le_of_eq rfl) (hb hby at_124) (fun _ _ => ⟨rfl, rfl, (by decide : 2 + 0 ≤ _), (by decide : 6 + 0 ≤ _)⟩)
  dsimp only [Pt.U, Pt.locs, Pt.cells, Pt.slots] at X183 l183 y183 z183 st183 hQ183
  subst l183 y183 z183
  obtain ⟨rfl, N183q, e183⟩ := hQ183
  have N183 := Fr.app N176 N183q
  refine own_via st183 ?_
  show own_End p e below s _ _ _ (T183.setTop (mkF m 127 #[.val (.int p0), .val (.int p1), .val (.int p2), .val (.int p3), .val (.int (p0 &&& (255 : Int32))), .val (.int (p1 &&& (255 : Int32))), .val (.int (p2 &&& (255 : Int32))), .val (.int (p3 &&& (255 : Int32))), .val (.ref b115), .val (.ref b120), .val (.int (own_F5 (128 : Int32) (191 : Int32) (0 : Int32))), .val (.int (1 : Int32)), .val (.int (1 : Int32)), .unset] [(.int (own_F5 (own_G3_lowest (p3 &&& (255 : Int32)) (own_G3_lowest (p2 &&& (255 : Int32)) (128 : Int32) (191 : Int32) (0 : Int32)) (own_G3_highest (p2 &&& (255 : Int32)) (128 : Int32) (191 : Int32) (0 : Int32)) (own_G3_needed (p2 &&& (255 : Int32)) (128 : Int32) (191 : Int32) (0 : Int32))) (own_G3_highest (p3 &&& (255 : Int32)) (own_G3_lowest (p2 &&& (255 : Int32)) (128 : Int32) (191 : Int32) (0 : Int32)) (own_G3_highest (p2 &&& (255 : Int32)) (128 : Int32) (191 : Int32) (0 : Int32)) (own_G3_needed (p2 &&& (255 : Int32)) (128 : Int32) (191 : Int32) (0 : Int32))) (own_G3_needed (p3 &&& (255 : Int32)) (own_G3_lowest (p2 &&& (255 : Int32)) (128 : Int32) (191 : Int32) (0 : Int32)) (own_G3_highest (p2 &&& (255 : Int32)) (128 : Int32) (191 : Int32) (0 : Int32)) (own_G3_needed (p2 &&& (255 : Int32)) (128 : Int32) (191 : Int32) (0 : Int32)))))]))
  refine own_aload X183 hx (hb hby at_127) rfl rfl (q := 129) rfl ?_
  obtain ⟨cq184, kq184, q184a, q184b, q184c⟩ := isOf hZ e183 Q176_0
  obtain ⟨_, _, ⟨T184, L184, k184, n184⟩, -, X184, ⟨Lc184, hQ184, l184, y184, z184⟩, st184⟩ := X183.virtualBack hx (y := (⟨"com/example/dawdling_reader/dawdlingreader/mqtt/Utf8", "atCharacterEnd", "()Z"⟩ : MethodName)) (z := (⟨"com/example/dawdling_reader/dawdlingreader/mqtt/Utf8", "atCharacterEnd", "()Z"⟩ : MethodName)) hown (mvT hZ (hw _ (List.mem_of_getElem? (i := 25) rfl))) (mvT hZ (hw _ (List.mem_of_getElem? (i := 26) rfl))) (notFace_of_selects (args := #[]) (mvT hZ (hw _ (List.mem_of_getElem? (i := 28) rfl)))) (mvT hZ (hw _ (List.mem_of_getElem? (i := 28) rfl))) (mvT hZ (hw _ (List.mem_of_getElem? (i := 27) rfl))) (by decide) (backOf (W := 1) (own_rm5 l Z a0 hw [] b120 (own_G3_lowest (p3 &&& (255 : Int32)) (own_G3_lowest (p2 &&& (255 : Int32)) (128 : Int32) (191 : Int32) (0 : Int32)) (own_G3_highest (p2 &&& (255 : Int32)) (128 : Int32) (191 : Int32) (0 : Int32)) (own_G3_needed (p2 &&& (255 : Int32)) (128 : Int32) (191 : Int32) (0 : Int32))) (own_G3_highest (p3 &&& (255 : Int32)) (own_G3_lowest (p2 &&& (255 : Int32)) (128 : Int32) (191 : Int32) (0 : Int32)) (own_G3_highest (p2 &&& (255 : Int32)) (128 : Int32) (191 : Int32) (0 : Int32)) (own_G3_needed (p2 &&& (255 : Int32)) (128 : Int32) (191 : Int32) (0 : Int32))) (own_G3_needed (p3 &&& (255 : Int32)) (own_G3_lowest (p2 &&& (255 : Int32)) (128 : Int32) (191 : Int32) (0 : Int32)) (own_G3_highest (p2 &&& (255 : Int32)) (128 : Int32) (191 : Int32) (0 : Int32)) (own_G3_needed (p2 &&& (255 : Int32)) (128 : Int32) (191 : Int32) (0 : Int32))) T176.heap n0 Z182 Q176_0 Q176_1 Q176_2 Q176_3) hZ (hw _ (List.mem_of_getElem? (i := 29) rfl)) (hw _ (List.mem_of_getElem? (i := 2) rfl)) (by decide) (by decide)) q184a q184c (g := (mkF m 129 #[.val (.int p0), .val (.int p1), .val (.int p2), .val (.int p3), .val (.int (p0 &&& (255 : Int32))), .val (.int (p1 &&& (255 : Int32))), .val (.int (p2 &&& (255 : Int32))), .val (.int (p3 &&& (255 : Int32))), .val (.ref b115), .val (.ref b120), .val (.int (own_F5 (128 : Int32) (191 : Int32) (0 : Int32))), .val (.int (1 : Int32)), .val (.int (1 : Int32)), .unset] [(.ref b120), (.int (own_F5 (own_G3_lowest (p3 &&& (255 : Int32)) (own_G3_lowest (p2 &&& (255 : Int32)) (128 : Int32) (191 : Int32) (0 : Int32)) (own_G3_highest (p2 &&& (255 : Int32)) (128 : Int32) (191 : Int32) (0 : Int32)) (own_G3_needed (p2 &&& (255 : Int32)) (128 : Int32) (191 : Int32) (0 : Int32))) (own_G3_highest (p3 &&& (255 : Int32)) (own_G3_lowest (p2 &&& (255 : Int32)) (128 : Int32) (191 : Int32) (0 : Int32)) (own_G3_highest (p2 &&& (255 : Int32)) (128 : Int32) (191 : Int32) (0 : Int32)) (own_G3_needed (p2 &&& (255 : Int32)) (128 : Int32) (191 : Int32) (0 : Int32))) (own_G3_needed (p3 &&& (255 : Int32)) (own_G3_lowest (p2 &&& (255 : Int32)) (128 : Int32) (191 : Int32) (0 : Int32)) (own_G3_highest (p2 &&& (255 : Int32)) (128 : Int32) (191 : Int32) (0 : Int32)) (own_G3_needed (p2 &&& (255 : Int32)) (128 : Int32) (191 : Int32) (0 : Int32)))))])) rfl (by rw [hml]; rfl) (Steps.refl _) (argsL := []) (rest := [(.int (own_F5 (own_G3_lowest (p3 &&& (255 : Int32)) (own_G3_lowest (p2 &&& (255 : Int32)) (128 : Int32) (191 : Int32) (0 : Int32)) (own_G3_highest (p2 &&& (255 : Int32)) (128 : Int32) (191 : Int32) (0 : Int32)) (own_G3_needed (p2 &&& (255 : Int32)) (128 : Int32) (191 : Int32) (0 : Int32))) (own_G3_highest (p3 &&& (255 : Int32)) (own_G3_lowest (p2 &&& (255 : Int32)) (128 : Int32) (191 : Int32) (0 : Int32)) (own_G3_highest (p2 &&& (255 : Int32)) (128 : Int32) (191 : Int32) (0 : Int32)) (own_G3_needed (p2 &&& (255 : Int32)) (128 : Int32) (191 : Int32) (0 : Int32))) (own_G3_needed (p3 &&& (255 : Int32)) (own_G3_lowest (p2 &&& (255 : Int32)) (128 : Int32) (191 : Int32) (0 : Int32)) (own_G3_highest (p2 &&& (255 : Int32)) (128 : Int32) (191 : Int32) (0 : Int32)) (own_G3_needed (p2 &&& (255 : Int32)) (128 : Int32) (191 : Int32) (0 : Int32)))))]) (lenOf own_pd2 rfl) rfl (by show 2 * 0 + _ ≤ _; exact Nat.le_of_eq rfl) (hb hby at_129) (fun _ _ => ⟨rfl, e183, (by decide : 2 + 0 ≤ _), (by decide : 6 + 0 ≤ _)⟩)
  dsimp only [Pt.U, Pt.locs, Pt.cells, Pt.slots] at X184 l184 y184 z184 st184 hQ184
  subst l184 y184 z184
  obtain ⟨rfl, N184q, e184⟩ := hQ184
  have N184 := Fr.app N183 N184q
  refine own_via st184 ?_
  show own_End p e below s _ _ _ (T184.setTop (mkF m 132 #[.val (.int p0), .val (.int p1), .val (.int p2), .val (.int p3), .val (.int (p0 &&& (255 : Int32))), .val (.int (p1 &&& (255 : Int32))), .val (.int (p2 &&& (255 : Int32))), .val (.int (p3 &&& (255 : Int32))), .val (.ref b115), .val (.ref b120), .val (.int (own_F5 (128 : Int32) (191 : Int32) (0 : Int32))), .val (.int (1 : Int32)), .val (.int (1 : Int32)), .unset] [(.int (own_F5 (own_G3_lowest (p3 &&& (255 : Int32)) (own_G3_lowest (p2 &&& (255 : Int32)) (128 : Int32) (191 : Int32) (0 : Int32)) (own_G3_highest (p2 &&& (255 : Int32)) (128 : Int32) (191 : Int32) (0 : Int32)) (own_G3_needed (p2 &&& (255 : Int32)) (128 : Int32) (191 : Int32) (0 : Int32))) (own_G3_highest (p3 &&& (255 : Int32)) (own_G3_lowest (p2 &&& (255 : Int32)) (128 : Int32) (191 : Int32) (0 : Int32)) (own_G3_highest (p2 &&& (255 : Int32)) (128 : Int32) (191 : Int32) (0 : Int32)) (own_G3_needed (p2 &&& (255 : Int32)) (128 : Int32) (191 : Int32) (0 : Int32))) (own_G3_needed (p3 &&& (255 : Int32)) (own_G3_lowest (p2 &&& (255 : Int32)) (128 : Int32) (191 : Int32) (0 : Int32)) (own_G3_highest (p2 &&& (255 : Int32)) (128 : Int32) (191 : Int32) (0 : Int32)) (own_G3_needed (p2 &&& (255 : Int32)) (128 : Int32) (191 : Int32) (0 : Int32))))), (.int (own_F5 (own_G3_lowest (p3 &&& (255 : Int32)) (own_G3_lowest (p2 &&& (255 : Int32)) (128 : Int32) (191 : Int32) (0 : Int32)) (own_G3_highest (p2 &&& (255 : Int32)) (128 : Int32) (191 : Int32) (0 : Int32)) (own_G3_needed (p2 &&& (255 : Int32)) (128 : Int32) (191 : Int32) (0 : Int32))) (own_G3_highest (p3 &&& (255 : Int32)) (own_G3_lowest (p2 &&& (255 : Int32)) (128 : Int32) (191 : Int32) (0 : Int32)) (own_G3_highest (p2 &&& (255 : Int32)) (128 : Int32) (191 : Int32) (0 : Int32)) (own_G3_needed (p2 &&& (255 : Int32)) (128 : Int32) (191 : Int32) (0 : Int32))) (own_G3_needed (p3 &&& (255 : Int32)) (own_G3_lowest (p2 &&& (255 : Int32)) (128 : Int32) (191 : Int32) (0 : Int32)) (own_G3_highest (p2 &&& (255 : Int32)) (128 : Int32) (191 : Int32) (0 : Int32)) (own_G3_needed (p2 &&& (255 : Int32)) (128 : Int32) (191 : Int32) (0 : Int32)))))]))
  refine own_icN X184 hx (hb hby at_132) (teq (rfl : (own_F5 (own_G3_lowest (p3 &&& (255 : Int32)) (own_G3_lowest (p2 &&& (255 : Int32)) (128 : Int32) (191 : Int32) (0 : Int32)) (own_G3_highest (p2 &&& (255 : Int32)) (128 : Int32) (191 : Int32) (0 : Int32)) (own_G3_needed (p2 &&& (255 : Int32)) (128 : Int32) (191 : Int32) (0 : Int32))) (own_G3_highest (p3 &&& (255 : Int32)) (own_G3_lowest (p2 &&& (255 : Int32)) (128 : Int32) (191 : Int32) (0 : Int32)) (own_G3_highest (p2 &&& (255 : Int32)) (128 : Int32) (191 : Int32) (0 : Int32)) (own_G3_needed (p2 &&& (255 : Int32)) (128 : Int32) (191 : Int32) (0 : Int32))) (own_G3_needed (p3 &&& (255 : Int32)) (own_G3_lowest (p2 &&& (255 : Int32)) (128 : Int32) (191 : Int32) (0 : Int32)) (own_G3_highest (p2 &&& (255 : Int32)) (128 : Int32) (191 : Int32) (0 : Int32)) (own_G3_needed (p2 &&& (255 : Int32)) (128 : Int32) (191 : Int32) (0 : Int32)))) = (own_F5 (own_G3_lowest (p3 &&& (255 : Int32)) (own_G3_lowest (p2 &&& (255 : Int32)) (128 : Int32) (191 : Int32) (0 : Int32)) (own_G3_highest (p2 &&& (255 : Int32)) (128 : Int32) (191 : Int32) (0 : Int32)) (own_G3_needed (p2 &&& (255 : Int32)) (128 : Int32) (191 : Int32) (0 : Int32))) (own_G3_highest (p3 &&& (255 : Int32)) (own_G3_lowest (p2 &&& (255 : Int32)) (128 : Int32) (191 : Int32) (0 : Int32)) (own_G3_highest (p2 &&& (255 : Int32)) (128 : Int32) (191 : Int32) (0 : Int32)) (own_G3_needed (p2 &&& (255 : Int32)) (128 : Int32) (191 : Int32) (0 : Int32))) (own_G3_needed (p3 &&& (255 : Int32)) (own_G3_lowest (p2 &&& (255 : Int32)) (128 : Int32) (191 : Int32) (0 : Int32)) (own_G3_highest (p2 &&& (255 : Int32)) (128 : Int32) (191 : Int32) (0 : Int32)) (own_G3_needed (p2 &&& (255 : Int32)) (128 : Int32) (191 : Int32) (0 : Int32)))))).2 (q := 135) rfl ?_
  refine own_iconst X184 hx (hb hby at_135) (z := 1) rfl (q := 136) rfl ?_
  refine own_goto X184 hx (hb hby at_136) (q := 140) (by decide) (by decide) ?_
  refine own_istore X184 hx (hb hby at_140) (l' := #[.val (.int p0), .val (.int p1), .val (.int p2), .val (.int p3), .val (.int (p0 &&& (255 : Int32))), .val (.int (p1 &&& (255 : Int32))), .val (.int (p2 &&& (255 : Int32))), .val (.int (p3 &&& (255 : Int32))), .val (.ref b115), .val (.ref b120), .val (.int (own_F5 (128 : Int32) (191 : Int32) (0 : Int32))), .val (.int (1 : Int32)), .val (.int (1 : Int32)), .val (.int (1 : Int32))]) rfl (q := 142) rfl ?_
  refine own_iload X184 hx (hb hby at_142) rfl (q := 144) rfl ?_
  suffices J188 : own_End p e below s (own_Q0 Z p0 p1 p2 p3 h0 n0) room_1.cells room_1.slots (T184.setTop (mkF m 167 #[.val (.int p0), .val (.int p1), .val (.int p2), .val (.int p3), .val (.int (p0 &&& (255 : Int32))), .val (.int (p1 &&& (255 : Int32))), .val (.int (p2 &&& (255 : Int32))), .val (.int (p3 &&& (255 : Int32))), .val (.ref b115), .val (.ref b120), .val (.int (own_F5 (128 : Int32) (191 : Int32) (0 : Int32))), .val (.int (1 : Int32)), .val (.int (1 : Int32)), .val (.int (1 : Int32))] [(.int own_M0_144)])) by
    by_cases hc144_185 : (own_F5 (128 : Int32) (191 : Int32) (0 : Int32)) = (0 : Int32)
    · refine own_ifY X184 hx (hb hby at_144) (teq hc144_185).1 (q := 166) (by decide) (by decide) ?_
      refine own_iconst X184 hx (hb hby at_166) (z := 0) rfl (q := 167) rfl ?_
      simp only [own_M0_144, if_pos hc144_185] at J188
      exact J188
    · refine own_ifN X184 hx (hb hby at_144) (feq hc144_185).1 (q := 147) rfl ?_
      refine own_iload X184 hx (hb hby at_147) rfl (q := 149) rfl ?_
      refine own_ifN X184 hx (hb hby at_149) (feq (by decide : ¬ ((1 : Int32) = (0 : Int32)))).1 (q := 152) rfl ?_
      refine own_iload X184 hx (hb hby at_152) rfl (q := 154) rfl ?_
      refine own_ifN X184 hx (hb hby at_154) (feq (by decide : ¬ ((1 : Int32) = (0 : Int32)))).1 (q := 157) rfl ?_
      refine own_iload X184 hx (hb hby at_157) rfl (q := 159) rfl ?_
      refine own_ifN X184 hx (hb hby at_159) (feq (by decide : ¬ ((1 : Int32) = (0 : Int32)))).1 (q := 162) rfl ?_
      refine own_iconst X184 hx (hb hby at_162) (z := 1) rfl (q := 163) rfl ?_
      refine own_goto X184 hx (hb hby at_163) (q := 167) (by decide) (by decide) ?_
      simp only [own_M0_144, if_neg hc144_185] at J188
      exact J188
  refine own_retN X184 hx (t := .boolean) (by simp) Bd.returns Bd.notSynchronized (by decide) (by decide) (hb hby at_167) ?_
  show own_Q0 Z p0 p1 p2 p3 h0 n0 _ T184.heap _
  exact ⟨rfl, N184⟩
theorem own_law : (own_M0_144 &&& 1) = 1 := by decide
set_option maxRecDepth 65536 in
set_option maxHeartbeats 40000000 in
theorem comes_1 {Post : Tables → Env → Array Value → State → Outcome → State → Prop} (hpost : ∀ tb e args s v u, (limb_1_1.after args s (.returned v) u = true ∧ limb_1_2.after args s (.returned v) u = true ∧ True) → FrameEnd s (.returned v) u (Jvm.fieldLocs frame_1_writes args s ++ Jvm.arrayLocs frame_1_arrays args s ++ Jvm.staticLocs frame_1_statics s) 16 128 → Post tb e args s (.returned v) u) :
    ArmFor flags0 classFile x code maxLocals ret World_1 tables_1 room_1 Calls_1 rest_1 Pre_1 Post := by
  intro l hfl _ _ p e ha hc hk s m args below hf hA hF happ hP
  obtain ⟨hcalls, hrest, hpre⟩ := hP
  obtain ⟨-, -, -, hnamed, -, -, -, hat⟩ := (Spec.applies_iff hf).mp happ
  obtain ⟨hg, hn⟩ := and_e (Cond.before_iff.mp (show (Jvm.Cond.and given_1 narrow_1).before args s = true from hpre))
  obtain ⟨g190, g191⟩ := and_e hg
  obtain ⟨g192, g193⟩ := and_e g191
  obtain ⟨g194, g195⟩ := and_e g193
  obtain ⟨g196, g197⟩ := and_e g195
  obtain ⟨w0, w1, w2, w3, rfl⟩ : ∃ w0 w1 w2 w3 : Value, args = #[w0, w1, w2, w3] := by
    have hs : args.size = 4 := by simpa [Cond.value, given_1] using g190
    obtain ⟨L⟩ := args
    match L, hs with
    | [w0, w1, w2, w3], _ => exact ⟨w0, w1, w2, w3, rfl⟩
  have hw := fun d (hd : d ∈ tables_1) => atoms_spec (ws := Jvm.Cond.code x code maxLocals ret :: tables_1) hat d (List.mem_cons_of_mem _ hd)
  have hfit : Fit s := fun {y c} hc i hi => by
    obtain ⟨ha, rfl⟩ := Array.getElem?_eq_some_iff.mp hc
    have q := List.all_eq_true.mp ((Array.all_eq_true_iff_forall_mem.mp hF) _ (Array.getElem_mem ha)) i (List.mem_range.mpr hi)
    simpa [Array.getElem?_eq_getElem hi] using q
  obtain ⟨i0, ei0⟩ := is_v g192
  obtain rfl : w0 = (.int i0) := Option.some.inj ei0
  obtain ⟨i1, ei1⟩ := is_v g194
  obtain rfl : w1 = (.int i1) := Option.some.inj ei1
  obtain ⟨i2, ei2⟩ := is_v g196
  obtain rfl : w2 = (.int i2) := Option.some.inj ei2
  obtain ⟨i3, ei3⟩ := is_v g197
  obtain rfl : w3 = (.int i3) := Option.some.inj ei3
  obtain ⟨n, o, h1, h2, h3, _, L, rfl, ⟨hv, N⟩, hq⟩ := own_rm0 l s _ hw tables_1 i0 i1 i2 i3 s.heap s.heap.size (Nat.le_refl _)  p e ha hc hk s m _ below hf ((Spec.applies_iff_loose hf).mp happ).1 ⟨rfl, State.Warmed39.refl s, rfl⟩ trivial
  rw [own_law] at hv
  subst hv
  refine ⟨n, _, h1, h2, h3, hpost _ _ _ _ _ _ ⟨Cond.after_iff.mpr rfl, Cond.after_iff.mpr (eq_i res_at (Term.int_eval (1)) rfl), trivial⟩ ⟨hq.1, hq.2.1, (hq.2.2.sift fun y hy => Or.inr (N y hy)).mono (by decide) (by decide)⟩⟩
theorem main_1_1 : Claimed_1_1 := comes_1 fun _ _ _ _ _ _ h hF => ⟨h.1, hF⟩
theorem main_1_2 : Claimed_1_2 := comes_1 fun _ _ _ _ _ _ h hF => ⟨h.2.1, hF⟩
end Jvm.Pilot.@@N@@
namespace Jvm.Pilot.@@N@@
open Jvm Jvm.ClassFile Sem Op Lib Jvm.Free Jvm.Stand Jvm.Pilot.@@N@@.Jvm.D
/-! MADE BY PROGRAM (witnessworld.py) out of the Statement's table words and the real class files: 9 classes; the members and pool entries that the words name. The judged class is class 1, her method 1. -/
namespace start1
open Jvm.ClassFile
def u (s : String) : CpInfo := .utf8 (stringToUtf16 s)
/-- a pool by its gaps: so many unusable entries, then the entry; so many at the end -/
def gap : Nat → List CpInfo → List CpInfo
  | 0, r => r
  | n + 1, r => .unusable :: gap n r
def poolList (es : List (Nat × CpInfo)) (last : Nat) : List CpInfo := es.foldr (fun e r => gap e.1 (e.2 :: r)) (gap last [])
def pool (es : List (Nat × CpInfo)) (last : Nat) : Array CpInfo := ⟨poolList es last⟩
def fileOf (pool : Array CpInfo) (this : Nat) (attrs : Array Attribute := #[]) (ms : Array MethodInfo := #[]) (fl : Nat := 33) (sup : Nat := 0) (ifs : Array Nat := #[]) (fds : Array FieldInfo := #[]) : ClassFile where
  minorVersion := 0
  majorVersion := 65
  constantPool := pool
  accessFlags := fl
  thisClass := this
  superClass := sup
  interfaces := ifs
  fields := fds
  methods := ms
  attributes := attrs
def plain (name : String) (sup : Option ClassId) : Class where
  name := name
  kind := .ordinary
  loader := none
  accessFlags := 33
  super := sup
  interfaces := #[]
  cf := none
  fields := #[]
  methods := #[]
  instanceTypes := #[]
  staticTypes := #[]
  resolved := #[]
  callSites := []
  init := .initialized
  statics := none
  mirror := none

def pool0 : Array CpInfo := pool [(5, u "<init>"), (0, u "()V"), (1, .class_ 10), (1, u "java/lang/Object")] 113

def k0c0 : Code := { maxStack := 0, maxLocals := 1, code := object_method_1_code, exceptionTable := #[], attributes := #[] }
def k0m0 : Method := { name := "<init>", desc := "()V", sig := { parameters := [], returnType := none }, accessFlags := 1, code := some k0c0 }
/-- java/lang/Object -/
def k0 : Class := { plain "java/lang/Object" none with
  accessFlags := 33
  interfaces := #[]
  cf := some (fileOf pool0 8 #[] #[{ accessFlags := 1, nameIndex := 5, descriptorIndex := 6, attributes := #[] }] 33 0 #[] #[])
  fields := #[]
  methods := #[k0m0]
  instanceTypes := #[]
  staticTypes := #[]
  resolved := Array.replicate 124 none
  statics := none }

def pool1 : Array CpInfo := pool [(2, .class_ 4), (0, .nameAndType 5 6), (0, u "java/lang/Object"), (0, u "<init>"), (0, u "()V"), (0, .class_ 8), (0, u "com/example/dawdling_reader/dawdlingreader/mqtt/Utf8"), (0, .methodref 7 3), (0, .methodref 7 11), (0, .nameAndType 12 13), (0, u "accept"), (0, u "(I)Z"), (0, .methodref 7 15), (0, .nameAndType 16 6), (0, u "reset"), (0, .methodref 7 18), (0, .nameAndType 19 20), (0, u "atCharacterEnd"), (0, u "()Z"), (0, .class_ 22), (0, u "com/example/dawdling_reader/dawdlingreader/mqtt/Utf8ResetPinLaw"), (2, u "law"), (0, u "(IIII)Z")] 3

def k1m0 : Method := { name := "<init>", desc := "()V", sig := { parameters := [], returnType := none }, accessFlags := 1, code := none }
def k1c1 : Code := { maxStack := 3, maxLocals := 14, code := code, exceptionTable := #[], attributes := #[] }
def k1m1 : Method := { name := "law", desc := "(IIII)Z", sig := { parameters := [.int, .int, .int, .int], returnType := some .boolean }, accessFlags := 9, code := some k1c1 }
/-- com/example/dawdling_reader/dawdlingreader/mqtt/Utf8ResetPinLaw -/
def k1 : Class := { plain "com/example/dawdling_reader/dawdlingreader/mqtt/Utf8ResetPinLaw" (some 0) with
  accessFlags := 49
  interfaces := #[]
  cf := some (fileOf pool1 21 #[] #[{ accessFlags := 1, nameIndex := 5, descriptorIndex := 6, attributes := #[] }, { accessFlags := 9, nameIndex := 25, descriptorIndex := 26, attributes := #[] }] 49 2 #[] #[])
  fields := #[]
  methods := #[k1m0, k1m1]
  instanceTypes := #[]
  staticTypes := #[]
  resolved := Array.replicate 30 none
  statics := none }

def pool2 : Array CpInfo := pool [(1, .methodref 2 3), (0, .class_ 4), (0, .nameAndType 5 6), (0, u "java/lang/Object"), (0, u "<init>"), (0, u "()V"), (0, .class_ 8), (0, u "com/example/dawdling_reader/dawdlingreader/mqtt/Utf8"), (0, .fieldref 7 10), (0, .nameAndType 11 12), (0, u "lowest"), (0, u "I"), (0, .fieldref 7 14), (0, .nameAndType 15 12), (0, u "highest"), (0, .fieldref 7 17), (0, .nameAndType 18 12), (0, u "needed"), (0, u "CONTINUATION_LOWEST"), (2, u "CONTINUATION_HIGHEST"), (3, u "accept"), (0, u "(I)Z"), (1, u "atCharacterEnd"), (0, u "()Z"), (0, u "reset")] 2

def k2c0 : Code := { maxStack := 2, maxLocals := 1, code := prog_31_method_1_code, exceptionTable := #[], attributes := #[] }
def k2m0 : Method := { name := "<init>", desc := "()V", sig := { parameters := [], returnType := none }, accessFlags := 0, code := some k2c0 }
def k2c1 : Code := { maxStack := 3, maxLocals := 2, code := prog_31_method_2_code, exceptionTable := #[], attributes := #[] }
def k2m1 : Method := { name := "accept", desc := "(I)Z", sig := { parameters := [.int], returnType := some .boolean }, accessFlags := 0, code := some k2c1 }
def k2c2 : Code := { maxStack := 1, maxLocals := 1, code := prog_31_method_3_code, exceptionTable := #[], attributes := #[] }
def k2m2 : Method := { name := "atCharacterEnd", desc := "()Z", sig := { parameters := [], returnType := some .boolean }, accessFlags := 0, code := some k2c2 }
def k2c3 : Code := { maxStack := 2, maxLocals := 1, code := prog_31_method_4_code, exceptionTable := #[], attributes := #[] }
def k2m3 : Method := { name := "reset", desc := "()V", sig := { parameters := [], returnType := none }, accessFlags := 0, code := some k2c3 }
/-- com/example/dawdling_reader/dawdlingreader/mqtt/Utf8 -/
def k2 : Class := { plain "com/example/dawdling_reader/dawdlingreader/mqtt/Utf8" (some 0) with
  accessFlags := 48
  interfaces := #[]
  cf := some (fileOf pool2 7 #[] #[{ accessFlags := 0, nameIndex := 5, descriptorIndex := 6, attributes := #[] }, { accessFlags := 0, nameIndex := 26, descriptorIndex := 27, attributes := #[] }, { accessFlags := 0, nameIndex := 29, descriptorIndex := 30, attributes := #[] }, { accessFlags := 0, nameIndex := 31, descriptorIndex := 6, attributes := #[] }] 48 2 #[] #[{ accessFlags := 26, nameIndex := 19, descriptorIndex := 12, attributes := #[] }, { accessFlags := 26, nameIndex := 22, descriptorIndex := 12, attributes := #[] }, { accessFlags := 2, nameIndex := 18, descriptorIndex := 12, attributes := #[] }, { accessFlags := 2, nameIndex := 11, descriptorIndex := 12, attributes := #[] }, { accessFlags := 2, nameIndex := 15, descriptorIndex := 12, attributes := #[] }])
  fields := #[{ name := "CONTINUATION_LOWEST", type := .int, accessFlags := 26, slot := 0, constantValue := 0 }, { name := "CONTINUATION_HIGHEST", type := .int, accessFlags := 26, slot := 1, constantValue := 0 }, { name := "needed", type := .int, accessFlags := 2, slot := 0, constantValue := 0 }, { name := "lowest", type := .int, accessFlags := 2, slot := 1, constantValue := 0 }, { name := "highest", type := .int, accessFlags := 2, slot := 2, constantValue := 0 }]
  methods := #[k2m0, k2m1, k2m2, k2m3]
  instanceTypes := #[.int, .int, .int]
  staticTypes := #[.int, .int]
  resolved := Array.replicate 34 none
  statics := none }

def pool3 : Array CpInfo := pool [(1, u "java/lang/Cloneable"), (0, .class_ 1), (0, u "java/lang/Object"), (0, .class_ 3)] 3

/-- java/lang/Cloneable -/
def k3 : Class := { plain "java/lang/Cloneable" (some 0) with
  accessFlags := 1537
  interfaces := #[]
  cf := some (fileOf pool3 2 #[] #[] 1537 4 #[] #[])
  fields := #[]
  methods := #[]
  instanceTypes := #[]
  staticTypes := #[]
  resolved := Array.replicate 8 none
  statics := none }

def pool4 : Array CpInfo := pool [(1, u "java/io/Serializable"), (0, .class_ 1), (0, u "java/lang/Object"), (0, .class_ 3)] 3

/-- java/io/Serializable -/
def k4 : Class := { plain "java/io/Serializable" (some 0) with
  accessFlags := 1537
  interfaces := #[]
  cf := some (fileOf pool4 2 #[] #[] 1537 4 #[] #[])
  fields := #[]
  methods := #[]
  instanceTypes := #[]
  staticTypes := #[]
  resolved := Array.replicate 8 none
  statics := none }

/-- the primitive byte -/
def k5 : Class := { plain "byte" none with kind := .primitive 'B', accessFlags := 0x411 }
/-- [B -/
def k6 : Class := { plain "[B" (some 0) with kind := .array 5 .byte, interfaces := #[3, 4], accessFlags := 1041 }

/-- the primitive int -/
def k7 : Class := { plain "int" none with kind := .primitive 'I', accessFlags := 0x411 }
/-- [I -/
def k8 : Class := { plain "[I" (some 0) with kind := .array 7 .int, interfaces := #[3, 4], accessFlags := 1041 }

def heap : Heap := #[]
def classes : Array Class := #[k0, k1, k2, k3, k4, k5, k6, k7, k8]
def interned : List (Array UInt16 × Addr) := []
def slotsUsed : Nat := 0
def theMethod : MethodId := ⟨1, 1⟩
def args0 : Array Value := #[.int 3, .int 4, .int 5, .int 6]
def aboutOver (below : List Frame) : State where
  vm := { classes := classes, interned := interned.toArray }
  heap := heap
  slotsUsed := slotsUsed
  threads := #[{ frames := .invoking theMethod args0 :: below }]
def below0 : List Frame := [.native { method := ⟨0, 0⟩, args := #[] }]
def about1 : State := aboutOver below0
def p0 : Program := .bare "" "" ""
def e0 : Env := launch0.env 0 0 0
theorem w_frames : about1.frames = Frame.invoking theMethod args0 :: below0 := rfl
set_option maxRecDepth 65536 in
theorem w_args : argsFit about1.vm theMethod args0 = true := by decide +kernel
set_option maxRecDepth 65536 in
theorem w_heap : heapFits about1 = true := by decide +kernel
set_option maxRecDepth 65536 in
theorem w_runnable : about1.curStatus? = some .runnable := by decide +kernel
set_option maxRecDepth 65536 in
theorem w_alone : about1.alone = true := by decide +kernel
set_option maxRecDepth 65536 in
theorem w_named : about1.methodNamed? x = some theMethod := by decide +kernel
set_option maxRecDepth 65536 in
theorem w_hears : about1.hears theMethod below0 = true := by decide +kernel
set_option maxRecDepth 65536 in
theorem w_ripe : about1.ripe theMethod args0 below0 = true := by decide +kernel
theorem w_running : about1.status = .running := rfl
set_option maxRecDepth 65536 in
theorem w_room : about1.hasRoom e0.platform room_1 = true :=
  launch0.hasRoom_least _ room_1 (by decide +kernel) (by decide +kernel) (by decide +kernel) (by decide +kernel) (by decide +kernel) (by decide +kernel)
theorem allAtoms_all (ts : List Jvm.Cond) (a : Array Jvm.Value) (st : Jvm.State) : (allAtoms ts).before a st = ts.all (fun c => c.before a st) := by
  induction ts with
  | nil => rfl
  | cons c t ih =>
    show (Jvm.Cond.and c (allAtoms t)).before a st = _
    rw [Jvm.Cond.before_and, ih, List.all_cons]
def words1 : List Jvm.Cond := Jvm.Cond.code x code maxLocals ret :: tables_1
/-- a 'code' word, met by the world's own term for the bytes: nothing is compared byte by byte -/
theorem code_word {y : MethodName} {bytes : ByteArray} {mx : Nat} {rt : Option FieldType} {a : Array Value} {s : State} {m : MethodId} {meth : Method} {c : Code} (h1 : s.methodNamed? y = some m) (h2 : s.vm.method? m = some meth) (h3 : meth.code = some c) (h4 : c.code = bytes)
    (h5 : (c.maxLocals == mx && c.exceptionTable.isEmpty && decide (c.maxStack ≤ mostOperands) && decide (meth.sig.returnType = rt) && !meth.locks && decide (parseMethodDescriptor y.desc = some meth.sig)) = true) : (Jvm.Cond.code y bytes mx rt).before a s = true := by
  simp only [Bool.and_eq_true, beq_iff_eq, Bool.not_eq_true', decide_eq_true_eq] at h5
  obtain ⟨⟨⟨⟨⟨g1, g2⟩, g3⟩, g4⟩, g5⟩, g6⟩ := h5
  simp [Cond.before, Cond.holds, Cond.value, h1, h2, h3, h4, g1, g2, g3, g4, g5, g6]
def isCode : Jvm.Cond → Bool
  | .code _ _ _ _ => true
  | _ => false
theorem all_split {L : List Jvm.Cond} {P : Jvm.Cond → Bool} (h1 : L.all (fun c => isCode c || P c) = true) (h2 : ∀ c ∈ L.filter isCode, P c = true) : L.all P = true := by
  refine List.all_eq_true.mpr fun c hc => ?_
  have h := List.all_eq_true.mp h1 c hc
  rcases Bool.eq_false_or_eq_true (isCode c) with hi | hi
  · exact h2 c (List.mem_filter.mpr ⟨hc, hi⟩)
  · simpa [hi] using h
set_option maxRecDepth 65536 in
theorem w_c0 : (Jvm.Cond.code x code maxLocals ret).before args0 about1 = true := code_word (m := ⟨1, 1⟩) (meth := k1m1) (c := k1c1) (by decide +kernel) rfl rfl rfl (by decide +kernel)
set_option maxRecDepth 65536 in
theorem w_c1 : (Jvm.Cond.code ({ cls := "com/example/dawdling_reader/dawdlingreader/mqtt/Utf8", name := "<init>", desc := "()V" } : Jvm.MethodName) prog_31_method_1_code (1 : Nat) (Option.none : Option Jvm.ClassFile.FieldType)).before args0 about1 = true := code_word (m := ⟨2, 0⟩) (meth := k2m0) (c := k2c0) (by decide +kernel) rfl rfl rfl (by decide +kernel)
set_option maxRecDepth 65536 in
theorem w_c2 : (Jvm.Cond.code ({ cls := "java/lang/Object", name := "<init>", desc := "()V" } : Jvm.MethodName) object_method_1_code (1 : Nat) (Option.none : Option Jvm.ClassFile.FieldType)).before args0 about1 = true := code_word (m := ⟨0, 0⟩) (meth := k0m0) (c := k0c0) (by decide +kernel) rfl rfl rfl (by decide +kernel)
set_option maxRecDepth 65536 in
theorem w_c3 : (Jvm.Cond.code ({ cls := "com/example/dawdling_reader/dawdlingreader/mqtt/Utf8", name := "accept", desc := "(I)Z" } : Jvm.MethodName) prog_31_method_2_code (2 : Nat) (Option.some Jvm.ClassFile.FieldType.boolean)).before args0 about1 = true := code_word (m := ⟨2, 1⟩) (meth := k2m1) (c := k2c1) (by decide +kernel) rfl rfl rfl (by decide +kernel)
set_option maxRecDepth 65536 in
theorem w_c4 : (Jvm.Cond.code ({ cls := "com/example/dawdling_reader/dawdlingreader/mqtt/Utf8", name := "reset", desc := "()V" } : Jvm.MethodName) prog_31_method_4_code (1 : Nat) (Option.none : Option Jvm.ClassFile.FieldType)).before args0 about1 = true := code_word (m := ⟨2, 3⟩) (meth := k2m3) (c := k2c3) (by decide +kernel) rfl rfl rfl (by decide +kernel)
set_option maxRecDepth 65536 in
theorem w_c5 : (Jvm.Cond.code ({ cls := "com/example/dawdling_reader/dawdlingreader/mqtt/Utf8", name := "atCharacterEnd", desc := "()Z" } : Jvm.MethodName) prog_31_method_3_code (1 : Nat) (Option.some Jvm.ClassFile.FieldType.boolean)).before args0 about1 = true := code_word (m := ⟨2, 2⟩) (meth := k2m2) (c := k2c2) (by decide +kernel) rfl rfl rfl (by decide +kernel)
def codes1 : List Jvm.Cond := [Jvm.Cond.code x code maxLocals ret, Jvm.Cond.code ({ cls := "com/example/dawdling_reader/dawdlingreader/mqtt/Utf8", name := "<init>", desc := "()V" } : Jvm.MethodName) prog_31_method_1_code (1 : Nat) (Option.none : Option Jvm.ClassFile.FieldType), Jvm.Cond.code ({ cls := "java/lang/Object", name := "<init>", desc := "()V" } : Jvm.MethodName) object_method_1_code (1 : Nat) (Option.none : Option Jvm.ClassFile.FieldType), Jvm.Cond.code ({ cls := "com/example/dawdling_reader/dawdlingreader/mqtt/Utf8", name := "accept", desc := "(I)Z" } : Jvm.MethodName) prog_31_method_2_code (2 : Nat) (Option.some Jvm.ClassFile.FieldType.boolean), Jvm.Cond.code ({ cls := "com/example/dawdling_reader/dawdlingreader/mqtt/Utf8", name := "reset", desc := "()V" } : Jvm.MethodName) prog_31_method_4_code (1 : Nat) (Option.none : Option Jvm.ClassFile.FieldType), Jvm.Cond.code ({ cls := "com/example/dawdling_reader/dawdlingreader/mqtt/Utf8", name := "atCharacterEnd", desc := "()Z" } : Jvm.MethodName) prog_31_method_3_code (1 : Nat) (Option.some Jvm.ClassFile.FieldType.boolean)]
set_option maxRecDepth 65536 in
theorem codes_eq : words1.filter isCode = codes1 := rfl
theorem w_codes : ∀ c ∈ words1.filter isCode, c.before args0 about1 = true := by
  rw [codes_eq]
  intro c hc
  simp only [codes1, List.mem_cons, List.not_mem_nil, or_false] at hc
  rcases hc with rfl | rfl | rfl | rfl | rfl | rfl
  · exact w_c0
  · exact w_c1
  · exact w_c2
  · exact w_c3
  · exact w_c4
  · exact w_c5
set_option maxRecDepth 65536 in
theorem w_t1 : (words1.take 24).all (fun c => isCode c || c.before args0 about1) = true := by decide +kernel
set_option maxRecDepth 65536 in
theorem w_t2 : (words1.drop 24).all (fun c => isCode c || c.before args0 about1) = true := by decide +kernel
theorem w_tables : (allAtoms (Jvm.Cond.code x code maxLocals ret :: tables_1)).before args0 about1 = true := by
  rw [allAtoms_all]
  show words1.all (fun c => c.before args0 about1) = true
  refine all_split ?_ w_codes
  rw [← List.take_append_drop 24 words1, List.all_append, w_t1, w_t2]
  rfl
set_option maxRecDepth 65536 in
theorem w_case : (Jvm.Cond.and given_1 narrow_1).before args0 about1 = true := by decide +kernel
theorem w_applies : (headSpec (Jvm.Cond.code x code maxLocals ret :: tables_1) room_1).applies x e0.platform about1 = true :=
  (Spec.applies_iff w_frames).mpr ⟨w_running, w_runnable, w_alone, w_named, w_hears, w_ripe, w_room, w_tables⟩
theorem atStart : AtStart classFile x code maxLocals ret World_1 tables_1 room_1 Calls_1 rest_1 Pre_1 launch0 p0 e0 about1 theMethod args0 below0 :=
  ⟨lists_1, trivial, launch0.admits_env _ _ _, launch0.least_env, fairChoices_fair.cas, fairChoices_fair.clock, w_frames, w_args, w_heap, w_applies, trivial, trivial, w_case⟩
end start1
theorem witness_1 : WitnessClaimed_1 := ⟨start1.p0, start1.e0, start1.about1, start1.theMethod, start1.args0, start1.below0, start1.atStart⟩
end Jvm.Pilot.@@N@@
