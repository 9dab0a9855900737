import JvmDerived
import JvmDerived.Pilot.@@N@@Statement
import JvmDerived.Pilot.@@N@@Code
set_option linter.unusedVariables false
set_option linter.unusedSimpArgs false
@@BLOCK:NumsL.lean.txt@@
namespace Jvm.Pilot.@@N@@
open Jvm Jvm.ClassFile Sem Op Lib Jvm.Free Jvm.Stand Jvm.LawKit Jvm.RoadKit Bundle Jvm.Pilot.@@N@@.Jvm.D
section OwnKit
variable {p : Program} {l : Launch} {e : Env} {R : Room} {s : State} {m : MethodId} {args : Array Value} {below : List Frame} {meth : Method} {c : Code} {T T' : State} {locs : List Loc} {cells slots : Nat}
/-- from here the body comes to its end and leaves what Q says -/
def own_W (p : Program) (e : Env) (below : List Frame) (s : State) (k n : Nat) (Q : Option Value → Heap → List Loc → Prop) (T : State) (f : JFrame) : Prop :=
  ∃ s₂ o, Steps p.tables e below (T.setTop f) s₂ ∧ s₂.status = .running ∧ Ended s₂ below o ∧ ∃ v L, o = .returned v ∧ Q v s₂.heap L ∧ FrameEnd s o s₂ L k n
theorem own_st {k n : Nat} {Q : Option Value → Heap → List Loc → Prop} {f f' : JFrame} (w : own_W p e below s k n Q T' f') (h : ∀ t, Steps p.tables e below (T'.setTop f') t → Steps p.tables e below (T.setTop f) t) : own_W p e below s k n Q T f := by
  obtain ⟨s₂, o, h1, r⟩ := w
  exact ⟨s₂, o, h _ h1, r⟩
theorem own_to {k n : Nat} {Q : Option Value → Heap → List Loc → Prop} {f f' : JFrame} (q : f = f') (w : own_W p e below s k n Q T f') : own_W p e below s k n Q T f := q ▸ w
theorem own_ite {k n : Nat} {α : Type} {G : α → Option Value → Heap → List Loc → Prop} {f : JFrame} {A : Prop} [Decidable A] {x y : α} (h1 : A → own_W p e below s k n (G x) T f) (h2 : ¬ A → own_W p e below s k n (G y) T f) : own_W p e below s k n (G (if A then x else y)) T f := by
  by_cases q : A
  · rw [if_pos q]; exact h1 q
  · rw [if_neg q]; exact h2 q
/-- an int is returned, nothing old is written, the heap is as P says -/
def own_GI (n0 : Nat) (P : Heap → Prop) (r : Int32) (v : Option Value) (h : Heap) (L : List Loc) : Prop := v = some (.int r) ∧ Fr n0 L ∧ P h
def own_GJ (n0 : Nat) (P : Heap → Prop) (r : Int64) (v : Option Value) (h : Heap) (L : List Loc) : Prop := v = some (.long r) ∧ Fr n0 L ∧ P h
theorem own_retI {k n : Nat} {Q : Option Value → Heap → List Loc → Prop} (X : Stand p l e R s m args below meth c T locs cells slots) (hx : p.tables.exec = Jvm.exec) (hlk : meth.locks = false) (hret : meth.sig.returnType = some .int) {pc : Nat} {Ls : Array Slot} {z : Int32} {rest : List Value} (hd : decode c.code pc = .ok (.ireturn, 1)) (hk : cells ≤ k) (hn : slots ≤ n) (q : Q (some (.int z)) T.heap locs) : own_W p e below s k n Q T (mkF m pc Ls (.int z :: rest)) := by
  obtain ⟨fs, hr, hrun, hended, hW, hsame⟩ := X.leave (v := some (.int z)) (fun h => by rw [hret] at h; cases h) hlk
  exact ⟨_, _, retOut X hx hret rfl (Or.inl ⟨rfl, Or.inl rfl, z, rfl⟩) hd hr, hrun, hended, _, _, rfl, q, ⟨_, rfl⟩, hW, hsame.mono hk hn⟩
theorem own_retN {k n : Nat} {Q : Option Value → Heap → List Loc → Prop} (X : Stand p l e R s m args below meth c T locs cells slots) (hx : p.tables.exec = Jvm.exec) (hlk : meth.locks = false) {t : FieldType} (hret : meth.sig.returnType = some t) (ht : t = .boolean ∨ t = .byte ∨ t = .char ∨ t = .short) {pc : Nat} {Ls : Array Slot} {z : Int32} {rest : List Value} (hd : decode c.code pc = .ok (.ireturn, 1)) (hk : cells ≤ k) (hn : slots ≤ n) (q : Q (some (.int (nar t z))) T.heap locs) : own_W p e below s k n Q T (mkF m pc Ls (.int z :: rest)) := by
  obtain ⟨fs, hr, hrun, hended, hW, hsame⟩ := X.leave (v := some (.int (nar t z))) (fun h => by rw [hret] at h; cases h) hlk
  exact ⟨_, _, retN X hx hret ht hd hr, hrun, hended, _, _, rfl, q, ⟨_, rfl⟩, hW, hsame.mono hk hn⟩
theorem own_retJ {k n : Nat} {Q : Option Value → Heap → List Loc → Prop} (X : Stand p l e R s m args below meth c T locs cells slots) (hx : p.tables.exec = Jvm.exec) (hlk : meth.locks = false) (hret : meth.sig.returnType = some .long) {pc : Nat} {Ls : Array Slot} {z : Int64} {rest : List Value} (hd : decode c.code pc = .ok (.lreturn, 1)) (hk : cells ≤ k) (hn : slots ≤ n) (q : Q (some (.long z)) T.heap locs) : own_W p e below s k n Q T (mkF m pc Ls (.long z :: rest)) := by
  obtain ⟨fs, hr, hrun, hended, hW, hsame⟩ := X.leave (v := some (.long z)) (fun h => by rw [hret] at h; cases h) hlk
  exact ⟨_, _, retOut X hx hret rfl (Or.inr (Or.inl ⟨rfl, rfl, z, rfl⟩)) hd hr, hrun, hended, _, _, rfl, q, ⟨_, rfl⟩, hW, hsame.mono hk hn⟩
theorem own_retA {k n : Nat} {Q : Option Value → Heap → List Loc → Prop} (X : Stand p l e R s m args below meth c T locs cells slots) (hx : p.tables.exec = Jvm.exec) (hlk : meth.locks = false) {t : FieldType} (hret : meth.sig.returnType = some t) (ht : t.isReference = true) {pc : Nat} {Ls : Array Slot} {z : Addr} {rest : List Value} (hn' : narrow t (.ref z) = .ref z) (hd : decode c.code pc = .ok (.areturn, 1)) (hk : cells ≤ k) (hn : slots ≤ n) (q : Q (some (.ref z)) T.heap locs) : own_W p e below s k n Q T (mkF m pc Ls (.ref z :: rest)) := by
  obtain ⟨fs, hr, hrun, hended, hW, hsame⟩ := X.leave (v := some (.ref z)) (fun h => by rw [hret] at h; cases h) hlk
  exact ⟨_, _, retOut X hx hret hn' (Or.inr (Or.inr (Or.inr (Or.inr ⟨rfl, ht, rfl⟩)))) hd hr, hrun, hended, _, _, rfl, q, ⟨_, rfl⟩, hW, hsame.mono hk hn⟩
theorem own_retV {k n : Nat} {Q : Option Value → Heap → List Loc → Prop} (X : Stand p l e R s m args below meth c T locs cells slots) (hx : p.tables.exec = Jvm.exec) (hlk : meth.locks = false) (hret : meth.sig.returnType = none) {pc : Nat} {Ls : Array Slot} (hd : decode c.code pc = .ok (.return_, 1)) (hk : cells ≤ k) (hn : slots ≤ n) (q : Q none T.heap locs) : own_W p e below s k n Q T (mkF m pc Ls []) := by
  obtain ⟨fs, hr, hrun, hended, hW, hsame⟩ := X.leave (v := none) (fun _ => rfl) hlk
  exact ⟨_, _, X.returnOut hx hret hd hr, hrun, hended, _, _, rfl, q, ⟨_, rfl⟩, hW, hsame.mono hk hn⟩
end OwnKit
section OwnNums
theorem own_rem {x y : Int32} (hx : 0 ≤ x.toInt) (hy : 0 < y.toInt) : (x - (x / y) * y).toInt = x.toInt % y.toInt := by
  have hd : (x / y).toInt = x.toInt.tdiv y.toInt := Jvm.Kit.i32_div (by omega)
  rw [Int.tdiv_eq_ediv_of_nonneg hx] at hd
  have hxl := Int32.toInt_lt x
  have h1 : y.toInt * (x.toInt / y.toInt) + x.toInt % y.toInt = x.toInt := Int.mul_ediv_add_emod x.toInt y.toInt
  have h2 := Int.emod_nonneg x.toInt (by omega : y.toInt ≠ 0)
  have h3 := Int.emod_lt_of_pos x.toInt hy
  have h4 : (x / y).toInt * y.toInt = x.toInt - x.toInt % y.toInt := by rw [hd, Int.mul_comm]; omega
  have h6 := Int.mul_nonneg (Int.le_of_lt hy) (Int.ediv_nonneg hx (Int.le_of_lt hy))
  have h5 : x.toInt % y.toInt ≤ x.toInt := by omega
  have hm : ((x / y) * y).toInt = x.toInt - x.toInt % y.toInt := by
    rw [Jvm.Kit.i32_mul (by omega) (by omega), h4]
  rw [Jvm.Kit.i32_sub (by omega) (by omega), hm]; omega
theorem own_and31 (x : Int32) : (x &&& (2147483647 : Int32)).toInt = x.toInt % 2147483648 := Jvm.Kit.i32_mask x 2147483647 (k := 31) (by decide) (by decide)
theorem own_i8 (x : Int32) : -128 ≤ (x.toInt8.toInt32).toInt ∧ (x.toInt8.toInt32).toInt < 128 := by
  rw [Int8.toInt_toInt32]
  have h1 := Int8.le_toInt x.toInt8
  have h2 := Int8.toInt_lt x.toInt8
  omega
end OwnNums
section OwnCT
variable {p : Program} {l : Launch} {e : Env} {R : Room} {s : State} {m : MethodId} {args : Array Value} {below : List Frame} {meth : Method} {c : Code} {T T' : State} {locs : List Loc} {cells slots : Nat} {Z : State} {h h' : Heap} {a b : Addr} {t : Int64 × Int64 × Int64} {a0 : Array Value}
abbrev own_CT : String := "com/example/tollerance/tollerance/CallTally"
/-- a tally that holds the three longs -/
def own_T (Z : State) (h : Heap) (a : Addr) (t : Int64 × Int64 × Int64) : Prop := Exa Z h a "com/example/tollerance/tollerance/CallTally" ∧ Fld Z h a "com/example/tollerance/tollerance/CallTally" "calls" "J" (.long t.1) ∧ Fld Z h a "com/example/tollerance/tollerance/CallTally" "seconds" "J" (.long t.2.1) ∧ Fld Z h a "com/example/tollerance/tollerance/CallTally" "ipSeconds" "J" (.long t.2.2)
theorem own_T.lt (A : own_T Z h a t) : a < h.size := A.1.lt
theorem own_T.eq (A : own_T Z h a t) (q : h' = h) : own_T Z h' a t := q ▸ A
theorem own_T.ext (A : own_T Z h a t) (E : Ext h h') : own_T Z h' a t := ⟨A.1.ext E, A.2.1.ext E, A.2.2.1.ext E, A.2.2.2.ext E⟩
theorem own_T.keep {ws : List Addr} (A : own_T Z h a t) (K : Keep h h' ws) (q : a ∉ ws) : own_T Z h' a t := ⟨A.1.keep K, A.2.1.keep K q, A.2.2.1.keep K q, A.2.2.2.keep K q⟩
def own_GT (n0 : Nat) (Z : State) (a : Addr) (h0 : Heap) (t : Int64 × Int64 × Int64) (v : Option Value) (h : Heap) (L : List Loc) : Prop := v = none ∧ Fr n0 L ∧ Keep h0 h [a] ∧ own_T Z h a t
def own_GN (n0 : Nat) (h0 : Heap) (v : Option Value) (h : Heap) (L : List Loc) : Prop := v = none ∧ Fr n0 L ∧ h = h0
theorem own_newT {k n' : Nat} {Q : Option Value → Heap → List Loc → Prop} {own : String} {index : Nat} (X : Stand p l e R s m args below meth c T locs cells slots) (hx : p.tables.exec = Jvm.exec) (hZ : Z.Warmed39 s.vm) (hown : s.vm.findClass own = some m.cls) (w1 : (Jvm.Cond.classLink own index "com/example/tollerance/tollerance/CallTally").before a0 Z = true) (w2 : (Jvm.Cond.instantiable "com/example/tollerance/tollerance/CallTally" 3).before a0 Z = true) (w3 : (Jvm.Cond.initialized "com/example/tollerance/tollerance/CallTally").before a0 Z = true)
    (l1 : (Jvm.Cond.lays "com/example/tollerance/tollerance/CallTally" "com/example/tollerance/tollerance/CallTally" "calls" "J").before a0 Z = true) (l2 : (Jvm.Cond.lays "com/example/tollerance/tollerance/CallTally" "com/example/tollerance/tollerance/CallTally" "seconds" "J").before a0 Z = true) (l3 : (Jvm.Cond.lays "com/example/tollerance/tollerance/CallTally" "com/example/tollerance/tollerance/CallTally" "ipSeconds" "J").before a0 Z = true)
    (hc : cells + 1 ≤ R.cells) (hl : slots + 3 ≤ R.slots) {pc : Nat} {Ls : Array Slot} {rest : List Value} (hd : decode c.code pc = .ok (.new index, 3))
    (w : ∀ (T' : State) (b : Addr), Stand p l e R s m args below meth c T' locs (cells + 1) (slots + 3) → T.heap.size ≤ b → Ext T.heap T'.heap → own_T Z T'.heap b (0, 0, 0) → own_W p e below s k n' Q T' (mkF m (pc + 3) Ls (.ref b :: rest))) : own_W p e below s k n' Q T (mkF m pc Ls rest) := by
  obtain ⟨T', h', X', e', E', A', D', -, st⟩ := newO X hx hZ hown w1 w2 w3 rfl (g := mkF m pc Ls rest) rfl hd hc hl
  subst e'
  exact own_st (w T' _ X' (Nat.le_refl _) E' ⟨A', D' (Or.inl l1) (ty := .long) (by decide), D' (Or.inl l2) (ty := .long) (by decide), D' (Or.inl l3) (ty := .long) (by decide)⟩) (fun t q => st _ q)
theorem own_getT {k n' : Nat} {Q : Option Value → Heap → List Loc → Prop} {f : String} {v : Value} {index : Nat} (X : Stand p l e R s m args below meth c T locs cells slots) (hx : p.tables.exec = Jvm.exec) (hZ : Z.Warmed39 s.vm) (hown : s.vm.findClass "com/example/tollerance/tollerance/CallTally" = some m.cls) (w1 : (Jvm.Cond.fieldLink "com/example/tollerance/tollerance/CallTally" index "com/example/tollerance/tollerance/CallTally" f "J").before a0 Z = true) (F : Fld Z T.heap a "com/example/tollerance/tollerance/CallTally" f "J" v) {pc : Nat} {Ls : Array Slot} {rest : List Value} (hd : decode c.code pc = .ok (.getfield index, 3))
    (w : ∀ (T' : State), Stand p l e R s m args below meth c T' locs cells slots → T'.heap = T.heap → own_W p e below s k n' Q T' (mkF m (pc + 3) Ls (v :: rest))) : own_W p e below s k n' Q T (mkF m pc Ls (.ref a :: rest)) := by
  obtain ⟨T', X', e', st⟩ := getF X hx hZ hown (host := "") (Or.inl w1) Via.refl rfl F (g := mkF m pc Ls (.ref a :: rest)) rfl rfl hd
  exact own_st (w T' X' e') (fun t q => st _ q)
theorem own_putT {k n' : Nat} {Q : Option Value → Heap → List Loc → Prop} {f : String} {x : Int64} {old : Value} {index : Nat} (X : Stand p l e R s m args below meth c T locs cells slots) (hx : p.tables.exec = Jvm.exec) (hZ : Z.Warmed39 s.vm) (hown : s.vm.findClass "com/example/tollerance/tollerance/CallTally" = some m.cls) (w1 : (Jvm.Cond.fieldLink "com/example/tollerance/tollerance/CallTally" index "com/example/tollerance/tollerance/CallTally" f "J").before a0 Z = true) (w2 : (Jvm.Cond.instantiable "com/example/tollerance/tollerance/CallTally" 3).before a0 Z = true) (w3 : (Jvm.Cond.lays "com/example/tollerance/tollerance/CallTally" "com/example/tollerance/tollerance/CallTally" f "J").before a0 Z = true)
    (F : Fld Z T.heap a "com/example/tollerance/tollerance/CallTally" f "J" old) (E : Exa Z T.heap a "com/example/tollerance/tollerance/CallTally") {pc : Nat} {Ls : Array Slot} {rest : List Value} (hd : decode c.code pc = .ok (.putfield index, 3)) {n0 : Nat} (N : Fr n0 locs) (g : n0 ≤ a)
    (w : ∀ (T' : State) (locs' : List Loc), Stand p l e R s m args below meth c T' locs' cells slots → Fr n0 locs' → Wr T.heap T'.heap a (Jvm.RoadKit.slotOf Z "com/example/tollerance/tollerance/CallTally" f "J") (.long x) → own_W p e below s k n' Q T' (mkF m (pc + 3) Ls rest)) : own_W p e below s k n' Q T (mkF m pc Ls (.long x :: .ref a :: rest)) := by
  obtain ⟨T', h', X', e', W', st⟩ := putF X hx hZ hown (host := "") (Or.inl w1) Via.refl rfl F E (Or.inl w3) w2 (ty := .long) (by decide) rfl rfl (g := mkF m pc Ls (.long x :: .ref a :: rest)) rfl rfl hd
  subst e'
  exact own_st (w T' _ X' (Fr.snoc X' N g) W') (fun t q => st _ q)
theorem own_T.w1 {x : Int64} (l1 : (Jvm.Cond.lays "com/example/tollerance/tollerance/CallTally" "com/example/tollerance/tollerance/CallTally" "calls" "J").before a0 Z = true) (l2 : (Jvm.Cond.lays "com/example/tollerance/tollerance/CallTally" "com/example/tollerance/tollerance/CallTally" "seconds" "J").before a0 Z = true) (l3 : (Jvm.Cond.lays "com/example/tollerance/tollerance/CallTally" "com/example/tollerance/tollerance/CallTally" "ipSeconds" "J").before a0 Z = true)
    (A : own_T Z h a t) (W : Wr h h' a (Jvm.RoadKit.slotOf Z "com/example/tollerance/tollerance/CallTally" "calls" "J") (.long x)) : own_T Z h' a (x, t.2.1, t.2.2) :=
  ⟨A.1.wr W, A.2.1.same W, A.2.2.1.other W (Or.inr (slot_ne (Or.inl l2) (Or.inl l1) (by decide) (t := .long) (t' := .long) (by decide) (by decide))), A.2.2.2.other W (Or.inr (slot_ne (Or.inl l3) (Or.inl l1) (by decide) (t := .long) (t' := .long) (by decide) (by decide)))⟩
theorem own_T.w2 {x : Int64} (l1 : (Jvm.Cond.lays "com/example/tollerance/tollerance/CallTally" "com/example/tollerance/tollerance/CallTally" "calls" "J").before a0 Z = true) (l2 : (Jvm.Cond.lays "com/example/tollerance/tollerance/CallTally" "com/example/tollerance/tollerance/CallTally" "seconds" "J").before a0 Z = true) (l3 : (Jvm.Cond.lays "com/example/tollerance/tollerance/CallTally" "com/example/tollerance/tollerance/CallTally" "ipSeconds" "J").before a0 Z = true)
    (A : own_T Z h a t) (W : Wr h h' a (Jvm.RoadKit.slotOf Z "com/example/tollerance/tollerance/CallTally" "seconds" "J") (.long x)) : own_T Z h' a (t.1, x, t.2.2) :=
  ⟨A.1.wr W, A.2.1.other W (Or.inr (slot_ne (Or.inl l1) (Or.inl l2) (by decide) (t := .long) (t' := .long) (by decide) (by decide))), A.2.2.1.same W, A.2.2.2.other W (Or.inr (slot_ne (Or.inl l3) (Or.inl l2) (by decide) (t := .long) (t' := .long) (by decide) (by decide)))⟩
theorem own_T.w3 {x : Int64} (l1 : (Jvm.Cond.lays "com/example/tollerance/tollerance/CallTally" "com/example/tollerance/tollerance/CallTally" "calls" "J").before a0 Z = true) (l2 : (Jvm.Cond.lays "com/example/tollerance/tollerance/CallTally" "com/example/tollerance/tollerance/CallTally" "seconds" "J").before a0 Z = true) (l3 : (Jvm.Cond.lays "com/example/tollerance/tollerance/CallTally" "com/example/tollerance/tollerance/CallTally" "ipSeconds" "J").before a0 Z = true)
    (A : own_T Z h a t) (W : Wr h h' a (Jvm.RoadKit.slotOf Z "com/example/tollerance/tollerance/CallTally" "ipSeconds" "J") (.long x)) : own_T Z h' a (t.1, t.2.1, x) :=
  ⟨A.1.wr W, A.2.1.other W (Or.inr (slot_ne (Or.inl l1) (Or.inl l3) (by decide) (t := .long) (t' := .long) (by decide) (by decide))), A.2.2.1.other W (Or.inr (slot_ne (Or.inl l2) (Or.inl l3) (by decide) (t := .long) (t' := .long) (by decide) (by decide))), A.2.2.2.same W⟩
end OwnCT

theorem own_keq {h h1 h2 : Heap} {ws : List Addr} (K : Keep h h1 ws) (q : h2 = h1) : Keep h h2 ws := q ▸ K
theorem d1_0 : decode prog_8_method_1_code 0 = .ok (.aload_n 0, 1) := by decide +kernel
theorem d1_1 : decode prog_8_method_1_code 1 = .ok (.invokespecial 1, 3) := by decide +kernel
theorem d1_4 : decode prog_8_method_1_code 4 = .ok (.return_, 1) := by decide +kernel
theorem pn_1 : plainFor (⟨"com/example/tollerance/tollerance/CallTally", "<init>", "()V"⟩ : MethodName) = true := by first | exact plainFor_of_name (by first | (simp [plainName, overriddenIn]; done) | decide +kernel) | decide +kernel
theorem ef_1 (m : MethodId) (o0 : Addr) : entryFrame m #[(.ref o0)] 1 = mkF m 0 #[.val (.ref o0)] [] := by first | (simp [entryFrame, mkF, argsToLocals, Value.category, maxLocals]; done) | rfl
set_option maxRecDepth 65536 in
set_option maxHeartbeats 40000000 in
theorem rm1 (l : Launch) (Z : State) (a0 : Array Value) (hw : ∀ d ∈ tables_1, d.before a0 Z = true) (ws : List Jvm.Cond) (o0 : Addr) (t : Int64 × Int64 × Int64) (h0 : Heap) (n0 : Nat) (Z0 : n0 ≤ h0.size) (A : own_T Z h0 o0 t) :
    MetFree l (⟨"com/example/tollerance/tollerance/CallTally", "<init>", "()V"⟩ : MethodName) (head1 (Jvm.Cond.code (⟨"com/example/tollerance/tollerance/CallTally", "<init>", "()V"⟩ : MethodName) prog_8_method_1_code 1 none :: ws) ({ frames := 1, cells := 0, slots := 0, locals := 12 } : Room)) (fun a U => a = #[(.ref o0)] ∧ Z.Warmed39 U.vm ∧ U.heap = h0) (fun _ _ _ _ _ => True) (fun _ U o U' => ∃ v L, o = .returned v ∧ (own_GN n0 h0) v U'.heap L ∧ FrameEnd U o U' L ({ frames := 1, cells := 0, slots := 0, locals := 12 } : Room).cells ({ frames := 1, cells := 0, slots := 0, locals := 12 } : Room).slots) := by
  refine MetFree.of_bodySF pn_1 hisR ?_
  intro p e s m args below meth c s₁ Bd hml0 hP hK
  obtain ⟨rfl, hZ, hh⟩ := hP
  have hx := Bd.exec
  have hby := Bd.bytes
  have hml : c.maxLocals = 1 := hml0
  have hown : s.vm.findClass "com/example/tollerance/tollerance/CallTally" = some m.cls := findClass_of_methodNamed Bd.named
  have hlk : meth.locks = false := BodyLoose.notSynchronized Bd
  have X0 : Stand p l e ({ frames := 1, cells := 0, slots := 0, locals := 12 } : Room) s m #[(.ref o0)] below meth c s₁ [] 0 0 := Stand.of_body Bd
  have e0 : s₁.heap = h0 := by rw [← hh, Bd.state]; rfl
  have N0 := Fr.nil n0
  show own_W p e below s 0 0 (own_GN n0 h0) s₁ (entryFrame m #[(.ref o0)] 1)
  refine own_to (ef_1 m o0) ?_
  obtain ⟨T1, X1, e1, st1⟩ := initO X0 hx hZ hown (hw _ (List.mem_of_getElem? (i := 6) rfl)) (hw _ (List.mem_of_getElem? (i := 7) rfl)) (hw _ (List.mem_of_getElem? (i := 8) rfl)) e0 (g := (mkF m 1 #[.val (.ref o0)] [(.ref o0)])) rfl (by rw [hml]; rfl) rfl (hb hby d1_1) (by decide) (W := 0) (by show 2 * 0 + _ ≤ _; exact Nat.le_of_eq rfl) (by decide)
  refine own_st (T' := s₁) (f' := (mkF m 1 #[.val (.ref o0)] [(.ref o0)])) ?_ (fun t q => XS.aloadN X0.here hx rfl (hb hby d1_0) rfl rfl q)
  refine own_st (T' := T1) (f' := (mkF m 4 #[.val (.ref o0)] [])) ?_ (fun t q => st1 _ q)
  exact own_retV X1 hx hlk Bd.returns (hb hby d1_4) (by decide) (by decide) ⟨rfl, N0, e1⟩
theorem d3_0 : decode prog_8_method_2_code 0 = .ok (.aload_n 0, 1) := by decide +kernel
theorem d3_1 : decode prog_8_method_2_code 1 = .ok (.dup, 1) := by decide +kernel
theorem d3_2 : decode prog_8_method_2_code 2 = .ok (.getfield 7, 3) := by decide +kernel
theorem d3_5 : decode prog_8_method_2_code 5 = .ok (.lconst 1, 1) := by decide +kernel
theorem d3_6 : decode prog_8_method_2_code 6 = .ok (.ladd, 1) := by decide +kernel
theorem d3_7 : decode prog_8_method_2_code 7 = .ok (.putfield 7, 3) := by decide +kernel
theorem d3_10 : decode prog_8_method_2_code 10 = .ok (.aload_n 0, 1) := by decide +kernel
theorem d3_11 : decode prog_8_method_2_code 11 = .ok (.dup, 1) := by decide +kernel
theorem d3_12 : decode prog_8_method_2_code 12 = .ok (.getfield 13, 3) := by decide +kernel
theorem d3_15 : decode prog_8_method_2_code 15 = .ok (.lload_n 1, 1) := by decide +kernel
theorem d3_16 : decode prog_8_method_2_code 16 = .ok (.ladd, 1) := by decide +kernel
theorem d3_17 : decode prog_8_method_2_code 17 = .ok (.putfield 13, 3) := by decide +kernel
theorem d3_20 : decode prog_8_method_2_code 20 = .ok (.iload_n 3, 1) := by decide +kernel
theorem d3_21 : decode prog_8_method_2_code 21 = .ok (.ifCond .eq 13, 3) := by decide +kernel
theorem d3_24 : decode prog_8_method_2_code 24 = .ok (.aload_n 0, 1) := by decide +kernel
theorem d3_25 : decode prog_8_method_2_code 25 = .ok (.dup, 1) := by decide +kernel
theorem d3_26 : decode prog_8_method_2_code 26 = .ok (.getfield 16, 3) := by decide +kernel
theorem d3_29 : decode prog_8_method_2_code 29 = .ok (.lload_n 1, 1) := by decide +kernel
theorem d3_30 : decode prog_8_method_2_code 30 = .ok (.ladd, 1) := by decide +kernel
theorem d3_31 : decode prog_8_method_2_code 31 = .ok (.putfield 16, 3) := by decide +kernel
theorem d3_34 : decode prog_8_method_2_code 34 = .ok (.return_, 1) := by decide +kernel
theorem pn_3 : plainFor (⟨"com/example/tollerance/tollerance/CallTally", "add", "(JZ)V"⟩ : MethodName) = true := by first | exact plainFor_of_name (by first | (simp [plainName, overriddenIn]; done) | decide +kernel) | decide +kernel
theorem ef_3 (m : MethodId) (o0 : Addr) (w1 : Int64) (p2 : Int32) : entryFrame m #[(.ref o0), (.long w1), (.int p2)] 4 = mkF m 0 #[.val (.ref o0), .val (.long w1), .second, .val (.int p2)] [] := by first | (simp [entryFrame, mkF, argsToLocals, Value.category, maxLocals]; done) | rfl
def f3 (w1 : Int64) (p2 : Int32) (t : Int64 × Int64 × Int64) : Int64 × Int64 × Int64 := (if p2 = (0 : Int32) then (t.1 + 1, t.2.1 + w1, t.2.2) else (t.1 + 1, t.2.1 + w1, t.2.2 + w1))
set_option maxRecDepth 65536 in
set_option maxHeartbeats 40000000 in
theorem rm3 (l : Launch) (Z : State) (a0 : Array Value) (hw : ∀ d ∈ tables_1, d.before a0 Z = true) (ws : List Jvm.Cond) (o0 : Addr) (w1 : Int64) (p2 : Int32) (t : Int64 × Int64 × Int64) (h0 : Heap) (n0 : Nat) (Z0 : n0 ≤ h0.size) (A : own_T Z h0 o0 t) (G : n0 ≤ o0) :
    MetFree l (⟨"com/example/tollerance/tollerance/CallTally", "add", "(JZ)V"⟩ : MethodName) (head1 (Jvm.Cond.code (⟨"com/example/tollerance/tollerance/CallTally", "add", "(JZ)V"⟩ : MethodName) prog_8_method_2_code 4 none :: ws) ({ frames := 0, cells := 0, slots := 0, locals := 0 } : Room)) (fun a U => a = #[(.ref o0), (.long w1), (.int p2)] ∧ Z.Warmed39 U.vm ∧ U.heap = h0) (fun _ _ _ _ _ => True) (fun _ U o U' => ∃ v L, o = .returned v ∧ (own_GT n0 Z o0 h0 (f3 w1 p2 t)) v U'.heap L ∧ FrameEnd U o U' L ({ frames := 0, cells := 0, slots := 0, locals := 0 } : Room).cells ({ frames := 0, cells := 0, slots := 0, locals := 0 } : Room).slots) := by
  refine MetFree.of_bodySF pn_3 hisR ?_
  intro p e s m args below meth c s₁ Bd hml0 hP hK
  obtain ⟨rfl, hZ, hh⟩ := hP
  have hx := Bd.exec
  have hby := Bd.bytes
  have hml : c.maxLocals = 4 := hml0
  have hown : s.vm.findClass "com/example/tollerance/tollerance/CallTally" = some m.cls := findClass_of_methodNamed Bd.named
  have hlk : meth.locks = false := BodyLoose.notSynchronized Bd
  have X0 : Stand p l e ({ frames := 0, cells := 0, slots := 0, locals := 0 } : Room) s m #[(.ref o0), (.long w1), (.int p2)] below meth c s₁ [] 0 0 := Stand.of_body Bd
  have e0 : s₁.heap = h0 := by rw [← hh, Bd.state]; rfl
  have N0 := Fr.nil n0
  show own_W p e below s 0 0 (own_GT n0 Z o0 h0 (f3 w1 p2 t)) s₁ (entryFrame m #[(.ref o0), (.long w1), (.int p2)] 4)
  refine own_to (ef_3 m o0 w1 p2) ?_
  have A0 := own_T.eq A e0
  have K0 : Keep h0 s₁.heap [o0] := own_keq (Keep.refl _ _) e0
  unfold f3
  refine own_st (T' := s₁) (f' := (mkF m 1 #[.val (.ref o0), .val (.long w1), .second, .val (.int p2)] [(.ref o0)])) ?_ (fun t q => XS.aloadN X0.here hx rfl (hb hby d3_0) rfl rfl q)
  refine own_st (T' := s₁) (f' := (mkF m 2 #[.val (.ref o0), .val (.long w1), .second, .val (.int p2)] [(.ref o0), (.ref o0)])) ?_ (fun t q => XS.dup X0.here hx rfl (hb hby d3_1) rfl rfl q)
  refine own_getT X0 hx hZ hown (hw _ (List.mem_of_getElem? (i := 14) rfl)) A0.2.1 (hb hby d3_2) (fun T1 X1 e1 => ?_)
  have A1 := own_T.eq A0 e1
  refine own_st (T' := T1) (f' := (mkF m 6 #[.val (.ref o0), .val (.long w1), .second, .val (.int p2)] [(.long (1 : Int64)), (.long t.1), (.ref o0)])) ?_ (fun t q => XS.lconst X1.here hx rfl (hb hby d3_5) q)
  refine own_st (T' := T1) (f' := (mkF m 7 #[.val (.ref o0), .val (.long w1), .second, .val (.int p2)] [(.long (t.1 + (1 : Int64))), (.ref o0)])) ?_ (fun t q => XS.ladd X1.here hx rfl (hb hby d3_6) rfl q)
  refine own_putT (x := t.1 + (1 : Int64)) X1 hx hZ hown (hw _ (List.mem_of_getElem? (i := 14) rfl)) (hw _ (List.mem_of_getElem? (i := 1) rfl)) (hw _ (List.mem_of_getElem? (i := 15) rfl)) A1.2.1 A1.1 (hb hby d3_7) N0 G (fun T1p lo1p X1p N1p W1p => ?_)
  have A1p := own_T.w1 (hw _ (List.mem_of_getElem? (i := 15) rfl)) (hw _ (List.mem_of_getElem? (i := 17) rfl)) (hw _ (List.mem_of_getElem? (i := 35) rfl)) A1 W1p
  have K1p : Keep h0 T1p.heap [o0] := Keep.wr (own_keq K0 e1) W1p (Or.inl (List.mem_of_getElem? (i := 0) rfl))
  refine own_st (T' := T1p) (f' := (mkF m 11 #[.val (.ref o0), .val (.long w1), .second, .val (.int p2)] [(.ref o0)])) ?_ (fun t q => XS.aloadN X1p.here hx rfl (hb hby d3_10) rfl rfl q)
  refine own_st (T' := T1p) (f' := (mkF m 12 #[.val (.ref o0), .val (.long w1), .second, .val (.int p2)] [(.ref o0), (.ref o0)])) ?_ (fun t q => XS.dup X1p.here hx rfl (hb hby d3_11) rfl rfl q)
  refine own_getT X1p hx hZ hown (hw _ (List.mem_of_getElem? (i := 16) rfl)) A1p.2.2.1 (hb hby d3_12) (fun T2 X2 e2 => ?_)
  have A2 := own_T.eq A1p e2
  refine own_st (T' := T2) (f' := (mkF m 16 #[.val (.ref o0), .val (.long w1), .second, .val (.int p2)] [(.long w1), (.long (t.1 + (1 : Int64), t.2.1, t.2.2).2.1), (.ref o0)])) ?_ (fun t q => XS.lloadN X2.here hx rfl (hb hby d3_15) rfl q)
  refine own_st (T' := T2) (f' := (mkF m 17 #[.val (.ref o0), .val (.long w1), .second, .val (.int p2)] [(.long ((t.1 + (1 : Int64), t.2.1, t.2.2).2.1 + w1)), (.ref o0)])) ?_ (fun t q => XS.ladd X2.here hx rfl (hb hby d3_16) rfl q)
  refine own_putT (x := (t.1 + (1 : Int64), t.2.1, t.2.2).2.1 + w1) X2 hx hZ hown (hw _ (List.mem_of_getElem? (i := 16) rfl)) (hw _ (List.mem_of_getElem? (i := 1) rfl)) (hw _ (List.mem_of_getElem? (i := 17) rfl)) A2.2.2.1 A2.1 (hb hby d3_17) N1p G (fun T2p lo2p X2p N2p W2p => ?_)
  have A2p := own_T.w2 (hw _ (List.mem_of_getElem? (i := 15) rfl)) (hw _ (List.mem_of_getElem? (i := 17) rfl)) (hw _ (List.mem_of_getElem? (i := 35) rfl)) A2 W2p
  have K2p : Keep h0 T2p.heap [o0] := Keep.wr (own_keq K1p e2) W2p (Or.inl (List.mem_of_getElem? (i := 0) rfl))
  refine own_st (T' := T2p) (f' := (mkF m 21 #[.val (.ref o0), .val (.long w1), .second, .val (.int p2)] [(.int p2)])) ?_ (fun t q => XS.iloadN X2p.here hx rfl (hb hby d3_20) rfl q)
  refine own_ite (fun hc21 => ?_) (fun hc21 => ?_)
  · refine own_st (T' := T2p) (f' := (mkF m 34 #[.val (.ref o0), .val (.long w1), .second, .val (.int p2)] [])) ?_ (fun t q => XS.ifYes X2p.here hx rfl (pc0 := 21) (pc' := 34) rfl (hb hby d3_21) rfl ((if0 _ _).trans (teq hc21).1) (by decide) (by decide) q)
    exact own_retV X2p hx hlk Bd.returns (hb hby d3_34) (by decide) (by decide) ⟨rfl, N2p, K2p, A2p⟩
  · refine own_st (T' := T2p) (f' := (mkF m 24 #[.val (.ref o0), .val (.long w1), .second, .val (.int p2)] [])) ?_ (fun t q => XS.ifNo X2p.here hx rfl (hb hby d3_21) rfl ((if0 _ _).trans (feq hc21).1) q)
    refine own_st (T' := T2p) (f' := (mkF m 25 #[.val (.ref o0), .val (.long w1), .second, .val (.int p2)] [(.ref o0)])) ?_ (fun t q => XS.aloadN X2p.here hx rfl (hb hby d3_24) rfl rfl q)
    refine own_st (T' := T2p) (f' := (mkF m 26 #[.val (.ref o0), .val (.long w1), .second, .val (.int p2)] [(.ref o0), (.ref o0)])) ?_ (fun t q => XS.dup X2p.here hx rfl (hb hby d3_25) rfl rfl q)
    refine own_getT X2p hx hZ hown (hw _ (List.mem_of_getElem? (i := 34) rfl)) A2p.2.2.2 (hb hby d3_26) (fun T3 X3 e3 => ?_)
    have A3 := own_T.eq A2p e3
    refine own_st (T' := T3) (f' := (mkF m 30 #[.val (.ref o0), .val (.long w1), .second, .val (.int p2)] [(.long w1), (.long ((t.1 + (1 : Int64), t.2.1, t.2.2).1, (t.1 + (1 : Int64), t.2.1, t.2.2).2.1 + w1, (t.1 + (1 : Int64), t.2.1, t.2.2).2.2).2.2), (.ref o0)])) ?_ (fun t q => XS.lloadN X3.here hx rfl (hb hby d3_29) rfl q)
    refine own_st (T' := T3) (f' := (mkF m 31 #[.val (.ref o0), .val (.long w1), .second, .val (.int p2)] [(.long (((t.1 + (1 : Int64), t.2.1, t.2.2).1, (t.1 + (1 : Int64), t.2.1, t.2.2).2.1 + w1, (t.1 + (1 : Int64), t.2.1, t.2.2).2.2).2.2 + w1)), (.ref o0)])) ?_ (fun t q => XS.ladd X3.here hx rfl (hb hby d3_30) rfl q)
    refine own_putT (x := ((t.1 + (1 : Int64), t.2.1, t.2.2).1, (t.1 + (1 : Int64), t.2.1, t.2.2).2.1 + w1, (t.1 + (1 : Int64), t.2.1, t.2.2).2.2).2.2 + w1) X3 hx hZ hown (hw _ (List.mem_of_getElem? (i := 34) rfl)) (hw _ (List.mem_of_getElem? (i := 1) rfl)) (hw _ (List.mem_of_getElem? (i := 35) rfl)) A3.2.2.2 A3.1 (hb hby d3_31) N2p G (fun T3p lo3p X3p N3p W3p => ?_)
    have A3p := own_T.w3 (hw _ (List.mem_of_getElem? (i := 15) rfl)) (hw _ (List.mem_of_getElem? (i := 17) rfl)) (hw _ (List.mem_of_getElem? (i := 35) rfl)) A3 W3p
    have K3p : Keep h0 T3p.heap [o0] := Keep.wr (own_keq K2p e3) W3p (Or.inl (List.mem_of_getElem? (i := 0) rfl))
    exact own_retV X3p hx hlk Bd.returns (hb hby d3_34) (by decide) (by decide) ⟨rfl, N3p, K3p, A3p⟩
theorem d4_0 : decode prog_8_method_4_code 0 = .ok (.aload_n 0, 1) := by decide +kernel
theorem d4_1 : decode prog_8_method_4_code 1 = .ok (.getfield 7, 3) := by decide +kernel
theorem d4_4 : decode prog_8_method_4_code 4 = .ok (.lreturn, 1) := by decide +kernel
theorem pn_4 : plainFor (⟨"com/example/tollerance/tollerance/CallTally", "calls", "()J"⟩ : MethodName) = true := by first | exact plainFor_of_name (by first | (simp [plainName, overriddenIn]; done) | decide +kernel) | decide +kernel
theorem ef_4 (m : MethodId) (o0 : Addr) : entryFrame m #[(.ref o0)] 1 = mkF m 0 #[.val (.ref o0)] [] := by first | (simp [entryFrame, mkF, argsToLocals, Value.category, maxLocals]; done) | rfl
set_option maxRecDepth 65536 in
set_option maxHeartbeats 40000000 in
theorem rm4 (l : Launch) (Z : State) (a0 : Array Value) (hw : ∀ d ∈ tables_1, d.before a0 Z = true) (ws : List Jvm.Cond) (o0 : Addr) (t : Int64 × Int64 × Int64) (h0 : Heap) (n0 : Nat) (Z0 : n0 ≤ h0.size) (A : own_T Z h0 o0 t) :
    MetFree l (⟨"com/example/tollerance/tollerance/CallTally", "calls", "()J"⟩ : MethodName) (head1 (Jvm.Cond.code (⟨"com/example/tollerance/tollerance/CallTally", "calls", "()J"⟩ : MethodName) prog_8_method_4_code 1 (some .long) :: ws) ({ frames := 0, cells := 0, slots := 0, locals := 0 } : Room)) (fun a U => a = #[(.ref o0)] ∧ Z.Warmed39 U.vm ∧ U.heap = h0) (fun _ _ _ _ _ => True) (fun _ U o U' => ∃ v L, o = .returned v ∧ (own_GJ n0 (fun h => h = h0) t.1) v U'.heap L ∧ FrameEnd U o U' L ({ frames := 0, cells := 0, slots := 0, locals := 0 } : Room).cells ({ frames := 0, cells := 0, slots := 0, locals := 0 } : Room).slots) := by
  refine MetFree.of_bodySF pn_4 hisR ?_
  intro p e s m args below meth c s₁ Bd hml0 hP hK
  obtain ⟨rfl, hZ, hh⟩ := hP
  have hx := Bd.exec
  have hby := Bd.bytes
  have hml : c.maxLocals = 1 := hml0
  have hown : s.vm.findClass "com/example/tollerance/tollerance/CallTally" = some m.cls := findClass_of_methodNamed Bd.named
  have hlk : meth.locks = false := BodyLoose.notSynchronized Bd
  have X0 : Stand p l e ({ frames := 0, cells := 0, slots := 0, locals := 0 } : Room) s m #[(.ref o0)] below meth c s₁ [] 0 0 := Stand.of_body Bd
  have e0 : s₁.heap = h0 := by rw [← hh, Bd.state]; rfl
  have N0 := Fr.nil n0
  show own_W p e below s 0 0 (own_GJ n0 (fun h => h = h0) t.1) s₁ (entryFrame m #[(.ref o0)] 1)
  refine own_to (ef_4 m o0) ?_
  have A1 := own_T.eq A e0
  refine own_st (T' := s₁) (f' := (mkF m 1 #[.val (.ref o0)] [(.ref o0)])) ?_ (fun t q => XS.aloadN X0.here hx rfl (hb hby d4_0) rfl rfl q)
  refine own_getT X0 hx hZ hown (hw _ (List.mem_of_getElem? (i := 14) rfl)) A1.2.1 (hb hby d4_1) (fun T1 X1 e1 => ?_)
  exact own_retJ X1 hx hlk Bd.returns (hb hby d4_4) (by decide) (by decide) ⟨rfl, N0, e1.trans e0⟩
theorem d5_0 : decode prog_8_method_5_code 0 = .ok (.aload_n 0, 1) := by decide +kernel
theorem d5_1 : decode prog_8_method_5_code 1 = .ok (.getfield 13, 3) := by decide +kernel
theorem d5_4 : decode prog_8_method_5_code 4 = .ok (.lreturn, 1) := by decide +kernel
theorem pn_5 : plainFor (⟨"com/example/tollerance/tollerance/CallTally", "seconds", "()J"⟩ : MethodName) = true := by first | exact plainFor_of_name (by first | (simp [plainName, overriddenIn]; done) | decide +kernel) | decide +kernel
theorem ef_5 (m : MethodId) (o0 : Addr) : entryFrame m #[(.ref o0)] 1 = mkF m 0 #[.val (.ref o0)] [] := by first | (simp [entryFrame, mkF, argsToLocals, Value.category, maxLocals]; done) | rfl
set_option maxRecDepth 65536 in
set_option maxHeartbeats 40000000 in
theorem rm5 (l : Launch) (Z : State) (a0 : Array Value) (hw : ∀ d ∈ tables_1, d.before a0 Z = true) (ws : List Jvm.Cond) (o0 : Addr) (t : Int64 × Int64 × Int64) (h0 : Heap) (n0 : Nat) (Z0 : n0 ≤ h0.size) (A : own_T Z h0 o0 t) :
    MetFree l (⟨"com/example/tollerance/tollerance/CallTally", "seconds", "()J"⟩ : MethodName) (head1 (Jvm.Cond.code (⟨"com/example/tollerance/tollerance/CallTally", "seconds", "()J"⟩ : MethodName) prog_8_method_5_code 1 (some .long) :: ws) ({ frames := 0, cells := 0, slots := 0, locals := 0 } : Room)) (fun a U => a = #[(.ref o0)] ∧ Z.Warmed39 U.vm ∧ U.heap = h0) (fun _ _ _ _ _ => True) (fun _ U o U' => ∃ v L, o = .returned v ∧ (own_GJ n0 (fun h => h = h0) t.2.1) v U'.heap L ∧ FrameEnd U o U' L ({ frames := 0, cells := 0, slots := 0, locals := 0 } : Room).cells ({ frames := 0, cells := 0, slots := 0, locals := 0 } : Room).slots) := by
  refine MetFree.of_bodySF pn_5 hisR ?_
  intro p e s m args below meth c s₁ Bd hml0 hP hK
  obtain ⟨rfl, hZ, hh⟩ := hP
  have hx := Bd.exec
  have hby := Bd.bytes
  have hml : c.maxLocals = 1 := hml0
  have hown : s.vm.findClass "com/example/tollerance/tollerance/CallTally" = some m.cls := findClass_of_methodNamed Bd.named
  have hlk : meth.locks = false := BodyLoose.notSynchronized Bd
  have X0 : Stand p l e ({ frames := 0, cells := 0, slots := 0, locals := 0 } : Room) s m #[(.ref o0)] below meth c s₁ [] 0 0 := Stand.of_body Bd
  have e0 : s₁.heap = h0 := by rw [← hh, Bd.state]; rfl
  have N0 := Fr.nil n0
  show own_W p e below s 0 0 (own_GJ n0 (fun h => h = h0) t.2.1) s₁ (entryFrame m #[(.ref o0)] 1)
  refine own_to (ef_5 m o0) ?_
  have A1 := own_T.eq A e0
  refine own_st (T' := s₁) (f' := (mkF m 1 #[.val (.ref o0)] [(.ref o0)])) ?_ (fun t q => XS.aloadN X0.here hx rfl (hb hby d5_0) rfl rfl q)
  refine own_getT X0 hx hZ hown (hw _ (List.mem_of_getElem? (i := 16) rfl)) A1.2.2.1 (hb hby d5_1) (fun T1 X1 e1 => ?_)
  exact own_retJ X1 hx hlk Bd.returns (hb hby d5_4) (by decide) (by decide) ⟨rfl, N0, e1.trans e0⟩
theorem d6_0 : decode prog_8_method_6_code 0 = .ok (.aload_n 0, 1) := by decide +kernel
theorem d6_1 : decode prog_8_method_6_code 1 = .ok (.getfield 16, 3) := by decide +kernel
theorem d6_4 : decode prog_8_method_6_code 4 = .ok (.lreturn, 1) := by decide +kernel
theorem pn_6 : plainFor (⟨"com/example/tollerance/tollerance/CallTally", "ipSeconds", "()J"⟩ : MethodName) = true := by first | exact plainFor_of_name (by first | (simp [plainName, overriddenIn]; done) | decide +kernel) | decide +kernel
theorem ef_6 (m : MethodId) (o0 : Addr) : entryFrame m #[(.ref o0)] 1 = mkF m 0 #[.val (.ref o0)] [] := by first | (simp [entryFrame, mkF, argsToLocals, Value.category, maxLocals]; done) | rfl
set_option maxRecDepth 65536 in
set_option maxHeartbeats 40000000 in
theorem rm6 (l : Launch) (Z : State) (a0 : Array Value) (hw : ∀ d ∈ tables_1, d.before a0 Z = true) (ws : List Jvm.Cond) (o0 : Addr) (t : Int64 × Int64 × Int64) (h0 : Heap) (n0 : Nat) (Z0 : n0 ≤ h0.size) (A : own_T Z h0 o0 t) :
    MetFree l (⟨"com/example/tollerance/tollerance/CallTally", "ipSeconds", "()J"⟩ : MethodName) (head1 (Jvm.Cond.code (⟨"com/example/tollerance/tollerance/CallTally", "ipSeconds", "()J"⟩ : MethodName) prog_8_method_6_code 1 (some .long) :: ws) ({ frames := 0, cells := 0, slots := 0, locals := 0 } : Room)) (fun a U => a = #[(.ref o0)] ∧ Z.Warmed39 U.vm ∧ U.heap = h0) (fun _ _ _ _ _ => True) (fun _ U o U' => ∃ v L, o = .returned v ∧ (own_GJ n0 (fun h => h = h0) t.2.2) v U'.heap L ∧ FrameEnd U o U' L ({ frames := 0, cells := 0, slots := 0, locals := 0 } : Room).cells ({ frames := 0, cells := 0, slots := 0, locals := 0 } : Room).slots) := by
  refine MetFree.of_bodySF pn_6 hisR ?_
  intro p e s m args below meth c s₁ Bd hml0 hP hK
  obtain ⟨rfl, hZ, hh⟩ := hP
  have hx := Bd.exec
  have hby := Bd.bytes
  have hml : c.maxLocals = 1 := hml0
  have hown : s.vm.findClass "com/example/tollerance/tollerance/CallTally" = some m.cls := findClass_of_methodNamed Bd.named
  have hlk : meth.locks = false := BodyLoose.notSynchronized Bd
  have X0 : Stand p l e ({ frames := 0, cells := 0, slots := 0, locals := 0 } : Room) s m #[(.ref o0)] below meth c s₁ [] 0 0 := Stand.of_body Bd
  have e0 : s₁.heap = h0 := by rw [← hh, Bd.state]; rfl
  have N0 := Fr.nil n0
  show own_W p e below s 0 0 (own_GJ n0 (fun h => h = h0) t.2.2) s₁ (entryFrame m #[(.ref o0)] 1)
  refine own_to (ef_6 m o0) ?_
  have A1 := own_T.eq A e0
  refine own_st (T' := s₁) (f' := (mkF m 1 #[.val (.ref o0)] [(.ref o0)])) ?_ (fun t q => XS.aloadN X0.here hx rfl (hb hby d6_0) rfl rfl q)
  refine own_getT X0 hx hZ hown (hw _ (List.mem_of_getElem? (i := 34) rfl)) A1.2.2.2 (hb hby d6_1) (fun T1 X1 e1 => ?_)
  exact own_retJ X1 hx hlk Bd.returns (hb hby d6_4) (by decide) (by decide) ⟨rfl, N0, e1.trans e0⟩
theorem pd_0 : parseMethodDescriptor "()V" = some ⟨[], none⟩ := by decide +kernel
theorem pd_1 : parseMethodDescriptor "(JZ)V" = some ⟨[.long, .boolean], none⟩ := by decide +kernel
theorem pd_2 : parseMethodDescriptor "()J" = some ⟨[], some .long⟩ := by decide +kernel
theorem pn_0 : plainFor x = true := by first | exact plainFor_of_name (by first | (simp [plainName, overriddenIn]; done) | decide +kernel) | decide +kernel
theorem ef_0 (m : MethodId) (x0 : Int64) (x1 : Int64) (x2 : Int32) : entryFrame m #[(.long x0), (.long x1), (.int x2)] maxLocals = mkF m 0 #[.val (.long x0), .second, .val (.long x1), .second, .val (.int x2), .unset, .unset, .unset, .unset, .unset, .unset, .unset, .unset, .unset] [] := by first | (simp [entryFrame, mkF, argsToLocals, Value.category, maxLocals]; done) | rfl
def vx (w0 : Int64) (w1 : Int64) (p2 : Int32) : Int64 := (w0 >>> ((2 : Int32) &&& 0x3f).toInt64)
def vy (w0 : Int64) (w1 : Int64) (p2 : Int32) : Int64 := (w1 >>> ((2 : Int32) &&& 0x3f).toInt64)
def f0_92 (w0 : Int64) (w1 : Int64) (p2 : Int32) (g9_92 : Int32) (g10_92 : Int32) (j12_92 : Int64) (F11_92 : Int64 × Int64 × Int64) : Int32 := (if (F11_92).1 = (2 : Int64) then (if (F11_92).2.1 = ((vx w0 w1 p2) + (vy w0 w1 p2)) then (if (F11_92).2.2 = j12_92 then (1 : Int32) else (0 : Int32)) else (0 : Int32)) else (0 : Int32))
def f0_80 (w0 : Int64) (w1 : Int64) (p2 : Int32) (g9_80 : Int32) (g10_80 : Int32) (j12_80 : Int64) (F11_80 : Int64 × Int64 × Int64) : Int32 := (if g10_80 = (0 : Int32) then (f0_92 w0 w1 p2 g9_80 g10_80 j12_80 F11_80) else (f0_92 w0 w1 p2 g9_80 g10_80 (j12_80 + (vy w0 w1 p2)) F11_80))
def f0_36 (w0 : Int64) (w1 : Int64) (p2 : Int32) (g9_36 : Int32) (g100_36 : Int32) : Int32 := (if g9_36 = (0 : Int32) then (f0_80 w0 w1 p2 g9_36 g100_36 (0 : Int64) (f3 (vy w0 w1 p2) g100_36 (f3 (vx w0 w1 p2) g9_36 ((0 : Int64), (0 : Int64), (0 : Int64))))) else (f0_80 w0 w1 p2 g9_36 g100_36 ((0 : Int64) + (vx w0 w1 p2)) (f3 (vy w0 w1 p2) g100_36 (f3 (vx w0 w1 p2) g9_36 ((0 : Int64), (0 : Int64), (0 : Int64))))))
def f0_22 (w0 : Int64) (w1 : Int64) (p2 : Int32) (g100_22 : Int32) : Int32 := (if (p2 &&& (2 : Int32)) = (0 : Int32) then (f0_36 w0 w1 p2 g100_22 (0 : Int32)) else (f0_36 w0 w1 p2 g100_22 (1 : Int32)))
def f0 (w0 : Int64) (w1 : Int64) (p2 : Int32) : Int32 := (if (p2 &&& (1 : Int32)) = (0 : Int32) then (f0_22 w0 w1 p2 (0 : Int32)) else (f0_22 w0 w1 p2 (1 : Int32)))
set_option maxRecDepth 65536 in
set_option maxHeartbeats 40000000 in
theorem rm0 (l : Launch) (Z : State) (a0 : Array Value) (hw : ∀ d ∈ tables_1, d.before a0 Z = true) (ws : List Jvm.Cond) (w0 : Int64) (w1 : Int64) (p2 : Int32) (h0 : Heap) (n0 : Nat) (Z0 : n0 ≤ h0.size) :
    MetFree l x (head1 (Jvm.Cond.code x code maxLocals ret :: ws) room_1) (fun a U => a = #[(.long w0), (.long w1), (.int p2)] ∧ Z.Warmed39 U.vm ∧ U.heap = h0) (fun _ _ _ _ _ => True) (fun _ U o U' => ∃ v L, o = .returned v ∧ own_GI n0 (fun _ => True) (f0 w0 w1 p2) v U'.heap L ∧ FrameEnd U o U' L 1 3) := by
  refine MetFree.of_bodySF pn_0 hisR ?_
  intro p e s m args below meth c s₁ Bd hml0 hP hK
  obtain ⟨rfl, hZ, hh⟩ := hP
  have hx := Bd.exec
  have hby := Bd.bytes
  have hml : c.maxLocals = 14 := hml0
  have hown : s.vm.findClass "com/example/tollerance/tollerance/CallTallyAdd63PinLaw" = some m.cls := findClass_of_methodNamed Bd.named
  have hlk : meth.locks = false := BodyLoose.notSynchronized Bd
  have X0 : Stand p l e room_1 s m #[(.long w0), (.long w1), (.int p2)] below meth c s₁ [] 0 0 := Stand.of_body Bd
  have e0 : s₁.heap = h0 := by rw [← hh, Bd.state]; rfl
  have N0 := Fr.nil n0
  have zs0 : n0 ≤ s₁.heap.size := by rw [e0]; exact Z0
  have B92 : ∀ (T : State) (locs : List Loc) (g9_92 : Int32) (g10_92 : Int32) (r11_92 : Addr) (j12_92 : Int64) (F11_92 : Int64 × Int64 × Int64) (X : Stand p l e room_1 s m #[(.long w0), (.long w1), (.int p2)] below meth c T locs 1 3) (N : Fr n0 locs) (zs : n0 ≤ T.heap.size) (G_r11_92 : n0 ≤ r11_92) (A_r11_92 : own_T Z T.heap r11_92 F11_92), own_W p e below s 1 3 (own_GI n0 (fun _ => True) (f0_92 w0 w1 p2 g9_92 g10_92 j12_92 F11_92)) T (mkF m 92 #[.val (.long w0), .second, .val (.long w1), .second, .val (.int p2), .val (.long (vx w0 w1 p2)), .second, .val (.long (vy w0 w1 p2)), .second, .val (.int g9_92), .val (.int g10_92), .val (.ref r11_92), .val (.long j12_92), .second] []) := by
    intro T locs g9_92 g10_92 r11_92 j12_92 F11_92 X N zs G_r11_92 A_r11_92
    unfold f0_92
    refine own_st (T' := T) (f' := (mkF m 94 #[.val (.long w0), .second, .val (.long w1), .second, .val (.int p2), .val (.long (vx w0 w1 p2)), .second, .val (.long (vy w0 w1 p2)), .second, .val (.int g9_92), .val (.int g10_92), .val (.ref r11_92), .val (.long j12_92), .second] [(.ref r11_92)])) ?_ (fun t q => XS.aload X.here hx rfl (hb hby at_92) rfl rfl q)
    obtain ⟨cq1, kq1, q1a, q1b, q1c⟩ := isOf (T := T) hZ rfl A_r11_92.1
    obtain ⟨_, _, ⟨T1, L1, k1, n1⟩, -, X1, ⟨Lc1, hQ1, l1, y1, z1⟩, st1⟩ := X.virtualBack hx (y := (⟨"com/example/tollerance/tollerance/CallTally", "calls", "()J"⟩ : MethodName)) (z := (⟨"com/example/tollerance/tollerance/CallTally", "calls", "()J"⟩ : MethodName)) hown (mvT hZ (hw _ (List.mem_of_getElem? (i := 18) rfl))) (mvT hZ (hw _ (List.mem_of_getElem? (i := 19) rfl))) (notFace_of_selects (args := #[]) (mvT hZ (hw _ (List.mem_of_getElem? (i := 21) rfl)))) (mvT hZ (hw _ (List.mem_of_getElem? (i := 21) rfl))) (mvT hZ (hw _ (List.mem_of_getElem? (i := 20) rfl))) (by decide) (backOf (W := 0) (rm4 l Z a0 hw [] r11_92 F11_92 T.heap n0 zs A_r11_92) hZ (hw _ (List.mem_of_getElem? (i := 22) rfl)) (hw _ (List.mem_of_getElem? (i := 2) rfl)) (by decide) (by decide)) q1a q1c (g := (mkF m 94 #[.val (.long w0), .second, .val (.long w1), .second, .val (.int p2), .val (.long (vx w0 w1 p2)), .second, .val (.long (vy w0 w1 p2)), .second, .val (.int g9_92), .val (.int g10_92), .val (.ref r11_92), .val (.long j12_92), .second] [(.ref r11_92)])) rfl (by rw [hml]; rfl) (Steps.refl _) (argsL := []) (rest := []) (lenOf pd_2 rfl) rfl (by show 2 * 0 + _ ≤ _; exact Nat.le_of_eq rfl) (hb hby at_94) (fun _ _ => ⟨rfl, rfl, (Nat.le_of_ble_eq_true rfl), (Nat.le_of_ble_eq_true rfl)⟩)
    dsimp only [Pt.U, Pt.locs, Pt.cells, Pt.slots] at X1 l1 y1 z1 st1 hQ1
    subst l1 y1 z1
    obtain ⟨rfl, N1q, e1⟩ := hQ1
    have N1 := Fr.app N N1q
    have zs1 : n0 ≤ T1.heap.size := by rw [e1]; exact zs
    have A1_r11_92 := own_T.eq A_r11_92 e1
    refine own_st (T' := T1) (f' := (mkF m 97 #[.val (.long w0), .second, .val (.long w1), .second, .val (.int p2), .val (.long (vx w0 w1 p2)), .second, .val (.long (vy w0 w1 p2)), .second, .val (.int g9_92), .val (.int g10_92), .val (.ref r11_92), .val (.long j12_92), .second] [(.long (F11_92).1)])) ?_ (fun t q => st1.trans q)
    refine own_st (T' := T1) (f' := (mkF m 100 #[.val (.long w0), .second, .val (.long w1), .second, .val (.int p2), .val (.long (vx w0 w1 p2)), .second, .val (.long (vy w0 w1 p2)), .second, .val (.int g9_92), .val (.int g10_92), .val (.ref r11_92), .val (.long j12_92), .second] [(.long (2 : Int64)), (.long (F11_92).1)])) ?_ (fun t q => X1.ldc2Long hx hown (mvT hZ (hw _ (List.mem_of_getElem? (i := 23) rfl))) (g := (mkF m 97 #[.val (.long w0), .second, .val (.long w1), .second, .val (.int p2), .val (.long (vx w0 w1 p2)), .second, .val (.long (vy w0 w1 p2)), .second, .val (.int g9_92), .val (.int g10_92), .val (.ref r11_92), .val (.long j12_92), .second] [(.long (F11_92).1)])) rfl (hb hby at_97) _ q)
    refine own_st (T' := T1) (f' := (mkF m 101 #[.val (.long w0), .second, .val (.long w1), .second, .val (.int p2), .val (.long (vx w0 w1 p2)), .second, .val (.long (vy w0 w1 p2)), .second, .val (.int g9_92), .val (.int g10_92), .val (.ref r11_92), .val (.long j12_92), .second] [(.int (lcmpW (F11_92).1 (2 : Int64)))])) ?_ (fun t q => XS.lcmp X1.here hx rfl (hb hby at_100) rfl q)
    refine own_ite (fun hc101 => ?_) (fun hc101 => ?_)
    · refine own_st (T' := T1) (f' := (mkF m 104 #[.val (.long w0), .second, .val (.long w1), .second, .val (.int p2), .val (.long (vx w0 w1 p2)), .second, .val (.long (vy w0 w1 p2)), .second, .val (.int g9_92), .val (.int g10_92), .val (.ref r11_92), .val (.long j12_92), .second] [])) ?_ (fun t q => XS.ifNo X1.here hx rfl (hb hby at_101) rfl ((if0 _ _).trans (teq ((lw_eq _ _).mpr hc101)).2) q)
      refine own_st (T' := T1) (f' := (mkF m 106 #[.val (.long w0), .second, .val (.long w1), .second, .val (.int p2), .val (.long (vx w0 w1 p2)), .second, .val (.long (vy w0 w1 p2)), .second, .val (.int g9_92), .val (.int g10_92), .val (.ref r11_92), .val (.long j12_92), .second] [(.ref r11_92)])) ?_ (fun t q => XS.aload X1.here hx rfl (hb hby at_104) rfl rfl q)
      obtain ⟨cq2, kq2, q2a, q2b, q2c⟩ := isOf (T := T1) hZ rfl A1_r11_92.1
      obtain ⟨_, _, ⟨T2, L2, k2, n2⟩, -, X2, ⟨Lc2, hQ2, l2, y2, z2⟩, st2⟩ := X1.virtualBack hx (y := (⟨"com/example/tollerance/tollerance/CallTally", "seconds", "()J"⟩ : MethodName)) (z := (⟨"com/example/tollerance/tollerance/CallTally", "seconds", "()J"⟩ : MethodName)) hown (mvT hZ (hw _ (List.mem_of_getElem? (i := 24) rfl))) (mvT hZ (hw _ (List.mem_of_getElem? (i := 25) rfl))) (notFace_of_selects (args := #[]) (mvT hZ (hw _ (List.mem_of_getElem? (i := 27) rfl)))) (mvT hZ (hw _ (List.mem_of_getElem? (i := 27) rfl))) (mvT hZ (hw _ (List.mem_of_getElem? (i := 26) rfl))) (by decide) (backOf (W := 0) (rm5 l Z a0 hw [] r11_92 F11_92 T1.heap n0 zs1 A1_r11_92) hZ (hw _ (List.mem_of_getElem? (i := 28) rfl)) (hw _ (List.mem_of_getElem? (i := 2) rfl)) (by decide) (by decide)) q2a q2c (g := (mkF m 106 #[.val (.long w0), .second, .val (.long w1), .second, .val (.int p2), .val (.long (vx w0 w1 p2)), .second, .val (.long (vy w0 w1 p2)), .second, .val (.int g9_92), .val (.int g10_92), .val (.ref r11_92), .val (.long j12_92), .second] [(.ref r11_92)])) rfl (by rw [hml]; rfl) (Steps.refl _) (argsL := []) (rest := []) (lenOf pd_2 rfl) rfl (by show 2 * 0 + _ ≤ _; exact Nat.le_of_eq rfl) (hb hby at_106) (fun _ _ => ⟨rfl, rfl, (Nat.le_of_ble_eq_true rfl), (Nat.le_of_ble_eq_true rfl)⟩)
      dsimp only [Pt.U, Pt.locs, Pt.cells, Pt.slots] at X2 l2 y2 z2 st2 hQ2
      subst l2 y2 z2
      obtain ⟨rfl, N2q, e2⟩ := hQ2
      have N2 := Fr.app N1 N2q
      have zs2 : n0 ≤ T2.heap.size := by rw [e2]; exact zs1
      have A2_r11_92 := own_T.eq A1_r11_92 e2
      refine own_st (T' := T2) (f' := (mkF m 109 #[.val (.long w0), .second, .val (.long w1), .second, .val (.int p2), .val (.long (vx w0 w1 p2)), .second, .val (.long (vy w0 w1 p2)), .second, .val (.int g9_92), .val (.int g10_92), .val (.ref r11_92), .val (.long j12_92), .second] [(.long (F11_92).2.1)])) ?_ (fun t q => st2.trans q)
      refine own_st (T' := T2) (f' := (mkF m 111 #[.val (.long w0), .second, .val (.long w1), .second, .val (.int p2), .val (.long (vx w0 w1 p2)), .second, .val (.long (vy w0 w1 p2)), .second, .val (.int g9_92), .val (.int g10_92), .val (.ref r11_92), .val (.long j12_92), .second] [(.long (vx w0 w1 p2)), (.long (F11_92).2.1)])) ?_ (fun t q => XS.lload X2.here hx rfl (hb hby at_109) rfl q)
      refine own_st (T' := T2) (f' := (mkF m 113 #[.val (.long w0), .second, .val (.long w1), .second, .val (.int p2), .val (.long (vx w0 w1 p2)), .second, .val (.long (vy w0 w1 p2)), .second, .val (.int g9_92), .val (.int g10_92), .val (.ref r11_92), .val (.long j12_92), .second] [(.long (vy w0 w1 p2)), (.long (vx w0 w1 p2)), (.long (F11_92).2.1)])) ?_ (fun t q => XS.lload X2.here hx rfl (hb hby at_111) rfl q)
      refine own_st (T' := T2) (f' := (mkF m 114 #[.val (.long w0), .second, .val (.long w1), .second, .val (.int p2), .val (.long (vx w0 w1 p2)), .second, .val (.long (vy w0 w1 p2)), .second, .val (.int g9_92), .val (.int g10_92), .val (.ref r11_92), .val (.long j12_92), .second] [(.long ((vx w0 w1 p2) + (vy w0 w1 p2))), (.long (F11_92).2.1)])) ?_ (fun t q => XS.ladd X2.here hx rfl (hb hby at_113) rfl q)
      refine own_st (T' := T2) (f' := (mkF m 115 #[.val (.long w0), .second, .val (.long w1), .second, .val (.int p2), .val (.long (vx w0 w1 p2)), .second, .val (.long (vy w0 w1 p2)), .second, .val (.int g9_92), .val (.int g10_92), .val (.ref r11_92), .val (.long j12_92), .second] [(.int (lcmpW (F11_92).2.1 ((vx w0 w1 p2) + (vy w0 w1 p2))))])) ?_ (fun t q => XS.lcmp X2.here hx rfl (hb hby at_114) rfl q)
      refine own_ite (fun hc115 => ?_) (fun hc115 => ?_)
      · refine own_st (T' := T2) (f' := (mkF m 118 #[.val (.long w0), .second, .val (.long w1), .second, .val (.int p2), .val (.long (vx w0 w1 p2)), .second, .val (.long (vy w0 w1 p2)), .second, .val (.int g9_92), .val (.int g10_92), .val (.ref r11_92), .val (.long j12_92), .second] [])) ?_ (fun t q => XS.ifNo X2.here hx rfl (hb hby at_115) rfl ((if0 _ _).trans (teq ((lw_eq _ _).mpr hc115)).2) q)
        refine own_st (T' := T2) (f' := (mkF m 120 #[.val (.long w0), .second, .val (.long w1), .second, .val (.int p2), .val (.long (vx w0 w1 p2)), .second, .val (.long (vy w0 w1 p2)), .second, .val (.int g9_92), .val (.int g10_92), .val (.ref r11_92), .val (.long j12_92), .second] [(.ref r11_92)])) ?_ (fun t q => XS.aload X2.here hx rfl (hb hby at_118) rfl rfl q)
        obtain ⟨cq3, kq3, q3a, q3b, q3c⟩ := isOf (T := T2) hZ rfl A2_r11_92.1
        obtain ⟨_, _, ⟨T3, L3, k3, n3⟩, -, X3, ⟨Lc3, hQ3, l3, y3, z3⟩, st3⟩ := X2.virtualBack hx (y := (⟨"com/example/tollerance/tollerance/CallTally", "ipSeconds", "()J"⟩ : MethodName)) (z := (⟨"com/example/tollerance/tollerance/CallTally", "ipSeconds", "()J"⟩ : MethodName)) hown (mvT hZ (hw _ (List.mem_of_getElem? (i := 29) rfl))) (mvT hZ (hw _ (List.mem_of_getElem? (i := 30) rfl))) (notFace_of_selects (args := #[]) (mvT hZ (hw _ (List.mem_of_getElem? (i := 32) rfl)))) (mvT hZ (hw _ (List.mem_of_getElem? (i := 32) rfl))) (mvT hZ (hw _ (List.mem_of_getElem? (i := 31) rfl))) (by decide) (backOf (W := 0) (rm6 l Z a0 hw [] r11_92 F11_92 T2.heap n0 zs2 A2_r11_92) hZ (hw _ (List.mem_of_getElem? (i := 33) rfl)) (hw _ (List.mem_of_getElem? (i := 2) rfl)) (by decide) (by decide)) q3a q3c (g := (mkF m 120 #[.val (.long w0), .second, .val (.long w1), .second, .val (.int p2), .val (.long (vx w0 w1 p2)), .second, .val (.long (vy w0 w1 p2)), .second, .val (.int g9_92), .val (.int g10_92), .val (.ref r11_92), .val (.long j12_92), .second] [(.ref r11_92)])) rfl (by rw [hml]; rfl) (Steps.refl _) (argsL := []) (rest := []) (lenOf pd_2 rfl) rfl (by show 2 * 0 + _ ≤ _; exact Nat.le_of_eq rfl) (hb hby at_120) (fun _ _ => ⟨rfl, rfl, (Nat.le_of_ble_eq_true rfl), (Nat.le_of_ble_eq_true rfl)⟩)
        dsimp only [Pt.U, Pt.locs, Pt.cells, Pt.slots] at X3 l3 y3 z3 st3 hQ3
        subst l3 y3 z3
        obtain ⟨rfl, N3q, e3⟩ := hQ3
        have N3 := Fr.app N2 N3q
        have zs3 : n0 ≤ T3.heap.size := by rw [e3]; exact zs2
        have A3_r11_92 := own_T.eq A2_r11_92 e3
        refine own_st (T' := T3) (f' := (mkF m 123 #[.val (.long w0), .second, .val (.long w1), .second, .val (.int p2), .val (.long (vx w0 w1 p2)), .second, .val (.long (vy w0 w1 p2)), .second, .val (.int g9_92), .val (.int g10_92), .val (.ref r11_92), .val (.long j12_92), .second] [(.long (F11_92).2.2)])) ?_ (fun t q => st3.trans q)
        refine own_st (T' := T3) (f' := (mkF m 125 #[.val (.long w0), .second, .val (.long w1), .second, .val (.int p2), .val (.long (vx w0 w1 p2)), .second, .val (.long (vy w0 w1 p2)), .second, .val (.int g9_92), .val (.int g10_92), .val (.ref r11_92), .val (.long j12_92), .second] [(.long j12_92), (.long (F11_92).2.2)])) ?_ (fun t q => XS.lload X3.here hx rfl (hb hby at_123) rfl q)
        refine own_st (T' := T3) (f' := (mkF m 126 #[.val (.long w0), .second, .val (.long w1), .second, .val (.int p2), .val (.long (vx w0 w1 p2)), .second, .val (.long (vy w0 w1 p2)), .second, .val (.int g9_92), .val (.int g10_92), .val (.ref r11_92), .val (.long j12_92), .second] [(.int (lcmpW (F11_92).2.2 j12_92))])) ?_ (fun t q => XS.lcmp X3.here hx rfl (hb hby at_125) rfl q)
        refine own_ite (fun hc126 => ?_) (fun hc126 => ?_)
        · refine own_st (T' := T3) (f' := (mkF m 129 #[.val (.long w0), .second, .val (.long w1), .second, .val (.int p2), .val (.long (vx w0 w1 p2)), .second, .val (.long (vy w0 w1 p2)), .second, .val (.int g9_92), .val (.int g10_92), .val (.ref r11_92), .val (.long j12_92), .second] [])) ?_ (fun t q => XS.ifNo X3.here hx rfl (hb hby at_126) rfl ((if0 _ _).trans (teq ((lw_eq _ _).mpr hc126)).2) q)
          refine own_st (T' := T3) (f' := (mkF m 130 #[.val (.long w0), .second, .val (.long w1), .second, .val (.int p2), .val (.long (vx w0 w1 p2)), .second, .val (.long (vy w0 w1 p2)), .second, .val (.int g9_92), .val (.int g10_92), .val (.ref r11_92), .val (.long j12_92), .second] [(.int (1 : Int32))])) ?_ (fun t q => XS.iconst X3.here hx rfl (hb hby at_129) q)
          refine own_st (T' := T3) (f' := (mkF m 134 #[.val (.long w0), .second, .val (.long w1), .second, .val (.int p2), .val (.long (vx w0 w1 p2)), .second, .val (.long (vy w0 w1 p2)), .second, .val (.int g9_92), .val (.int g10_92), .val (.ref r11_92), .val (.long j12_92), .second] [(.int (1 : Int32))])) ?_ (fun t q => XS.goto X3.here hx rfl (pc0 := 130) (pc' := 134) rfl (hb hby at_130) (by decide) (by decide) q)
          exact own_retN X3 hx hlk (t := .boolean) Bd.returns (by simp) (hb hby at_134) (by decide) (by decide) ⟨rfl, N3, trivial⟩
        · refine own_st (T' := T3) (f' := (mkF m 133 #[.val (.long w0), .second, .val (.long w1), .second, .val (.int p2), .val (.long (vx w0 w1 p2)), .second, .val (.long (vy w0 w1 p2)), .second, .val (.int g9_92), .val (.int g10_92), .val (.ref r11_92), .val (.long j12_92), .second] [])) ?_ (fun t q => XS.ifYes X3.here hx rfl (pc0 := 126) (pc' := 133) rfl (hb hby at_126) rfl ((if0 _ _).trans (feq (fun z => hc126 ((lw_eq _ _).mp z))).2) (by decide) (by decide) q)
          refine own_st (T' := T3) (f' := (mkF m 134 #[.val (.long w0), .second, .val (.long w1), .second, .val (.int p2), .val (.long (vx w0 w1 p2)), .second, .val (.long (vy w0 w1 p2)), .second, .val (.int g9_92), .val (.int g10_92), .val (.ref r11_92), .val (.long j12_92), .second] [(.int (0 : Int32))])) ?_ (fun t q => XS.iconst X3.here hx rfl (hb hby at_133) q)
          exact own_retN X3 hx hlk (t := .boolean) Bd.returns (by simp) (hb hby at_134) (by decide) (by decide) ⟨rfl, N3, trivial⟩
      · refine own_st (T' := T2) (f' := (mkF m 133 #[.val (.long w0), .second, .val (.long w1), .second, .val (.int p2), .val (.long (vx w0 w1 p2)), .second, .val (.long (vy w0 w1 p2)), .second, .val (.int g9_92), .val (.int g10_92), .val (.ref r11_92), .val (.long j12_92), .second] [])) ?_ (fun t q => XS.ifYes X2.here hx rfl (pc0 := 115) (pc' := 133) rfl (hb hby at_115) rfl ((if0 _ _).trans (feq (fun z => hc115 ((lw_eq _ _).mp z))).2) (by decide) (by decide) q)
        refine own_st (T' := T2) (f' := (mkF m 134 #[.val (.long w0), .second, .val (.long w1), .second, .val (.int p2), .val (.long (vx w0 w1 p2)), .second, .val (.long (vy w0 w1 p2)), .second, .val (.int g9_92), .val (.int g10_92), .val (.ref r11_92), .val (.long j12_92), .second] [(.int (0 : Int32))])) ?_ (fun t q => XS.iconst X2.here hx rfl (hb hby at_133) q)
        exact own_retN X2 hx hlk (t := .boolean) Bd.returns (by simp) (hb hby at_134) (by decide) (by decide) ⟨rfl, N2, trivial⟩
    · refine own_st (T' := T1) (f' := (mkF m 133 #[.val (.long w0), .second, .val (.long w1), .second, .val (.int p2), .val (.long (vx w0 w1 p2)), .second, .val (.long (vy w0 w1 p2)), .second, .val (.int g9_92), .val (.int g10_92), .val (.ref r11_92), .val (.long j12_92), .second] [])) ?_ (fun t q => XS.ifYes X1.here hx rfl (pc0 := 101) (pc' := 133) rfl (hb hby at_101) rfl ((if0 _ _).trans (feq (fun z => hc101 ((lw_eq _ _).mp z))).2) (by decide) (by decide) q)
      refine own_st (T' := T1) (f' := (mkF m 134 #[.val (.long w0), .second, .val (.long w1), .second, .val (.int p2), .val (.long (vx w0 w1 p2)), .second, .val (.long (vy w0 w1 p2)), .second, .val (.int g9_92), .val (.int g10_92), .val (.ref r11_92), .val (.long j12_92), .second] [(.int (0 : Int32))])) ?_ (fun t q => XS.iconst X1.here hx rfl (hb hby at_133) q)
      exact own_retN X1 hx hlk (t := .boolean) Bd.returns (by simp) (hb hby at_134) (by decide) (by decide) ⟨rfl, N1, trivial⟩
  have B80 : ∀ (T : State) (locs : List Loc) (g9_80 : Int32) (g10_80 : Int32) (r11_80 : Addr) (j12_80 : Int64) (F11_80 : Int64 × Int64 × Int64) (X : Stand p l e room_1 s m #[(.long w0), (.long w1), (.int p2)] below meth c T locs 1 3) (N : Fr n0 locs) (zs : n0 ≤ T.heap.size) (G_r11_80 : n0 ≤ r11_80) (A_r11_80 : own_T Z T.heap r11_80 F11_80), own_W p e below s 1 3 (own_GI n0 (fun _ => True) (f0_80 w0 w1 p2 g9_80 g10_80 j12_80 F11_80)) T (mkF m 80 #[.val (.long w0), .second, .val (.long w1), .second, .val (.int p2), .val (.long (vx w0 w1 p2)), .second, .val (.long (vy w0 w1 p2)), .second, .val (.int g9_80), .val (.int g10_80), .val (.ref r11_80), .val (.long j12_80), .second] []) := by
    intro T locs g9_80 g10_80 r11_80 j12_80 F11_80 X N zs G_r11_80 A_r11_80
    unfold f0_80
    refine own_st (T' := T) (f' := (mkF m 82 #[.val (.long w0), .second, .val (.long w1), .second, .val (.int p2), .val (.long (vx w0 w1 p2)), .second, .val (.long (vy w0 w1 p2)), .second, .val (.int g9_80), .val (.int g10_80), .val (.ref r11_80), .val (.long j12_80), .second] [(.int g10_80)])) ?_ (fun t q => XS.iload X.here hx rfl (hb hby at_80) rfl q)
    refine own_ite (fun hc82 => ?_) (fun hc82 => ?_)
    · refine own_st (T' := T) (f' := (mkF m 92 #[.val (.long w0), .second, .val (.long w1), .second, .val (.int p2), .val (.long (vx w0 w1 p2)), .second, .val (.long (vy w0 w1 p2)), .second, .val (.int g9_80), .val (.int g10_80), .val (.ref r11_80), .val (.long j12_80), .second] [])) ?_ (fun t q => XS.ifYes X.here hx rfl (pc0 := 82) (pc' := 92) rfl (hb hby at_82) rfl ((if0 _ _).trans (teq hc82).1) (by decide) (by decide) q)
      exact B92 T _ g9_80 g10_80 r11_80 j12_80 F11_80 X N zs G_r11_80 A_r11_80
    · refine own_st (T' := T) (f' := (mkF m 85 #[.val (.long w0), .second, .val (.long w1), .second, .val (.int p2), .val (.long (vx w0 w1 p2)), .second, .val (.long (vy w0 w1 p2)), .second, .val (.int g9_80), .val (.int g10_80), .val (.ref r11_80), .val (.long j12_80), .second] [])) ?_ (fun t q => XS.ifNo X.here hx rfl (hb hby at_82) rfl ((if0 _ _).trans (feq hc82).1) q)
      refine own_st (T' := T) (f' := (mkF m 87 #[.val (.long w0), .second, .val (.long w1), .second, .val (.int p2), .val (.long (vx w0 w1 p2)), .second, .val (.long (vy w0 w1 p2)), .second, .val (.int g9_80), .val (.int g10_80), .val (.ref r11_80), .val (.long j12_80), .second] [(.long j12_80)])) ?_ (fun t q => XS.lload X.here hx rfl (hb hby at_85) rfl q)
      refine own_st (T' := T) (f' := (mkF m 89 #[.val (.long w0), .second, .val (.long w1), .second, .val (.int p2), .val (.long (vx w0 w1 p2)), .second, .val (.long (vy w0 w1 p2)), .second, .val (.int g9_80), .val (.int g10_80), .val (.ref r11_80), .val (.long j12_80), .second] [(.long (vy w0 w1 p2)), (.long j12_80)])) ?_ (fun t q => XS.lload X.here hx rfl (hb hby at_87) rfl q)
      refine own_st (T' := T) (f' := (mkF m 90 #[.val (.long w0), .second, .val (.long w1), .second, .val (.int p2), .val (.long (vx w0 w1 p2)), .second, .val (.long (vy w0 w1 p2)), .second, .val (.int g9_80), .val (.int g10_80), .val (.ref r11_80), .val (.long j12_80), .second] [(.long (j12_80 + (vy w0 w1 p2)))])) ?_ (fun t q => XS.ladd X.here hx rfl (hb hby at_89) rfl q)
      refine own_st (T' := T) (f' := (mkF m 92 #[.val (.long w0), .second, .val (.long w1), .second, .val (.int p2), .val (.long (vx w0 w1 p2)), .second, .val (.long (vy w0 w1 p2)), .second, .val (.int g9_80), .val (.int g10_80), .val (.ref r11_80), .val (.long (j12_80 + (vy w0 w1 p2))), .second] [])) ?_ (fun t q => XS.lstore X.here hx rfl (hb hby at_90) rfl (l' := #[.val (.long w0), .second, .val (.long w1), .second, .val (.int p2), .val (.long (vx w0 w1 p2)), .second, .val (.long (vy w0 w1 p2)), .second, .val (.int g9_80), .val (.int g10_80), .val (.ref r11_80), .val (.long (j12_80 + (vy w0 w1 p2))), .second]) rfl q)
      exact B92 T _ g9_80 g10_80 r11_80 (j12_80 + (vy w0 w1 p2)) F11_80 X N zs G_r11_80 A_r11_80
  have B36 : ∀ (T : State) (locs : List Loc) (g9_36 : Int32) (g100_36 : Int32) (X : Stand p l e room_1 s m #[(.long w0), (.long w1), (.int p2)] below meth c T locs 0 0) (N : Fr n0 locs) (zs : n0 ≤ T.heap.size), own_W p e below s 1 3 (own_GI n0 (fun _ => True) (f0_36 w0 w1 p2 g9_36 g100_36)) T (mkF m 36 #[.val (.long w0), .second, .val (.long w1), .second, .val (.int p2), .val (.long (vx w0 w1 p2)), .second, .val (.long (vy w0 w1 p2)), .second, .val (.int g9_36), .unset, .unset, .unset, .unset] [(.int g100_36)]) := by
    intro T locs g9_36 g100_36 X N zs
    unfold f0_36
    refine own_st (T' := T) (f' := (mkF m 38 #[.val (.long w0), .second, .val (.long w1), .second, .val (.int p2), .val (.long (vx w0 w1 p2)), .second, .val (.long (vy w0 w1 p2)), .second, .val (.int g9_36), .val (.int g100_36), .unset, .unset, .unset] [])) ?_ (fun t q => XS.istore X.here hx rfl (hb hby at_36) rfl (l' := #[.val (.long w0), .second, .val (.long w1), .second, .val (.int p2), .val (.long (vx w0 w1 p2)), .second, .val (.long (vy w0 w1 p2)), .second, .val (.int g9_36), .val (.int g100_36), .unset, .unset, .unset]) rfl q)
    refine own_newT X hx hZ hown (hw _ (List.mem_of_getElem? (i := 0) rfl)) (hw _ (List.mem_of_getElem? (i := 1) rfl)) (hw _ (List.mem_of_getElem? (i := 2) rfl)) (hw _ (List.mem_of_getElem? (i := 15) rfl)) (hw _ (List.mem_of_getElem? (i := 17) rfl)) (hw _ (List.mem_of_getElem? (i := 35) rfl)) (by decide) (by decide) (hb hby at_38) (fun T4 b4 X4 ge4 E4 A4_b4 => ?_)
    have G4 : n0 ≤ b4 := Nat.le_trans zs ge4
    have zs4 : n0 ≤ T4.heap.size := Nat.le_trans zs E4.1
    show own_W _ _ _ _ _ _ _ T4 (mkF m 41 #[.val (.long w0), .second, .val (.long w1), .second, .val (.int p2), .val (.long (vx w0 w1 p2)), .second, .val (.long (vy w0 w1 p2)), .second, .val (.int g9_36), .val (.int g100_36), .unset, .unset, .unset] [(.ref b4)])
    refine own_st (T' := T4) (f' := (mkF m 42 #[.val (.long w0), .second, .val (.long w1), .second, .val (.int p2), .val (.long (vx w0 w1 p2)), .second, .val (.long (vy w0 w1 p2)), .second, .val (.int g9_36), .val (.int g100_36), .unset, .unset, .unset] [(.ref b4), (.ref b4)])) ?_ (fun t q => XS.dup X4.here hx rfl (hb hby at_41) rfl rfl q)
    obtain ⟨_, _, ⟨T5, L5, k5, n5⟩, -, X5, ⟨Lc5, hQ5, l5, y5, z5⟩, st5⟩ := X4.specialBack hx (y := (⟨"com/example/tollerance/tollerance/CallTally", "<init>", "()V"⟩ : MethodName)) rfl hown (mvT hZ (hw _ (List.mem_of_getElem? (i := 3) rfl))) (mvT hZ (hw _ (List.mem_of_getElem? (i := 4) rfl))) (mvT hZ (hw _ (List.mem_of_getElem? (i := 5) rfl))) (by decide) (backOf (W := 1) (rm1 l Z a0 hw [] b4 ((0 : Int64), (0 : Int64), (0 : Int64)) T4.heap n0 zs4 A4_b4) hZ (hw _ (List.mem_of_getElem? (i := 5) rfl)) (hw _ (List.mem_of_getElem? (i := 2) rfl)) (by decide) (by decide)) (g := (mkF m 42 #[.val (.long w0), .second, .val (.long w1), .second, .val (.int p2), .val (.long (vx w0 w1 p2)), .second, .val (.long (vy w0 w1 p2)), .second, .val (.int g9_36), .val (.int g100_36), .unset, .unset, .unset] [(.ref b4), (.ref b4)])) rfl (by rw [hml]; rfl) (Steps.refl _) (a := b4) (argsL := []) (rest := [(.ref b4)]) (lenOf pd_0 rfl) rfl (by show 2 * 0 + _ ≤ _; exact Nat.le_of_eq rfl) (hb hby at_42) (fun _ _ => ⟨rfl, rfl, (Nat.le_of_ble_eq_true rfl), (Nat.le_of_ble_eq_true rfl)⟩)
    dsimp only [Pt.U, Pt.locs, Pt.cells, Pt.slots] at X5 l5 y5 z5 st5 hQ5
    subst l5 y5 z5
    obtain ⟨rfl, N5q, e5⟩ := hQ5
    have N5 := Fr.app N N5q
    have zs5 : n0 ≤ T5.heap.size := by rw [e5]; exact zs4
    have A5_b4 := own_T.eq A4_b4 e5
    refine own_st (T' := T5) (f' := (mkF m 45 #[.val (.long w0), .second, .val (.long w1), .second, .val (.int p2), .val (.long (vx w0 w1 p2)), .second, .val (.long (vy w0 w1 p2)), .second, .val (.int g9_36), .val (.int g100_36), .unset, .unset, .unset] [(.ref b4)])) ?_ (fun t q => st5.trans q)
    refine own_st (T' := T5) (f' := (mkF m 47 #[.val (.long w0), .second, .val (.long w1), .second, .val (.int p2), .val (.long (vx w0 w1 p2)), .second, .val (.long (vy w0 w1 p2)), .second, .val (.int g9_36), .val (.int g100_36), .val (.ref b4), .unset, .unset] [])) ?_ (fun t q => XS.astore X5.here hx rfl (hb hby at_45) rfl rfl (l' := #[.val (.long w0), .second, .val (.long w1), .second, .val (.int p2), .val (.long (vx w0 w1 p2)), .second, .val (.long (vy w0 w1 p2)), .second, .val (.int g9_36), .val (.int g100_36), .val (.ref b4), .unset, .unset]) rfl q)
    refine own_st (T' := T5) (f' := (mkF m 49 #[.val (.long w0), .second, .val (.long w1), .second, .val (.int p2), .val (.long (vx w0 w1 p2)), .second, .val (.long (vy w0 w1 p2)), .second, .val (.int g9_36), .val (.int g100_36), .val (.ref b4), .unset, .unset] [(.ref b4)])) ?_ (fun t q => XS.aload X5.here hx rfl (hb hby at_47) rfl rfl q)
    refine own_st (T' := T5) (f' := (mkF m 51 #[.val (.long w0), .second, .val (.long w1), .second, .val (.int p2), .val (.long (vx w0 w1 p2)), .second, .val (.long (vy w0 w1 p2)), .second, .val (.int g9_36), .val (.int g100_36), .val (.ref b4), .unset, .unset] [(.long (vx w0 w1 p2)), (.ref b4)])) ?_ (fun t q => XS.lload X5.here hx rfl (hb hby at_49) rfl q)
    refine own_st (T' := T5) (f' := (mkF m 53 #[.val (.long w0), .second, .val (.long w1), .second, .val (.int p2), .val (.long (vx w0 w1 p2)), .second, .val (.long (vy w0 w1 p2)), .second, .val (.int g9_36), .val (.int g100_36), .val (.ref b4), .unset, .unset] [(.int g9_36), (.long (vx w0 w1 p2)), (.ref b4)])) ?_ (fun t q => XS.iload X5.here hx rfl (hb hby at_51) rfl q)
    obtain ⟨cq6, kq6, q6a, q6b, q6c⟩ := isOf (T := T5) hZ rfl A5_b4.1
    obtain ⟨_, _, ⟨T6, L6, k6, n6⟩, -, X6, ⟨Lc6, hQ6, l6, y6, z6⟩, st6⟩ := X5.virtualBack hx (y := (⟨"com/example/tollerance/tollerance/CallTally", "add", "(JZ)V"⟩ : MethodName)) (z := (⟨"com/example/tollerance/tollerance/CallTally", "add", "(JZ)V"⟩ : MethodName)) hown (mvT hZ (hw _ (List.mem_of_getElem? (i := 9) rfl))) (mvT hZ (hw _ (List.mem_of_getElem? (i := 10) rfl))) (notFace_of_selects (args := #[]) (mvT hZ (hw _ (List.mem_of_getElem? (i := 12) rfl)))) (mvT hZ (hw _ (List.mem_of_getElem? (i := 12) rfl))) (mvT hZ (hw _ (List.mem_of_getElem? (i := 11) rfl))) (by decide) (backOf (W := 0) (rm3 l Z a0 hw [] b4 (vx w0 w1 p2) g9_36 ((0 : Int64), (0 : Int64), (0 : Int64)) T5.heap n0 zs5 A5_b4 G4) hZ (hw _ (List.mem_of_getElem? (i := 13) rfl)) (hw _ (List.mem_of_getElem? (i := 2) rfl)) (by decide) (by decide)) q6a q6c (g := (mkF m 53 #[.val (.long w0), .second, .val (.long w1), .second, .val (.int p2), .val (.long (vx w0 w1 p2)), .second, .val (.long (vy w0 w1 p2)), .second, .val (.int g9_36), .val (.int g100_36), .val (.ref b4), .unset, .unset] [(.int g9_36), (.long (vx w0 w1 p2)), (.ref b4)])) rfl (by rw [hml]; rfl) (Steps.refl _) (argsL := [(.long (vx w0 w1 p2)), (.int g9_36)]) (rest := []) (lenOf pd_1 rfl) rfl (by show 2 * 0 + _ ≤ _; exact Nat.le_of_eq rfl) (hb hby at_53) (fun _ _ => ⟨rfl, rfl, (Nat.le_of_ble_eq_true rfl), (Nat.le_of_ble_eq_true rfl)⟩)
    dsimp only [Pt.U, Pt.locs, Pt.cells, Pt.slots] at X6 l6 y6 z6 st6 hQ6
    subst l6 y6 z6
    obtain ⟨rfl, N6q, K6, A6_b4⟩ := hQ6
    have N6 := Fr.app N5 N6q
    have zs6 : n0 ≤ T6.heap.size := Nat.le_trans zs5 K6.1
    refine own_st (T' := T6) (f' := (mkF m 56 #[.val (.long w0), .second, .val (.long w1), .second, .val (.int p2), .val (.long (vx w0 w1 p2)), .second, .val (.long (vy w0 w1 p2)), .second, .val (.int g9_36), .val (.int g100_36), .val (.ref b4), .unset, .unset] [])) ?_ (fun t q => st6.trans q)
    refine own_st (T' := T6) (f' := (mkF m 58 #[.val (.long w0), .second, .val (.long w1), .second, .val (.int p2), .val (.long (vx w0 w1 p2)), .second, .val (.long (vy w0 w1 p2)), .second, .val (.int g9_36), .val (.int g100_36), .val (.ref b4), .unset, .unset] [(.ref b4)])) ?_ (fun t q => XS.aload X6.here hx rfl (hb hby at_56) rfl rfl q)
    refine own_st (T' := T6) (f' := (mkF m 60 #[.val (.long w0), .second, .val (.long w1), .second, .val (.int p2), .val (.long (vx w0 w1 p2)), .second, .val (.long (vy w0 w1 p2)), .second, .val (.int g9_36), .val (.int g100_36), .val (.ref b4), .unset, .unset] [(.long (vy w0 w1 p2)), (.ref b4)])) ?_ (fun t q => XS.lload X6.here hx rfl (hb hby at_58) rfl q)
    refine own_st (T' := T6) (f' := (mkF m 62 #[.val (.long w0), .second, .val (.long w1), .second, .val (.int p2), .val (.long (vx w0 w1 p2)), .second, .val (.long (vy w0 w1 p2)), .second, .val (.int g9_36), .val (.int g100_36), .val (.ref b4), .unset, .unset] [(.int g100_36), (.long (vy w0 w1 p2)), (.ref b4)])) ?_ (fun t q => XS.iload X6.here hx rfl (hb hby at_60) rfl q)
    obtain ⟨cq7, kq7, q7a, q7b, q7c⟩ := isOf (T := T6) hZ rfl A6_b4.1
    obtain ⟨_, _, ⟨T7, L7, k7, n7⟩, -, X7, ⟨Lc7, hQ7, l7, y7, z7⟩, st7⟩ := X6.virtualBack hx (y := (⟨"com/example/tollerance/tollerance/CallTally", "add", "(JZ)V"⟩ : MethodName)) (z := (⟨"com/example/tollerance/tollerance/CallTally", "add", "(JZ)V"⟩ : MethodName)) hown (mvT hZ (hw _ (List.mem_of_getElem? (i := 9) rfl))) (mvT hZ (hw _ (List.mem_of_getElem? (i := 10) rfl))) (notFace_of_selects (args := #[]) (mvT hZ (hw _ (List.mem_of_getElem? (i := 12) rfl)))) (mvT hZ (hw _ (List.mem_of_getElem? (i := 12) rfl))) (mvT hZ (hw _ (List.mem_of_getElem? (i := 11) rfl))) (by decide) (backOf (W := 0) (rm3 l Z a0 hw [] b4 (vy w0 w1 p2) g100_36 (f3 (vx w0 w1 p2) g9_36 ((0 : Int64), (0 : Int64), (0 : Int64))) T6.heap n0 zs6 A6_b4 G4) hZ (hw _ (List.mem_of_getElem? (i := 13) rfl)) (hw _ (List.mem_of_getElem? (i := 2) rfl)) (by decide) (by decide)) q7a q7c (g := (mkF m 62 #[.val (.long w0), .second, .val (.long w1), .second, .val (.int p2), .val (.long (vx w0 w1 p2)), .second, .val (.long (vy w0 w1 p2)), .second, .val (.int g9_36), .val (.int g100_36), .val (.ref b4), .unset, .unset] [(.int g100_36), (.long (vy w0 w1 p2)), (.ref b4)])) rfl (by rw [hml]; rfl) (Steps.refl _) (argsL := [(.long (vy w0 w1 p2)), (.int g100_36)]) (rest := []) (lenOf pd_1 rfl) rfl (by show 2 * 0 + _ ≤ _; exact Nat.le_of_eq rfl) (hb hby at_62) (fun _ _ => ⟨rfl, rfl, (Nat.le_of_ble_eq_true rfl), (Nat.le_of_ble_eq_true rfl)⟩)
    dsimp only [Pt.U, Pt.locs, Pt.cells, Pt.slots] at X7 l7 y7 z7 st7 hQ7
    subst l7 y7 z7
    obtain ⟨rfl, N7q, K7, A7_b4⟩ := hQ7
    have N7 := Fr.app N6 N7q
    have zs7 : n0 ≤ T7.heap.size := Nat.le_trans zs6 K7.1
    refine own_st (T' := T7) (f' := (mkF m 65 #[.val (.long w0), .second, .val (.long w1), .second, .val (.int p2), .val (.long (vx w0 w1 p2)), .second, .val (.long (vy w0 w1 p2)), .second, .val (.int g9_36), .val (.int g100_36), .val (.ref b4), .unset, .unset] [])) ?_ (fun t q => st7.trans q)
    refine own_st (T' := T7) (f' := (mkF m 66 #[.val (.long w0), .second, .val (.long w1), .second, .val (.int p2), .val (.long (vx w0 w1 p2)), .second, .val (.long (vy w0 w1 p2)), .second, .val (.int g9_36), .val (.int g100_36), .val (.ref b4), .unset, .unset] [(.long (0 : Int64))])) ?_ (fun t q => XS.lconst X7.here hx rfl (hb hby at_65) q)
    refine own_st (T' := T7) (f' := (mkF m 68 #[.val (.long w0), .second, .val (.long w1), .second, .val (.int p2), .val (.long (vx w0 w1 p2)), .second, .val (.long (vy w0 w1 p2)), .second, .val (.int g9_36), .val (.int g100_36), .val (.ref b4), .val (.long (0 : Int64)), .second] [])) ?_ (fun t q => XS.lstore X7.here hx rfl (hb hby at_66) rfl (l' := #[.val (.long w0), .second, .val (.long w1), .second, .val (.int p2), .val (.long (vx w0 w1 p2)), .second, .val (.long (vy w0 w1 p2)), .second, .val (.int g9_36), .val (.int g100_36), .val (.ref b4), .val (.long (0 : Int64)), .second]) rfl q)
    refine own_st (T' := T7) (f' := (mkF m 70 #[.val (.long w0), .second, .val (.long w1), .second, .val (.int p2), .val (.long (vx w0 w1 p2)), .second, .val (.long (vy w0 w1 p2)), .second, .val (.int g9_36), .val (.int g100_36), .val (.ref b4), .val (.long (0 : Int64)), .second] [(.int g9_36)])) ?_ (fun t q => XS.iload X7.here hx rfl (hb hby at_68) rfl q)
    refine own_ite (fun hc70 => ?_) (fun hc70 => ?_)
    · refine own_st (T' := T7) (f' := (mkF m 80 #[.val (.long w0), .second, .val (.long w1), .second, .val (.int p2), .val (.long (vx w0 w1 p2)), .second, .val (.long (vy w0 w1 p2)), .second, .val (.int g9_36), .val (.int g100_36), .val (.ref b4), .val (.long (0 : Int64)), .second] [])) ?_ (fun t q => XS.ifYes X7.here hx rfl (pc0 := 70) (pc' := 80) rfl (hb hby at_70) rfl ((if0 _ _).trans (teq hc70).1) (by decide) (by decide) q)
      exact B80 T7 _ g9_36 g100_36 b4 (0 : Int64) (f3 (vy w0 w1 p2) g100_36 (f3 (vx w0 w1 p2) g9_36 ((0 : Int64), (0 : Int64), (0 : Int64)))) X7 N7 zs7 G4 A7_b4
    · refine own_st (T' := T7) (f' := (mkF m 73 #[.val (.long w0), .second, .val (.long w1), .second, .val (.int p2), .val (.long (vx w0 w1 p2)), .second, .val (.long (vy w0 w1 p2)), .second, .val (.int g9_36), .val (.int g100_36), .val (.ref b4), .val (.long (0 : Int64)), .second] [])) ?_ (fun t q => XS.ifNo X7.here hx rfl (hb hby at_70) rfl ((if0 _ _).trans (feq hc70).1) q)
      refine own_st (T' := T7) (f' := (mkF m 75 #[.val (.long w0), .second, .val (.long w1), .second, .val (.int p2), .val (.long (vx w0 w1 p2)), .second, .val (.long (vy w0 w1 p2)), .second, .val (.int g9_36), .val (.int g100_36), .val (.ref b4), .val (.long (0 : Int64)), .second] [(.long (0 : Int64))])) ?_ (fun t q => XS.lload X7.here hx rfl (hb hby at_73) rfl q)
      refine own_st (T' := T7) (f' := (mkF m 77 #[.val (.long w0), .second, .val (.long w1), .second, .val (.int p2), .val (.long (vx w0 w1 p2)), .second, .val (.long (vy w0 w1 p2)), .second, .val (.int g9_36), .val (.int g100_36), .val (.ref b4), .val (.long (0 : Int64)), .second] [(.long (vx w0 w1 p2)), (.long (0 : Int64))])) ?_ (fun t q => XS.lload X7.here hx rfl (hb hby at_75) rfl q)
      refine own_st (T' := T7) (f' := (mkF m 78 #[.val (.long w0), .second, .val (.long w1), .second, .val (.int p2), .val (.long (vx w0 w1 p2)), .second, .val (.long (vy w0 w1 p2)), .second, .val (.int g9_36), .val (.int g100_36), .val (.ref b4), .val (.long (0 : Int64)), .second] [(.long ((0 : Int64) + (vx w0 w1 p2)))])) ?_ (fun t q => XS.ladd X7.here hx rfl (hb hby at_77) rfl q)
      refine own_st (T' := T7) (f' := (mkF m 80 #[.val (.long w0), .second, .val (.long w1), .second, .val (.int p2), .val (.long (vx w0 w1 p2)), .second, .val (.long (vy w0 w1 p2)), .second, .val (.int g9_36), .val (.int g100_36), .val (.ref b4), .val (.long ((0 : Int64) + (vx w0 w1 p2))), .second] [])) ?_ (fun t q => XS.lstore X7.here hx rfl (hb hby at_78) rfl (l' := #[.val (.long w0), .second, .val (.long w1), .second, .val (.int p2), .val (.long (vx w0 w1 p2)), .second, .val (.long (vy w0 w1 p2)), .second, .val (.int g9_36), .val (.int g100_36), .val (.ref b4), .val (.long ((0 : Int64) + (vx w0 w1 p2))), .second]) rfl q)
      exact B80 T7 _ g9_36 g100_36 b4 ((0 : Int64) + (vx w0 w1 p2)) (f3 (vy w0 w1 p2) g100_36 (f3 (vx w0 w1 p2) g9_36 ((0 : Int64), (0 : Int64), (0 : Int64)))) X7 N7 zs7 G4 A7_b4
  have B22 : ∀ (T : State) (locs : List Loc) (g100_22 : Int32) (X : Stand p l e room_1 s m #[(.long w0), (.long w1), (.int p2)] below meth c T locs 0 0) (N : Fr n0 locs) (zs : n0 ≤ T.heap.size), own_W p e below s 1 3 (own_GI n0 (fun _ => True) (f0_22 w0 w1 p2 g100_22)) T (mkF m 22 #[.val (.long w0), .second, .val (.long w1), .second, .val (.int p2), .val (.long (vx w0 w1 p2)), .second, .val (.long (vy w0 w1 p2)), .second, .unset, .unset, .unset, .unset, .unset] [(.int g100_22)]) := by
    intro T locs g100_22 X N zs
    unfold f0_22
    refine own_st (T' := T) (f' := (mkF m 24 #[.val (.long w0), .second, .val (.long w1), .second, .val (.int p2), .val (.long (vx w0 w1 p2)), .second, .val (.long (vy w0 w1 p2)), .second, .val (.int g100_22), .unset, .unset, .unset, .unset] [])) ?_ (fun t q => XS.istore X.here hx rfl (hb hby at_22) rfl (l' := #[.val (.long w0), .second, .val (.long w1), .second, .val (.int p2), .val (.long (vx w0 w1 p2)), .second, .val (.long (vy w0 w1 p2)), .second, .val (.int g100_22), .unset, .unset, .unset, .unset]) rfl q)
    refine own_st (T' := T) (f' := (mkF m 26 #[.val (.long w0), .second, .val (.long w1), .second, .val (.int p2), .val (.long (vx w0 w1 p2)), .second, .val (.long (vy w0 w1 p2)), .second, .val (.int g100_22), .unset, .unset, .unset, .unset] [(.int p2)])) ?_ (fun t q => XS.iload X.here hx rfl (hb hby at_24) rfl q)
    refine own_st (T' := T) (f' := (mkF m 27 #[.val (.long w0), .second, .val (.long w1), .second, .val (.int p2), .val (.long (vx w0 w1 p2)), .second, .val (.long (vy w0 w1 p2)), .second, .val (.int g100_22), .unset, .unset, .unset, .unset] [(.int (2 : Int32)), (.int p2)])) ?_ (fun t q => XS.iconst X.here hx rfl (hb hby at_26) q)
    refine own_st (T' := T) (f' := (mkF m 28 #[.val (.long w0), .second, .val (.long w1), .second, .val (.int p2), .val (.long (vx w0 w1 p2)), .second, .val (.long (vy w0 w1 p2)), .second, .val (.int g100_22), .unset, .unset, .unset, .unset] [(.int (p2 &&& (2 : Int32)))])) ?_ (fun t q => XS.iand X.here hx rfl (hb hby at_27) rfl q)
    refine own_ite (fun hc28 => ?_) (fun hc28 => ?_)
    · refine own_st (T' := T) (f' := (mkF m 35 #[.val (.long w0), .second, .val (.long w1), .second, .val (.int p2), .val (.long (vx w0 w1 p2)), .second, .val (.long (vy w0 w1 p2)), .second, .val (.int g100_22), .unset, .unset, .unset, .unset] [])) ?_ (fun t q => XS.ifYes X.here hx rfl (pc0 := 28) (pc' := 35) rfl (hb hby at_28) rfl ((if0 _ _).trans (teq hc28).1) (by decide) (by decide) q)
      refine own_st (T' := T) (f' := (mkF m 36 #[.val (.long w0), .second, .val (.long w1), .second, .val (.int p2), .val (.long (vx w0 w1 p2)), .second, .val (.long (vy w0 w1 p2)), .second, .val (.int g100_22), .unset, .unset, .unset, .unset] [(.int (0 : Int32))])) ?_ (fun t q => XS.iconst X.here hx rfl (hb hby at_35) q)
      exact B36 T _ g100_22 (0 : Int32) X N zs
    · refine own_st (T' := T) (f' := (mkF m 31 #[.val (.long w0), .second, .val (.long w1), .second, .val (.int p2), .val (.long (vx w0 w1 p2)), .second, .val (.long (vy w0 w1 p2)), .second, .val (.int g100_22), .unset, .unset, .unset, .unset] [])) ?_ (fun t q => XS.ifNo X.here hx rfl (hb hby at_28) rfl ((if0 _ _).trans (feq hc28).1) q)
      refine own_st (T' := T) (f' := (mkF m 32 #[.val (.long w0), .second, .val (.long w1), .second, .val (.int p2), .val (.long (vx w0 w1 p2)), .second, .val (.long (vy w0 w1 p2)), .second, .val (.int g100_22), .unset, .unset, .unset, .unset] [(.int (1 : Int32))])) ?_ (fun t q => XS.iconst X.here hx rfl (hb hby at_31) q)
      refine own_st (T' := T) (f' := (mkF m 36 #[.val (.long w0), .second, .val (.long w1), .second, .val (.int p2), .val (.long (vx w0 w1 p2)), .second, .val (.long (vy w0 w1 p2)), .second, .val (.int g100_22), .unset, .unset, .unset, .unset] [(.int (1 : Int32))])) ?_ (fun t q => XS.goto X.here hx rfl (pc0 := 32) (pc' := 36) rfl (hb hby at_32) (by decide) (by decide) q)
      exact B36 T _ g100_22 (1 : Int32) X N zs
  show own_W p e below s 1 3 (own_GI n0 (fun _ => True) (f0 w0 w1 p2)) s₁ (entryFrame m #[(.long w0), (.long w1), (.int p2)] maxLocals)
  refine own_to (ef_0 m w0 w1 p2) ?_
  unfold f0
  refine own_st (T' := s₁) (f' := (mkF m 1 #[.val (.long w0), .second, .val (.long w1), .second, .val (.int p2), .unset, .unset, .unset, .unset, .unset, .unset, .unset, .unset, .unset] [(.long w0)])) ?_ (fun t q => XS.lloadN X0.here hx rfl (hb hby at_0) rfl q)
  refine own_st (T' := s₁) (f' := (mkF m 2 #[.val (.long w0), .second, .val (.long w1), .second, .val (.int p2), .unset, .unset, .unset, .unset, .unset, .unset, .unset, .unset, .unset] [(.int (2 : Int32)), (.long w0)])) ?_ (fun t q => XS.iconst X0.here hx rfl (hb hby at_1) q)
  refine own_st (T' := s₁) (f' := (mkF m 3 #[.val (.long w0), .second, .val (.long w1), .second, .val (.int p2), .unset, .unset, .unset, .unset, .unset, .unset, .unset, .unset, .unset] [(.long (w0 >>> ((2 : Int32) &&& 0x3f).toInt64))])) ?_ (fun t q => XS.lshr X0.here hx rfl (hb hby at_2) rfl q)
  refine own_st (T' := s₁) (f' := (mkF m 5 #[.val (.long w0), .second, .val (.long w1), .second, .val (.int p2), .val (.long (vx w0 w1 p2)), .second, .unset, .unset, .unset, .unset, .unset, .unset, .unset] [])) ?_ (fun t q => XS.lstore X0.here hx rfl (hb hby at_3) rfl (l' := #[.val (.long w0), .second, .val (.long w1), .second, .val (.int p2), .val (.long (vx w0 w1 p2)), .second, .unset, .unset, .unset, .unset, .unset, .unset, .unset]) rfl q)
  refine own_st (T' := s₁) (f' := (mkF m 6 #[.val (.long w0), .second, .val (.long w1), .second, .val (.int p2), .val (.long (vx w0 w1 p2)), .second, .unset, .unset, .unset, .unset, .unset, .unset, .unset] [(.long w1)])) ?_ (fun t q => XS.lloadN X0.here hx rfl (hb hby at_5) rfl q)
  refine own_st (T' := s₁) (f' := (mkF m 7 #[.val (.long w0), .second, .val (.long w1), .second, .val (.int p2), .val (.long (vx w0 w1 p2)), .second, .unset, .unset, .unset, .unset, .unset, .unset, .unset] [(.int (2 : Int32)), (.long w1)])) ?_ (fun t q => XS.iconst X0.here hx rfl (hb hby at_6) q)
  refine own_st (T' := s₁) (f' := (mkF m 8 #[.val (.long w0), .second, .val (.long w1), .second, .val (.int p2), .val (.long (vx w0 w1 p2)), .second, .unset, .unset, .unset, .unset, .unset, .unset, .unset] [(.long (w1 >>> ((2 : Int32) &&& 0x3f).toInt64))])) ?_ (fun t q => XS.lshr X0.here hx rfl (hb hby at_7) rfl q)
  refine own_st (T' := s₁) (f' := (mkF m 10 #[.val (.long w0), .second, .val (.long w1), .second, .val (.int p2), .val (.long (vx w0 w1 p2)), .second, .val (.long (vy w0 w1 p2)), .second, .unset, .unset, .unset, .unset, .unset] [])) ?_ (fun t q => XS.lstore X0.here hx rfl (hb hby at_8) rfl (l' := #[.val (.long w0), .second, .val (.long w1), .second, .val (.int p2), .val (.long (vx w0 w1 p2)), .second, .val (.long (vy w0 w1 p2)), .second, .unset, .unset, .unset, .unset, .unset]) rfl q)
  refine own_st (T' := s₁) (f' := (mkF m 12 #[.val (.long w0), .second, .val (.long w1), .second, .val (.int p2), .val (.long (vx w0 w1 p2)), .second, .val (.long (vy w0 w1 p2)), .second, .unset, .unset, .unset, .unset, .unset] [(.int p2)])) ?_ (fun t q => XS.iload X0.here hx rfl (hb hby at_10) rfl q)
  refine own_st (T' := s₁) (f' := (mkF m 13 #[.val (.long w0), .second, .val (.long w1), .second, .val (.int p2), .val (.long (vx w0 w1 p2)), .second, .val (.long (vy w0 w1 p2)), .second, .unset, .unset, .unset, .unset, .unset] [(.int (1 : Int32)), (.int p2)])) ?_ (fun t q => XS.iconst X0.here hx rfl (hb hby at_12) q)
  refine own_st (T' := s₁) (f' := (mkF m 14 #[.val (.long w0), .second, .val (.long w1), .second, .val (.int p2), .val (.long (vx w0 w1 p2)), .second, .val (.long (vy w0 w1 p2)), .second, .unset, .unset, .unset, .unset, .unset] [(.int (p2 &&& (1 : Int32)))])) ?_ (fun t q => XS.iand X0.here hx rfl (hb hby at_13) rfl q)
  refine own_ite (fun hc14 => ?_) (fun hc14 => ?_)
  · refine own_st (T' := s₁) (f' := (mkF m 21 #[.val (.long w0), .second, .val (.long w1), .second, .val (.int p2), .val (.long (vx w0 w1 p2)), .second, .val (.long (vy w0 w1 p2)), .second, .unset, .unset, .unset, .unset, .unset] [])) ?_ (fun t q => XS.ifYes X0.here hx rfl (pc0 := 14) (pc' := 21) rfl (hb hby at_14) rfl ((if0 _ _).trans (teq hc14).1) (by decide) (by decide) q)
    refine own_st (T' := s₁) (f' := (mkF m 22 #[.val (.long w0), .second, .val (.long w1), .second, .val (.int p2), .val (.long (vx w0 w1 p2)), .second, .val (.long (vy w0 w1 p2)), .second, .unset, .unset, .unset, .unset, .unset] [(.int (0 : Int32))])) ?_ (fun t q => XS.iconst X0.here hx rfl (hb hby at_21) q)
    exact B22 s₁ _ (0 : Int32) X0 N0 zs0
  · refine own_st (T' := s₁) (f' := (mkF m 17 #[.val (.long w0), .second, .val (.long w1), .second, .val (.int p2), .val (.long (vx w0 w1 p2)), .second, .val (.long (vy w0 w1 p2)), .second, .unset, .unset, .unset, .unset, .unset] [])) ?_ (fun t q => XS.ifNo X0.here hx rfl (hb hby at_14) rfl ((if0 _ _).trans (feq hc14).1) q)
    refine own_st (T' := s₁) (f' := (mkF m 18 #[.val (.long w0), .second, .val (.long w1), .second, .val (.int p2), .val (.long (vx w0 w1 p2)), .second, .val (.long (vy w0 w1 p2)), .second, .unset, .unset, .unset, .unset, .unset] [(.int (1 : Int32))])) ?_ (fun t q => XS.iconst X0.here hx rfl (hb hby at_17) q)
    refine own_st (T' := s₁) (f' := (mkF m 22 #[.val (.long w0), .second, .val (.long w1), .second, .val (.int p2), .val (.long (vx w0 w1 p2)), .second, .val (.long (vy w0 w1 p2)), .second, .unset, .unset, .unset, .unset, .unset] [(.int (1 : Int32))])) ?_ (fun t q => XS.goto X0.here hx rfl (pc0 := 18) (pc' := 22) rfl (hb hby at_18) (by decide) (by decide) q)
    exact B22 s₁ _ (1 : Int32) X0 N0 zs0

theorem own_law (w0 w1 : Int64) (p2 : Int32) : f0 w0 w1 p2 = 1 := by
  by_cases h1 : (p2 &&& (1 : Int32)) = 0 <;> by_cases h2 : (p2 &&& (2 : Int32)) = 0 <;> simp [f0, f0_92, f0_80, f0_36, f0_22, f3, h1, h2]
set_option maxRecDepth 65536 in
set_option maxHeartbeats 40000000 in
theorem comes_1 {Post : Tables → Env → Array Value → State → Outcome → State → Prop} (hpost : ∀ tb e args s v u, (limb_1_1.after args s (.returned v) u = true ∧ limb_1_2.after args s (.returned v) u = true ∧ True) → FrameEnd s (.returned v) u (Jvm.fieldLocs frame_1_writes args s ++ Jvm.arrayLocs frame_1_arrays args s ++ Jvm.staticLocs frame_1_statics s) 16 128 → Post tb e args s (.returned v) u) :
    ArmFor flags0 classFile x code maxLocals ret World_1 tables_1 room_1 Calls_1 rest_1 Pre_1 Post := by
  intro l hfl _ _ p e ha hc hk s m args below hf hA hF happ hP
  obtain ⟨hcalls, hrest, hpre⟩ := hP
  obtain ⟨-, -, -, hnamed, -, -, -, hat⟩ := (Spec.applies_iff hf).mp happ
  obtain ⟨hg, hn⟩ := and_e (Cond.before_iff.mp (show (Jvm.Cond.and given_1 narrow_1).before args s = true from hpre))
  obtain ⟨hcnt, g0⟩ := and_e hg
  obtain ⟨t0, g1⟩ := and_e g0
  obtain ⟨t1, g2⟩ := and_e g1
  have t2 := g2
  obtain ⟨w0, w1, w2, rfl⟩ : ∃ w0 w1 w2 : Value, args = #[w0, w1, w2] := by
    have hs : args.size = 3 := by simpa [Cond.value, given_1] using hcnt
    obtain ⟨L⟩ := args
    match L, hs with
    | [w0, w1, w2], _ => exact ⟨w0, w1, w2, rfl⟩
  have hw := fun d (hd : d ∈ tables_1) => atoms_spec (ws := Jvm.Cond.code x code maxLocals ret :: tables_1) hat d (List.mem_cons_of_mem _ hd)
  obtain ⟨i0, ei0⟩ := isL_v t0
  obtain rfl : w0 = (.long i0) := Option.some.inj ei0
  obtain ⟨i1, ei1⟩ := isL_v t1
  obtain rfl : w1 = (.long i1) := Option.some.inj ei1
  obtain ⟨i2, ei2⟩ := is_v t2
  obtain rfl : w2 = (.int i2) := Option.some.inj ei2
  obtain ⟨n, o, h1, h2, h3, v, L, rfl, ⟨hv, N, -⟩, hq⟩ := rm0 l s _ hw tables_1 i0 i1 i2 s.heap s.heap.size (Nat.le_refl _) p e ha hc hk s m _ below hf ((Spec.applies_iff_loose hf).mp happ).1 ⟨rfl, State.Warmed39.refl s, rfl⟩ trivial
  obtain rfl : v = some (.int 1) := by rw [hv, own_law]
  refine ⟨n, _, h1, h2, h3, hpost _ _ _ _ _ _ ⟨Cond.after_iff.mpr rfl, Cond.after_iff.mpr (eq_i res_at (Term.int_eval (1)) rfl), trivial⟩ ⟨hq.1, hq.2.1, (hq.2.2.sift fun y hy => Or.inr (N y hy)).mono (by decide) (by decide)⟩⟩
theorem main_1_1 : Claimed_1_1 := comes_1 fun _ _ _ _ _ _ h hF => ⟨h.1, hF⟩
theorem main_1_2 : Claimed_1_2 := comes_1 fun _ _ _ _ _ _ h hF => ⟨h.2.1, hF⟩
end Jvm.Pilot.@@N@@
namespace Jvm.Pilot.@@N@@
open Jvm Jvm.ClassFile Sem Op Lib Jvm.Free Jvm.Stand Jvm.Pilot.@@N@@.Jvm.D
/-! MADE BY PROGRAM (witnessworld.py) out of the Statement's table words and the real class files: 9 classes; the members and pool entries that the words name. The judged class is class 1, her method 1. -/
namespace start1
open Jvm.ClassFile
def u (s : String) : CpInfo := .utf8 (stringToUtf16 s)
/-- a pool by its gaps: so many unusable entries, then the entry; so many at the end -/
def gap : Nat → List CpInfo → List CpInfo
  | 0, r => r
  | n + 1, r => .unusable :: gap n r
def poolList (es : List (Nat × CpInfo)) (last : Nat) : List CpInfo := es.foldr (fun e r => gap e.1 (e.2 :: r)) (gap last [])
def pool (es : List (Nat × CpInfo)) (last : Nat) : Array CpInfo := ⟨poolList es last⟩
def fileOf (pool : Array CpInfo) (this : Nat) (attrs : Array Attribute := #[]) (ms : Array MethodInfo := #[]) (fl : Nat := 33) (sup : Nat := 0) (ifs : Array Nat := #[]) (fds : Array FieldInfo := #[]) : ClassFile where
  minorVersion := 0
  majorVersion := 65
  constantPool := pool
  accessFlags := fl
  thisClass := this
  superClass := sup
  interfaces := ifs
  fields := fds
  methods := ms
  attributes := attrs
def plain (name : String) (sup : Option ClassId) : Class where
  name := name
  kind := .ordinary
  loader := none
  accessFlags := 33
  super := sup
  interfaces := #[]
  cf := none
  fields := #[]
  methods := #[]
  instanceTypes := #[]
  staticTypes := #[]
  resolved := #[]
  callSites := []
  init := .initialized
  statics := none
  mirror := none

def pool0 : Array CpInfo := pool [(5, u "<init>"), (0, u "()V"), (1, .class_ 10), (1, u "java/lang/Object")] 113

def k0c0 : Code := { maxStack := 0, maxLocals := 1, code := object_method_1_code, exceptionTable := #[], attributes := #[] }
def k0m0 : Method := { name := "<init>", desc := "()V", sig := { parameters := [], returnType := none }, accessFlags := 1, code := some k0c0 }
/-- java/lang/Object -/
def k0 : Class := { plain "java/lang/Object" none with
  accessFlags := 33
  interfaces := #[]
  cf := some (fileOf pool0 8 #[] #[{ accessFlags := 1, nameIndex := 5, descriptorIndex := 6, attributes := #[] }] 33 0 #[] #[])
  fields := #[]
  methods := #[k0m0]
  instanceTypes := #[]
  staticTypes := #[]
  resolved := Array.replicate 124 none
  statics := none }

def pool1 : Array CpInfo := pool [(2, .class_ 4), (0, .nameAndType 5 6), (0, u "java/lang/Object"), (0, u "<init>"), (0, u "()V"), (0, .class_ 8), (0, u "com/example/tollerance/tollerance/CallTally"), (0, .methodref 7 3), (0, .methodref 7 11), (0, .nameAndType 12 13), (0, u "add"), (0, u "(JZ)V"), (0, .methodref 7 15), (0, .nameAndType 16 17), (0, u "calls"), (0, u "()J"), (0, .long 2), (1, .methodref 7 21), (0, .nameAndType 22 17), (0, u "seconds"), (0, .methodref 7 24), (0, .nameAndType 25 17), (0, u "ipSeconds"), (0, .class_ 27), (0, u "com/example/tollerance/tollerance/CallTallyAdd63PinLaw"), (2, u "law"), (0, u "(JJI)Z")] 3

def k1m0 : Method := { name := "<init>", desc := "()V", sig := { parameters := [], returnType := none }, accessFlags := 1, code := none }
def k1c1 : Code := { maxStack := 6, maxLocals := 14, code := code, exceptionTable := #[], attributes := #[] }
def k1m1 : Method := { name := "law", desc := "(JJI)Z", sig := { parameters := [.long, .long, .int], returnType := some .boolean }, accessFlags := 9, code := some k1c1 }
/-- com/example/tollerance/tollerance/CallTallyAdd63PinLaw -/
def k1 : Class := { plain "com/example/tollerance/tollerance/CallTallyAdd63PinLaw" (some 0) with
  accessFlags := 49
  interfaces := #[]
  cf := some (fileOf pool1 26 #[] #[{ accessFlags := 1, nameIndex := 5, descriptorIndex := 6, attributes := #[] }, { accessFlags := 9, nameIndex := 30, descriptorIndex := 31, attributes := #[] }] 49 2 #[] #[])
  fields := #[]
  methods := #[k1m0, k1m1]
  instanceTypes := #[]
  staticTypes := #[]
  resolved := Array.replicate 35 none
  statics := none }

def pool2 : Array CpInfo := pool [(1, .methodref 2 3), (0, .class_ 4), (0, .nameAndType 5 6), (0, u "java/lang/Object"), (0, u "<init>"), (0, u "()V"), (0, .fieldref 8 9), (0, .class_ 10), (0, .nameAndType 11 12), (0, u "com/example/tollerance/tollerance/CallTally"), (0, u "calls"), (0, u "J"), (0, .fieldref 8 14), (0, .nameAndType 15 12), (0, u "seconds"), (0, .fieldref 8 17), (0, .nameAndType 18 12), (0, u "ipSeconds"), (0, u "CALLS"), (0, u "Ljava/lang/String;"), (2, u "SECONDS"), (1, u "IP_SECONDS"), (4, u "add"), (0, u "(JZ)V"), (2, u "()J")] 2

def k2c0 : Code := { maxStack := 1, maxLocals := 1, code := prog_8_method_1_code, exceptionTable := #[], attributes := #[] }
def k2m0 : Method := { name := "<init>", desc := "()V", sig := { parameters := [], returnType := none }, accessFlags := 0, code := some k2c0 }
def k2c1 : Code := { maxStack := 5, maxLocals := 4, code := prog_8_method_2_code, exceptionTable := #[], attributes := #[] }
def k2m1 : Method := { name := "add", desc := "(JZ)V", sig := { parameters := [.long, .boolean], returnType := none }, accessFlags := 0, code := some k2c1 }
def k2c2 : Code := { maxStack := 2, maxLocals := 1, code := prog_8_method_4_code, exceptionTable := #[], attributes := #[] }
def k2m2 : Method := { name := "calls", desc := "()J", sig := { parameters := [], returnType := some .long }, accessFlags := 0, code := some k2c2 }
def k2c3 : Code := { maxStack := 2, maxLocals := 1, code := prog_8_method_5_code, exceptionTable := #[], attributes := #[] }
def k2m3 : Method := { name := "seconds", desc := "()J", sig := { parameters := [], returnType := some .long }, accessFlags := 0, code := some k2c3 }
def k2c4 : Code := { maxStack := 2, maxLocals := 1, code := prog_8_method_6_code, exceptionTable := #[], attributes := #[] }
def k2m4 : Method := { name := "ipSeconds", desc := "()J", sig := { parameters := [], returnType := some .long }, accessFlags := 0, code := some k2c4 }
/-- com/example/tollerance/tollerance/CallTally -/
def k2 : Class := { plain "com/example/tollerance/tollerance/CallTally" (some 0) with
  accessFlags := 48
  interfaces := #[]
  cf := some (fileOf pool2 8 #[] #[{ accessFlags := 0, nameIndex := 5, descriptorIndex := 6, attributes := #[] }, { accessFlags := 0, nameIndex := 30, descriptorIndex := 31, attributes := #[] }, { accessFlags := 0, nameIndex := 11, descriptorIndex := 34, attributes := #[] }, { accessFlags := 0, nameIndex := 15, descriptorIndex := 34, attributes := #[] }, { accessFlags := 0, nameIndex := 18, descriptorIndex := 34, attributes := #[] }] 48 2 #[] #[{ accessFlags := 24, nameIndex := 19, descriptorIndex := 20, attributes := #[] }, { accessFlags := 24, nameIndex := 23, descriptorIndex := 20, attributes := #[] }, { accessFlags := 24, nameIndex := 25, descriptorIndex := 20, attributes := #[] }, { accessFlags := 2, nameIndex := 11, descriptorIndex := 12, attributes := #[] }, { accessFlags := 2, nameIndex := 15, descriptorIndex := 12, attributes := #[] }, { accessFlags := 2, nameIndex := 18, descriptorIndex := 12, attributes := #[] }])
  fields := #[{ name := "CALLS", type := (.object "java/lang/String"), accessFlags := 24, slot := 0, constantValue := 0 }, { name := "SECONDS", type := (.object "java/lang/String"), accessFlags := 24, slot := 1, constantValue := 0 }, { name := "IP_SECONDS", type := (.object "java/lang/String"), accessFlags := 24, slot := 2, constantValue := 0 }, { name := "calls", type := .long, accessFlags := 2, slot := 0, constantValue := 0 }, { name := "seconds", type := .long, accessFlags := 2, slot := 1, constantValue := 0 }, { name := "ipSeconds", type := .long, accessFlags := 2, slot := 2, constantValue := 0 }]
  methods := #[k2m0, k2m1, k2m2, k2m3, k2m4]
  instanceTypes := #[.long, .long, .long]
  staticTypes := #[(.object "java/lang/String"), (.object "java/lang/String"), (.object "java/lang/String")]
  resolved := Array.replicate 37 none
  statics := none }

def pool3 : Array CpInfo := pool [(1, u "java/lang/Cloneable"), (0, .class_ 1), (0, u "java/lang/Object"), (0, .class_ 3)] 3

/-- java/lang/Cloneable -/
def k3 : Class := { plain "java/lang/Cloneable" (some 0) with
  accessFlags := 1537
  interfaces := #[]
  cf := some (fileOf pool3 2 #[] #[] 1537 4 #[] #[])
  fields := #[]
  methods := #[]
  instanceTypes := #[]
  staticTypes := #[]
  resolved := Array.replicate 8 none
  statics := none }

def pool4 : Array CpInfo := pool [(1, u "java/io/Serializable"), (0, .class_ 1), (0, u "java/lang/Object"), (0, .class_ 3)] 3

/-- java/io/Serializable -/
def k4 : Class := { plain "java/io/Serializable" (some 0) with
  accessFlags := 1537
  interfaces := #[]
  cf := some (fileOf pool4 2 #[] #[] 1537 4 #[] #[])
  fields := #[]
  methods := #[]
  instanceTypes := #[]
  staticTypes := #[]
  resolved := Array.replicate 8 none
  statics := none }

/-- the primitive byte -/
def k5 : Class := { plain "byte" none with kind := .primitive 'B', accessFlags := 0x411 }
/-- [B -/
def k6 : Class := { plain "[B" (some 0) with kind := .array 5 .byte, interfaces := #[3, 4], accessFlags := 1041 }

/-- the primitive int -/
def k7 : Class := { plain "int" none with kind := .primitive 'I', accessFlags := 0x411 }
/-- [I -/
def k8 : Class := { plain "[I" (some 0) with kind := .array 7 .int, interfaces := #[3, 4], accessFlags := 1041 }

def heap : Heap := #[]
def classes : Array Class := #[k0, k1, k2, k3, k4, k5, k6, k7, k8]
def interned : List (Array UInt16 × Addr) := []
def slotsUsed : Nat := 0
def theMethod : MethodId := ⟨1, 1⟩
def args0 : Array Value := #[.long 5, .long 5, .int 5]
def aboutOver (below : List Frame) : State where
  vm := { classes := classes, interned := interned.toArray }
  heap := heap
  slotsUsed := slotsUsed
  threads := #[{ frames := .invoking theMethod args0 :: below }]
def below0 : List Frame := [.native { method := ⟨0, 0⟩, args := #[] }]
def about1 : State := aboutOver below0
def p0 : Program := .bare "" "" ""
def e0 : Env := launch0.env 0 0 0
theorem w_frames : about1.frames = Frame.invoking theMethod args0 :: below0 := rfl
set_option maxRecDepth 65536 in
theorem w_args : argsFit about1.vm theMethod args0 = true := by decide +kernel
set_option maxRecDepth 65536 in
theorem w_heap : heapFits about1 = true := by decide +kernel
set_option maxRecDepth 65536 in
theorem w_runnable : about1.curStatus? = some .runnable := by decide +kernel
set_option maxRecDepth 65536 in
theorem w_alone : about1.alone = true := by decide +kernel
set_option maxRecDepth 65536 in
theorem w_named : about1.methodNamed? x = some theMethod := by decide +kernel
set_option maxRecDepth 65536 in
theorem w_hears : about1.hears theMethod below0 = true := by decide +kernel
set_option maxRecDepth 65536 in
theorem w_ripe : about1.ripe theMethod args0 below0 = true := by decide +kernel
theorem w_running : about1.status = .running := rfl
set_option maxRecDepth 65536 in
theorem w_room : about1.hasRoom e0.platform room_1 = true :=
  launch0.hasRoom_least _ room_1 (by decide +kernel) (by decide +kernel) (by decide +kernel) (by decide +kernel) (by decide +kernel) (by decide +kernel)
theorem allAtoms_all (ts : List Jvm.Cond) (a : Array Jvm.Value) (st : Jvm.State) : (allAtoms ts).before a st = ts.all (fun c => c.before a st) := by
  induction ts with
  | nil => rfl
  | cons c t ih =>
    show (Jvm.Cond.and c (allAtoms t)).before a st = _
    rw [Jvm.Cond.before_and, ih, List.all_cons]
def words1 : List Jvm.Cond := Jvm.Cond.code x code maxLocals ret :: tables_1
/-- a 'code' word, met by the world's own term for the bytes: nothing is compared byte by byte -/
theorem code_word {y : MethodName} {bytes : ByteArray} {mx : Nat} {rt : Option FieldType} {a : Array Value} {s : State} {m : MethodId} {meth : Method} {c : Code} (h1 : s.methodNamed? y = some m) (h2 : s.vm.method? m = some meth) (h3 : meth.code = some c) (h4 : c.code = bytes)
    (h5 : (c.maxLocals == mx && c.exceptionTable.isEmpty && decide (c.maxStack ≤ mostOperands) && decide (meth.sig.returnType = rt) && !meth.locks && decide (parseMethodDescriptor y.desc = some meth.sig)) = true) : (Jvm.Cond.code y bytes mx rt).before a s = true := by
  simp only [Bool.and_eq_true, beq_iff_eq, Bool.not_eq_true', decide_eq_true_eq] at h5
  obtain ⟨⟨⟨⟨⟨g1, g2⟩, g3⟩, g4⟩, g5⟩, g6⟩ := h5
  simp [Cond.before, Cond.holds, Cond.value, h1, h2, h3, h4, g1, g2, g3, g4, g5, g6]
def isCode : Jvm.Cond → Bool
  | .code _ _ _ _ => true
  | _ => false
theorem all_split {L : List Jvm.Cond} {P : Jvm.Cond → Bool} (h1 : L.all (fun c => isCode c || P c) = true) (h2 : ∀ c ∈ L.filter isCode, P c = true) : L.all P = true := by
  refine List.all_eq_true.mpr fun c hc => ?_
  have h := List.all_eq_true.mp h1 c hc
  rcases Bool.eq_false_or_eq_true (isCode c) with hi | hi
  · exact h2 c (List.mem_filter.mpr ⟨hc, hi⟩)
  · simpa [hi] using h
set_option maxRecDepth 65536 in
theorem w_c0 : (Jvm.Cond.code x code maxLocals ret).before args0 about1 = true := code_word (m := ⟨1, 1⟩) (meth := k1m1) (c := k1c1) (by decide +kernel) rfl rfl rfl (by decide +kernel)
set_option maxRecDepth 65536 in
theorem w_c1 : (Jvm.Cond.code ({ cls := "com/example/tollerance/tollerance/CallTally", name := "<init>", desc := "()V" } : Jvm.MethodName) prog_8_method_1_code (1 : Nat) (Option.none : Option Jvm.ClassFile.FieldType)).before args0 about1 = true := code_word (m := ⟨2, 0⟩) (meth := k2m0) (c := k2c0) (by decide +kernel) rfl rfl rfl (by decide +kernel)
set_option maxRecDepth 65536 in
theorem w_c2 : (Jvm.Cond.code ({ cls := "java/lang/Object", name := "<init>", desc := "()V" } : Jvm.MethodName) object_method_1_code (1 : Nat) (Option.none : Option Jvm.ClassFile.FieldType)).before args0 about1 = true := code_word (m := ⟨0, 0⟩) (meth := k0m0) (c := k0c0) (by decide +kernel) rfl rfl rfl (by decide +kernel)
set_option maxRecDepth 65536 in
theorem w_c3 : (Jvm.Cond.code ({ cls := "com/example/tollerance/tollerance/CallTally", name := "add", desc := "(JZ)V" } : Jvm.MethodName) prog_8_method_2_code (4 : Nat) (Option.none : Option Jvm.ClassFile.FieldType)).before args0 about1 = true := code_word (m := ⟨2, 1⟩) (meth := k2m1) (c := k2c1) (by decide +kernel) rfl rfl rfl (by decide +kernel)
set_option maxRecDepth 65536 in
theorem w_c4 : (Jvm.Cond.code ({ cls := "com/example/tollerance/tollerance/CallTally", name := "calls", desc := "()J" } : Jvm.MethodName) prog_8_method_4_code (1 : Nat) (Option.some Jvm.ClassFile.FieldType.long)).before args0 about1 = true := code_word (m := ⟨2, 2⟩) (meth := k2m2) (c := k2c2) (by decide +kernel) rfl rfl rfl (by decide +kernel)
set_option maxRecDepth 65536 in
theorem w_c5 : (Jvm.Cond.code ({ cls := "com/example/tollerance/tollerance/CallTally", name := "seconds", desc := "()J" } : Jvm.MethodName) prog_8_method_5_code (1 : Nat) (Option.some Jvm.ClassFile.FieldType.long)).before args0 about1 = true := code_word (m := ⟨2, 3⟩) (meth := k2m3) (c := k2c3) (by decide +kernel) rfl rfl rfl (by decide +kernel)
set_option maxRecDepth 65536 in
theorem w_c6 : (Jvm.Cond.code ({ cls := "com/example/tollerance/tollerance/CallTally", name := "ipSeconds", desc := "()J" } : Jvm.MethodName) prog_8_method_6_code (1 : Nat) (Option.some Jvm.ClassFile.FieldType.long)).before args0 about1 = true := code_word (m := ⟨2, 4⟩) (meth := k2m4) (c := k2c4) (by decide +kernel) rfl rfl rfl (by decide +kernel)
def codes1 : List Jvm.Cond := [Jvm.Cond.code x code maxLocals ret, Jvm.Cond.code ({ cls := "com/example/tollerance/tollerance/CallTally", name := "<init>", desc := "()V" } : Jvm.MethodName) prog_8_method_1_code (1 : Nat) (Option.none : Option Jvm.ClassFile.FieldType), Jvm.Cond.code ({ cls := "java/lang/Object", name := "<init>", desc := "()V" } : Jvm.MethodName) object_method_1_code (1 : Nat) (Option.none : Option Jvm.ClassFile.FieldType), Jvm.Cond.code ({ cls := "com/example/tollerance/tollerance/CallTally", name := "add", desc := "(JZ)V" } : Jvm.MethodName) prog_8_method_2_code (4 : Nat) (Option.none : Option Jvm.ClassFile.FieldType), Jvm.Cond.code ({ cls := "com/example/tollerance/tollerance/CallTally", name := "calls", desc := "()J" } : Jvm.MethodName) prog_8_method_4_code (1 : Nat) (Option.some Jvm.ClassFile.FieldType.long), Jvm.Cond.code ({ cls := "com/example/tollerance/tollerance/CallTally", name := "seconds", desc := "()J" } : Jvm.MethodName) prog_8_method_5_code (1 : Nat) (Option.some Jvm.ClassFile.FieldType.long), Jvm.Cond.code ({ cls := "com/example/tollerance/tollerance/CallTally", name := "ipSeconds", desc := "()J" } : Jvm.MethodName) prog_8_method_6_code (1 : Nat) (Option.some Jvm.ClassFile.FieldType.long)]
set_option maxRecDepth 65536 in
theorem codes_eq : words1.filter isCode = codes1 := rfl
theorem w_codes : ∀ c ∈ words1.filter isCode, c.before args0 about1 = true := by
  rw [codes_eq]
  intro c hc
  simp only [codes1, List.mem_cons, List.not_mem_nil, or_false] at hc
  rcases hc with rfl | rfl | rfl | rfl | rfl | rfl | rfl
  · exact w_c0
  · exact w_c1
  · exact w_c2
  · exact w_c3
  · exact w_c4
  · exact w_c5
  · exact w_c6
set_option maxRecDepth 65536 in
theorem w_t1 : (words1.take 24).all (fun c => isCode c || c.before args0 about1) = true := by decide +kernel
set_option maxRecDepth 65536 in
theorem w_t2 : (words1.drop 24).all (fun c => isCode c || c.before args0 about1) = true := by decide +kernel
theorem w_tables : (allAtoms (Jvm.Cond.code x code maxLocals ret :: tables_1)).before args0 about1 = true := by
  rw [allAtoms_all]
  show words1.all (fun c => c.before args0 about1) = true
  refine all_split ?_ w_codes
  rw [← List.take_append_drop 24 words1, List.all_append, w_t1, w_t2]
  rfl
set_option maxRecDepth 65536 in
theorem w_case : (Jvm.Cond.and given_1 narrow_1).before args0 about1 = true := by decide +kernel
theorem w_applies : (headSpec (Jvm.Cond.code x code maxLocals ret :: tables_1) room_1).applies x e0.platform about1 = true :=
  (Spec.applies_iff w_frames).mpr ⟨w_running, w_runnable, w_alone, w_named, w_hears, w_ripe, w_room, w_tables⟩
theorem atStart : AtStart classFile x code maxLocals ret World_1 tables_1 room_1 Calls_1 rest_1 Pre_1 launch0 p0 e0 about1 theMethod args0 below0 :=
  ⟨lists_1, trivial, launch0.admits_env _ _ _, launch0.least_env, fairChoices_fair.cas, fairChoices_fair.clock, w_frames, w_args, w_heap, w_applies, trivial, trivial, w_case⟩
end start1
theorem witness_1 : WitnessClaimed_1 := ⟨start1.p0, start1.e0, start1.about1, start1.theMethod, start1.args0, start1.below0, start1.atStart⟩
end Jvm.Pilot.@@N@@
