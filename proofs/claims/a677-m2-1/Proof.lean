import JvmDerived
import JvmDerived.Pilot.@@N@@Statement
import JvmDerived.Pilot.@@N@@Code
set_option linter.unusedVariables false
set_option linter.unusedSimpArgs false
@@BLOCK:NumsL.lean.txt@@
namespace Jvm.Pilot.@@N@@
open Jvm Jvm.ClassFile Sem Op Lib Jvm.Free Jvm.Stand Jvm.LawKit Jvm.RoadKit Bundle Jvm.Pilot.@@N@@.Jvm.D
section OwnKit
variable {p : Program} {l : Launch} {e : Env} {R : Room} {s : State} {m : MethodId} {args : Array Value} {below : List Frame} {meth : Method} {c : Code} {T T' : State} {locs : List Loc} {cells slots : Nat}
/-- from here the body comes to its end and leaves what Q says -/
def own_W (p : Program) (e : Env) (below : List Frame) (s : State) (k n : Nat) (Q : Option Value → Heap → List Loc → Prop) (T : State) (f : JFrame) : Prop :=
  ∃ s₂ o, Steps p.tables e below (T.setTop f) s₂ ∧ s₂.status = .running ∧ Ended s₂ below o ∧ ∃ v L, o = .returned v ∧ Q v s₂.heap L ∧ FrameEnd s o s₂ L k n
theorem own_st {k n : Nat} {Q : Option Value → Heap → List Loc → Prop} {f f' : JFrame} (w : own_W p e below s k n Q T' f') (h : ∀ t, Steps p.tables e below (T'.setTop f') t → Steps p.tables e below (T.setTop f) t) : own_W p e below s k n Q T f := by
  obtain ⟨s₂, o, h1, r⟩ := w
  exact ⟨s₂, o, h _ h1, r⟩
theorem own_to {k n : Nat} {Q : Option Value → Heap → List Loc → Prop} {f f' : JFrame} (q : f = f') (w : own_W p e below s k n Q T f') : own_W p e below s k n Q T f := q ▸ w
theorem own_ite {k n : Nat} {α : Type} {G : α → Option Value → Heap → List Loc → Prop} {f : JFrame} {A : Prop} [Decidable A] {x y : α} (h1 : A → own_W p e below s k n (G x) T f) (h2 : ¬ A → own_W p e below s k n (G y) T f) : own_W p e below s k n (G (if A then x else y)) T f := by
  by_cases q : A
  · rw [if_pos q]; exact h1 q
  · rw [if_neg q]; exact h2 q
/-- an int is returned, nothing old is written, the heap is as P says -/
def own_GI (n0 : Nat) (P : Heap → Prop) (r : Int32) (v : Option Value) (h : Heap) (L : List Loc) : Prop := v = some (.int r) ∧ Fr n0 L ∧ P h
def own_GJ (n0 : Nat) (P : Heap → Prop) (r : Int64) (v : Option Value) (h : Heap) (L : List Loc) : Prop := v = some (.long r) ∧ Fr n0 L ∧ P h
theorem own_retI {k n : Nat} {Q : Option Value → Heap → List Loc → Prop} (X : Stand p l e R s m args below meth c T locs cells slots) (hx : p.tables.exec = Jvm.exec) (hlk : meth.locks = false) (hret : meth.sig.returnType = some .int) {pc : Nat} {Ls : Array Slot} {z : Int32} {rest : List Value} (hd : decode c.code pc = .ok (.ireturn, 1)) (hk : cells ≤ k) (hn : slots ≤ n) (q : Q (some (.int z)) T.heap locs) : own_W p e below s k n Q T (mkF m pc Ls (.int z :: rest)) := by
  obtain ⟨fs, hr, hrun, hended, hW, hsame⟩ := X.leave (v := some (.int z)) (fun h => by rw [hret] at h; cases h) hlk
  exact ⟨_, _, retOut X hx hret rfl (Or.inl ⟨rfl, Or.inl rfl, z, rfl⟩) hd hr, hrun, hended, _, _, rfl, q, ⟨_, rfl⟩, hW, hsame.mono hk hn⟩
theorem own_retN {k n : Nat} {Q : Option Value → Heap → List Loc → Prop} (X : Stand p l e R s m args below meth c T locs cells slots) (hx : p.tables.exec = Jvm.exec) (hlk : meth.locks = false) {t : FieldType} (hret : meth.sig.returnType = some t) (ht : t = .boolean ∨ t = .byte ∨ t = .char ∨ t = .short) {pc : Nat} {Ls : Array Slot} {z : Int32} {rest : List Value} (hd : decode c.code pc = .ok (.ireturn, 1)) (hk : cells ≤ k) (hn : slots ≤ n) (q : Q (some (.int (nar t z))) T.heap locs) : own_W p e below s k n Q T (mkF m pc Ls (.int z :: rest)) := by
  obtain ⟨fs, hr, hrun, hended, hW, hsame⟩ := X.leave (v := some (.int (nar t z))) (fun h => by rw [hret] at h; cases h) hlk
  exact ⟨_, _, retN X hx hret ht hd hr, hrun, hended, _, _, rfl, q, ⟨_, rfl⟩, hW, hsame.mono hk hn⟩
theorem own_retJ {k n : Nat} {Q : Option Value → Heap → List Loc → Prop} (X : Stand p l e R s m args below meth c T locs cells slots) (hx : p.tables.exec = Jvm.exec) (hlk : meth.locks = false) (hret : meth.sig.returnType = some .long) {pc : Nat} {Ls : Array Slot} {z : Int64} {rest : List Value} (hd : decode c.code pc = .ok (.lreturn, 1)) (hk : cells ≤ k) (hn : slots ≤ n) (q : Q (some (.long z)) T.heap locs) : own_W p e below s k n Q T (mkF m pc Ls (.long z :: rest)) := by
  obtain ⟨fs, hr, hrun, hended, hW, hsame⟩ := X.leave (v := some (.long z)) (fun h => by rw [hret] at h; cases h) hlk
  exact ⟨_, _, retOut X hx hret rfl (Or.inr (Or.inl ⟨rfl, rfl, z, rfl⟩)) hd hr, hrun, hended, _, _, rfl, q, ⟨_, rfl⟩, hW, hsame.mono hk hn⟩
theorem own_retA {k n : Nat} {Q : Option Value → Heap → List Loc → Prop} (X : Stand p l e R s m args below meth c T locs cells slots) (hx : p.tables.exec = Jvm.exec) (hlk : meth.locks = false) {t : FieldType} (hret : meth.sig.returnType = some t) (ht : t.isReference = true) {pc : Nat} {Ls : Array Slot} {z : Addr} {rest : List Value} (hn' : narrow t (.ref z) = .ref z) (hd : decode c.code pc = .ok (.areturn, 1)) (hk : cells ≤ k) (hn : slots ≤ n) (q : Q (some (.ref z)) T.heap locs) : own_W p e below s k n Q T (mkF m pc Ls (.ref z :: rest)) := by
  obtain ⟨fs, hr, hrun, hended, hW, hsame⟩ := X.leave (v := some (.ref z)) (fun h => by rw [hret] at h; cases h) hlk
  exact ⟨_, _, retOut X hx hret hn' (Or.inr (Or.inr (Or.inr (Or.inr ⟨rfl, ht, rfl⟩)))) hd hr, hrun, hended, _, _, rfl, q, ⟨_, rfl⟩, hW, hsame.mono hk hn⟩
theorem own_retV {k n : Nat} {Q : Option Value → Heap → List Loc → Prop} (X : Stand p l e R s m args below meth c T locs cells slots) (hx : p.tables.exec = Jvm.exec) (hlk : meth.locks = false) (hret : meth.sig.returnType = none) {pc : Nat} {Ls : Array Slot} (hd : decode c.code pc = .ok (.return_, 1)) (hk : cells ≤ k) (hn : slots ≤ n) (q : Q none T.heap locs) : own_W p e below s k n Q T (mkF m pc Ls []) := by
  obtain ⟨fs, hr, hrun, hended, hW, hsame⟩ := X.leave (v := none) (fun _ => rfl) hlk
  exact ⟨_, _, X.returnOut hx hret hd hr, hrun, hended, _, _, rfl, q, ⟨_, rfl⟩, hW, hsame.mono hk hn⟩
end OwnKit
section OwnNums
theorem own_rem {x y : Int32} (hx : 0 ≤ x.toInt) (hy : 0 < y.toInt) : (x - (x / y) * y).toInt = x.toInt % y.toInt := by
  have hd : (x / y).toInt = x.toInt.tdiv y.toInt := Jvm.Kit.i32_div (by omega)
  rw [Int.tdiv_eq_ediv_of_nonneg hx] at hd
  have hxl := Int32.toInt_lt x
  have h1 : y.toInt * (x.toInt / y.toInt) + x.toInt % y.toInt = x.toInt := Int.mul_ediv_add_emod x.toInt y.toInt
  have h2 := Int.emod_nonneg x.toInt (by omega : y.toInt ≠ 0)
  have h3 := Int.emod_lt_of_pos x.toInt hy
  have h4 : (x / y).toInt * y.toInt = x.toInt - x.toInt % y.toInt := by rw [hd, Int.mul_comm]; omega
  have h6 := Int.mul_nonneg (Int.le_of_lt hy) (Int.ediv_nonneg hx (Int.le_of_lt hy))
  have h5 : x.toInt % y.toInt ≤ x.toInt := by omega
  have hm : ((x / y) * y).toInt = x.toInt - x.toInt % y.toInt := by
    rw [Jvm.Kit.i32_mul (by omega) (by omega), h4]
  rw [Jvm.Kit.i32_sub (by omega) (by omega), hm]; omega
theorem own_and31 (x : Int32) : (x &&& (2147483647 : Int32)).toInt = x.toInt % 2147483648 := Jvm.Kit.i32_mask x 2147483647 (k := 31) (by decide) (by decide)
theorem own_i8 (x : Int32) : -128 ≤ (x.toInt8.toInt32).toInt ∧ (x.toInt8.toInt32).toInt < 128 := by
  rw [Int8.toInt_toInt32]
  have h1 := Int8.le_toInt x.toInt8
  have h2 := Int8.toInt_lt x.toInt8
  omega
end OwnNums
theorem d1_0 : decode jdk_29_method_69_code 0 = .ok (.iload_n 0, 1) := by decide +kernel
theorem d1_1 : decode jdk_29_method_69_code 1 = .ok (.iload_n 1, 1) := by decide +kernel
theorem d1_2 : decode jdk_29_method_69_code 2 = .ok (.if_icmp .gt 7, 3) := by decide +kernel
theorem d1_5 : decode jdk_29_method_69_code 5 = .ok (.iload_n 0, 1) := by decide +kernel
theorem d1_6 : decode jdk_29_method_69_code 6 = .ok (.goto 4, 3) := by decide +kernel
theorem d1_9 : decode jdk_29_method_69_code 9 = .ok (.iload_n 1, 1) := by decide +kernel
theorem d1_10 : decode jdk_29_method_69_code 10 = .ok (.ireturn, 1) := by decide +kernel
theorem pn_1 : plainFor (⟨"java/lang/Math", "min", "(II)I"⟩ : MethodName) = true := by first | exact plainFor_of_name (by first | (simp [plainName, overriddenIn]; done) | decide +kernel) | decide +kernel
theorem ef_1 (m : MethodId) (x0 : Int32) (x1 : Int32) : entryFrame m #[(.int x0), (.int x1)] 2 = mkF m 0 #[.val (.int x0), .val (.int x1)] [] := by first | (simp [entryFrame, mkF, argsToLocals, Value.category, maxLocals]; done) | rfl
def f1 (p0 : Int32) (p1 : Int32) : Int32 := (if p1 < p0 then p1 else p0)
set_option maxRecDepth 65536 in
set_option maxHeartbeats 40000000 in
theorem rm1 (l : Launch) (Z : State) (a0 : Array Value) (hw : ∀ d ∈ tables_1, d.before a0 Z = true) (ws : List Jvm.Cond) (p0 : Int32) (p1 : Int32) (h0 : Heap) (n0 : Nat) :
    MetFree l (⟨"java/lang/Math", "min", "(II)I"⟩ : MethodName) (head1 (Jvm.Cond.code (⟨"java/lang/Math", "min", "(II)I"⟩ : MethodName) jdk_29_method_69_code 2 (some .int) :: ws) ({ frames := 0, cells := 0, slots := 0, locals := 0 } : Room)) (fun a U => a = #[(.int p0), (.int p1)] ∧ Z.Warmed39 U.vm ∧ U.heap = h0) (fun _ _ _ _ _ => True) (fun _ U o U' => ∃ v L, o = .returned v ∧ own_GI n0 (fun h => h = h0) (f1 p0 p1) v U'.heap L ∧ FrameEnd U o U' L ({ frames := 0, cells := 0, slots := 0, locals := 0 } : Room).cells ({ frames := 0, cells := 0, slots := 0, locals := 0 } : Room).slots) := by
  refine MetFree.of_bodySF pn_1 hisR ?_
  intro p e s m args below meth c s₁ Bd hml0 hP hK
  obtain ⟨rfl, hZ, hh⟩ := hP
  have hx := Bd.exec
  have hby := Bd.bytes
  have hml : c.maxLocals = 2 := hml0
  have hown : s.vm.findClass "java/lang/Math" = some m.cls := findClass_of_methodNamed Bd.named
  have hlk : meth.locks = false := BodyLoose.notSynchronized Bd
  have X0 : Stand p l e ({ frames := 0, cells := 0, slots := 0, locals := 0 } : Room) s m #[(.int p0), (.int p1)] below meth c s₁ [] 0 0 := Stand.of_body Bd
  have e0 : s₁.heap = h0 := by rw [← hh, Bd.state]; rfl
  have N0 := Fr.nil n0
  show own_W p e below s 0 0 (own_GI n0 (fun h => h = h0) (f1 p0 p1)) s₁ (entryFrame m #[(.int p0), (.int p1)] 2)
  refine own_to (ef_1 m p0 p1) ?_
  unfold f1
  refine own_st (T' := s₁) (f' := (mkF m 1 #[.val (.int p0), .val (.int p1)] [(.int p0)])) ?_ (fun t q => XS.iloadN X0.here hx rfl (hb hby d1_0) rfl q)
  refine own_st (T' := s₁) (f' := (mkF m 2 #[.val (.int p0), .val (.int p1)] [(.int p1), (.int p0)])) ?_ (fun t q => XS.iloadN X0.here hx rfl (hb hby d1_1) rfl q)
  refine own_ite (fun hc2 => ?_) (fun hc2 => ?_)
  · refine own_st (T' := s₁) (f' := (mkF m 9 #[.val (.int p0), .val (.int p1)] [])) ?_ (fun t q => XS.icmpYes X0.here hx rfl (pc0 := 2) (pc' := 9) rfl (hb hby d1_2) rfl (tlt hc2).2.2.1 (by decide) (by decide) q)
    refine own_st (T' := s₁) (f' := (mkF m 10 #[.val (.int p0), .val (.int p1)] [(.int p1)])) ?_ (fun t q => XS.iloadN X0.here hx rfl (hb hby d1_9) rfl q)
    exact own_retI X0 hx hlk Bd.returns (hb hby d1_10) (by decide) (by decide) ⟨rfl, N0, e0⟩
  · refine own_st (T' := s₁) (f' := (mkF m 5 #[.val (.int p0), .val (.int p1)] [])) ?_ (fun t q => XS.icmpNo X0.here hx rfl (hb hby d1_2) rfl (flt hc2).2.2.1 q)
    refine own_st (T' := s₁) (f' := (mkF m 6 #[.val (.int p0), .val (.int p1)] [(.int p0)])) ?_ (fun t q => XS.iloadN X0.here hx rfl (hb hby d1_5) rfl q)
    refine own_st (T' := s₁) (f' := (mkF m 10 #[.val (.int p0), .val (.int p1)] [(.int p0)])) ?_ (fun t q => XS.goto X0.here hx rfl (pc0 := 6) (pc' := 10) rfl (hb hby d1_6) (by decide) (by decide) q)
    exact own_retI X0 hx hlk Bd.returns (hb hby d1_10) (by decide) (by decide) ⟨rfl, N0, e0⟩
theorem d2_0 : decode jdk_29_method_65_code 0 = .ok (.iload_n 0, 1) := by decide +kernel
theorem d2_1 : decode jdk_29_method_65_code 1 = .ok (.iload_n 1, 1) := by decide +kernel
theorem d2_2 : decode jdk_29_method_65_code 2 = .ok (.if_icmp .lt 7, 3) := by decide +kernel
theorem d2_5 : decode jdk_29_method_65_code 5 = .ok (.iload_n 0, 1) := by decide +kernel
theorem d2_6 : decode jdk_29_method_65_code 6 = .ok (.goto 4, 3) := by decide +kernel
theorem d2_9 : decode jdk_29_method_65_code 9 = .ok (.iload_n 1, 1) := by decide +kernel
theorem d2_10 : decode jdk_29_method_65_code 10 = .ok (.ireturn, 1) := by decide +kernel
theorem pn_2 : plainFor (⟨"java/lang/Math", "max", "(II)I"⟩ : MethodName) = true := by first | exact plainFor_of_name (by first | (simp [plainName, overriddenIn]; done) | decide +kernel) | decide +kernel
theorem ef_2 (m : MethodId) (x0 : Int32) (x1 : Int32) : entryFrame m #[(.int x0), (.int x1)] 2 = mkF m 0 #[.val (.int x0), .val (.int x1)] [] := by first | (simp [entryFrame, mkF, argsToLocals, Value.category, maxLocals]; done) | rfl
def f2 (p0 : Int32) (p1 : Int32) : Int32 := (if p0 < p1 then p1 else p0)
set_option maxRecDepth 65536 in
set_option maxHeartbeats 40000000 in
theorem rm2 (l : Launch) (Z : State) (a0 : Array Value) (hw : ∀ d ∈ tables_1, d.before a0 Z = true) (ws : List Jvm.Cond) (p0 : Int32) (p1 : Int32) (h0 : Heap) (n0 : Nat) :
    MetFree l (⟨"java/lang/Math", "max", "(II)I"⟩ : MethodName) (head1 (Jvm.Cond.code (⟨"java/lang/Math", "max", "(II)I"⟩ : MethodName) jdk_29_method_65_code 2 (some .int) :: ws) ({ frames := 0, cells := 0, slots := 0, locals := 0 } : Room)) (fun a U => a = #[(.int p0), (.int p1)] ∧ Z.Warmed39 U.vm ∧ U.heap = h0) (fun _ _ _ _ _ => True) (fun _ U o U' => ∃ v L, o = .returned v ∧ own_GI n0 (fun h => h = h0) (f2 p0 p1) v U'.heap L ∧ FrameEnd U o U' L ({ frames := 0, cells := 0, slots := 0, locals := 0 } : Room).cells ({ frames := 0, cells := 0, slots := 0, locals := 0 } : Room).slots) := by
  refine MetFree.of_bodySF pn_2 hisR ?_
  intro p e s m args below meth c s₁ Bd hml0 hP hK
  obtain ⟨rfl, hZ, hh⟩ := hP
  have hx := Bd.exec
  have hby := Bd.bytes
  have hml : c.maxLocals = 2 := hml0
  have hown : s.vm.findClass "java/lang/Math" = some m.cls := findClass_of_methodNamed Bd.named
  have hlk : meth.locks = false := BodyLoose.notSynchronized Bd
  have X0 : Stand p l e ({ frames := 0, cells := 0, slots := 0, locals := 0 } : Room) s m #[(.int p0), (.int p1)] below meth c s₁ [] 0 0 := Stand.of_body Bd
  have e0 : s₁.heap = h0 := by rw [← hh, Bd.state]; rfl
  have N0 := Fr.nil n0
  show own_W p e below s 0 0 (own_GI n0 (fun h => h = h0) (f2 p0 p1)) s₁ (entryFrame m #[(.int p0), (.int p1)] 2)
  refine own_to (ef_2 m p0 p1) ?_
  unfold f2
  refine own_st (T' := s₁) (f' := (mkF m 1 #[.val (.int p0), .val (.int p1)] [(.int p0)])) ?_ (fun t q => XS.iloadN X0.here hx rfl (hb hby d2_0) rfl q)
  refine own_st (T' := s₁) (f' := (mkF m 2 #[.val (.int p0), .val (.int p1)] [(.int p1), (.int p0)])) ?_ (fun t q => XS.iloadN X0.here hx rfl (hb hby d2_1) rfl q)
  refine own_ite (fun hc2 => ?_) (fun hc2 => ?_)
  · refine own_st (T' := s₁) (f' := (mkF m 9 #[.val (.int p0), .val (.int p1)] [])) ?_ (fun t q => XS.icmpYes X0.here hx rfl (pc0 := 2) (pc' := 9) rfl (hb hby d2_2) rfl (tlt hc2).1 (by decide) (by decide) q)
    refine own_st (T' := s₁) (f' := (mkF m 10 #[.val (.int p0), .val (.int p1)] [(.int p1)])) ?_ (fun t q => XS.iloadN X0.here hx rfl (hb hby d2_9) rfl q)
    exact own_retI X0 hx hlk Bd.returns (hb hby d2_10) (by decide) (by decide) ⟨rfl, N0, e0⟩
  · refine own_st (T' := s₁) (f' := (mkF m 5 #[.val (.int p0), .val (.int p1)] [])) ?_ (fun t q => XS.icmpNo X0.here hx rfl (hb hby d2_2) rfl (flt hc2).1 q)
    refine own_st (T' := s₁) (f' := (mkF m 6 #[.val (.int p0), .val (.int p1)] [(.int p0)])) ?_ (fun t q => XS.iloadN X0.here hx rfl (hb hby d2_5) rfl q)
    refine own_st (T' := s₁) (f' := (mkF m 10 #[.val (.int p0), .val (.int p1)] [(.int p0)])) ?_ (fun t q => XS.goto X0.here hx rfl (pc0 := 6) (pc' := 10) rfl (hb hby d2_6) (by decide) (by decide) q)
    exact own_retI X0 hx hlk Bd.returns (hb hby d2_10) (by decide) (by decide) ⟨rfl, N0, e0⟩
theorem d3_0 : decode jdk_29_method_70_code 0 = .ok (.lload_n 0, 1) := by decide +kernel
theorem d3_1 : decode jdk_29_method_70_code 1 = .ok (.lload_n 2, 1) := by decide +kernel
theorem d3_2 : decode jdk_29_method_70_code 2 = .ok (.lcmp, 1) := by decide +kernel
theorem d3_3 : decode jdk_29_method_70_code 3 = .ok (.ifCond .gt 7, 3) := by decide +kernel
theorem d3_6 : decode jdk_29_method_70_code 6 = .ok (.lload_n 0, 1) := by decide +kernel
theorem d3_7 : decode jdk_29_method_70_code 7 = .ok (.goto 4, 3) := by decide +kernel
theorem d3_10 : decode jdk_29_method_70_code 10 = .ok (.lload_n 2, 1) := by decide +kernel
theorem d3_11 : decode jdk_29_method_70_code 11 = .ok (.lreturn, 1) := by decide +kernel
theorem pn_3 : plainFor (⟨"java/lang/Math", "min", "(JJ)J"⟩ : MethodName) = true := by first | exact plainFor_of_name (by first | (simp [plainName, overriddenIn]; done) | decide +kernel) | decide +kernel
theorem ef_3 (m : MethodId) (x0 : Int64) (x1 : Int64) : entryFrame m #[(.long x0), (.long x1)] 4 = mkF m 0 #[.val (.long x0), .second, .val (.long x1), .second] [] := by first | (simp [entryFrame, mkF, argsToLocals, Value.category, maxLocals]; done) | rfl
def f3 (w0 : Int64) (w1 : Int64) : Int64 := (if w1 < w0 then w1 else w0)
set_option maxRecDepth 65536 in
set_option maxHeartbeats 40000000 in
theorem rm3 (l : Launch) (Z : State) (a0 : Array Value) (hw : ∀ d ∈ tables_1, d.before a0 Z = true) (ws : List Jvm.Cond) (w0 : Int64) (w1 : Int64) (h0 : Heap) (n0 : Nat) :
    MetFree l (⟨"java/lang/Math", "min", "(JJ)J"⟩ : MethodName) (head1 (Jvm.Cond.code (⟨"java/lang/Math", "min", "(JJ)J"⟩ : MethodName) jdk_29_method_70_code 4 (some .long) :: ws) ({ frames := 0, cells := 0, slots := 0, locals := 0 } : Room)) (fun a U => a = #[(.long w0), (.long w1)] ∧ Z.Warmed39 U.vm ∧ U.heap = h0) (fun _ _ _ _ _ => True) (fun _ U o U' => ∃ v L, o = .returned v ∧ own_GJ n0 (fun h => h = h0) (f3 w0 w1) v U'.heap L ∧ FrameEnd U o U' L ({ frames := 0, cells := 0, slots := 0, locals := 0 } : Room).cells ({ frames := 0, cells := 0, slots := 0, locals := 0 } : Room).slots) := by
  refine MetFree.of_bodySF pn_3 hisR ?_
  intro p e s m args below meth c s₁ Bd hml0 hP hK
  obtain ⟨rfl, hZ, hh⟩ := hP
  have hx := Bd.exec
  have hby := Bd.bytes
  have hml : c.maxLocals = 4 := hml0
  have hown : s.vm.findClass "java/lang/Math" = some m.cls := findClass_of_methodNamed Bd.named
  have hlk : meth.locks = false := BodyLoose.notSynchronized Bd
  have X0 : Stand p l e ({ frames := 0, cells := 0, slots := 0, locals := 0 } : Room) s m #[(.long w0), (.long w1)] below meth c s₁ [] 0 0 := Stand.of_body Bd
  have e0 : s₁.heap = h0 := by rw [← hh, Bd.state]; rfl
  have N0 := Fr.nil n0
  show own_W p e below s 0 0 (own_GJ n0 (fun h => h = h0) (f3 w0 w1)) s₁ (entryFrame m #[(.long w0), (.long w1)] 4)
  refine own_to (ef_3 m w0 w1) ?_
  unfold f3
  refine own_st (T' := s₁) (f' := (mkF m 1 #[.val (.long w0), .second, .val (.long w1), .second] [(.long w0)])) ?_ (fun t q => XS.lloadN X0.here hx rfl (hb hby d3_0) rfl q)
  refine own_st (T' := s₁) (f' := (mkF m 2 #[.val (.long w0), .second, .val (.long w1), .second] [(.long w1), (.long w0)])) ?_ (fun t q => XS.lloadN X0.here hx rfl (hb hby d3_1) rfl q)
  refine own_st (T' := s₁) (f' := (mkF m 3 #[.val (.long w0), .second, .val (.long w1), .second] [(.int (lcmpW w0 w1))])) ?_ (fun t q => XS.lcmp X0.here hx rfl (hb hby d3_2) rfl q)
  refine own_ite (fun hc3 => ?_) (fun hc3 => ?_)
  · refine own_st (T' := s₁) (f' := (mkF m 10 #[.val (.long w0), .second, .val (.long w1), .second] [])) ?_ (fun t q => XS.ifYes X0.here hx rfl (pc0 := 3) (pc' := 10) rfl (hb hby d3_3) rfl ((if0 _ _).trans (tlt ((lw_gt _ _).mpr hc3)).2.2.1) (by decide) (by decide) q)
    refine own_st (T' := s₁) (f' := (mkF m 11 #[.val (.long w0), .second, .val (.long w1), .second] [(.long w1)])) ?_ (fun t q => XS.lloadN X0.here hx rfl (hb hby d3_10) rfl q)
    exact own_retJ X0 hx hlk Bd.returns (hb hby d3_11) (by decide) (by decide) ⟨rfl, N0, e0⟩
  · refine own_st (T' := s₁) (f' := (mkF m 6 #[.val (.long w0), .second, .val (.long w1), .second] [])) ?_ (fun t q => XS.ifNo X0.here hx rfl (hb hby d3_3) rfl ((if0 _ _).trans (flt (fun z => hc3 ((lw_gt _ _).mp z))).2.2.1) q)
    refine own_st (T' := s₁) (f' := (mkF m 7 #[.val (.long w0), .second, .val (.long w1), .second] [(.long w0)])) ?_ (fun t q => XS.lloadN X0.here hx rfl (hb hby d3_6) rfl q)
    refine own_st (T' := s₁) (f' := (mkF m 11 #[.val (.long w0), .second, .val (.long w1), .second] [(.long w0)])) ?_ (fun t q => XS.goto X0.here hx rfl (pc0 := 7) (pc' := 11) rfl (hb hby d3_7) (by decide) (by decide) q)
    exact own_retJ X0 hx hlk Bd.returns (hb hby d3_11) (by decide) (by decide) ⟨rfl, N0, e0⟩
theorem d4_0 : decode prog_10_method_11_code 0 = .ok (.iload_n 1, 1) := by decide +kernel
theorem d4_1 : decode prog_10_method_11_code 1 = .ok (.iload_n 0, 1) := by decide +kernel
theorem d4_2 : decode prog_10_method_11_code 2 = .ok (.isub, 1) := by decide +kernel
theorem d4_3 : decode prog_10_method_11_code 3 = .ok (.ldc 46, 2) := by decide +kernel
theorem d4_5 : decode prog_10_method_11_code 5 = .ok (.if_icmp .le 10, 3) := by decide +kernel
theorem d4_8 : decode prog_10_method_11_code 8 = .ok (.iload_n 0, 1) := by decide +kernel
theorem d4_9 : decode prog_10_method_11_code 9 = .ok (.ldc 46, 2) := by decide +kernel
theorem d4_11 : decode prog_10_method_11_code 11 = .ok (.iadd, 1) := by decide +kernel
theorem d4_12 : decode prog_10_method_11_code 12 = .ok (.goto 4, 3) := by decide +kernel
theorem d4_15 : decode prog_10_method_11_code 15 = .ok (.iload_n 1, 1) := by decide +kernel
theorem d4_16 : decode prog_10_method_11_code 16 = .ok (.ireturn, 1) := by decide +kernel
theorem pn_4 : plainFor (⟨"com/example/bitfold/bitfold/array/Runs", "runEnd", "(II)I"⟩ : MethodName) = true := by first | exact plainFor_of_name (by first | (simp [plainName, overriddenIn]; done) | decide +kernel) | decide +kernel
theorem ef_4 (m : MethodId) (x0 : Int32) (x1 : Int32) : entryFrame m #[(.int x0), (.int x1)] 2 = mkF m 0 #[.val (.int x0), .val (.int x1)] [] := by first | (simp [entryFrame, mkF, argsToLocals, Value.category, maxLocals]; done) | rfl
def f4 (p0 : Int32) (p1 : Int32) : Int32 := (if (33554431 : Int32) < (p1 - p0) then (p0 + (33554431 : Int32)) else p1)
set_option maxRecDepth 65536 in
set_option maxHeartbeats 40000000 in
theorem rm4 (l : Launch) (Z : State) (a0 : Array Value) (hw : ∀ d ∈ tables_1, d.before a0 Z = true) (ws : List Jvm.Cond) (p0 : Int32) (p1 : Int32) (h0 : Heap) (n0 : Nat) :
    MetFree l (⟨"com/example/bitfold/bitfold/array/Runs", "runEnd", "(II)I"⟩ : MethodName) (head1 (Jvm.Cond.code (⟨"com/example/bitfold/bitfold/array/Runs", "runEnd", "(II)I"⟩ : MethodName) prog_10_method_11_code 2 (some .int) :: ws) ({ frames := 0, cells := 0, slots := 0, locals := 0 } : Room)) (fun a U => a = #[(.int p0), (.int p1)] ∧ Z.Warmed39 U.vm ∧ U.heap = h0) (fun _ _ _ _ _ => True) (fun _ U o U' => ∃ v L, o = .returned v ∧ own_GI n0 (fun h => h = h0) (f4 p0 p1) v U'.heap L ∧ FrameEnd U o U' L ({ frames := 0, cells := 0, slots := 0, locals := 0 } : Room).cells ({ frames := 0, cells := 0, slots := 0, locals := 0 } : Room).slots) := by
  refine MetFree.of_bodySF pn_4 hisR ?_
  intro p e s m args below meth c s₁ Bd hml0 hP hK
  obtain ⟨rfl, hZ, hh⟩ := hP
  have hx := Bd.exec
  have hby := Bd.bytes
  have hml : c.maxLocals = 2 := hml0
  have hown : s.vm.findClass "com/example/bitfold/bitfold/array/Runs" = some m.cls := findClass_of_methodNamed Bd.named
  have hlk : meth.locks = false := BodyLoose.notSynchronized Bd
  have X0 : Stand p l e ({ frames := 0, cells := 0, slots := 0, locals := 0 } : Room) s m #[(.int p0), (.int p1)] below meth c s₁ [] 0 0 := Stand.of_body Bd
  have e0 : s₁.heap = h0 := by rw [← hh, Bd.state]; rfl
  have N0 := Fr.nil n0
  show own_W p e below s 0 0 (own_GI n0 (fun h => h = h0) (f4 p0 p1)) s₁ (entryFrame m #[(.int p0), (.int p1)] 2)
  refine own_to (ef_4 m p0 p1) ?_
  unfold f4
  refine own_st (T' := s₁) (f' := (mkF m 1 #[.val (.int p0), .val (.int p1)] [(.int p1)])) ?_ (fun t q => XS.iloadN X0.here hx rfl (hb hby d4_0) rfl q)
  refine own_st (T' := s₁) (f' := (mkF m 2 #[.val (.int p0), .val (.int p1)] [(.int p0), (.int p1)])) ?_ (fun t q => XS.iloadN X0.here hx rfl (hb hby d4_1) rfl q)
  refine own_st (T' := s₁) (f' := (mkF m 3 #[.val (.int p0), .val (.int p1)] [(.int (p1 - p0))])) ?_ (fun t q => XS.isub X0.here hx rfl (hb hby d4_2) rfl q)
  refine own_st (T' := s₁) (f' := (mkF m 5 #[.val (.int p0), .val (.int p1)] [(.int (33554431 : Int32)), (.int (p1 - p0))])) ?_ (fun t q => X0.ldcInt hx hown (mvT hZ (hw _ (List.mem_of_getElem? (i := 16) rfl))) (g := (mkF m 3 #[.val (.int p0), .val (.int p1)] [(.int (p1 - p0))])) rfl (hb hby d4_3) _ q)
  refine own_ite (fun hc5 => ?_) (fun hc5 => ?_)
  · refine own_st (T' := s₁) (f' := (mkF m 8 #[.val (.int p0), .val (.int p1)] [])) ?_ (fun t q => XS.icmpNo X0.here hx rfl (hb hby d4_5) rfl (tlt hc5).2.2.2 q)
    refine own_st (T' := s₁) (f' := (mkF m 9 #[.val (.int p0), .val (.int p1)] [(.int p0)])) ?_ (fun t q => XS.iloadN X0.here hx rfl (hb hby d4_8) rfl q)
    refine own_st (T' := s₁) (f' := (mkF m 11 #[.val (.int p0), .val (.int p1)] [(.int (33554431 : Int32)), (.int p0)])) ?_ (fun t q => X0.ldcInt hx hown (mvT hZ (hw _ (List.mem_of_getElem? (i := 16) rfl))) (g := (mkF m 9 #[.val (.int p0), .val (.int p1)] [(.int p0)])) rfl (hb hby d4_9) _ q)
    refine own_st (T' := s₁) (f' := (mkF m 12 #[.val (.int p0), .val (.int p1)] [(.int (p0 + (33554431 : Int32)))])) ?_ (fun t q => XS.iadd X0.here hx rfl (hb hby d4_11) rfl q)
    refine own_st (T' := s₁) (f' := (mkF m 16 #[.val (.int p0), .val (.int p1)] [(.int (p0 + (33554431 : Int32)))])) ?_ (fun t q => XS.goto X0.here hx rfl (pc0 := 12) (pc' := 16) rfl (hb hby d4_12) (by decide) (by decide) q)
    exact own_retI X0 hx hlk Bd.returns (hb hby d4_16) (by decide) (by decide) ⟨rfl, N0, e0⟩
  · refine own_st (T' := s₁) (f' := (mkF m 15 #[.val (.int p0), .val (.int p1)] [])) ?_ (fun t q => XS.icmpYes X0.here hx rfl (pc0 := 5) (pc' := 15) rfl (hb hby d4_5) rfl (flt hc5).2.2.2 (by decide) (by decide) q)
    refine own_st (T' := s₁) (f' := (mkF m 16 #[.val (.int p0), .val (.int p1)] [(.int p1)])) ?_ (fun t q => XS.iloadN X0.here hx rfl (hb hby d4_15) rfl q)
    exact own_retI X0 hx hlk Bd.returns (hb hby d4_16) (by decide) (by decide) ⟨rfl, N0, e0⟩
theorem pd_0 : parseMethodDescriptor "(II)I" = some ⟨[.int, .int], some .int⟩ := by decide +kernel
theorem pd_1 : parseMethodDescriptor "(JJ)J" = some ⟨[.long, .long], some .long⟩ := by decide +kernel
theorem pn_0 : plainFor x = true := by first | exact plainFor_of_name (by first | (simp [plainName, overriddenIn]; done) | decide +kernel) | decide +kernel
theorem ef_0 (m : MethodId) (x0 : Int32) (x1 : Int32) (x2 : Int32) (x3 : Int32) : entryFrame m #[(.int x0), (.int x1), (.int x2), (.int x3)] maxLocals = mkF m 0 #[.val (.int x0), .val (.int x1), .val (.int x2), .val (.int x3), .unset, .unset, .unset, .unset, .unset, .unset, .unset] [] := by first | (simp [entryFrame, mkF, argsToLocals, Value.category, maxLocals]; done) | rfl
def va (p0 : Int32) (p1 : Int32) (p2 : Int32) (p3 : Int32) : Int32 := (f1 (p0 &&& (2147483647 : Int32)) (p1 &&& (2147483647 : Int32)))
def vn (p0 : Int32) (p1 : Int32) (p2 : Int32) (p3 : Int32) : Int64 := ((((va p0 p1 p2 p3).toInt64) + (33554427 : Int64)) + ((p3 &&& (7 : Int32)).toInt64))
def f0 (p0 : Int32) (p1 : Int32) (p2 : Int32) (p3 : Int32) : Int32 := (if (p2 &&& (1 : Int32)) = (0 : Int32) then (if ((f4 (va p0 p1 p2 p3) (f2 (p0 &&& (2147483647 : Int32)) (p1 &&& (2147483647 : Int32)))).toInt64) = (f3 ((f2 (p0 &&& (2147483647 : Int32)) (p1 &&& (2147483647 : Int32))).toInt64) (((va p0 p1 p2 p3).toInt64) + (33554431 : Int64))) then (1 : Int32) else (0 : Int32)) else (if (2147483647 : Int64) < (vn p0 p1 p2 p3) then (if ((f4 (va p0 p1 p2 p3) (f2 (p0 &&& (2147483647 : Int32)) (p1 &&& (2147483647 : Int32)))).toInt64) = (f3 ((f2 (p0 &&& (2147483647 : Int32)) (p1 &&& (2147483647 : Int32))).toInt64) (((va p0 p1 p2 p3).toInt64) + (33554431 : Int64))) then (1 : Int32) else (0 : Int32)) else (if ((f4 (va p0 p1 p2 p3) ((vn p0 p1 p2 p3).toInt32)).toInt64) = (f3 (((vn p0 p1 p2 p3).toInt32).toInt64) (((va p0 p1 p2 p3).toInt64) + (33554431 : Int64))) then (1 : Int32) else (0 : Int32))))
set_option maxRecDepth 65536 in
set_option maxHeartbeats 40000000 in
theorem rm0 (l : Launch) (Z : State) (a0 : Array Value) (hw : ∀ d ∈ tables_1, d.before a0 Z = true) (ws : List Jvm.Cond) (p0 : Int32) (p1 : Int32) (p2 : Int32) (p3 : Int32) (h0 : Heap) (n0 : Nat) (Z0 : n0 ≤ h0.size) :
    MetFree l x (head1 (Jvm.Cond.code x code maxLocals ret :: ws) room_1) (fun a U => a = #[(.int p0), (.int p1), (.int p2), (.int p3)] ∧ Z.Warmed39 U.vm ∧ U.heap = h0) (fun _ _ _ _ _ => True) (fun _ U o U' => ∃ v L, o = .returned v ∧ own_GI n0 (fun h => h = h0) (f0 p0 p1 p2 p3) v U'.heap L ∧ FrameEnd U o U' L 0 0) := by
  refine MetFree.of_bodySF pn_0 hisR ?_
  intro p e s m args below meth c s₁ Bd hml0 hP hK
  obtain ⟨rfl, hZ, hh⟩ := hP
  have hx := Bd.exec
  have hby := Bd.bytes
  have hml : c.maxLocals = 11 := hml0
  have hown : s.vm.findClass "com/example/bitfold/bitfold/array/RunsRunEndPinLaw" = some m.cls := findClass_of_methodNamed Bd.named
  have hlk : meth.locks = false := BodyLoose.notSynchronized Bd
  have X0 : Stand p l e room_1 s m #[(.int p0), (.int p1), (.int p2), (.int p3)] below meth c s₁ [] 0 0 := Stand.of_body Bd
  have e0 : s₁.heap = h0 := by rw [← hh, Bd.state]; rfl
  have N0 := Fr.nil n0
  show own_W p e below s 0 0 (own_GI n0 (fun h => h = h0) (f0 p0 p1 p2 p3)) s₁ (entryFrame m #[(.int p0), (.int p1), (.int p2), (.int p3)] maxLocals)
  refine own_to (ef_0 m p0 p1 p2 p3) ?_
  unfold f0
  refine own_st (T' := s₁) (f' := (mkF m 1 #[.val (.int p0), .val (.int p1), .val (.int p2), .val (.int p3), .unset, .unset, .unset, .unset, .unset, .unset, .unset] [(.int p0)])) ?_ (fun t q => XS.iloadN X0.here hx rfl (hb hby at_0) rfl q)
  refine own_st (T' := s₁) (f' := (mkF m 3 #[.val (.int p0), .val (.int p1), .val (.int p2), .val (.int p3), .unset, .unset, .unset, .unset, .unset, .unset, .unset] [(.int (2147483647 : Int32)), (.int p0)])) ?_ (fun t q => X0.ldcInt hx hown (mvT hZ (hw _ (List.mem_of_getElem? (i := 0) rfl))) (g := (mkF m 1 #[.val (.int p0), .val (.int p1), .val (.int p2), .val (.int p3), .unset, .unset, .unset, .unset, .unset, .unset, .unset] [(.int p0)])) rfl (hb hby at_1) _ q)
  refine own_st (T' := s₁) (f' := (mkF m 4 #[.val (.int p0), .val (.int p1), .val (.int p2), .val (.int p3), .unset, .unset, .unset, .unset, .unset, .unset, .unset] [(.int (p0 &&& (2147483647 : Int32)))])) ?_ (fun t q => XS.iand X0.here hx rfl (hb hby at_3) rfl q)
  refine own_st (T' := s₁) (f' := (mkF m 6 #[.val (.int p0), .val (.int p1), .val (.int p2), .val (.int p3), .val (.int (p0 &&& (2147483647 : Int32))), .unset, .unset, .unset, .unset, .unset, .unset] [])) ?_ (fun t q => XS.istore X0.here hx rfl (hb hby at_4) rfl (l' := #[.val (.int p0), .val (.int p1), .val (.int p2), .val (.int p3), .val (.int (p0 &&& (2147483647 : Int32))), .unset, .unset, .unset, .unset, .unset, .unset]) rfl q)
  refine own_st (T' := s₁) (f' := (mkF m 7 #[.val (.int p0), .val (.int p1), .val (.int p2), .val (.int p3), .val (.int (p0 &&& (2147483647 : Int32))), .unset, .unset, .unset, .unset, .unset, .unset] [(.int p1)])) ?_ (fun t q => XS.iloadN X0.here hx rfl (hb hby at_6) rfl q)
  refine own_st (T' := s₁) (f' := (mkF m 9 #[.val (.int p0), .val (.int p1), .val (.int p2), .val (.int p3), .val (.int (p0 &&& (2147483647 : Int32))), .unset, .unset, .unset, .unset, .unset, .unset] [(.int (2147483647 : Int32)), (.int p1)])) ?_ (fun t q => X0.ldcInt hx hown (mvT hZ (hw _ (List.mem_of_getElem? (i := 0) rfl))) (g := (mkF m 7 #[.val (.int p0), .val (.int p1), .val (.int p2), .val (.int p3), .val (.int (p0 &&& (2147483647 : Int32))), .unset, .unset, .unset, .unset, .unset, .unset] [(.int p1)])) rfl (hb hby at_7) _ q)
  refine own_st (T' := s₁) (f' := (mkF m 10 #[.val (.int p0), .val (.int p1), .val (.int p2), .val (.int p3), .val (.int (p0 &&& (2147483647 : Int32))), .unset, .unset, .unset, .unset, .unset, .unset] [(.int (p1 &&& (2147483647 : Int32)))])) ?_ (fun t q => XS.iand X0.here hx rfl (hb hby at_9) rfl q)
  refine own_st (T' := s₁) (f' := (mkF m 12 #[.val (.int p0), .val (.int p1), .val (.int p2), .val (.int p3), .val (.int (p0 &&& (2147483647 : Int32))), .val (.int (p1 &&& (2147483647 : Int32))), .unset, .unset, .unset, .unset, .unset] [])) ?_ (fun t q => XS.istore X0.here hx rfl (hb hby at_10) rfl (l' := #[.val (.int p0), .val (.int p1), .val (.int p2), .val (.int p3), .val (.int (p0 &&& (2147483647 : Int32))), .val (.int (p1 &&& (2147483647 : Int32))), .unset, .unset, .unset, .unset, .unset]) rfl q)
  refine own_st (T' := s₁) (f' := (mkF m 14 #[.val (.int p0), .val (.int p1), .val (.int p2), .val (.int p3), .val (.int (p0 &&& (2147483647 : Int32))), .val (.int (p1 &&& (2147483647 : Int32))), .unset, .unset, .unset, .unset, .unset] [(.int (p0 &&& (2147483647 : Int32)))])) ?_ (fun t q => XS.iload X0.here hx rfl (hb hby at_12) rfl q)
  refine own_st (T' := s₁) (f' := (mkF m 16 #[.val (.int p0), .val (.int p1), .val (.int p2), .val (.int p3), .val (.int (p0 &&& (2147483647 : Int32))), .val (.int (p1 &&& (2147483647 : Int32))), .unset, .unset, .unset, .unset, .unset] [(.int (p1 &&& (2147483647 : Int32))), (.int (p0 &&& (2147483647 : Int32)))])) ?_ (fun t q => XS.iload X0.here hx rfl (hb hby at_14) rfl q)
  obtain ⟨_, _, ⟨T1, L1, k1, n1⟩, -, X1, ⟨Lc1, hQ1, l1, y1, z1⟩, st1⟩ := Jvm.LawKit.callS X0 hx (y := (⟨"java/lang/Math", "min", "(II)I"⟩ : MethodName)) hown (mvT hZ (hw _ (List.mem_of_getElem? (i := 1) rfl))) (mvT hZ (hw _ (List.mem_of_getElem? (i := 2) rfl))) (mvT hZ (hw _ (List.mem_of_getElem? (i := 3) rfl))) (mvT hZ (hw _ (List.mem_of_getElem? (i := 4) rfl))) (by decide) (backOf (W := 0) (rm1 l Z a0 hw [] (p0 &&& (2147483647 : Int32)) (p1 &&& (2147483647 : Int32)) h0 n0) hZ (hw _ (List.mem_of_getElem? (i := 4) rfl)) (hw _ (List.mem_of_getElem? (i := 3) rfl)) (by decide) (by decide)) (g := (mkF m 16 #[.val (.int p0), .val (.int p1), .val (.int p2), .val (.int p3), .val (.int (p0 &&& (2147483647 : Int32))), .val (.int (p1 &&& (2147483647 : Int32))), .unset, .unset, .unset, .unset, .unset] [(.int (p1 &&& (2147483647 : Int32))), (.int (p0 &&& (2147483647 : Int32)))])) rfl (by rw [hml]; rfl) (argsL := [(.int (p0 &&& (2147483647 : Int32))), (.int (p1 &&& (2147483647 : Int32)))]) (rest := []) (lenOf pd_0 rfl) rfl (by show 2 * 0 + _ ≤ _; exact Nat.le_of_eq rfl) (hb hby at_16) (fun _ _ => ⟨rfl, e0, (Nat.le_of_ble_eq_true rfl), (Nat.le_of_ble_eq_true rfl)⟩)
  dsimp only [Pt.U, Pt.locs, Pt.cells, Pt.slots] at X1 l1 y1 z1 st1 hQ1
  subst l1 y1 z1
  obtain ⟨rfl, N1q, e1⟩ := hQ1
  have N1 := Fr.app N0 N1q
  refine own_st (T' := T1) (f' := (mkF m 19 #[.val (.int p0), .val (.int p1), .val (.int p2), .val (.int p3), .val (.int (p0 &&& (2147483647 : Int32))), .val (.int (p1 &&& (2147483647 : Int32))), .unset, .unset, .unset, .unset, .unset] [(.int (f1 (p0 &&& (2147483647 : Int32)) (p1 &&& (2147483647 : Int32))))])) ?_ (fun t q => st1 _ q)
  refine own_st (T' := T1) (f' := (mkF m 21 #[.val (.int p0), .val (.int p1), .val (.int p2), .val (.int p3), .val (.int (p0 &&& (2147483647 : Int32))), .val (.int (p1 &&& (2147483647 : Int32))), .val (.int (va p0 p1 p2 p3)), .unset, .unset, .unset, .unset] [])) ?_ (fun t q => XS.istore X1.here hx rfl (hb hby at_19) rfl (l' := #[.val (.int p0), .val (.int p1), .val (.int p2), .val (.int p3), .val (.int (p0 &&& (2147483647 : Int32))), .val (.int (p1 &&& (2147483647 : Int32))), .val (.int (va p0 p1 p2 p3)), .unset, .unset, .unset, .unset]) rfl q)
  refine own_st (T' := T1) (f' := (mkF m 23 #[.val (.int p0), .val (.int p1), .val (.int p2), .val (.int p3), .val (.int (p0 &&& (2147483647 : Int32))), .val (.int (p1 &&& (2147483647 : Int32))), .val (.int (va p0 p1 p2 p3)), .unset, .unset, .unset, .unset] [(.int (p0 &&& (2147483647 : Int32)))])) ?_ (fun t q => XS.iload X1.here hx rfl (hb hby at_21) rfl q)
  refine own_st (T' := T1) (f' := (mkF m 25 #[.val (.int p0), .val (.int p1), .val (.int p2), .val (.int p3), .val (.int (p0 &&& (2147483647 : Int32))), .val (.int (p1 &&& (2147483647 : Int32))), .val (.int (va p0 p1 p2 p3)), .unset, .unset, .unset, .unset] [(.int (p1 &&& (2147483647 : Int32))), (.int (p0 &&& (2147483647 : Int32)))])) ?_ (fun t q => XS.iload X1.here hx rfl (hb hby at_23) rfl q)
  obtain ⟨_, _, ⟨T2, L2, k2, n2⟩, -, X2, ⟨Lc2, hQ2, l2, y2, z2⟩, st2⟩ := Jvm.LawKit.callS X1 hx (y := (⟨"java/lang/Math", "max", "(II)I"⟩ : MethodName)) hown (mvT hZ (hw _ (List.mem_of_getElem? (i := 5) rfl))) (mvT hZ (hw _ (List.mem_of_getElem? (i := 6) rfl))) (mvT hZ (hw _ (List.mem_of_getElem? (i := 3) rfl))) (mvT hZ (hw _ (List.mem_of_getElem? (i := 7) rfl))) (by decide) (backOf (W := 0) (rm2 l Z a0 hw [] (p0 &&& (2147483647 : Int32)) (p1 &&& (2147483647 : Int32)) h0 n0) hZ (hw _ (List.mem_of_getElem? (i := 7) rfl)) (hw _ (List.mem_of_getElem? (i := 3) rfl)) (by decide) (by decide)) (g := (mkF m 25 #[.val (.int p0), .val (.int p1), .val (.int p2), .val (.int p3), .val (.int (p0 &&& (2147483647 : Int32))), .val (.int (p1 &&& (2147483647 : Int32))), .val (.int (va p0 p1 p2 p3)), .unset, .unset, .unset, .unset] [(.int (p1 &&& (2147483647 : Int32))), (.int (p0 &&& (2147483647 : Int32)))])) rfl (by rw [hml]; rfl) (argsL := [(.int (p0 &&& (2147483647 : Int32))), (.int (p1 &&& (2147483647 : Int32)))]) (rest := []) (lenOf pd_0 rfl) rfl (by show 2 * 0 + _ ≤ _; exact Nat.le_of_eq rfl) (hb hby at_25) (fun _ _ => ⟨rfl, e1, (Nat.le_of_ble_eq_true rfl), (Nat.le_of_ble_eq_true rfl)⟩)
  dsimp only [Pt.U, Pt.locs, Pt.cells, Pt.slots] at X2 l2 y2 z2 st2 hQ2
  subst l2 y2 z2
  obtain ⟨rfl, N2q, e2⟩ := hQ2
  have N2 := Fr.app N1 N2q
  refine own_st (T' := T2) (f' := (mkF m 28 #[.val (.int p0), .val (.int p1), .val (.int p2), .val (.int p3), .val (.int (p0 &&& (2147483647 : Int32))), .val (.int (p1 &&& (2147483647 : Int32))), .val (.int (va p0 p1 p2 p3)), .unset, .unset, .unset, .unset] [(.int (f2 (p0 &&& (2147483647 : Int32)) (p1 &&& (2147483647 : Int32))))])) ?_ (fun t q => st2 _ q)
  refine own_st (T' := T2) (f' := (mkF m 30 #[.val (.int p0), .val (.int p1), .val (.int p2), .val (.int p3), .val (.int (p0 &&& (2147483647 : Int32))), .val (.int (p1 &&& (2147483647 : Int32))), .val (.int (va p0 p1 p2 p3)), .val (.int (f2 (p0 &&& (2147483647 : Int32)) (p1 &&& (2147483647 : Int32)))), .unset, .unset, .unset] [])) ?_ (fun t q => XS.istore X2.here hx rfl (hb hby at_28) rfl (l' := #[.val (.int p0), .val (.int p1), .val (.int p2), .val (.int p3), .val (.int (p0 &&& (2147483647 : Int32))), .val (.int (p1 &&& (2147483647 : Int32))), .val (.int (va p0 p1 p2 p3)), .val (.int (f2 (p0 &&& (2147483647 : Int32)) (p1 &&& (2147483647 : Int32)))), .unset, .unset, .unset]) rfl q)
  refine own_st (T' := T2) (f' := (mkF m 31 #[.val (.int p0), .val (.int p1), .val (.int p2), .val (.int p3), .val (.int (p0 &&& (2147483647 : Int32))), .val (.int (p1 &&& (2147483647 : Int32))), .val (.int (va p0 p1 p2 p3)), .val (.int (f2 (p0 &&& (2147483647 : Int32)) (p1 &&& (2147483647 : Int32)))), .unset, .unset, .unset] [(.int p2)])) ?_ (fun t q => XS.iloadN X2.here hx rfl (hb hby at_30) rfl q)
  refine own_st (T' := T2) (f' := (mkF m 32 #[.val (.int p0), .val (.int p1), .val (.int p2), .val (.int p3), .val (.int (p0 &&& (2147483647 : Int32))), .val (.int (p1 &&& (2147483647 : Int32))), .val (.int (va p0 p1 p2 p3)), .val (.int (f2 (p0 &&& (2147483647 : Int32)) (p1 &&& (2147483647 : Int32)))), .unset, .unset, .unset] [(.int (1 : Int32)), (.int p2)])) ?_ (fun t q => XS.iconst X2.here hx rfl (hb hby at_31) q)
  refine own_st (T' := T2) (f' := (mkF m 33 #[.val (.int p0), .val (.int p1), .val (.int p2), .val (.int p3), .val (.int (p0 &&& (2147483647 : Int32))), .val (.int (p1 &&& (2147483647 : Int32))), .val (.int (va p0 p1 p2 p3)), .val (.int (f2 (p0 &&& (2147483647 : Int32)) (p1 &&& (2147483647 : Int32)))), .unset, .unset, .unset] [(.int (p2 &&& (1 : Int32)))])) ?_ (fun t q => XS.iand X2.here hx rfl (hb hby at_32) rfl q)
  refine own_ite (fun hc33 => ?_) (fun hc33 => ?_)
  · refine own_st (T' := T2) (f' := (mkF m 65 #[.val (.int p0), .val (.int p1), .val (.int p2), .val (.int p3), .val (.int (p0 &&& (2147483647 : Int32))), .val (.int (p1 &&& (2147483647 : Int32))), .val (.int (va p0 p1 p2 p3)), .val (.int (f2 (p0 &&& (2147483647 : Int32)) (p1 &&& (2147483647 : Int32)))), .unset, .unset, .unset] [])) ?_ (fun t q => XS.ifYes X2.here hx rfl (pc0 := 33) (pc' := 65) rfl (hb hby at_33) rfl ((if0 _ _).trans (teq hc33).1) (by decide) (by decide) q)
    refine own_st (T' := T2) (f' := (mkF m 67 #[.val (.int p0), .val (.int p1), .val (.int p2), .val (.int p3), .val (.int (p0 &&& (2147483647 : Int32))), .val (.int (p1 &&& (2147483647 : Int32))), .val (.int (va p0 p1 p2 p3)), .val (.int (f2 (p0 &&& (2147483647 : Int32)) (p1 &&& (2147483647 : Int32)))), .unset, .unset, .unset] [(.int (f2 (p0 &&& (2147483647 : Int32)) (p1 &&& (2147483647 : Int32))))])) ?_ (fun t q => XS.iload X2.here hx rfl (hb hby at_65) rfl q)
    refine own_st (T' := T2) (f' := (mkF m 68 #[.val (.int p0), .val (.int p1), .val (.int p2), .val (.int p3), .val (.int (p0 &&& (2147483647 : Int32))), .val (.int (p1 &&& (2147483647 : Int32))), .val (.int (va p0 p1 p2 p3)), .val (.int (f2 (p0 &&& (2147483647 : Int32)) (p1 &&& (2147483647 : Int32)))), .unset, .unset, .unset] [(.long ((f2 (p0 &&& (2147483647 : Int32)) (p1 &&& (2147483647 : Int32))).toInt64))])) ?_ (fun t q => XS.i2l X2.here hx rfl (hb hby at_67) rfl q)
    refine own_st (T' := T2) (f' := (mkF m 70 #[.val (.int p0), .val (.int p1), .val (.int p2), .val (.int p3), .val (.int (p0 &&& (2147483647 : Int32))), .val (.int (p1 &&& (2147483647 : Int32))), .val (.int (va p0 p1 p2 p3)), .val (.int (f2 (p0 &&& (2147483647 : Int32)) (p1 &&& (2147483647 : Int32)))), .unset, .unset, .unset] [(.int (va p0 p1 p2 p3)), (.long ((f2 (p0 &&& (2147483647 : Int32)) (p1 &&& (2147483647 : Int32))).toInt64))])) ?_ (fun t q => XS.iload X2.here hx rfl (hb hby at_68) rfl q)
    refine own_st (T' := T2) (f' := (mkF m 71 #[.val (.int p0), .val (.int p1), .val (.int p2), .val (.int p3), .val (.int (p0 &&& (2147483647 : Int32))), .val (.int (p1 &&& (2147483647 : Int32))), .val (.int (va p0 p1 p2 p3)), .val (.int (f2 (p0 &&& (2147483647 : Int32)) (p1 &&& (2147483647 : Int32)))), .unset, .unset, .unset] [(.long ((va p0 p1 p2 p3).toInt64)), (.long ((f2 (p0 &&& (2147483647 : Int32)) (p1 &&& (2147483647 : Int32))).toInt64))])) ?_ (fun t q => XS.i2l X2.here hx rfl (hb hby at_70) rfl q)
    refine own_st (T' := T2) (f' := (mkF m 74 #[.val (.int p0), .val (.int p1), .val (.int p2), .val (.int p3), .val (.int (p0 &&& (2147483647 : Int32))), .val (.int (p1 &&& (2147483647 : Int32))), .val (.int (va p0 p1 p2 p3)), .val (.int (f2 (p0 &&& (2147483647 : Int32)) (p1 &&& (2147483647 : Int32)))), .unset, .unset, .unset] [(.long (33554431 : Int64)), (.long ((va p0 p1 p2 p3).toInt64)), (.long ((f2 (p0 &&& (2147483647 : Int32)) (p1 &&& (2147483647 : Int32))).toInt64))])) ?_ (fun t q => X2.ldc2Long hx hown (mvT hZ (hw _ (List.mem_of_getElem? (i := 8) rfl))) (g := (mkF m 71 #[.val (.int p0), .val (.int p1), .val (.int p2), .val (.int p3), .val (.int (p0 &&& (2147483647 : Int32))), .val (.int (p1 &&& (2147483647 : Int32))), .val (.int (va p0 p1 p2 p3)), .val (.int (f2 (p0 &&& (2147483647 : Int32)) (p1 &&& (2147483647 : Int32)))), .unset, .unset, .unset] [(.long ((va p0 p1 p2 p3).toInt64)), (.long ((f2 (p0 &&& (2147483647 : Int32)) (p1 &&& (2147483647 : Int32))).toInt64))])) rfl (hb hby at_71) _ q)
    refine own_st (T' := T2) (f' := (mkF m 75 #[.val (.int p0), .val (.int p1), .val (.int p2), .val (.int p3), .val (.int (p0 &&& (2147483647 : Int32))), .val (.int (p1 &&& (2147483647 : Int32))), .val (.int (va p0 p1 p2 p3)), .val (.int (f2 (p0 &&& (2147483647 : Int32)) (p1 &&& (2147483647 : Int32)))), .unset, .unset, .unset] [(.long (((va p0 p1 p2 p3).toInt64) + (33554431 : Int64))), (.long ((f2 (p0 &&& (2147483647 : Int32)) (p1 &&& (2147483647 : Int32))).toInt64))])) ?_ (fun t q => XS.ladd X2.here hx rfl (hb hby at_74) rfl q)
    obtain ⟨_, _, ⟨T3, L3, k3, n3⟩, -, X3, ⟨Lc3, hQ3, l3, y3, z3⟩, st3⟩ := Jvm.LawKit.callS X2 hx (y := (⟨"java/lang/Math", "min", "(JJ)J"⟩ : MethodName)) hown (mvT hZ (hw _ (List.mem_of_getElem? (i := 9) rfl))) (mvT hZ (hw _ (List.mem_of_getElem? (i := 10) rfl))) (mvT hZ (hw _ (List.mem_of_getElem? (i := 3) rfl))) (mvT hZ (hw _ (List.mem_of_getElem? (i := 11) rfl))) (by decide) (backOf (W := 0) (rm3 l Z a0 hw [] ((f2 (p0 &&& (2147483647 : Int32)) (p1 &&& (2147483647 : Int32))).toInt64) (((va p0 p1 p2 p3).toInt64) + (33554431 : Int64)) h0 n0) hZ (hw _ (List.mem_of_getElem? (i := 11) rfl)) (hw _ (List.mem_of_getElem? (i := 3) rfl)) (by decide) (by decide)) (g := (mkF m 75 #[.val (.int p0), .val (.int p1), .val (.int p2), .val (.int p3), .val (.int (p0 &&& (2147483647 : Int32))), .val (.int (p1 &&& (2147483647 : Int32))), .val (.int (va p0 p1 p2 p3)), .val (.int (f2 (p0 &&& (2147483647 : Int32)) (p1 &&& (2147483647 : Int32)))), .unset, .unset, .unset] [(.long (((va p0 p1 p2 p3).toInt64) + (33554431 : Int64))), (.long ((f2 (p0 &&& (2147483647 : Int32)) (p1 &&& (2147483647 : Int32))).toInt64))])) rfl (by rw [hml]; rfl) (argsL := [(.long ((f2 (p0 &&& (2147483647 : Int32)) (p1 &&& (2147483647 : Int32))).toInt64)), (.long (((va p0 p1 p2 p3).toInt64) + (33554431 : Int64)))]) (rest := []) (lenOf pd_1 rfl) rfl (by show 2 * 0 + _ ≤ _; exact Nat.le_of_eq rfl) (hb hby at_75) (fun _ _ => ⟨rfl, e2, (Nat.le_of_ble_eq_true rfl), (Nat.le_of_ble_eq_true rfl)⟩)
    dsimp only [Pt.U, Pt.locs, Pt.cells, Pt.slots] at X3 l3 y3 z3 st3 hQ3
    subst l3 y3 z3
    obtain ⟨rfl, N3q, e3⟩ := hQ3
    have N3 := Fr.app N2 N3q
    refine own_st (T' := T3) (f' := (mkF m 78 #[.val (.int p0), .val (.int p1), .val (.int p2), .val (.int p3), .val (.int (p0 &&& (2147483647 : Int32))), .val (.int (p1 &&& (2147483647 : Int32))), .val (.int (va p0 p1 p2 p3)), .val (.int (f2 (p0 &&& (2147483647 : Int32)) (p1 &&& (2147483647 : Int32)))), .unset, .unset, .unset] [(.long (f3 ((f2 (p0 &&& (2147483647 : Int32)) (p1 &&& (2147483647 : Int32))).toInt64) (((va p0 p1 p2 p3).toInt64) + (33554431 : Int64))))])) ?_ (fun t q => st3 _ q)
    refine own_st (T' := T3) (f' := (mkF m 80 #[.val (.int p0), .val (.int p1), .val (.int p2), .val (.int p3), .val (.int (p0 &&& (2147483647 : Int32))), .val (.int (p1 &&& (2147483647 : Int32))), .val (.int (va p0 p1 p2 p3)), .val (.int (f2 (p0 &&& (2147483647 : Int32)) (p1 &&& (2147483647 : Int32)))), .val (.long (f3 ((f2 (p0 &&& (2147483647 : Int32)) (p1 &&& (2147483647 : Int32))).toInt64) (((va p0 p1 p2 p3).toInt64) + (33554431 : Int64)))), .second, .unset] [])) ?_ (fun t q => XS.lstore X3.here hx rfl (hb hby at_78) rfl (l' := #[.val (.int p0), .val (.int p1), .val (.int p2), .val (.int p3), .val (.int (p0 &&& (2147483647 : Int32))), .val (.int (p1 &&& (2147483647 : Int32))), .val (.int (va p0 p1 p2 p3)), .val (.int (f2 (p0 &&& (2147483647 : Int32)) (p1 &&& (2147483647 : Int32)))), .val (.long (f3 ((f2 (p0 &&& (2147483647 : Int32)) (p1 &&& (2147483647 : Int32))).toInt64) (((va p0 p1 p2 p3).toInt64) + (33554431 : Int64)))), .second, .unset]) rfl q)
    refine own_st (T' := T3) (f' := (mkF m 82 #[.val (.int p0), .val (.int p1), .val (.int p2), .val (.int p3), .val (.int (p0 &&& (2147483647 : Int32))), .val (.int (p1 &&& (2147483647 : Int32))), .val (.int (va p0 p1 p2 p3)), .val (.int (f2 (p0 &&& (2147483647 : Int32)) (p1 &&& (2147483647 : Int32)))), .val (.long (f3 ((f2 (p0 &&& (2147483647 : Int32)) (p1 &&& (2147483647 : Int32))).toInt64) (((va p0 p1 p2 p3).toInt64) + (33554431 : Int64)))), .second, .unset] [(.int (va p0 p1 p2 p3))])) ?_ (fun t q => XS.iload X3.here hx rfl (hb hby at_80) rfl q)
    refine own_st (T' := T3) (f' := (mkF m 84 #[.val (.int p0), .val (.int p1), .val (.int p2), .val (.int p3), .val (.int (p0 &&& (2147483647 : Int32))), .val (.int (p1 &&& (2147483647 : Int32))), .val (.int (va p0 p1 p2 p3)), .val (.int (f2 (p0 &&& (2147483647 : Int32)) (p1 &&& (2147483647 : Int32)))), .val (.long (f3 ((f2 (p0 &&& (2147483647 : Int32)) (p1 &&& (2147483647 : Int32))).toInt64) (((va p0 p1 p2 p3).toInt64) + (33554431 : Int64)))), .second, .unset] [(.int (f2 (p0 &&& (2147483647 : Int32)) (p1 &&& (2147483647 : Int32)))), (.int (va p0 p1 p2 p3))])) ?_ (fun t q => XS.iload X3.here hx rfl (hb hby at_82) rfl q)
    obtain ⟨_, _, ⟨T4, L4, k4, n4⟩, -, X4, ⟨Lc4, hQ4, l4, y4, z4⟩, st4⟩ := Jvm.LawKit.callS X3 hx (y := (⟨"com/example/bitfold/bitfold/array/Runs", "runEnd", "(II)I"⟩ : MethodName)) hown (mvT hZ (hw _ (List.mem_of_getElem? (i := 12) rfl))) (mvT hZ (hw _ (List.mem_of_getElem? (i := 13) rfl))) (mvT hZ (hw _ (List.mem_of_getElem? (i := 14) rfl))) (mvT hZ (hw _ (List.mem_of_getElem? (i := 15) rfl))) (by decide) (backOf (W := 0) (rm4 l Z a0 hw [] (va p0 p1 p2 p3) (f2 (p0 &&& (2147483647 : Int32)) (p1 &&& (2147483647 : Int32))) h0 n0) hZ (hw _ (List.mem_of_getElem? (i := 15) rfl)) (hw _ (List.mem_of_getElem? (i := 14) rfl)) (by decide) (by decide)) (g := (mkF m 84 #[.val (.int p0), .val (.int p1), .val (.int p2), .val (.int p3), .val (.int (p0 &&& (2147483647 : Int32))), .val (.int (p1 &&& (2147483647 : Int32))), .val (.int (va p0 p1 p2 p3)), .val (.int (f2 (p0 &&& (2147483647 : Int32)) (p1 &&& (2147483647 : Int32)))), .val (.long (f3 ((f2 (p0 &&& (2147483647 : Int32)) (p1 &&& (2147483647 : Int32))).toInt64) (((va p0 p1 p2 p3).toInt64) + (33554431 : Int64)))), .second, .unset] [(.int (f2 (p0 &&& (2147483647 : Int32)) (p1 &&& (2147483647 : Int32)))), (.int (va p0 p1 p2 p3))])) rfl (by rw [hml]; rfl) (argsL := [(.int (va p0 p1 p2 p3)), (.int (f2 (p0 &&& (2147483647 : Int32)) (p1 &&& (2147483647 : Int32))))]) (rest := []) (lenOf pd_0 rfl) rfl (by show 2 * 0 + _ ≤ _; exact Nat.le_of_eq rfl) (hb hby at_84) (fun _ _ => ⟨rfl, e3, (Nat.le_of_ble_eq_true rfl), (Nat.le_of_ble_eq_true rfl)⟩)
    dsimp only [Pt.U, Pt.locs, Pt.cells, Pt.slots] at X4 l4 y4 z4 st4 hQ4
    subst l4 y4 z4
    obtain ⟨rfl, N4q, e4⟩ := hQ4
    have N4 := Fr.app N3 N4q
    refine own_st (T' := T4) (f' := (mkF m 87 #[.val (.int p0), .val (.int p1), .val (.int p2), .val (.int p3), .val (.int (p0 &&& (2147483647 : Int32))), .val (.int (p1 &&& (2147483647 : Int32))), .val (.int (va p0 p1 p2 p3)), .val (.int (f2 (p0 &&& (2147483647 : Int32)) (p1 &&& (2147483647 : Int32)))), .val (.long (f3 ((f2 (p0 &&& (2147483647 : Int32)) (p1 &&& (2147483647 : Int32))).toInt64) (((va p0 p1 p2 p3).toInt64) + (33554431 : Int64)))), .second, .unset] [(.int (f4 (va p0 p1 p2 p3) (f2 (p0 &&& (2147483647 : Int32)) (p1 &&& (2147483647 : Int32)))))])) ?_ (fun t q => st4 _ q)
    refine own_st (T' := T4) (f' := (mkF m 89 #[.val (.int p0), .val (.int p1), .val (.int p2), .val (.int p3), .val (.int (p0 &&& (2147483647 : Int32))), .val (.int (p1 &&& (2147483647 : Int32))), .val (.int (va p0 p1 p2 p3)), .val (.int (f2 (p0 &&& (2147483647 : Int32)) (p1 &&& (2147483647 : Int32)))), .val (.long (f3 ((f2 (p0 &&& (2147483647 : Int32)) (p1 &&& (2147483647 : Int32))).toInt64) (((va p0 p1 p2 p3).toInt64) + (33554431 : Int64)))), .second, .val (.int (f4 (va p0 p1 p2 p3) (f2 (p0 &&& (2147483647 : Int32)) (p1 &&& (2147483647 : Int32)))))] [])) ?_ (fun t q => XS.istore X4.here hx rfl (hb hby at_87) rfl (l' := #[.val (.int p0), .val (.int p1), .val (.int p2), .val (.int p3), .val (.int (p0 &&& (2147483647 : Int32))), .val (.int (p1 &&& (2147483647 : Int32))), .val (.int (va p0 p1 p2 p3)), .val (.int (f2 (p0 &&& (2147483647 : Int32)) (p1 &&& (2147483647 : Int32)))), .val (.long (f3 ((f2 (p0 &&& (2147483647 : Int32)) (p1 &&& (2147483647 : Int32))).toInt64) (((va p0 p1 p2 p3).toInt64) + (33554431 : Int64)))), .second, .val (.int (f4 (va p0 p1 p2 p3) (f2 (p0 &&& (2147483647 : Int32)) (p1 &&& (2147483647 : Int32)))))]) rfl q)
    refine own_st (T' := T4) (f' := (mkF m 91 #[.val (.int p0), .val (.int p1), .val (.int p2), .val (.int p3), .val (.int (p0 &&& (2147483647 : Int32))), .val (.int (p1 &&& (2147483647 : Int32))), .val (.int (va p0 p1 p2 p3)), .val (.int (f2 (p0 &&& (2147483647 : Int32)) (p1 &&& (2147483647 : Int32)))), .val (.long (f3 ((f2 (p0 &&& (2147483647 : Int32)) (p1 &&& (2147483647 : Int32))).toInt64) (((va p0 p1 p2 p3).toInt64) + (33554431 : Int64)))), .second, .val (.int (f4 (va p0 p1 p2 p3) (f2 (p0 &&& (2147483647 : Int32)) (p1 &&& (2147483647 : Int32)))))] [(.int (f4 (va p0 p1 p2 p3) (f2 (p0 &&& (2147483647 : Int32)) (p1 &&& (2147483647 : Int32)))))])) ?_ (fun t q => XS.iload X4.here hx rfl (hb hby at_89) rfl q)
    refine own_st (T' := T4) (f' := (mkF m 92 #[.val (.int p0), .val (.int p1), .val (.int p2), .val (.int p3), .val (.int (p0 &&& (2147483647 : Int32))), .val (.int (p1 &&& (2147483647 : Int32))), .val (.int (va p0 p1 p2 p3)), .val (.int (f2 (p0 &&& (2147483647 : Int32)) (p1 &&& (2147483647 : Int32)))), .val (.long (f3 ((f2 (p0 &&& (2147483647 : Int32)) (p1 &&& (2147483647 : Int32))).toInt64) (((va p0 p1 p2 p3).toInt64) + (33554431 : Int64)))), .second, .val (.int (f4 (va p0 p1 p2 p3) (f2 (p0 &&& (2147483647 : Int32)) (p1 &&& (2147483647 : Int32)))))] [(.long ((f4 (va p0 p1 p2 p3) (f2 (p0 &&& (2147483647 : Int32)) (p1 &&& (2147483647 : Int32)))).toInt64))])) ?_ (fun t q => XS.i2l X4.here hx rfl (hb hby at_91) rfl q)
    refine own_st (T' := T4) (f' := (mkF m 94 #[.val (.int p0), .val (.int p1), .val (.int p2), .val (.int p3), .val (.int (p0 &&& (2147483647 : Int32))), .val (.int (p1 &&& (2147483647 : Int32))), .val (.int (va p0 p1 p2 p3)), .val (.int (f2 (p0 &&& (2147483647 : Int32)) (p1 &&& (2147483647 : Int32)))), .val (.long (f3 ((f2 (p0 &&& (2147483647 : Int32)) (p1 &&& (2147483647 : Int32))).toInt64) (((va p0 p1 p2 p3).toInt64) + (33554431 : Int64)))), .second, .val (.int (f4 (va p0 p1 p2 p3) (f2 (p0 &&& (2147483647 : Int32)) (p1 &&& (2147483647 : Int32)))))] [(.long (f3 ((f2 (p0 &&& (2147483647 : Int32)) (p1 &&& (2147483647 : Int32))).toInt64) (((va p0 p1 p2 p3).toInt64) + (33554431 : Int64)))), (.long ((f4 (va p0 p1 p2 p3) (f2 (p0 &&& (2147483647 : Int32)) (p1 &&& (2147483647 : Int32)))).toInt64))])) ?_ (fun t q => XS.lload X4.here hx rfl (hb hby at_92) rfl q)
    refine own_st (T' := T4) (f' := (mkF m 95 #[.val (.int p0), .val (.int p1), .val (.int p2), .val (.int p3), .val (.int (p0 &&& (2147483647 : Int32))), .val (.int (p1 &&& (2147483647 : Int32))), .val (.int (va p0 p1 p2 p3)), .val (.int (f2 (p0 &&& (2147483647 : Int32)) (p1 &&& (2147483647 : Int32)))), .val (.long (f3 ((f2 (p0 &&& (2147483647 : Int32)) (p1 &&& (2147483647 : Int32))).toInt64) (((va p0 p1 p2 p3).toInt64) + (33554431 : Int64)))), .second, .val (.int (f4 (va p0 p1 p2 p3) (f2 (p0 &&& (2147483647 : Int32)) (p1 &&& (2147483647 : Int32)))))] [(.int (lcmpW ((f4 (va p0 p1 p2 p3) (f2 (p0 &&& (2147483647 : Int32)) (p1 &&& (2147483647 : Int32)))).toInt64) (f3 ((f2 (p0 &&& (2147483647 : Int32)) (p1 &&& (2147483647 : Int32))).toInt64) (((va p0 p1 p2 p3).toInt64) + (33554431 : Int64)))))])) ?_ (fun t q => XS.lcmp X4.here hx rfl (hb hby at_94) rfl q)
    refine own_ite (fun hc95 => ?_) (fun hc95 => ?_)
    · refine own_st (T' := T4) (f' := (mkF m 98 #[.val (.int p0), .val (.int p1), .val (.int p2), .val (.int p3), .val (.int (p0 &&& (2147483647 : Int32))), .val (.int (p1 &&& (2147483647 : Int32))), .val (.int (va p0 p1 p2 p3)), .val (.int (f2 (p0 &&& (2147483647 : Int32)) (p1 &&& (2147483647 : Int32)))), .val (.long (f3 ((f2 (p0 &&& (2147483647 : Int32)) (p1 &&& (2147483647 : Int32))).toInt64) (((va p0 p1 p2 p3).toInt64) + (33554431 : Int64)))), .second, .val (.int (f4 (va p0 p1 p2 p3) (f2 (p0 &&& (2147483647 : Int32)) (p1 &&& (2147483647 : Int32)))))] [])) ?_ (fun t q => XS.ifNo X4.here hx rfl (hb hby at_95) rfl ((if0 _ _).trans (teq ((lw_eq _ _).mpr hc95)).2) q)
      refine own_st (T' := T4) (f' := (mkF m 99 #[.val (.int p0), .val (.int p1), .val (.int p2), .val (.int p3), .val (.int (p0 &&& (2147483647 : Int32))), .val (.int (p1 &&& (2147483647 : Int32))), .val (.int (va p0 p1 p2 p3)), .val (.int (f2 (p0 &&& (2147483647 : Int32)) (p1 &&& (2147483647 : Int32)))), .val (.long (f3 ((f2 (p0 &&& (2147483647 : Int32)) (p1 &&& (2147483647 : Int32))).toInt64) (((va p0 p1 p2 p3).toInt64) + (33554431 : Int64)))), .second, .val (.int (f4 (va p0 p1 p2 p3) (f2 (p0 &&& (2147483647 : Int32)) (p1 &&& (2147483647 : Int32)))))] [(.int (1 : Int32))])) ?_ (fun t q => XS.iconst X4.here hx rfl (hb hby at_98) q)
      refine own_st (T' := T4) (f' := (mkF m 103 #[.val (.int p0), .val (.int p1), .val (.int p2), .val (.int p3), .val (.int (p0 &&& (2147483647 : Int32))), .val (.int (p1 &&& (2147483647 : Int32))), .val (.int (va p0 p1 p2 p3)), .val (.int (f2 (p0 &&& (2147483647 : Int32)) (p1 &&& (2147483647 : Int32)))), .val (.long (f3 ((f2 (p0 &&& (2147483647 : Int32)) (p1 &&& (2147483647 : Int32))).toInt64) (((va p0 p1 p2 p3).toInt64) + (33554431 : Int64)))), .second, .val (.int (f4 (va p0 p1 p2 p3) (f2 (p0 &&& (2147483647 : Int32)) (p1 &&& (2147483647 : Int32)))))] [(.int (1 : Int32))])) ?_ (fun t q => XS.goto X4.here hx rfl (pc0 := 99) (pc' := 103) rfl (hb hby at_99) (by decide) (by decide) q)
      exact own_retN X4 hx hlk (t := .boolean) Bd.returns (by simp) (hb hby at_103) (by decide) (by decide) ⟨rfl, N4, e4⟩
    · refine own_st (T' := T4) (f' := (mkF m 102 #[.val (.int p0), .val (.int p1), .val (.int p2), .val (.int p3), .val (.int (p0 &&& (2147483647 : Int32))), .val (.int (p1 &&& (2147483647 : Int32))), .val (.int (va p0 p1 p2 p3)), .val (.int (f2 (p0 &&& (2147483647 : Int32)) (p1 &&& (2147483647 : Int32)))), .val (.long (f3 ((f2 (p0 &&& (2147483647 : Int32)) (p1 &&& (2147483647 : Int32))).toInt64) (((va p0 p1 p2 p3).toInt64) + (33554431 : Int64)))), .second, .val (.int (f4 (va p0 p1 p2 p3) (f2 (p0 &&& (2147483647 : Int32)) (p1 &&& (2147483647 : Int32)))))] [])) ?_ (fun t q => XS.ifYes X4.here hx rfl (pc0 := 95) (pc' := 102) rfl (hb hby at_95) rfl ((if0 _ _).trans (feq (fun z => hc95 ((lw_eq _ _).mp z))).2) (by decide) (by decide) q)
      refine own_st (T' := T4) (f' := (mkF m 103 #[.val (.int p0), .val (.int p1), .val (.int p2), .val (.int p3), .val (.int (p0 &&& (2147483647 : Int32))), .val (.int (p1 &&& (2147483647 : Int32))), .val (.int (va p0 p1 p2 p3)), .val (.int (f2 (p0 &&& (2147483647 : Int32)) (p1 &&& (2147483647 : Int32)))), .val (.long (f3 ((f2 (p0 &&& (2147483647 : Int32)) (p1 &&& (2147483647 : Int32))).toInt64) (((va p0 p1 p2 p3).toInt64) + (33554431 : Int64)))), .second, .val (.int (f4 (va p0 p1 p2 p3) (f2 (p0 &&& (2147483647 : Int32)) (p1 &&& (2147483647 : Int32)))))] [(.int (0 : Int32))])) ?_ (fun t q => XS.iconst X4.here hx rfl (hb hby at_102) q)
      exact own_retN X4 hx hlk (t := .boolean) Bd.returns (by simp) (hb hby at_103) (by decide) (by decide) ⟨rfl, N4, e4⟩
  · refine own_st (T' := T2) (f' := (mkF m 36 #[.val (.int p0), .val (.int p1), .val (.int p2), .val (.int p3), .val (.int (p0 &&& (2147483647 : Int32))), .val (.int (p1 &&& (2147483647 : Int32))), .val (.int (va p0 p1 p2 p3)), .val (.int (f2 (p0 &&& (2147483647 : Int32)) (p1 &&& (2147483647 : Int32)))), .unset, .unset, .unset] [])) ?_ (fun t q => XS.ifNo X2.here hx rfl (hb hby at_33) rfl ((if0 _ _).trans (feq hc33).1) q)
    refine own_st (T' := T2) (f' := (mkF m 38 #[.val (.int p0), .val (.int p1), .val (.int p2), .val (.int p3), .val (.int (p0 &&& (2147483647 : Int32))), .val (.int (p1 &&& (2147483647 : Int32))), .val (.int (va p0 p1 p2 p3)), .val (.int (f2 (p0 &&& (2147483647 : Int32)) (p1 &&& (2147483647 : Int32)))), .unset, .unset, .unset] [(.int (va p0 p1 p2 p3))])) ?_ (fun t q => XS.iload X2.here hx rfl (hb hby at_36) rfl q)
    refine own_st (T' := T2) (f' := (mkF m 39 #[.val (.int p0), .val (.int p1), .val (.int p2), .val (.int p3), .val (.int (p0 &&& (2147483647 : Int32))), .val (.int (p1 &&& (2147483647 : Int32))), .val (.int (va p0 p1 p2 p3)), .val (.int (f2 (p0 &&& (2147483647 : Int32)) (p1 &&& (2147483647 : Int32)))), .unset, .unset, .unset] [(.long ((va p0 p1 p2 p3).toInt64))])) ?_ (fun t q => XS.i2l X2.here hx rfl (hb hby at_38) rfl q)
    refine own_st (T' := T2) (f' := (mkF m 42 #[.val (.int p0), .val (.int p1), .val (.int p2), .val (.int p3), .val (.int (p0 &&& (2147483647 : Int32))), .val (.int (p1 &&& (2147483647 : Int32))), .val (.int (va p0 p1 p2 p3)), .val (.int (f2 (p0 &&& (2147483647 : Int32)) (p1 &&& (2147483647 : Int32)))), .unset, .unset, .unset] [(.long (33554427 : Int64)), (.long ((va p0 p1 p2 p3).toInt64))])) ?_ (fun t q => X2.ldc2Long hx hown (mvT hZ (hw _ (List.mem_of_getElem? (i := 17) rfl))) (g := (mkF m 39 #[.val (.int p0), .val (.int p1), .val (.int p2), .val (.int p3), .val (.int (p0 &&& (2147483647 : Int32))), .val (.int (p1 &&& (2147483647 : Int32))), .val (.int (va p0 p1 p2 p3)), .val (.int (f2 (p0 &&& (2147483647 : Int32)) (p1 &&& (2147483647 : Int32)))), .unset, .unset, .unset] [(.long ((va p0 p1 p2 p3).toInt64))])) rfl (hb hby at_39) _ q)
    refine own_st (T' := T2) (f' := (mkF m 43 #[.val (.int p0), .val (.int p1), .val (.int p2), .val (.int p3), .val (.int (p0 &&& (2147483647 : Int32))), .val (.int (p1 &&& (2147483647 : Int32))), .val (.int (va p0 p1 p2 p3)), .val (.int (f2 (p0 &&& (2147483647 : Int32)) (p1 &&& (2147483647 : Int32)))), .unset, .unset, .unset] [(.long (((va p0 p1 p2 p3).toInt64) + (33554427 : Int64)))])) ?_ (fun t q => XS.ladd X2.here hx rfl (hb hby at_42) rfl q)
    refine own_st (T' := T2) (f' := (mkF m 44 #[.val (.int p0), .val (.int p1), .val (.int p2), .val (.int p3), .val (.int (p0 &&& (2147483647 : Int32))), .val (.int (p1 &&& (2147483647 : Int32))), .val (.int (va p0 p1 p2 p3)), .val (.int (f2 (p0 &&& (2147483647 : Int32)) (p1 &&& (2147483647 : Int32)))), .unset, .unset, .unset] [(.int p3), (.long (((va p0 p1 p2 p3).toInt64) + (33554427 : Int64)))])) ?_ (fun t q => XS.iloadN X2.here hx rfl (hb hby at_43) rfl q)
    refine own_st (T' := T2) (f' := (mkF m 46 #[.val (.int p0), .val (.int p1), .val (.int p2), .val (.int p3), .val (.int (p0 &&& (2147483647 : Int32))), .val (.int (p1 &&& (2147483647 : Int32))), .val (.int (va p0 p1 p2 p3)), .val (.int (f2 (p0 &&& (2147483647 : Int32)) (p1 &&& (2147483647 : Int32)))), .unset, .unset, .unset] [(.int (7 : Int32)), (.int p3), (.long (((va p0 p1 p2 p3).toInt64) + (33554427 : Int64)))])) ?_ (fun t q => XS.bipush X2.here hx rfl (hb hby at_44) q)
    refine own_st (T' := T2) (f' := (mkF m 47 #[.val (.int p0), .val (.int p1), .val (.int p2), .val (.int p3), .val (.int (p0 &&& (2147483647 : Int32))), .val (.int (p1 &&& (2147483647 : Int32))), .val (.int (va p0 p1 p2 p3)), .val (.int (f2 (p0 &&& (2147483647 : Int32)) (p1 &&& (2147483647 : Int32)))), .unset, .unset, .unset] [(.int (p3 &&& (7 : Int32))), (.long (((va p0 p1 p2 p3).toInt64) + (33554427 : Int64)))])) ?_ (fun t q => XS.iand X2.here hx rfl (hb hby at_46) rfl q)
    refine own_st (T' := T2) (f' := (mkF m 48 #[.val (.int p0), .val (.int p1), .val (.int p2), .val (.int p3), .val (.int (p0 &&& (2147483647 : Int32))), .val (.int (p1 &&& (2147483647 : Int32))), .val (.int (va p0 p1 p2 p3)), .val (.int (f2 (p0 &&& (2147483647 : Int32)) (p1 &&& (2147483647 : Int32)))), .unset, .unset, .unset] [(.long ((p3 &&& (7 : Int32)).toInt64)), (.long (((va p0 p1 p2 p3).toInt64) + (33554427 : Int64)))])) ?_ (fun t q => XS.i2l X2.here hx rfl (hb hby at_47) rfl q)
    refine own_st (T' := T2) (f' := (mkF m 49 #[.val (.int p0), .val (.int p1), .val (.int p2), .val (.int p3), .val (.int (p0 &&& (2147483647 : Int32))), .val (.int (p1 &&& (2147483647 : Int32))), .val (.int (va p0 p1 p2 p3)), .val (.int (f2 (p0 &&& (2147483647 : Int32)) (p1 &&& (2147483647 : Int32)))), .unset, .unset, .unset] [(.long ((((va p0 p1 p2 p3).toInt64) + (33554427 : Int64)) + ((p3 &&& (7 : Int32)).toInt64)))])) ?_ (fun t q => XS.ladd X2.here hx rfl (hb hby at_48) rfl q)
    refine own_st (T' := T2) (f' := (mkF m 51 #[.val (.int p0), .val (.int p1), .val (.int p2), .val (.int p3), .val (.int (p0 &&& (2147483647 : Int32))), .val (.int (p1 &&& (2147483647 : Int32))), .val (.int (va p0 p1 p2 p3)), .val (.int (f2 (p0 &&& (2147483647 : Int32)) (p1 &&& (2147483647 : Int32)))), .val (.long (vn p0 p1 p2 p3)), .second, .unset] [])) ?_ (fun t q => XS.lstore X2.here hx rfl (hb hby at_49) rfl (l' := #[.val (.int p0), .val (.int p1), .val (.int p2), .val (.int p3), .val (.int (p0 &&& (2147483647 : Int32))), .val (.int (p1 &&& (2147483647 : Int32))), .val (.int (va p0 p1 p2 p3)), .val (.int (f2 (p0 &&& (2147483647 : Int32)) (p1 &&& (2147483647 : Int32)))), .val (.long (vn p0 p1 p2 p3)), .second, .unset]) rfl q)
    refine own_st (T' := T2) (f' := (mkF m 53 #[.val (.int p0), .val (.int p1), .val (.int p2), .val (.int p3), .val (.int (p0 &&& (2147483647 : Int32))), .val (.int (p1 &&& (2147483647 : Int32))), .val (.int (va p0 p1 p2 p3)), .val (.int (f2 (p0 &&& (2147483647 : Int32)) (p1 &&& (2147483647 : Int32)))), .val (.long (vn p0 p1 p2 p3)), .second, .unset] [(.long (vn p0 p1 p2 p3))])) ?_ (fun t q => XS.lload X2.here hx rfl (hb hby at_51) rfl q)
    refine own_st (T' := T2) (f' := (mkF m 56 #[.val (.int p0), .val (.int p1), .val (.int p2), .val (.int p3), .val (.int (p0 &&& (2147483647 : Int32))), .val (.int (p1 &&& (2147483647 : Int32))), .val (.int (va p0 p1 p2 p3)), .val (.int (f2 (p0 &&& (2147483647 : Int32)) (p1 &&& (2147483647 : Int32)))), .val (.long (vn p0 p1 p2 p3)), .second, .unset] [(.long (2147483647 : Int64)), (.long (vn p0 p1 p2 p3))])) ?_ (fun t q => X2.ldc2Long hx hown (mvT hZ (hw _ (List.mem_of_getElem? (i := 18) rfl))) (g := (mkF m 53 #[.val (.int p0), .val (.int p1), .val (.int p2), .val (.int p3), .val (.int (p0 &&& (2147483647 : Int32))), .val (.int (p1 &&& (2147483647 : Int32))), .val (.int (va p0 p1 p2 p3)), .val (.int (f2 (p0 &&& (2147483647 : Int32)) (p1 &&& (2147483647 : Int32)))), .val (.long (vn p0 p1 p2 p3)), .second, .unset] [(.long (vn p0 p1 p2 p3))])) rfl (hb hby at_53) _ q)
    refine own_st (T' := T2) (f' := (mkF m 57 #[.val (.int p0), .val (.int p1), .val (.int p2), .val (.int p3), .val (.int (p0 &&& (2147483647 : Int32))), .val (.int (p1 &&& (2147483647 : Int32))), .val (.int (va p0 p1 p2 p3)), .val (.int (f2 (p0 &&& (2147483647 : Int32)) (p1 &&& (2147483647 : Int32)))), .val (.long (vn p0 p1 p2 p3)), .second, .unset] [(.int (lcmpW (vn p0 p1 p2 p3) (2147483647 : Int64)))])) ?_ (fun t q => XS.lcmp X2.here hx rfl (hb hby at_56) rfl q)
    refine own_ite (fun hc57 => ?_) (fun hc57 => ?_)
    · refine own_st (T' := T2) (f' := (mkF m 65 #[.val (.int p0), .val (.int p1), .val (.int p2), .val (.int p3), .val (.int (p0 &&& (2147483647 : Int32))), .val (.int (p1 &&& (2147483647 : Int32))), .val (.int (va p0 p1 p2 p3)), .val (.int (f2 (p0 &&& (2147483647 : Int32)) (p1 &&& (2147483647 : Int32)))), .val (.long (vn p0 p1 p2 p3)), .second, .unset] [])) ?_ (fun t q => XS.ifYes X2.here hx rfl (pc0 := 57) (pc' := 65) rfl (hb hby at_57) rfl ((if0 _ _).trans (tlt ((lw_gt _ _).mpr hc57)).2.2.1) (by decide) (by decide) q)
      refine own_st (T' := T2) (f' := (mkF m 67 #[.val (.int p0), .val (.int p1), .val (.int p2), .val (.int p3), .val (.int (p0 &&& (2147483647 : Int32))), .val (.int (p1 &&& (2147483647 : Int32))), .val (.int (va p0 p1 p2 p3)), .val (.int (f2 (p0 &&& (2147483647 : Int32)) (p1 &&& (2147483647 : Int32)))), .val (.long (vn p0 p1 p2 p3)), .second, .unset] [(.int (f2 (p0 &&& (2147483647 : Int32)) (p1 &&& (2147483647 : Int32))))])) ?_ (fun t q => XS.iload X2.here hx rfl (hb hby at_65) rfl q)
      refine own_st (T' := T2) (f' := (mkF m 68 #[.val (.int p0), .val (.int p1), .val (.int p2), .val (.int p3), .val (.int (p0 &&& (2147483647 : Int32))), .val (.int (p1 &&& (2147483647 : Int32))), .val (.int (va p0 p1 p2 p3)), .val (.int (f2 (p0 &&& (2147483647 : Int32)) (p1 &&& (2147483647 : Int32)))), .val (.long (vn p0 p1 p2 p3)), .second, .unset] [(.long ((f2 (p0 &&& (2147483647 : Int32)) (p1 &&& (2147483647 : Int32))).toInt64))])) ?_ (fun t q => XS.i2l X2.here hx rfl (hb hby at_67) rfl q)
      refine own_st (T' := T2) (f' := (mkF m 70 #[.val (.int p0), .val (.int p1), .val (.int p2), .val (.int p3), .val (.int (p0 &&& (2147483647 : Int32))), .val (.int (p1 &&& (2147483647 : Int32))), .val (.int (va p0 p1 p2 p3)), .val (.int (f2 (p0 &&& (2147483647 : Int32)) (p1 &&& (2147483647 : Int32)))), .val (.long (vn p0 p1 p2 p3)), .second, .unset] [(.int (va p0 p1 p2 p3)), (.long ((f2 (p0 &&& (2147483647 : Int32)) (p1 &&& (2147483647 : Int32))).toInt64))])) ?_ (fun t q => XS.iload X2.here hx rfl (hb hby at_68) rfl q)
      refine own_st (T' := T2) (f' := (mkF m 71 #[.val (.int p0), .val (.int p1), .val (.int p2), .val (.int p3), .val (.int (p0 &&& (2147483647 : Int32))), .val (.int (p1 &&& (2147483647 : Int32))), .val (.int (va p0 p1 p2 p3)), .val (.int (f2 (p0 &&& (2147483647 : Int32)) (p1 &&& (2147483647 : Int32)))), .val (.long (vn p0 p1 p2 p3)), .second, .unset] [(.long ((va p0 p1 p2 p3).toInt64)), (.long ((f2 (p0 &&& (2147483647 : Int32)) (p1 &&& (2147483647 : Int32))).toInt64))])) ?_ (fun t q => XS.i2l X2.here hx rfl (hb hby at_70) rfl q)
      refine own_st (T' := T2) (f' := (mkF m 74 #[.val (.int p0), .val (.int p1), .val (.int p2), .val (.int p3), .val (.int (p0 &&& (2147483647 : Int32))), .val (.int (p1 &&& (2147483647 : Int32))), .val (.int (va p0 p1 p2 p3)), .val (.int (f2 (p0 &&& (2147483647 : Int32)) (p1 &&& (2147483647 : Int32)))), .val (.long (vn p0 p1 p2 p3)), .second, .unset] [(.long (33554431 : Int64)), (.long ((va p0 p1 p2 p3).toInt64)), (.long ((f2 (p0 &&& (2147483647 : Int32)) (p1 &&& (2147483647 : Int32))).toInt64))])) ?_ (fun t q => X2.ldc2Long hx hown (mvT hZ (hw _ (List.mem_of_getElem? (i := 8) rfl))) (g := (mkF m 71 #[.val (.int p0), .val (.int p1), .val (.int p2), .val (.int p3), .val (.int (p0 &&& (2147483647 : Int32))), .val (.int (p1 &&& (2147483647 : Int32))), .val (.int (va p0 p1 p2 p3)), .val (.int (f2 (p0 &&& (2147483647 : Int32)) (p1 &&& (2147483647 : Int32)))), .val (.long (vn p0 p1 p2 p3)), .second, .unset] [(.long ((va p0 p1 p2 p3).toInt64)), (.long ((f2 (p0 &&& (2147483647 : Int32)) (p1 &&& (2147483647 : Int32))).toInt64))])) rfl (hb hby at_71) _ q)
      refine own_st (T' := T2) (f' := (mkF m 75 #[.val (.int p0), .val (.int p1), .val (.int p2), .val (.int p3), .val (.int (p0 &&& (2147483647 : Int32))), .val (.int (p1 &&& (2147483647 : Int32))), .val (.int (va p0 p1 p2 p3)), .val (.int (f2 (p0 &&& (2147483647 : Int32)) (p1 &&& (2147483647 : Int32)))), .val (.long (vn p0 p1 p2 p3)), .second, .unset] [(.long (((va p0 p1 p2 p3).toInt64) + (33554431 : Int64))), (.long ((f2 (p0 &&& (2147483647 : Int32)) (p1 &&& (2147483647 : Int32))).toInt64))])) ?_ (fun t q => XS.ladd X2.here hx rfl (hb hby at_74) rfl q)
      obtain ⟨_, _, ⟨T5, L5, k5, n5⟩, -, X5, ⟨Lc5, hQ5, l5, y5, z5⟩, st5⟩ := Jvm.LawKit.callS X2 hx (y := (⟨"java/lang/Math", "min", "(JJ)J"⟩ : MethodName)) hown (mvT hZ (hw _ (List.mem_of_getElem? (i := 9) rfl))) (mvT hZ (hw _ (List.mem_of_getElem? (i := 10) rfl))) (mvT hZ (hw _ (List.mem_of_getElem? (i := 3) rfl))) (mvT hZ (hw _ (List.mem_of_getElem? (i := 11) rfl))) (by decide) (backOf (W := 0) (rm3 l Z a0 hw [] ((f2 (p0 &&& (2147483647 : Int32)) (p1 &&& (2147483647 : Int32))).toInt64) (((va p0 p1 p2 p3).toInt64) + (33554431 : Int64)) h0 n0) hZ (hw _ (List.mem_of_getElem? (i := 11) rfl)) (hw _ (List.mem_of_getElem? (i := 3) rfl)) (by decide) (by decide)) (g := (mkF m 75 #[.val (.int p0), .val (.int p1), .val (.int p2), .val (.int p3), .val (.int (p0 &&& (2147483647 : Int32))), .val (.int (p1 &&& (2147483647 : Int32))), .val (.int (va p0 p1 p2 p3)), .val (.int (f2 (p0 &&& (2147483647 : Int32)) (p1 &&& (2147483647 : Int32)))), .val (.long (vn p0 p1 p2 p3)), .second, .unset] [(.long (((va p0 p1 p2 p3).toInt64) + (33554431 : Int64))), (.long ((f2 (p0 &&& (2147483647 : Int32)) (p1 &&& (2147483647 : Int32))).toInt64))])) rfl (by rw [hml]; rfl) (argsL := [(.long ((f2 (p0 &&& (2147483647 : Int32)) (p1 &&& (2147483647 : Int32))).toInt64)), (.long (((va p0 p1 p2 p3).toInt64) + (33554431 : Int64)))]) (rest := []) (lenOf pd_1 rfl) rfl (by show 2 * 0 + _ ≤ _; exact Nat.le_of_eq rfl) (hb hby at_75) (fun _ _ => ⟨rfl, e2, (Nat.le_of_ble_eq_true rfl), (Nat.le_of_ble_eq_true rfl)⟩)
      dsimp only [Pt.U, Pt.locs, Pt.cells, Pt.slots] at X5 l5 y5 z5 st5 hQ5
      subst l5 y5 z5
      obtain ⟨rfl, N5q, e5⟩ := hQ5
      have N5 := Fr.app N2 N5q
      refine own_st (T' := T5) (f' := (mkF m 78 #[.val (.int p0), .val (.int p1), .val (.int p2), .val (.int p3), .val (.int (p0 &&& (2147483647 : Int32))), .val (.int (p1 &&& (2147483647 : Int32))), .val (.int (va p0 p1 p2 p3)), .val (.int (f2 (p0 &&& (2147483647 : Int32)) (p1 &&& (2147483647 : Int32)))), .val (.long (vn p0 p1 p2 p3)), .second, .unset] [(.long (f3 ((f2 (p0 &&& (2147483647 : Int32)) (p1 &&& (2147483647 : Int32))).toInt64) (((va p0 p1 p2 p3).toInt64) + (33554431 : Int64))))])) ?_ (fun t q => st5 _ q)
      refine own_st (T' := T5) (f' := (mkF m 80 #[.val (.int p0), .val (.int p1), .val (.int p2), .val (.int p3), .val (.int (p0 &&& (2147483647 : Int32))), .val (.int (p1 &&& (2147483647 : Int32))), .val (.int (va p0 p1 p2 p3)), .val (.int (f2 (p0 &&& (2147483647 : Int32)) (p1 &&& (2147483647 : Int32)))), .val (.long (f3 ((f2 (p0 &&& (2147483647 : Int32)) (p1 &&& (2147483647 : Int32))).toInt64) (((va p0 p1 p2 p3).toInt64) + (33554431 : Int64)))), .second, .unset] [])) ?_ (fun t q => XS.lstore X5.here hx rfl (hb hby at_78) rfl (l' := #[.val (.int p0), .val (.int p1), .val (.int p2), .val (.int p3), .val (.int (p0 &&& (2147483647 : Int32))), .val (.int (p1 &&& (2147483647 : Int32))), .val (.int (va p0 p1 p2 p3)), .val (.int (f2 (p0 &&& (2147483647 : Int32)) (p1 &&& (2147483647 : Int32)))), .val (.long (f3 ((f2 (p0 &&& (2147483647 : Int32)) (p1 &&& (2147483647 : Int32))).toInt64) (((va p0 p1 p2 p3).toInt64) + (33554431 : Int64)))), .second, .unset]) rfl q)
      refine own_st (T' := T5) (f' := (mkF m 82 #[.val (.int p0), .val (.int p1), .val (.int p2), .val (.int p3), .val (.int (p0 &&& (2147483647 : Int32))), .val (.int (p1 &&& (2147483647 : Int32))), .val (.int (va p0 p1 p2 p3)), .val (.int (f2 (p0 &&& (2147483647 : Int32)) (p1 &&& (2147483647 : Int32)))), .val (.long (f3 ((f2 (p0 &&& (2147483647 : Int32)) (p1 &&& (2147483647 : Int32))).toInt64) (((va p0 p1 p2 p3).toInt64) + (33554431 : Int64)))), .second, .unset] [(.int (va p0 p1 p2 p3))])) ?_ (fun t q => XS.iload X5.here hx rfl (hb hby at_80) rfl q)
      refine own_st (T' := T5) (f' := (mkF m 84 #[.val (.int p0), .val (.int p1), .val (.int p2), .val (.int p3), .val (.int (p0 &&& (2147483647 : Int32))), .val (.int (p1 &&& (2147483647 : Int32))), .val (.int (va p0 p1 p2 p3)), .val (.int (f2 (p0 &&& (2147483647 : Int32)) (p1 &&& (2147483647 : Int32)))), .val (.long (f3 ((f2 (p0 &&& (2147483647 : Int32)) (p1 &&& (2147483647 : Int32))).toInt64) (((va p0 p1 p2 p3).toInt64) + (33554431 : Int64)))), .second, .unset] [(.int (f2 (p0 &&& (2147483647 : Int32)) (p1 &&& (2147483647 : Int32)))), (.int (va p0 p1 p2 p3))])) ?_ (fun t q => XS.iload X5.here hx rfl (hb hby at_82) rfl q)
      obtain ⟨_, _, ⟨T6, L6, k6, n6⟩, -, X6, ⟨Lc6, hQ6, l6, y6, z6⟩, st6⟩ := Jvm.LawKit.callS X5 hx (y := (⟨"com/example/bitfold/bitfold/array/Runs", "runEnd", "(II)I"⟩ : MethodName)) hown (mvT hZ (hw _ (List.mem_of_getElem? (i := 12) rfl))) (mvT hZ (hw _ (List.mem_of_getElem? (i := 13) rfl))) (mvT hZ (hw _ (List.mem_of_getElem? (i := 14) rfl))) (mvT hZ (hw _ (List.mem_of_getElem? (i := 15) rfl))) (by decide) (backOf (W := 0) (rm4 l Z a0 hw [] (va p0 p1 p2 p3) (f2 (p0 &&& (2147483647 : Int32)) (p1 &&& (2147483647 : Int32))) h0 n0) hZ (hw _ (List.mem_of_getElem? (i := 15) rfl)) (hw _ (List.mem_of_getElem? (i := 14) rfl)) (by decide) (by decide)) (g := (mkF m 84 #[.val (.int p0), .val (.int p1), .val (.int p2), .val (.int p3), .val (.int (p0 &&& (2147483647 : Int32))), .val (.int (p1 &&& (2147483647 : Int32))), .val (.int (va p0 p1 p2 p3)), .val (.int (f2 (p0 &&& (2147483647 : Int32)) (p1 &&& (2147483647 : Int32)))), .val (.long (f3 ((f2 (p0 &&& (2147483647 : Int32)) (p1 &&& (2147483647 : Int32))).toInt64) (((va p0 p1 p2 p3).toInt64) + (33554431 : Int64)))), .second, .unset] [(.int (f2 (p0 &&& (2147483647 : Int32)) (p1 &&& (2147483647 : Int32)))), (.int (va p0 p1 p2 p3))])) rfl (by rw [hml]; rfl) (argsL := [(.int (va p0 p1 p2 p3)), (.int (f2 (p0 &&& (2147483647 : Int32)) (p1 &&& (2147483647 : Int32))))]) (rest := []) (lenOf pd_0 rfl) rfl (by show 2 * 0 + _ ≤ _; exact Nat.le_of_eq rfl) (hb hby at_84) (fun _ _ => ⟨rfl, e5, (Nat.le_of_ble_eq_true rfl), (Nat.le_of_ble_eq_true rfl)⟩)
      dsimp only [Pt.U, Pt.locs, Pt.cells, Pt.slots] at X6 l6 y6 z6 st6 hQ6
      subst l6 y6 z6
      obtain ⟨rfl, N6q, e6⟩ := hQ6
      have N6 := Fr.app N5 N6q
      refine own_st (T' := T6) (f' := (mkF m 87 #[.val (.int p0), .val (.int p1), .val (.int p2), .val (.int p3), .val (.int (p0 &&& (2147483647 : Int32))), .val (.int (p1 &&& (2147483647 : Int32))), .val (.int (va p0 p1 p2 p3)), .val (.int (f2 (p0 &&& (2147483647 : Int32)) (p1 &&& (2147483647 : Int32)))), .val (.long (f3 ((f2 (p0 &&& (2147483647 : Int32)) (p1 &&& (2147483647 : Int32))).toInt64) (((va p0 p1 p2 p3).toInt64) + (33554431 : Int64)))), .second, .unset] [(.int (f4 (va p0 p1 p2 p3) (f2 (p0 &&& (2147483647 : Int32)) (p1 &&& (2147483647 : Int32)))))])) ?_ (fun t q => st6 _ q)
      refine own_st (T' := T6) (f' := (mkF m 89 #[.val (.int p0), .val (.int p1), .val (.int p2), .val (.int p3), .val (.int (p0 &&& (2147483647 : Int32))), .val (.int (p1 &&& (2147483647 : Int32))), .val (.int (va p0 p1 p2 p3)), .val (.int (f2 (p0 &&& (2147483647 : Int32)) (p1 &&& (2147483647 : Int32)))), .val (.long (f3 ((f2 (p0 &&& (2147483647 : Int32)) (p1 &&& (2147483647 : Int32))).toInt64) (((va p0 p1 p2 p3).toInt64) + (33554431 : Int64)))), .second, .val (.int (f4 (va p0 p1 p2 p3) (f2 (p0 &&& (2147483647 : Int32)) (p1 &&& (2147483647 : Int32)))))] [])) ?_ (fun t q => XS.istore X6.here hx rfl (hb hby at_87) rfl (l' := #[.val (.int p0), .val (.int p1), .val (.int p2), .val (.int p3), .val (.int (p0 &&& (2147483647 : Int32))), .val (.int (p1 &&& (2147483647 : Int32))), .val (.int (va p0 p1 p2 p3)), .val (.int (f2 (p0 &&& (2147483647 : Int32)) (p1 &&& (2147483647 : Int32)))), .val (.long (f3 ((f2 (p0 &&& (2147483647 : Int32)) (p1 &&& (2147483647 : Int32))).toInt64) (((va p0 p1 p2 p3).toInt64) + (33554431 : Int64)))), .second, .val (.int (f4 (va p0 p1 p2 p3) (f2 (p0 &&& (2147483647 : Int32)) (p1 &&& (2147483647 : Int32)))))]) rfl q)
      refine own_st (T' := T6) (f' := (mkF m 91 #[.val (.int p0), .val (.int p1), .val (.int p2), .val (.int p3), .val (.int (p0 &&& (2147483647 : Int32))), .val (.int (p1 &&& (2147483647 : Int32))), .val (.int (va p0 p1 p2 p3)), .val (.int (f2 (p0 &&& (2147483647 : Int32)) (p1 &&& (2147483647 : Int32)))), .val (.long (f3 ((f2 (p0 &&& (2147483647 : Int32)) (p1 &&& (2147483647 : Int32))).toInt64) (((va p0 p1 p2 p3).toInt64) + (33554431 : Int64)))), .second, .val (.int (f4 (va p0 p1 p2 p3) (f2 (p0 &&& (2147483647 : Int32)) (p1 &&& (2147483647 : Int32)))))] [(.int (f4 (va p0 p1 p2 p3) (f2 (p0 &&& (2147483647 : Int32)) (p1 &&& (2147483647 : Int32)))))])) ?_ (fun t q => XS.iload X6.here hx rfl (hb hby at_89) rfl q)
      refine own_st (T' := T6) (f' := (mkF m 92 #[.val (.int p0), .val (.int p1), .val (.int p2), .val (.int p3), .val (.int (p0 &&& (2147483647 : Int32))), .val (.int (p1 &&& (2147483647 : Int32))), .val (.int (va p0 p1 p2 p3)), .val (.int (f2 (p0 &&& (2147483647 : Int32)) (p1 &&& (2147483647 : Int32)))), .val (.long (f3 ((f2 (p0 &&& (2147483647 : Int32)) (p1 &&& (2147483647 : Int32))).toInt64) (((va p0 p1 p2 p3).toInt64) + (33554431 : Int64)))), .second, .val (.int (f4 (va p0 p1 p2 p3) (f2 (p0 &&& (2147483647 : Int32)) (p1 &&& (2147483647 : Int32)))))] [(.long ((f4 (va p0 p1 p2 p3) (f2 (p0 &&& (2147483647 : Int32)) (p1 &&& (2147483647 : Int32)))).toInt64))])) ?_ (fun t q => XS.i2l X6.here hx rfl (hb hby at_91) rfl q)
      refine own_st (T' := T6) (f' := (mkF m 94 #[.val (.int p0), .val (.int p1), .val (.int p2), .val (.int p3), .val (.int (p0 &&& (2147483647 : Int32))), .val (.int (p1 &&& (2147483647 : Int32))), .val (.int (va p0 p1 p2 p3)), .val (.int (f2 (p0 &&& (2147483647 : Int32)) (p1 &&& (2147483647 : Int32)))), .val (.long (f3 ((f2 (p0 &&& (2147483647 : Int32)) (p1 &&& (2147483647 : Int32))).toInt64) (((va p0 p1 p2 p3).toInt64) + (33554431 : Int64)))), .second, .val (.int (f4 (va p0 p1 p2 p3) (f2 (p0 &&& (2147483647 : Int32)) (p1 &&& (2147483647 : Int32)))))] [(.long (f3 ((f2 (p0 &&& (2147483647 : Int32)) (p1 &&& (2147483647 : Int32))).toInt64) (((va p0 p1 p2 p3).toInt64) + (33554431 : Int64)))), (.long ((f4 (va p0 p1 p2 p3) (f2 (p0 &&& (2147483647 : Int32)) (p1 &&& (2147483647 : Int32)))).toInt64))])) ?_ (fun t q => XS.lload X6.here hx rfl (hb hby at_92) rfl q)
      refine own_st (T' := T6) (f' := (mkF m 95 #[.val (.int p0), .val (.int p1), .val (.int p2), .val (.int p3), .val (.int (p0 &&& (2147483647 : Int32))), .val (.int (p1 &&& (2147483647 : Int32))), .val (.int (va p0 p1 p2 p3)), .val (.int (f2 (p0 &&& (2147483647 : Int32)) (p1 &&& (2147483647 : Int32)))), .val (.long (f3 ((f2 (p0 &&& (2147483647 : Int32)) (p1 &&& (2147483647 : Int32))).toInt64) (((va p0 p1 p2 p3).toInt64) + (33554431 : Int64)))), .second, .val (.int (f4 (va p0 p1 p2 p3) (f2 (p0 &&& (2147483647 : Int32)) (p1 &&& (2147483647 : Int32)))))] [(.int (lcmpW ((f4 (va p0 p1 p2 p3) (f2 (p0 &&& (2147483647 : Int32)) (p1 &&& (2147483647 : Int32)))).toInt64) (f3 ((f2 (p0 &&& (2147483647 : Int32)) (p1 &&& (2147483647 : Int32))).toInt64) (((va p0 p1 p2 p3).toInt64) + (33554431 : Int64)))))])) ?_ (fun t q => XS.lcmp X6.here hx rfl (hb hby at_94) rfl q)
      refine own_ite (fun hc95 => ?_) (fun hc95 => ?_)
      · refine own_st (T' := T6) (f' := (mkF m 98 #[.val (.int p0), .val (.int p1), .val (.int p2), .val (.int p3), .val (.int (p0 &&& (2147483647 : Int32))), .val (.int (p1 &&& (2147483647 : Int32))), .val (.int (va p0 p1 p2 p3)), .val (.int (f2 (p0 &&& (2147483647 : Int32)) (p1 &&& (2147483647 : Int32)))), .val (.long (f3 ((f2 (p0 &&& (2147483647 : Int32)) (p1 &&& (2147483647 : Int32))).toInt64) (((va p0 p1 p2 p3).toInt64) + (33554431 : Int64)))), .second, .val (.int (f4 (va p0 p1 p2 p3) (f2 (p0 &&& (2147483647 : Int32)) (p1 &&& (2147483647 : Int32)))))] [])) ?_ (fun t q => XS.ifNo X6.here hx rfl (hb hby at_95) rfl ((if0 _ _).trans (teq ((lw_eq _ _).mpr hc95)).2) q)
        refine own_st (T' := T6) (f' := (mkF m 99 #[.val (.int p0), .val (.int p1), .val (.int p2), .val (.int p3), .val (.int (p0 &&& (2147483647 : Int32))), .val (.int (p1 &&& (2147483647 : Int32))), .val (.int (va p0 p1 p2 p3)), .val (.int (f2 (p0 &&& (2147483647 : Int32)) (p1 &&& (2147483647 : Int32)))), .val (.long (f3 ((f2 (p0 &&& (2147483647 : Int32)) (p1 &&& (2147483647 : Int32))).toInt64) (((va p0 p1 p2 p3).toInt64) + (33554431 : Int64)))), .second, .val (.int (f4 (va p0 p1 p2 p3) (f2 (p0 &&& (2147483647 : Int32)) (p1 &&& (2147483647 : Int32)))))] [(.int (1 : Int32))])) ?_ (fun t q => XS.iconst X6.here hx rfl (hb hby at_98) q)
        refine own_st (T' := T6) (f' := (mkF m 103 #[.val (.int p0), .val (.int p1), .val (.int p2), .val (.int p3), .val (.int (p0 &&& (2147483647 : Int32))), .val (.int (p1 &&& (2147483647 : Int32))), .val (.int (va p0 p1 p2 p3)), .val (.int (f2 (p0 &&& (2147483647 : Int32)) (p1 &&& (2147483647 : Int32)))), .val (.long (f3 ((f2 (p0 &&& (2147483647 : Int32)) (p1 &&& (2147483647 : Int32))).toInt64) (((va p0 p1 p2 p3).toInt64) + (33554431 : Int64)))), .second, .val (.int (f4 (va p0 p1 p2 p3) (f2 (p0 &&& (2147483647 : Int32)) (p1 &&& (2147483647 : Int32)))))] [(.int (1 : Int32))])) ?_ (fun t q => XS.goto X6.here hx rfl (pc0 := 99) (pc' := 103) rfl (hb hby at_99) (by decide) (by decide) q)
        exact own_retN X6 hx hlk (t := .boolean) Bd.returns (by simp) (hb hby at_103) (by decide) (by decide) ⟨rfl, N6, e6⟩
      · refine own_st (T' := T6) (f' := (mkF m 102 #[.val (.int p0), .val (.int p1), .val (.int p2), .val (.int p3), .val (.int (p0 &&& (2147483647 : Int32))), .val (.int (p1 &&& (2147483647 : Int32))), .val (.int (va p0 p1 p2 p3)), .val (.int (f2 (p0 &&& (2147483647 : Int32)) (p1 &&& (2147483647 : Int32)))), .val (.long (f3 ((f2 (p0 &&& (2147483647 : Int32)) (p1 &&& (2147483647 : Int32))).toInt64) (((va p0 p1 p2 p3).toInt64) + (33554431 : Int64)))), .second, .val (.int (f4 (va p0 p1 p2 p3) (f2 (p0 &&& (2147483647 : Int32)) (p1 &&& (2147483647 : Int32)))))] [])) ?_ (fun t q => XS.ifYes X6.here hx rfl (pc0 := 95) (pc' := 102) rfl (hb hby at_95) rfl ((if0 _ _).trans (feq (fun z => hc95 ((lw_eq _ _).mp z))).2) (by decide) (by decide) q)
        refine own_st (T' := T6) (f' := (mkF m 103 #[.val (.int p0), .val (.int p1), .val (.int p2), .val (.int p3), .val (.int (p0 &&& (2147483647 : Int32))), .val (.int (p1 &&& (2147483647 : Int32))), .val (.int (va p0 p1 p2 p3)), .val (.int (f2 (p0 &&& (2147483647 : Int32)) (p1 &&& (2147483647 : Int32)))), .val (.long (f3 ((f2 (p0 &&& (2147483647 : Int32)) (p1 &&& (2147483647 : Int32))).toInt64) (((va p0 p1 p2 p3).toInt64) + (33554431 : Int64)))), .second, .val (.int (f4 (va p0 p1 p2 p3) (f2 (p0 &&& (2147483647 : Int32)) (p1 &&& (2147483647 : Int32)))))] [(.int (0 : Int32))])) ?_ (fun t q => XS.iconst X6.here hx rfl (hb hby at_102) q)
        exact own_retN X6 hx hlk (t := .boolean) Bd.returns (by simp) (hb hby at_103) (by decide) (by decide) ⟨rfl, N6, e6⟩
    · refine own_st (T' := T2) (f' := (mkF m 60 #[.val (.int p0), .val (.int p1), .val (.int p2), .val (.int p3), .val (.int (p0 &&& (2147483647 : Int32))), .val (.int (p1 &&& (2147483647 : Int32))), .val (.int (va p0 p1 p2 p3)), .val (.int (f2 (p0 &&& (2147483647 : Int32)) (p1 &&& (2147483647 : Int32)))), .val (.long (vn p0 p1 p2 p3)), .second, .unset] [])) ?_ (fun t q => XS.ifNo X2.here hx rfl (hb hby at_57) rfl ((if0 _ _).trans (flt (fun z => hc57 ((lw_gt _ _).mp z))).2.2.1) q)
      refine own_st (T' := T2) (f' := (mkF m 62 #[.val (.int p0), .val (.int p1), .val (.int p2), .val (.int p3), .val (.int (p0 &&& (2147483647 : Int32))), .val (.int (p1 &&& (2147483647 : Int32))), .val (.int (va p0 p1 p2 p3)), .val (.int (f2 (p0 &&& (2147483647 : Int32)) (p1 &&& (2147483647 : Int32)))), .val (.long (vn p0 p1 p2 p3)), .second, .unset] [(.long (vn p0 p1 p2 p3))])) ?_ (fun t q => XS.lload X2.here hx rfl (hb hby at_60) rfl q)
      refine own_st (T' := T2) (f' := (mkF m 63 #[.val (.int p0), .val (.int p1), .val (.int p2), .val (.int p3), .val (.int (p0 &&& (2147483647 : Int32))), .val (.int (p1 &&& (2147483647 : Int32))), .val (.int (va p0 p1 p2 p3)), .val (.int (f2 (p0 &&& (2147483647 : Int32)) (p1 &&& (2147483647 : Int32)))), .val (.long (vn p0 p1 p2 p3)), .second, .unset] [(.int ((vn p0 p1 p2 p3).toInt32))])) ?_ (fun t q => XS.l2i X2.here hx rfl (hb hby at_62) rfl q)
      refine own_st (T' := T2) (f' := (mkF m 65 #[.val (.int p0), .val (.int p1), .val (.int p2), .val (.int p3), .val (.int (p0 &&& (2147483647 : Int32))), .val (.int (p1 &&& (2147483647 : Int32))), .val (.int (va p0 p1 p2 p3)), .val (.int ((vn p0 p1 p2 p3).toInt32)), .val (.long (vn p0 p1 p2 p3)), .second, .unset] [])) ?_ (fun t q => XS.istore X2.here hx rfl (hb hby at_63) rfl (l' := #[.val (.int p0), .val (.int p1), .val (.int p2), .val (.int p3), .val (.int (p0 &&& (2147483647 : Int32))), .val (.int (p1 &&& (2147483647 : Int32))), .val (.int (va p0 p1 p2 p3)), .val (.int ((vn p0 p1 p2 p3).toInt32)), .val (.long (vn p0 p1 p2 p3)), .second, .unset]) rfl q)
      refine own_st (T' := T2) (f' := (mkF m 67 #[.val (.int p0), .val (.int p1), .val (.int p2), .val (.int p3), .val (.int (p0 &&& (2147483647 : Int32))), .val (.int (p1 &&& (2147483647 : Int32))), .val (.int (va p0 p1 p2 p3)), .val (.int ((vn p0 p1 p2 p3).toInt32)), .val (.long (vn p0 p1 p2 p3)), .second, .unset] [(.int ((vn p0 p1 p2 p3).toInt32))])) ?_ (fun t q => XS.iload X2.here hx rfl (hb hby at_65) rfl q)
      refine own_st (T' := T2) (f' := (mkF m 68 #[.val (.int p0), .val (.int p1), .val (.int p2), .val (.int p3), .val (.int (p0 &&& (2147483647 : Int32))), .val (.int (p1 &&& (2147483647 : Int32))), .val (.int (va p0 p1 p2 p3)), .val (.int ((vn p0 p1 p2 p3).toInt32)), .val (.long (vn p0 p1 p2 p3)), .second, .unset] [(.long (((vn p0 p1 p2 p3).toInt32).toInt64))])) ?_ (fun t q => XS.i2l X2.here hx rfl (hb hby at_67) rfl q)
      refine own_st (T' := T2) (f' := (mkF m 70 #[.val (.int p0), .val (.int p1), .val (.int p2), .val (.int p3), .val (.int (p0 &&& (2147483647 : Int32))), .val (.int (p1 &&& (2147483647 : Int32))), .val (.int (va p0 p1 p2 p3)), .val (.int ((vn p0 p1 p2 p3).toInt32)), .val (.long (vn p0 p1 p2 p3)), .second, .unset] [(.int (va p0 p1 p2 p3)), (.long (((vn p0 p1 p2 p3).toInt32).toInt64))])) ?_ (fun t q => XS.iload X2.here hx rfl (hb hby at_68) rfl q)
      refine own_st (T' := T2) (f' := (mkF m 71 #[.val (.int p0), .val (.int p1), .val (.int p2), .val (.int p3), .val (.int (p0 &&& (2147483647 : Int32))), .val (.int (p1 &&& (2147483647 : Int32))), .val (.int (va p0 p1 p2 p3)), .val (.int ((vn p0 p1 p2 p3).toInt32)), .val (.long (vn p0 p1 p2 p3)), .second, .unset] [(.long ((va p0 p1 p2 p3).toInt64)), (.long (((vn p0 p1 p2 p3).toInt32).toInt64))])) ?_ (fun t q => XS.i2l X2.here hx rfl (hb hby at_70) rfl q)
      refine own_st (T' := T2) (f' := (mkF m 74 #[.val (.int p0), .val (.int p1), .val (.int p2), .val (.int p3), .val (.int (p0 &&& (2147483647 : Int32))), .val (.int (p1 &&& (2147483647 : Int32))), .val (.int (va p0 p1 p2 p3)), .val (.int ((vn p0 p1 p2 p3).toInt32)), .val (.long (vn p0 p1 p2 p3)), .second, .unset] [(.long (33554431 : Int64)), (.long ((va p0 p1 p2 p3).toInt64)), (.long (((vn p0 p1 p2 p3).toInt32).toInt64))])) ?_ (fun t q => X2.ldc2Long hx hown (mvT hZ (hw _ (List.mem_of_getElem? (i := 8) rfl))) (g := (mkF m 71 #[.val (.int p0), .val (.int p1), .val (.int p2), .val (.int p3), .val (.int (p0 &&& (2147483647 : Int32))), .val (.int (p1 &&& (2147483647 : Int32))), .val (.int (va p0 p1 p2 p3)), .val (.int ((vn p0 p1 p2 p3).toInt32)), .val (.long (vn p0 p1 p2 p3)), .second, .unset] [(.long ((va p0 p1 p2 p3).toInt64)), (.long (((vn p0 p1 p2 p3).toInt32).toInt64))])) rfl (hb hby at_71) _ q)
      refine own_st (T' := T2) (f' := (mkF m 75 #[.val (.int p0), .val (.int p1), .val (.int p2), .val (.int p3), .val (.int (p0 &&& (2147483647 : Int32))), .val (.int (p1 &&& (2147483647 : Int32))), .val (.int (va p0 p1 p2 p3)), .val (.int ((vn p0 p1 p2 p3).toInt32)), .val (.long (vn p0 p1 p2 p3)), .second, .unset] [(.long (((va p0 p1 p2 p3).toInt64) + (33554431 : Int64))), (.long (((vn p0 p1 p2 p3).toInt32).toInt64))])) ?_ (fun t q => XS.ladd X2.here hx rfl (hb hby at_74) rfl q)
      obtain ⟨_, _, ⟨T7, L7, k7, n7⟩, -, X7, ⟨Lc7, hQ7, l7, y7, z7⟩, st7⟩ := Jvm.LawKit.callS X2 hx (y := (⟨"java/lang/Math", "min", "(JJ)J"⟩ : MethodName)) hown (mvT hZ (hw _ (List.mem_of_getElem? (i := 9) rfl))) (mvT hZ (hw _ (List.mem_of_getElem? (i := 10) rfl))) (mvT hZ (hw _ (List.mem_of_getElem? (i := 3) rfl))) (mvT hZ (hw _ (List.mem_of_getElem? (i := 11) rfl))) (by decide) (backOf (W := 0) (rm3 l Z a0 hw [] (((vn p0 p1 p2 p3).toInt32).toInt64) (((va p0 p1 p2 p3).toInt64) + (33554431 : Int64)) h0 n0) hZ (hw _ (List.mem_of_getElem? (i := 11) rfl)) (hw _ (List.mem_of_getElem? (i := 3) rfl)) (by decide) (by decide)) (g := (mkF m 75 #[.val (.int p0), .val (.int p1), .val (.int p2), .val (.int p3), .val (.int (p0 &&& (2147483647 : Int32))), .val (.int (p1 &&& (2147483647 : Int32))), .val (.int (va p0 p1 p2 p3)), .val (.int ((vn p0 p1 p2 p3).toInt32)), .val (.long (vn p0 p1 p2 p3)), .second, .unset] [(.long (((va p0 p1 p2 p3).toInt64) + (33554431 : Int64))), (.long (((vn p0 p1 p2 p3).toInt32).toInt64))])) rfl (by rw [hml]; rfl) (argsL := [(.long (((vn p0 p1 p2 p3).toInt32).toInt64)), (.long (((va p0 p1 p2 p3).toInt64) + (33554431 : Int64)))]) (rest := []) (lenOf pd_1 rfl) rfl (by show 2 * 0 + _ ≤ _; exact Nat.le_of_eq rfl) (hb hby at_75) (fun _ _ => ⟨rfl, e2, (Nat.le_of_ble_eq_true rfl), (Nat.le_of_ble_eq_true rfl)⟩)
      dsimp only [Pt.U, Pt.locs, Pt.cells, Pt.slots] at X7 l7 y7 z7 st7 hQ7
      subst l7 y7 z7
      obtain ⟨rfl, N7q, e7⟩ := hQ7
      have N7 := Fr.app N2 N7q
      refine own_st (T' := T7) (f' := (mkF m 78 #[.val (.int p0), .val (.int p1), .val (.int p2), .val (.int p3), .val (.int (p0 &&& (2147483647 : Int32))), .val (.int (p1 &&& (2147483647 : Int32))), .val (.int (va p0 p1 p2 p3)), .val (.int ((vn p0 p1 p2 p3).toInt32)), .val (.long (vn p0 p1 p2 p3)), .second, .unset] [(.long (f3 (((vn p0 p1 p2 p3).toInt32).toInt64) (((va p0 p1 p2 p3).toInt64) + (33554431 : Int64))))])) ?_ (fun t q => st7 _ q)
      refine own_st (T' := T7) (f' := (mkF m 80 #[.val (.int p0), .val (.int p1), .val (.int p2), .val (.int p3), .val (.int (p0 &&& (2147483647 : Int32))), .val (.int (p1 &&& (2147483647 : Int32))), .val (.int (va p0 p1 p2 p3)), .val (.int ((vn p0 p1 p2 p3).toInt32)), .val (.long (f3 (((vn p0 p1 p2 p3).toInt32).toInt64) (((va p0 p1 p2 p3).toInt64) + (33554431 : Int64)))), .second, .unset] [])) ?_ (fun t q => XS.lstore X7.here hx rfl (hb hby at_78) rfl (l' := #[.val (.int p0), .val (.int p1), .val (.int p2), .val (.int p3), .val (.int (p0 &&& (2147483647 : Int32))), .val (.int (p1 &&& (2147483647 : Int32))), .val (.int (va p0 p1 p2 p3)), .val (.int ((vn p0 p1 p2 p3).toInt32)), .val (.long (f3 (((vn p0 p1 p2 p3).toInt32).toInt64) (((va p0 p1 p2 p3).toInt64) + (33554431 : Int64)))), .second, .unset]) rfl q)
      refine own_st (T' := T7) (f' := (mkF m 82 #[.val (.int p0), .val (.int p1), .val (.int p2), .val (.int p3), .val (.int (p0 &&& (2147483647 : Int32))), .val (.int (p1 &&& (2147483647 : Int32))), .val (.int (va p0 p1 p2 p3)), .val (.int ((vn p0 p1 p2 p3).toInt32)), .val (.long (f3 (((vn p0 p1 p2 p3).toInt32).toInt64) (((va p0 p1 p2 p3).toInt64) + (33554431 : Int64)))), .second, .unset] [(.int (va p0 p1 p2 p3))])) ?_ (fun t q => XS.iload X7.here hx rfl (hb hby at_80) rfl q)
      refine own_st (T' := T7) (f' := (mkF m 84 #[.val (.int p0), .val (.int p1), .val (.int p2), .val (.int p3), .val (.int (p0 &&& (2147483647 : Int32))), .val (.int (p1 &&& (2147483647 : Int32))), .val (.int (va p0 p1 p2 p3)), .val (.int ((vn p0 p1 p2 p3).toInt32)), .val (.long (f3 (((vn p0 p1 p2 p3).toInt32).toInt64) (((va p0 p1 p2 p3).toInt64) + (33554431 : Int64)))), .second, .unset] [(.int ((vn p0 p1 p2 p3).toInt32)), (.int (va p0 p1 p2 p3))])) ?_ (fun t q => XS.iload X7.here hx rfl (hb hby at_82) rfl q)
      obtain ⟨_, _, ⟨T8, L8, k8, n8⟩, -, X8, ⟨Lc8, hQ8, l8, y8, z8⟩, st8⟩ := Jvm.LawKit.callS X7 hx (y := (⟨"com/example/bitfold/bitfold/array/Runs", "runEnd", "(II)I"⟩ : MethodName)) hown (mvT hZ (hw _ (List.mem_of_getElem? (i := 12) rfl))) (mvT hZ (hw _ (List.mem_of_getElem? (i := 13) rfl))) (mvT hZ (hw _ (List.mem_of_getElem? (i := 14) rfl))) (mvT hZ (hw _ (List.mem_of_getElem? (i := 15) rfl))) (by decide) (backOf (W := 0) (rm4 l Z a0 hw [] (va p0 p1 p2 p3) ((vn p0 p1 p2 p3).toInt32) h0 n0) hZ (hw _ (List.mem_of_getElem? (i := 15) rfl)) (hw _ (List.mem_of_getElem? (i := 14) rfl)) (by decide) (by decide)) (g := (mkF m 84 #[.val (.int p0), .val (.int p1), .val (.int p2), .val (.int p3), .val (.int (p0 &&& (2147483647 : Int32))), .val (.int (p1 &&& (2147483647 : Int32))), .val (.int (va p0 p1 p2 p3)), .val (.int ((vn p0 p1 p2 p3).toInt32)), .val (.long (f3 (((vn p0 p1 p2 p3).toInt32).toInt64) (((va p0 p1 p2 p3).toInt64) + (33554431 : Int64)))), .second, .unset] [(.int ((vn p0 p1 p2 p3).toInt32)), (.int (va p0 p1 p2 p3))])) rfl (by rw [hml]; rfl) (argsL := [(.int (va p0 p1 p2 p3)), (.int ((vn p0 p1 p2 p3).toInt32))]) (rest := []) (lenOf pd_0 rfl) rfl (by show 2 * 0 + _ ≤ _; exact Nat.le_of_eq rfl) (hb hby at_84) (fun _ _ => ⟨rfl, e7, (Nat.le_of_ble_eq_true rfl), (Nat.le_of_ble_eq_true rfl)⟩)
      dsimp only [Pt.U, Pt.locs, Pt.cells, Pt.slots] at X8 l8 y8 z8 st8 hQ8
      subst l8 y8 z8
      obtain ⟨rfl, N8q, e8⟩ := hQ8
      have N8 := Fr.app N7 N8q
      refine own_st (T' := T8) (f' := (mkF m 87 #[.val (.int p0), .val (.int p1), .val (.int p2), .val (.int p3), .val (.int (p0 &&& (2147483647 : Int32))), .val (.int (p1 &&& (2147483647 : Int32))), .val (.int (va p0 p1 p2 p3)), .val (.int ((vn p0 p1 p2 p3).toInt32)), .val (.long (f3 (((vn p0 p1 p2 p3).toInt32).toInt64) (((va p0 p1 p2 p3).toInt64) + (33554431 : Int64)))), .second, .unset] [(.int (f4 (va p0 p1 p2 p3) ((vn p0 p1 p2 p3).toInt32)))])) ?_ (fun t q => st8 _ q)
      refine own_st (T' := T8) (f' := (mkF m 89 #[.val (.int p0), .val (.int p1), .val (.int p2), .val (.int p3), .val (.int (p0 &&& (2147483647 : Int32))), .val (.int (p1 &&& (2147483647 : Int32))), .val (.int (va p0 p1 p2 p3)), .val (.int ((vn p0 p1 p2 p3).toInt32)), .val (.long (f3 (((vn p0 p1 p2 p3).toInt32).toInt64) (((va p0 p1 p2 p3).toInt64) + (33554431 : Int64)))), .second, .val (.int (f4 (va p0 p1 p2 p3) ((vn p0 p1 p2 p3).toInt32)))] [])) ?_ (fun t q => XS.istore X8.here hx rfl (hb hby at_87) rfl (l' := #[.val (.int p0), .val (.int p1), .val (.int p2), .val (.int p3), .val (.int (p0 &&& (2147483647 : Int32))), .val (.int (p1 &&& (2147483647 : Int32))), .val (.int (va p0 p1 p2 p3)), .val (.int ((vn p0 p1 p2 p3).toInt32)), .val (.long (f3 (((vn p0 p1 p2 p3).toInt32).toInt64) (((va p0 p1 p2 p3).toInt64) + (33554431 : Int64)))), .second, .val (.int (f4 (va p0 p1 p2 p3) ((vn p0 p1 p2 p3).toInt32)))]) rfl q)
      refine own_st (T' := T8) (f' := (mkF m 91 #[.val (.int p0), .val (.int p1), .val (.int p2), .val (.int p3), .val (.int (p0 &&& (2147483647 : Int32))), .val (.int (p1 &&& (2147483647 : Int32))), .val (.int (va p0 p1 p2 p3)), .val (.int ((vn p0 p1 p2 p3).toInt32)), .val (.long (f3 (((vn p0 p1 p2 p3).toInt32).toInt64) (((va p0 p1 p2 p3).toInt64) + (33554431 : Int64)))), .second, .val (.int (f4 (va p0 p1 p2 p3) ((vn p0 p1 p2 p3).toInt32)))] [(.int (f4 (va p0 p1 p2 p3) ((vn p0 p1 p2 p3).toInt32)))])) ?_ (fun t q => XS.iload X8.here hx rfl (hb hby at_89) rfl q)
      refine own_st (T' := T8) (f' := (mkF m 92 #[.val (.int p0), .val (.int p1), .val (.int p2), .val (.int p3), .val (.int (p0 &&& (2147483647 : Int32))), .val (.int (p1 &&& (2147483647 : Int32))), .val (.int (va p0 p1 p2 p3)), .val (.int ((vn p0 p1 p2 p3).toInt32)), .val (.long (f3 (((vn p0 p1 p2 p3).toInt32).toInt64) (((va p0 p1 p2 p3).toInt64) + (33554431 : Int64)))), .second, .val (.int (f4 (va p0 p1 p2 p3) ((vn p0 p1 p2 p3).toInt32)))] [(.long ((f4 (va p0 p1 p2 p3) ((vn p0 p1 p2 p3).toInt32)).toInt64))])) ?_ (fun t q => XS.i2l X8.here hx rfl (hb hby at_91) rfl q)
      refine own_st (T' := T8) (f' := (mkF m 94 #[.val (.int p0), .val (.int p1), .val (.int p2), .val (.int p3), .val (.int (p0 &&& (2147483647 : Int32))), .val (.int (p1 &&& (2147483647 : Int32))), .val (.int (va p0 p1 p2 p3)), .val (.int ((vn p0 p1 p2 p3).toInt32)), .val (.long (f3 (((vn p0 p1 p2 p3).toInt32).toInt64) (((va p0 p1 p2 p3).toInt64) + (33554431 : Int64)))), .second, .val (.int (f4 (va p0 p1 p2 p3) ((vn p0 p1 p2 p3).toInt32)))] [(.long (f3 (((vn p0 p1 p2 p3).toInt32).toInt64) (((va p0 p1 p2 p3).toInt64) + (33554431 : Int64)))), (.long ((f4 (va p0 p1 p2 p3) ((vn p0 p1 p2 p3).toInt32)).toInt64))])) ?_ (fun t q => XS.lload X8.here hx rfl (hb hby at_92) rfl q)
      refine own_st (T' := T8) (f' := (mkF m 95 #[.val (.int p0), .val (.int p1), .val (.int p2), .val (.int p3), .val (.int (p0 &&& (2147483647 : Int32))), .val (.int (p1 &&& (2147483647 : Int32))), .val (.int (va p0 p1 p2 p3)), .val (.int ((vn p0 p1 p2 p3).toInt32)), .val (.long (f3 (((vn p0 p1 p2 p3).toInt32).toInt64) (((va p0 p1 p2 p3).toInt64) + (33554431 : Int64)))), .second, .val (.int (f4 (va p0 p1 p2 p3) ((vn p0 p1 p2 p3).toInt32)))] [(.int (lcmpW ((f4 (va p0 p1 p2 p3) ((vn p0 p1 p2 p3).toInt32)).toInt64) (f3 (((vn p0 p1 p2 p3).toInt32).toInt64) (((va p0 p1 p2 p3).toInt64) + (33554431 : Int64)))))])) ?_ (fun t q => XS.lcmp X8.here hx rfl (hb hby at_94) rfl q)
      refine own_ite (fun hc95 => ?_) (fun hc95 => ?_)
      · refine own_st (T' := T8) (f' := (mkF m 98 #[.val (.int p0), .val (.int p1), .val (.int p2), .val (.int p3), .val (.int (p0 &&& (2147483647 : Int32))), .val (.int (p1 &&& (2147483647 : Int32))), .val (.int (va p0 p1 p2 p3)), .val (.int ((vn p0 p1 p2 p3).toInt32)), .val (.long (f3 (((vn p0 p1 p2 p3).toInt32).toInt64) (((va p0 p1 p2 p3).toInt64) + (33554431 : Int64)))), .second, .val (.int (f4 (va p0 p1 p2 p3) ((vn p0 p1 p2 p3).toInt32)))] [])) ?_ (fun t q => XS.ifNo X8.here hx rfl (hb hby at_95) rfl ((if0 _ _).trans (teq ((lw_eq _ _).mpr hc95)).2) q)
        refine own_st (T' := T8) (f' := (mkF m 99 #[.val (.int p0), .val (.int p1), .val (.int p2), .val (.int p3), .val (.int (p0 &&& (2147483647 : Int32))), .val (.int (p1 &&& (2147483647 : Int32))), .val (.int (va p0 p1 p2 p3)), .val (.int ((vn p0 p1 p2 p3).toInt32)), .val (.long (f3 (((vn p0 p1 p2 p3).toInt32).toInt64) (((va p0 p1 p2 p3).toInt64) + (33554431 : Int64)))), .second, .val (.int (f4 (va p0 p1 p2 p3) ((vn p0 p1 p2 p3).toInt32)))] [(.int (1 : Int32))])) ?_ (fun t q => XS.iconst X8.here hx rfl (hb hby at_98) q)
        refine own_st (T' := T8) (f' := (mkF m 103 #[.val (.int p0), .val (.int p1), .val (.int p2), .val (.int p3), .val (.int (p0 &&& (2147483647 : Int32))), .val (.int (p1 &&& (2147483647 : Int32))), .val (.int (va p0 p1 p2 p3)), .val (.int ((vn p0 p1 p2 p3).toInt32)), .val (.long (f3 (((vn p0 p1 p2 p3).toInt32).toInt64) (((va p0 p1 p2 p3).toInt64) + (33554431 : Int64)))), .second, .val (.int (f4 (va p0 p1 p2 p3) ((vn p0 p1 p2 p3).toInt32)))] [(.int (1 : Int32))])) ?_ (fun t q => XS.goto X8.here hx rfl (pc0 := 99) (pc' := 103) rfl (hb hby at_99) (by decide) (by decide) q)
        exact own_retN X8 hx hlk (t := .boolean) Bd.returns (by simp) (hb hby at_103) (by decide) (by decide) ⟨rfl, N8, e8⟩
      · refine own_st (T' := T8) (f' := (mkF m 102 #[.val (.int p0), .val (.int p1), .val (.int p2), .val (.int p3), .val (.int (p0 &&& (2147483647 : Int32))), .val (.int (p1 &&& (2147483647 : Int32))), .val (.int (va p0 p1 p2 p3)), .val (.int ((vn p0 p1 p2 p3).toInt32)), .val (.long (f3 (((vn p0 p1 p2 p3).toInt32).toInt64) (((va p0 p1 p2 p3).toInt64) + (33554431 : Int64)))), .second, .val (.int (f4 (va p0 p1 p2 p3) ((vn p0 p1 p2 p3).toInt32)))] [])) ?_ (fun t q => XS.ifYes X8.here hx rfl (pc0 := 95) (pc' := 102) rfl (hb hby at_95) rfl ((if0 _ _).trans (feq (fun z => hc95 ((lw_eq _ _).mp z))).2) (by decide) (by decide) q)
        refine own_st (T' := T8) (f' := (mkF m 103 #[.val (.int p0), .val (.int p1), .val (.int p2), .val (.int p3), .val (.int (p0 &&& (2147483647 : Int32))), .val (.int (p1 &&& (2147483647 : Int32))), .val (.int (va p0 p1 p2 p3)), .val (.int ((vn p0 p1 p2 p3).toInt32)), .val (.long (f3 (((vn p0 p1 p2 p3).toInt32).toInt64) (((va p0 p1 p2 p3).toInt64) + (33554431 : Int64)))), .second, .val (.int (f4 (va p0 p1 p2 p3) ((vn p0 p1 p2 p3).toInt32)))] [(.int (0 : Int32))])) ?_ (fun t q => XS.iconst X8.here hx rfl (hb hby at_102) q)
        exact own_retN X8 hx hlk (t := .boolean) Bd.returns (by simp) (hb hby at_103) (by decide) (by decide) ⟨rfl, N8, e8⟩

theorem own_core (a b : Int32) (h0 : 0 ≤ a.toInt) (h1 : a.toInt ≤ b.toInt) : (f4 a b).toInt64 = f3 b.toInt64 (a.toInt64 + 33554431) := by
  have hb := Int32.toInt_lt b
  have hs : (b - a).toInt = b.toInt - a.toInt := Jvm.Kit.i32_sub (by omega) (by omega)
  have e1 : (33554431 : Int32).toInt = 33554431 := by decide
  have e2 : (33554431 : Int64).toInt = 33554431 := by decide
  have ha : (a.toInt64 + 33554431).toInt = a.toInt + 33554431 := by
    rw [Jvm.Kit.i64_add (by rw [Int32.toInt_toInt64]; omega) (by rw [Int32.toInt_toInt64]; omega), Int32.toInt_toInt64, e2]
  unfold f3 f4
  apply Int64.toInt_inj.mp
  by_cases q : a.toInt + 33554431 < b.toInt
  · have u : (33554431 : Int32) < b - a := by rw [Int32.lt_iff_toInt_lt, hs, e1]; omega
    have w : a.toInt64 + 33554431 < b.toInt64 := by rw [Int64.lt_iff_toInt_lt, ha, Int32.toInt_toInt64]; exact q
    rw [if_pos u, if_pos w, ha, Int32.toInt_toInt64, Jvm.Kit.i32_add (by omega) (by omega), e1]
  · have u : ¬ (33554431 : Int32) < b - a := by rw [Int32.lt_iff_toInt_lt, hs, e1]; omega
    have w : ¬ a.toInt64 + 33554431 < b.toInt64 := by rw [Int64.lt_iff_toInt_lt, ha, Int32.toInt_toInt64]; exact q
    rw [if_neg u, if_neg w]
theorem own_minmax (x y : Int32) : (f1 x y).toInt ≤ (f2 x y).toInt ∧ (f1 x y = x ∨ f1 x y = y) := by
  unfold f1 f2
  simp only [Int32.lt_iff_toInt_lt]
  by_cases q : x.toInt < y.toInt
  · rw [if_neg (by omega), if_pos q]; exact ⟨by omega, Or.inl rfl⟩
  · rw [if_neg q]
    by_cases r : y.toInt < x.toInt
    · rw [if_pos r]; exact ⟨by omega, Or.inr rfl⟩
    · rw [if_neg r]; exact ⟨by omega, Or.inl rfl⟩
def own_65f (a g : Int32) : Int32 := if (f4 a g).toInt64 = f3 g.toInt64 (a.toInt64 + 33554431) then 1 else 0
theorem own_65 (a g : Int32) (h0 : 0 ≤ a.toInt) (h : a.toInt ≤ g.toInt) : own_65f a g = 1 := by
  unfold own_65f
  rw [own_core _ _ h0 h, if_pos rfl]
theorem own_f0 (p0 p1 p2 p3 : Int32) : f0 p0 p1 p2 p3 = (if (p2 &&& 1) = 0 then own_65f (va p0 p1 p2 p3) (f2 (p0 &&& 2147483647) (p1 &&& 2147483647)) else (if 2147483647 < vn p0 p1 p2 p3 then own_65f (va p0 p1 p2 p3) (f2 (p0 &&& 2147483647) (p1 &&& 2147483647)) else own_65f (va p0 p1 p2 p3) (vn p0 p1 p2 p3).toInt32)) := rfl
theorem own_law (p0 p1 p2 p3 : Int32) : f0 p0 p1 p2 p3 = 1 := by
  have hm := own_minmax (p0 &&& 2147483647) (p1 &&& 2147483647)
  have h0 : 0 ≤ (f1 (p0 &&& 2147483647) (p1 &&& 2147483647)).toInt := by
    rcases hm.2 with q | q <;> rw [q, own_and31] <;> omega
  have hl := Int32.toInt_lt (f1 (p0 &&& 2147483647) (p1 &&& 2147483647))
  rw [own_f0]
  have h65 : own_65f (va p0 p1 p2 p3) (f2 (p0 &&& 2147483647) (p1 &&& 2147483647)) = 1 := own_65 _ _ h0 hm.1
  rw [h65]
  split
  · rfl
  · split
    · rfl
    · rename_i q1 q2
      apply own_65 _ _ h0
      show (f1 (p0 &&& 2147483647) (p1 &&& 2147483647)).toInt ≤ (((f1 (p0 &&& 2147483647) (p1 &&& 2147483647)).toInt64 + 33554427 + (p3 &&& 7).toInt64).toInt32).toInt
      have q2' : ¬ 2147483647 < ((f1 (p0 &&& 2147483647) (p1 &&& 2147483647)).toInt64 + 33554427 + (p3 &&& 7).toInt64) := q2
      clear q2
      generalize f1 (p0 &&& 2147483647) (p1 &&& 2147483647) = a at *
      have e7 : (p3 &&& 7).toInt = p3.toInt % 8 := Jvm.Kit.i32_mask p3 7 (k := 3) (by decide) (by decide)
      have e2 : (33554427 : Int64).toInt = 33554427 := by decide
      have e3 : (2147483647 : Int64).toInt = 2147483647 := by decide
      have ha : (a.toInt64 + 33554427).toInt = a.toInt + 33554427 := by
        rw [Jvm.Kit.i64_add (by rw [Int32.toInt_toInt64]; omega) (by rw [Int32.toInt_toInt64]; omega), Int32.toInt_toInt64, e2]
      have hb : (a.toInt64 + 33554427 + (p3 &&& 7).toInt64).toInt = a.toInt + 33554427 + p3.toInt % 8 := by
        rw [Jvm.Kit.i64_add (by rw [ha, Int32.toInt_toInt64, e7]; omega) (by rw [ha, Int32.toInt_toInt64, e7]; omega), ha, Int32.toInt_toInt64, e7]
      rw [Int64.lt_iff_toInt_lt, hb, e3] at q2'
      rw [Jvm.Kit.i32_of_i64 (by rw [hb]; omega) (by rw [hb]; omega), hb]
      omega
set_option maxRecDepth 65536 in
set_option maxHeartbeats 40000000 in
theorem comes_1 {Post : Tables → Env → Array Value → State → Outcome → State → Prop} (hpost : ∀ tb e args s v u, (limb_1_1.after args s (.returned v) u = true ∧ limb_1_2.after args s (.returned v) u = true ∧ True) → FrameEnd s (.returned v) u (Jvm.fieldLocs frame_1_writes args s ++ Jvm.arrayLocs frame_1_arrays args s ++ Jvm.staticLocs frame_1_statics s) 0 0 → Post tb e args s (.returned v) u) :
    ArmFor flags0 classFile x code maxLocals ret World_1 tables_1 room_1 Calls_1 rest_1 Pre_1 Post := by
  intro l hfl _ _ p e ha hc hk s m args below hf hA hF happ hP
  obtain ⟨hcalls, hrest, hpre⟩ := hP
  obtain ⟨-, -, -, hnamed, -, -, -, hat⟩ := (Spec.applies_iff hf).mp happ
  obtain ⟨hg, hn⟩ := and_e (Cond.before_iff.mp (show (Jvm.Cond.and given_1 narrow_1).before args s = true from hpre))
  obtain ⟨hcnt, g0⟩ := and_e hg
  obtain ⟨t0, g1⟩ := and_e g0
  obtain ⟨t1, g2⟩ := and_e g1
  obtain ⟨t2, g3⟩ := and_e g2
  have t3 := g3
  obtain ⟨w0, w1, w2, w3, rfl⟩ : ∃ w0 w1 w2 w3 : Value, args = #[w0, w1, w2, w3] := by
    have hs : args.size = 4 := by simpa [Cond.value, given_1] using hcnt
    obtain ⟨L⟩ := args
    match L, hs with
    | [w0, w1, w2, w3], _ => exact ⟨w0, w1, w2, w3, rfl⟩
  have hw := fun d (hd : d ∈ tables_1) => atoms_spec (ws := Jvm.Cond.code x code maxLocals ret :: tables_1) hat d (List.mem_cons_of_mem _ hd)
  obtain ⟨i0, ei0⟩ := is_v t0
  obtain rfl : w0 = (.int i0) := Option.some.inj ei0
  obtain ⟨i1, ei1⟩ := is_v t1
  obtain rfl : w1 = (.int i1) := Option.some.inj ei1
  obtain ⟨i2, ei2⟩ := is_v t2
  obtain rfl : w2 = (.int i2) := Option.some.inj ei2
  obtain ⟨i3, ei3⟩ := is_v t3
  obtain rfl : w3 = (.int i3) := Option.some.inj ei3
  obtain ⟨n, o, h1, h2, h3, v, L, rfl, ⟨hv, N, -⟩, hq⟩ := rm0 l s _ hw tables_1 i0 i1 i2 i3 s.heap s.heap.size (Nat.le_refl _) p e ha hc hk s m _ below hf ((Spec.applies_iff_loose hf).mp happ).1 ⟨rfl, State.Warmed39.refl s, rfl⟩ trivial
  obtain rfl : v = some (.int 1) := by rw [hv, own_law]
  refine ⟨n, _, h1, h2, h3, hpost _ _ _ _ _ _ ⟨Cond.after_iff.mpr rfl, Cond.after_iff.mpr (eq_i res_at (Term.int_eval (1)) rfl), trivial⟩ ⟨hq.1, hq.2.1, (hq.2.2.sift fun y hy => Or.inr (N y hy)).mono (by decide) (by decide)⟩⟩
theorem main_1_1 : Claimed_1_1 := comes_1 fun _ _ _ _ _ _ h hF => ⟨h.1, hF⟩
theorem main_1_2 : Claimed_1_2 := comes_1 fun _ _ _ _ _ _ h hF => ⟨h.2.1, hF⟩
end Jvm.Pilot.@@N@@
namespace Jvm.Pilot.@@N@@
open Jvm Jvm.ClassFile Sem Op Lib Jvm.Free Jvm.Stand Jvm.Pilot.@@N@@.Jvm.D
/-! MADE BY PROGRAM (witnessworld.py) out of the Statement's table words and the real class files: 10 classes; the members and pool entries that the words name. The judged class is class 1, her method 1. -/
namespace start1
open Jvm.ClassFile
def u (s : String) : CpInfo := .utf8 (stringToUtf16 s)
/-- a pool by its gaps: so many unusable entries, then the entry; so many at the end -/
def gap : Nat → List CpInfo → List CpInfo
  | 0, r => r
  | n + 1, r => .unusable :: gap n r
def poolList (es : List (Nat × CpInfo)) (last : Nat) : List CpInfo := es.foldr (fun e r => gap e.1 (e.2 :: r)) (gap last [])
def pool (es : List (Nat × CpInfo)) (last : Nat) : Array CpInfo := ⟨poolList es last⟩
def fileOf (pool : Array CpInfo) (this : Nat) (attrs : Array Attribute := #[]) (ms : Array MethodInfo := #[]) (fl : Nat := 33) (sup : Nat := 0) (ifs : Array Nat := #[]) (fds : Array FieldInfo := #[]) : ClassFile where
  minorVersion := 0
  majorVersion := 65
  constantPool := pool
  accessFlags := fl
  thisClass := this
  superClass := sup
  interfaces := ifs
  fields := fds
  methods := ms
  attributes := attrs
def plain (name : String) (sup : Option ClassId) : Class where
  name := name
  kind := .ordinary
  loader := none
  accessFlags := 33
  super := sup
  interfaces := #[]
  cf := none
  fields := #[]
  methods := #[]
  instanceTypes := #[]
  staticTypes := #[]
  resolved := #[]
  callSites := []
  init := .initialized
  statics := none
  mirror := none

def pool0 : Array CpInfo := pool [(5, u "<init>"), (0, u "()V"), (1, .class_ 10), (1, u "java/lang/Object")] 113

def k0m0 : Method := { name := "<init>", desc := "()V", sig := { parameters := [], returnType := none }, accessFlags := 1, code := none }
/-- java/lang/Object -/
def k0 : Class := { plain "java/lang/Object" none with
  accessFlags := 33
  interfaces := #[]
  cf := some (fileOf pool0 8 #[] #[{ accessFlags := 1, nameIndex := 5, descriptorIndex := 6, attributes := #[] }] 33 0 #[] #[])
  fields := #[]
  methods := #[k0m0]
  instanceTypes := #[]
  staticTypes := #[]
  resolved := Array.replicate 124 none
  statics := none }

def pool1 : Array CpInfo := pool [(2, .class_ 4), (1, u "java/lang/Object"), (0, u "<init>"), (0, u "()V"), (0, .integer 2147483647), (0, .methodref 9 10), (0, .class_ 11), (0, .nameAndType 12 13), (0, u "java/lang/Math"), (0, u "min"), (0, u "(II)I"), (0, .methodref 9 15), (0, .nameAndType 16 13), (0, u "max"), (0, .long 33554427), (1, .long 2147483647), (1, .long 33554431), (1, .methodref 9 24), (0, .nameAndType 12 25), (0, u "(JJ)J"), (0, .methodref 27 28), (0, .class_ 29), (0, .nameAndType 30 13), (0, u "com/example/bitfold/bitfold/array/Runs"), (0, u "runEnd"), (0, .class_ 32), (0, u "com/example/bitfold/bitfold/array/RunsRunEndPinLaw"), (2, u "law"), (0, u "(IIII)Z")] 3

def k1m0 : Method := { name := "<init>", desc := "()V", sig := { parameters := [], returnType := none }, accessFlags := 1, code := none }
def k1c1 : Code := { maxStack := 6, maxLocals := 11, code := code, exceptionTable := #[], attributes := #[] }
def k1m1 : Method := { name := "law", desc := "(IIII)Z", sig := { parameters := [.int, .int, .int, .int], returnType := some .boolean }, accessFlags := 9, code := some k1c1 }
/-- com/example/bitfold/bitfold/array/RunsRunEndPinLaw -/
def k1 : Class := { plain "com/example/bitfold/bitfold/array/RunsRunEndPinLaw" (some 0) with
  accessFlags := 49
  interfaces := #[]
  cf := some (fileOf pool1 31 #[] #[{ accessFlags := 1, nameIndex := 5, descriptorIndex := 6, attributes := #[] }, { accessFlags := 9, nameIndex := 35, descriptorIndex := 36, attributes := #[] }] 49 2 #[] #[])
  fields := #[]
  methods := #[k1m0, k1m1]
  instanceTypes := #[]
  staticTypes := #[]
  resolved := Array.replicate 40 none
  statics := none }

def pool2 : Array CpInfo := pool [(1, .class_ 2), (0, u "java/lang/Math"), (1, .class_ 6), (1, u "java/lang/Object"), (0, u "<init>"), (0, u "()V"), (89, .class_ 100), (1, u "java/lang/Math$RandomNumberGeneratorHolder"), (20, u "(JJ)J"), (50, u "negativeZeroFloatBits"), (0, u "J"), (2, u "negativeZeroDoubleBits"), (21, u "max"), (2, u "min"), (43, u "$assertionsDisabled"), (0, u "Z"), (88, u "(II)I"), (2, u "twoToTheDoubleScaleDown"), (0, u "D"), (4, u "twoToTheDoubleScaleUp"), (9, u "E"), (3, u "PI"), (2, u "TAU"), (2, u "DEGREES_TO_RADIANS"), (0, u "RADIANS_TO_DEGREES")] 94

def k2m0 : Method := { name := "<init>", desc := "()V", sig := { parameters := [], returnType := none }, accessFlags := 2, code := none }
def k2c1 : Code := { maxStack := 2, maxLocals := 2, code := jdk_29_method_65_code, exceptionTable := #[], attributes := #[] }
def k2m1 : Method := { name := "max", desc := "(II)I", sig := { parameters := [.int, .int], returnType := some .int }, accessFlags := 9, code := some k2c1 }
def k2c2 : Code := { maxStack := 2, maxLocals := 2, code := jdk_29_method_69_code, exceptionTable := #[], attributes := #[] }
def k2m2 : Method := { name := "min", desc := "(II)I", sig := { parameters := [.int, .int], returnType := some .int }, accessFlags := 9, code := some k2c2 }
def k2c3 : Code := { maxStack := 4, maxLocals := 4, code := jdk_29_method_70_code, exceptionTable := #[], attributes := #[] }
def k2m3 : Method := { name := "min", desc := "(JJ)J", sig := { parameters := [.long, .long], returnType := some .long }, accessFlags := 9, code := some k2c3 }
/-- java/lang/Math -/
def k2 : Class := { plain "java/lang/Math" (some 0) with
  accessFlags := 49
  interfaces := #[]
  cf := some (fileOf pool2 1 #[.nestMembers #[98]] #[{ accessFlags := 2, nameIndex := 7, descriptorIndex := 8, attributes := #[] }, { accessFlags := 9, nameIndex := 198, descriptorIndex := 335, attributes := #[] }, { accessFlags := 9, nameIndex := 201, descriptorIndex := 335, attributes := #[] }, { accessFlags := 9, nameIndex := 201, descriptorIndex := 121, attributes := #[] }] 49 4 #[] #[{ accessFlags := 25, nameIndex := 354, descriptorIndex := 339, attributes := #[] }, { accessFlags := 25, nameIndex := 358, descriptorIndex := 339, attributes := #[] }, { accessFlags := 25, nameIndex := 361, descriptorIndex := 339, attributes := #[] }, { accessFlags := 26, nameIndex := 364, descriptorIndex := 339, attributes := #[] }, { accessFlags := 26, nameIndex := 365, descriptorIndex := 339, attributes := #[] }, { accessFlags := 26, nameIndex := 172, descriptorIndex := 173, attributes := #[] }, { accessFlags := 26, nameIndex := 176, descriptorIndex := 173, attributes := #[] }, { accessFlags := 8, nameIndex := 344, descriptorIndex := 339, attributes := #[] }, { accessFlags := 8, nameIndex := 338, descriptorIndex := 339, attributes := #[] }, { accessFlags := 4120, nameIndex := 245, descriptorIndex := 246, attributes := #[] }])
  fields := #[{ name := "E", type := .double, accessFlags := 25, slot := 0, constantValue := 0 }, { name := "PI", type := .double, accessFlags := 25, slot := 1, constantValue := 0 }, { name := "TAU", type := .double, accessFlags := 25, slot := 2, constantValue := 0 }, { name := "DEGREES_TO_RADIANS", type := .double, accessFlags := 26, slot := 3, constantValue := 0 }, { name := "RADIANS_TO_DEGREES", type := .double, accessFlags := 26, slot := 4, constantValue := 0 }, { name := "negativeZeroFloatBits", type := .long, accessFlags := 26, slot := 5, constantValue := 0 }, { name := "negativeZeroDoubleBits", type := .long, accessFlags := 26, slot := 6, constantValue := 0 }, { name := "twoToTheDoubleScaleUp", type := .double, accessFlags := 8, slot := 7, constantValue := 0 }, { name := "twoToTheDoubleScaleDown", type := .double, accessFlags := 8, slot := 8, constantValue := 0 }, { name := "$assertionsDisabled", type := .boolean, accessFlags := 4120, slot := 9, constantValue := 0 }]
  methods := #[k2m0, k2m1, k2m2, k2m3]
  instanceTypes := #[]
  staticTypes := #[.double, .double, .double, .double, .double, .long, .long, .double, .double, .boolean]
  resolved := Array.replicate 460 none
  statics := none }

def pool3 : Array CpInfo := pool [(5, .class_ 6), (0, u "com/example/bitfold/bitfold/array/Runs"), (1, .class_ 10), (1, u "java/lang/Object"), (0, u "<init>"), (0, u "()V"), (33, .integer 33554431), (6, u "(II)I"), (17, u "VECTOR_BIT_COUNT"), (0, u "Z"), (2, u "VECTOR_OR_REDUCTION"), (0, u "INT_RUN_WORDS"), (0, u "I"), (1, u "INT_RUN_BYTES"), (0, u "BOUNDED_RUN_WORDS"), (1, u "BOUNDED_RUN_BYTES"), (1, u "SHORT_RUN_WORDS"), (1, u "SHORT_RUN_BYTES"), (1, u "LONGEST_BOUNDED_RUN_WORDS"), (20, u "runEnd")] 26

def k3m0 : Method := { name := "<init>", desc := "()V", sig := { parameters := [], returnType := none }, accessFlags := 2, code := none }
def k3c1 : Code := { maxStack := 2, maxLocals := 2, code := prog_10_method_11_code, exceptionTable := #[], attributes := #[] }
def k3m1 : Method := { name := "runEnd", desc := "(II)I", sig := { parameters := [.int, .int], returnType := some .int }, accessFlags := 8, code := some k3c1 }
/-- com/example/bitfold/bitfold/array/Runs -/
def k3 : Class := { plain "com/example/bitfold/bitfold/array/Runs" (some 0) with
  accessFlags := 48
  interfaces := #[]
  cf := some (fileOf pool3 5 #[] #[{ accessFlags := 2, nameIndex := 11, descriptorIndex := 12, attributes := #[] }, { accessFlags := 8, nameIndex := 109, descriptorIndex := 53, attributes := #[] }] 48 8 #[] #[{ accessFlags := 24, nameIndex := 76, descriptorIndex := 77, attributes := #[] }, { accessFlags := 24, nameIndex := 79, descriptorIndex := 77, attributes := #[] }, { accessFlags := 24, nameIndex := 80, descriptorIndex := 77, attributes := #[] }, { accessFlags := 24, nameIndex := 82, descriptorIndex := 77, attributes := #[] }, { accessFlags := 24, nameIndex := 84, descriptorIndex := 77, attributes := #[] }, { accessFlags := 24, nameIndex := 86, descriptorIndex := 77, attributes := #[] }, { accessFlags := 26, nameIndex := 88, descriptorIndex := 77, attributes := #[] }, { accessFlags := 24, nameIndex := 71, descriptorIndex := 72, attributes := #[] }, { accessFlags := 24, nameIndex := 75, descriptorIndex := 72, attributes := #[] }])
  fields := #[{ name := "INT_RUN_WORDS", type := .int, accessFlags := 24, slot := 0, constantValue := 0 }, { name := "INT_RUN_BYTES", type := .int, accessFlags := 24, slot := 1, constantValue := 0 }, { name := "BOUNDED_RUN_WORDS", type := .int, accessFlags := 24, slot := 2, constantValue := 0 }, { name := "BOUNDED_RUN_BYTES", type := .int, accessFlags := 24, slot := 3, constantValue := 0 }, { name := "SHORT_RUN_WORDS", type := .int, accessFlags := 24, slot := 4, constantValue := 0 }, { name := "SHORT_RUN_BYTES", type := .int, accessFlags := 24, slot := 5, constantValue := 0 }, { name := "LONGEST_BOUNDED_RUN_WORDS", type := .int, accessFlags := 26, slot := 6, constantValue := 0 }, { name := "VECTOR_BIT_COUNT", type := .boolean, accessFlags := 24, slot := 7, constantValue := 0 }, { name := "VECTOR_OR_REDUCTION", type := .boolean, accessFlags := 24, slot := 8, constantValue := 0 }]
  methods := #[k3m0, k3m1]
  instanceTypes := #[]
  staticTypes := #[.int, .int, .int, .int, .int, .int, .int, .boolean, .boolean]
  resolved := Array.replicate 136 none
  statics := none }

def pool4 : Array CpInfo := pool [(1, u "java/lang/Cloneable"), (0, .class_ 1), (0, u "java/lang/Object"), (0, .class_ 3)] 3

/-- java/lang/Cloneable -/
def k4 : Class := { plain "java/lang/Cloneable" (some 0) with
  accessFlags := 1537
  interfaces := #[]
  cf := some (fileOf pool4 2 #[] #[] 1537 4 #[] #[])
  fields := #[]
  methods := #[]
  instanceTypes := #[]
  staticTypes := #[]
  resolved := Array.replicate 8 none
  statics := none }

def pool5 : Array CpInfo := pool [(1, u "java/io/Serializable"), (0, .class_ 1), (0, u "java/lang/Object"), (0, .class_ 3)] 3

/-- java/io/Serializable -/
def k5 : Class := { plain "java/io/Serializable" (some 0) with
  accessFlags := 1537
  interfaces := #[]
  cf := some (fileOf pool5 2 #[] #[] 1537 4 #[] #[])
  fields := #[]
  methods := #[]
  instanceTypes := #[]
  staticTypes := #[]
  resolved := Array.replicate 8 none
  statics := none }

/-- the primitive byte -/
def k6 : Class := { plain "byte" none with kind := .primitive 'B', accessFlags := 0x411 }
/-- [B -/
def k7 : Class := { plain "[B" (some 0) with kind := .array 6 .byte, interfaces := #[4, 5], accessFlags := 1041 }

/-- the primitive int -/
def k8 : Class := { plain "int" none with kind := .primitive 'I', accessFlags := 0x411 }
/-- [I -/
def k9 : Class := { plain "[I" (some 0) with kind := .array 8 .int, interfaces := #[4, 5], accessFlags := 1041 }

def heap : Heap := #[]
def classes : Array Class := #[k0, k1, k2, k3, k4, k5, k6, k7, k8, k9]
def interned : List (Array UInt16 × Addr) := []
def slotsUsed : Nat := 0
def theMethod : MethodId := ⟨1, 1⟩
def args0 : Array Value := #[.int 5, .int 5, .int 5, .int 5]
def aboutOver (below : List Frame) : State where
  vm := { classes := classes, interned := interned.toArray }
  heap := heap
  slotsUsed := slotsUsed
  threads := #[{ frames := .invoking theMethod args0 :: below }]
def below0 : List Frame := [.native { method := ⟨0, 0⟩, args := #[] }]
def about1 : State := aboutOver below0
def p0 : Program := .bare "" "" ""
def e0 : Env := launch0.env 0 0 0
theorem w_frames : about1.frames = Frame.invoking theMethod args0 :: below0 := rfl
set_option maxRecDepth 65536 in
theorem w_args : argsFit about1.vm theMethod args0 = true := by decide +kernel
set_option maxRecDepth 65536 in
theorem w_heap : heapFits about1 = true := by decide +kernel
set_option maxRecDepth 65536 in
theorem w_runnable : about1.curStatus? = some .runnable := by decide +kernel
set_option maxRecDepth 65536 in
theorem w_alone : about1.alone = true := by decide +kernel
set_option maxRecDepth 65536 in
theorem w_named : about1.methodNamed? x = some theMethod := by decide +kernel
set_option maxRecDepth 65536 in
theorem w_hears : about1.hears theMethod below0 = true := by decide +kernel
set_option maxRecDepth 65536 in
theorem w_ripe : about1.ripe theMethod args0 below0 = true := by decide +kernel
theorem w_running : about1.status = .running := rfl
set_option maxRecDepth 65536 in
theorem w_room : about1.hasRoom e0.platform room_1 = true :=
  launch0.hasRoom_least _ room_1 (by decide +kernel) (by decide +kernel) (by decide +kernel) (by decide +kernel) (by decide +kernel) (by decide +kernel)
theorem allAtoms_all (ts : List Jvm.Cond) (a : Array Jvm.Value) (st : Jvm.State) : (allAtoms ts).before a st = ts.all (fun c => c.before a st) := by
  induction ts with
  | nil => rfl
  | cons c t ih =>
    show (Jvm.Cond.and c (allAtoms t)).before a st = _
    rw [Jvm.Cond.before_and, ih, List.all_cons]
def words1 : List Jvm.Cond := Jvm.Cond.code x code maxLocals ret :: tables_1
/-- a 'code' word, met by the world's own term for the bytes: nothing is compared byte by byte -/
theorem code_word {y : MethodName} {bytes : ByteArray} {mx : Nat} {rt : Option FieldType} {a : Array Value} {s : State} {m : MethodId} {meth : Method} {c : Code} (h1 : s.methodNamed? y = some m) (h2 : s.vm.method? m = some meth) (h3 : meth.code = some c) (h4 : c.code = bytes)
    (h5 : (c.maxLocals == mx && c.exceptionTable.isEmpty && decide (c.maxStack ≤ mostOperands) && decide (meth.sig.returnType = rt) && !meth.locks && decide (parseMethodDescriptor y.desc = some meth.sig)) = true) : (Jvm.Cond.code y bytes mx rt).before a s = true := by
  simp only [Bool.and_eq_true, beq_iff_eq, Bool.not_eq_true', decide_eq_true_eq] at h5
  obtain ⟨⟨⟨⟨⟨g1, g2⟩, g3⟩, g4⟩, g5⟩, g6⟩ := h5
  simp [Cond.before, Cond.holds, Cond.value, h1, h2, h3, h4, g1, g2, g3, g4, g5, g6]
def isCode : Jvm.Cond → Bool
  | .code _ _ _ _ => true
  | _ => false
theorem all_split {L : List Jvm.Cond} {P : Jvm.Cond → Bool} (h1 : L.all (fun c => isCode c || P c) = true) (h2 : ∀ c ∈ L.filter isCode, P c = true) : L.all P = true := by
  refine List.all_eq_true.mpr fun c hc => ?_
  have h := List.all_eq_true.mp h1 c hc
  rcases Bool.eq_false_or_eq_true (isCode c) with hi | hi
  · exact h2 c (List.mem_filter.mpr ⟨hc, hi⟩)
  · simpa [hi] using h
set_option maxRecDepth 65536 in
theorem w_c0 : (Jvm.Cond.code x code maxLocals ret).before args0 about1 = true := code_word (m := ⟨1, 1⟩) (meth := k1m1) (c := k1c1) (by decide +kernel) rfl rfl rfl (by decide +kernel)
set_option maxRecDepth 65536 in
theorem w_c1 : (Jvm.Cond.code ({ cls := "java/lang/Math", name := "min", desc := "(II)I" } : Jvm.MethodName) jdk_29_method_69_code (2 : Nat) (Option.some Jvm.ClassFile.FieldType.int)).before args0 about1 = true := code_word (m := ⟨2, 2⟩) (meth := k2m2) (c := k2c2) (by decide +kernel) rfl rfl rfl (by decide +kernel)
set_option maxRecDepth 65536 in
theorem w_c2 : (Jvm.Cond.code ({ cls := "java/lang/Math", name := "max", desc := "(II)I" } : Jvm.MethodName) jdk_29_method_65_code (2 : Nat) (Option.some Jvm.ClassFile.FieldType.int)).before args0 about1 = true := code_word (m := ⟨2, 1⟩) (meth := k2m1) (c := k2c1) (by decide +kernel) rfl rfl rfl (by decide +kernel)
set_option maxRecDepth 65536 in
theorem w_c3 : (Jvm.Cond.code ({ cls := "java/lang/Math", name := "min", desc := "(JJ)J" } : Jvm.MethodName) jdk_29_method_70_code (4 : Nat) (Option.some Jvm.ClassFile.FieldType.long)).before args0 about1 = true := code_word (m := ⟨2, 3⟩) (meth := k2m3) (c := k2c3) (by decide +kernel) rfl rfl rfl (by decide +kernel)
set_option maxRecDepth 65536 in
theorem w_c4 : (Jvm.Cond.code ({ cls := "com/example/bitfold/bitfold/array/Runs", name := "runEnd", desc := "(II)I" } : Jvm.MethodName) prog_10_method_11_code (2 : Nat) (Option.some Jvm.ClassFile.FieldType.int)).before args0 about1 = true := code_word (m := ⟨3, 1⟩) (meth := k3m1) (c := k3c1) (by decide +kernel) rfl rfl rfl (by decide +kernel)
def codes1 : List Jvm.Cond := [Jvm.Cond.code x code maxLocals ret, Jvm.Cond.code ({ cls := "java/lang/Math", name := "min", desc := "(II)I" } : Jvm.MethodName) jdk_29_method_69_code (2 : Nat) (Option.some Jvm.ClassFile.FieldType.int), Jvm.Cond.code ({ cls := "java/lang/Math", name := "max", desc := "(II)I" } : Jvm.MethodName) jdk_29_method_65_code (2 : Nat) (Option.some Jvm.ClassFile.FieldType.int), Jvm.Cond.code ({ cls := "java/lang/Math", name := "min", desc := "(JJ)J" } : Jvm.MethodName) jdk_29_method_70_code (4 : Nat) (Option.some Jvm.ClassFile.FieldType.long), Jvm.Cond.code ({ cls := "com/example/bitfold/bitfold/array/Runs", name := "runEnd", desc := "(II)I" } : Jvm.MethodName) prog_10_method_11_code (2 : Nat) (Option.some Jvm.ClassFile.FieldType.int)]
set_option maxRecDepth 65536 in
theorem codes_eq : words1.filter isCode = codes1 := rfl
theorem w_codes : ∀ c ∈ words1.filter isCode, c.before args0 about1 = true := by
  rw [codes_eq]
  intro c hc
  simp only [codes1, List.mem_cons, List.not_mem_nil, or_false] at hc
  rcases hc with rfl | rfl | rfl | rfl | rfl
  · exact w_c0
  · exact w_c1
  · exact w_c2
  · exact w_c3
  · exact w_c4
set_option maxRecDepth 65536 in
theorem w_t1 : words1.all (fun c => isCode c || c.before args0 about1) = true := by decide +kernel
theorem w_tables : (allAtoms (Jvm.Cond.code x code maxLocals ret :: tables_1)).before args0 about1 = true := by
  rw [allAtoms_all]
  show words1.all (fun c => c.before args0 about1) = true
  refine all_split ?_ w_codes
  rw [w_t1]
set_option maxRecDepth 65536 in
theorem w_case : (Jvm.Cond.and given_1 narrow_1).before args0 about1 = true := by decide +kernel
theorem w_applies : (headSpec (Jvm.Cond.code x code maxLocals ret :: tables_1) room_1).applies x e0.platform about1 = true :=
  (Spec.applies_iff w_frames).mpr ⟨w_running, w_runnable, w_alone, w_named, w_hears, w_ripe, w_room, w_tables⟩
theorem atStart : AtStart classFile x code maxLocals ret World_1 tables_1 room_1 Calls_1 rest_1 Pre_1 launch0 p0 e0 about1 theMethod args0 below0 :=
  ⟨lists_1, trivial, launch0.admits_env _ _ _, launch0.least_env, fairChoices_fair.cas, fairChoices_fair.clock, w_frames, w_args, w_heap, w_applies, trivial, trivial, w_case⟩
end start1
theorem witness_1 : WitnessClaimed_1 := ⟨start1.p0, start1.e0, start1.about1, start1.theMethod, start1.args0, start1.below0, start1.atStart⟩
end Jvm.Pilot.@@N@@
