import JvmDerived
import JvmDerived.Pilot.@@N@@Statement
import JvmDerived.Pilot.@@N@@Code
set_option linter.unusedVariables false
set_option linter.unusedSimpArgs false
@@BLOCK:NumsL.lean.txt@@
namespace Jvm.Pilot.@@N@@
open Jvm Jvm.ClassFile Sem Op Lib Jvm.Free Jvm.Stand Jvm.LawKit Jvm.RoadKit Bundle Jvm.Pilot.@@N@@.Jvm.D
section OwnKit
variable {p : Program} {l : Launch} {e : Env} {R : Room} {s : State} {m : MethodId} {args : Array Value} {below : List Frame} {meth : Method} {c : Code} {T T' : State} {locs : List Loc} {cells slots : Nat}
/-- from here the body comes to its end and leaves what Q says -/
def own_W (p : Program) (e : Env) (below : List Frame) (s : State) (k n : Nat) (Q : Option Value → Heap → List Loc → Prop) (T : State) (f : JFrame) : Prop :=
  ∃ s₂ o, Steps p.tables e below (T.setTop f) s₂ ∧ s₂.status = .running ∧ Ended s₂ below o ∧ ∃ v L, o = .returned v ∧ Q v s₂.heap L ∧ FrameEnd s o s₂ L k n
theorem own_st {k n : Nat} {Q : Option Value → Heap → List Loc → Prop} {f f' : JFrame} (w : own_W p e below s k n Q T' f') (h : ∀ t, Steps p.tables e below (T'.setTop f') t → Steps p.tables e below (T.setTop f) t) : own_W p e below s k n Q T f := by
  obtain ⟨s₂, o, h1, r⟩ := w
  exact ⟨s₂, o, h _ h1, r⟩
theorem own_to {k n : Nat} {Q : Option Value → Heap → List Loc → Prop} {f f' : JFrame} (q : f = f') (w : own_W p e below s k n Q T f') : own_W p e below s k n Q T f := q ▸ w
theorem own_ite {k n : Nat} {α : Type} {G : α → Option Value → Heap → List Loc → Prop} {f : JFrame} {A : Prop} [Decidable A] {x y : α} (h1 : A → own_W p e below s k n (G x) T f) (h2 : ¬ A → own_W p e below s k n (G y) T f) : own_W p e below s k n (G (if A then x else y)) T f := by
  by_cases q : A
  · rw [if_pos q]; exact h1 q
  · rw [if_neg q]; exact h2 q
/-- an int is returned, nothing old is written, the heap is as P says -/
def own_GI (n0 : Nat) (P : Heap → Prop) (r : Int32) (v : Option Value) (h : Heap) (L : List Loc) : Prop := v = some (.int r) ∧ Fr n0 L ∧ P h
def own_GJ (n0 : Nat) (P : Heap → Prop) (r : Int64) (v : Option Value) (h : Heap) (L : List Loc) : Prop := v = some (.long r) ∧ Fr n0 L ∧ P h
theorem own_retI {k n : Nat} {Q : Option Value → Heap → List Loc → Prop} (X : Stand p l e R s m args below meth c T locs cells slots) (hx : p.tables.exec = Jvm.exec) (hlk : meth.locks = false) (hret : meth.sig.returnType = some .int) {pc : Nat} {Ls : Array Slot} {z : Int32} {rest : List Value} (hd : decode c.code pc = .ok (.ireturn, 1)) (hk : cells ≤ k) (hn : slots ≤ n) (q : Q (some (.int z)) T.heap locs) : own_W p e below s k n Q T (mkF m pc Ls (.int z :: rest)) := by
  obtain ⟨fs, hr, hrun, hended, hW, hsame⟩ := X.leave (v := some (.int z)) (fun h => by rw [hret] at h; cases h) hlk
  exact ⟨_, _, retOut X hx hret rfl (Or.inl ⟨rfl, Or.inl rfl, z, rfl⟩) hd hr, hrun, hended, _, _, rfl, q, ⟨_, rfl⟩, hW, hsame.mono hk hn⟩
theorem own_retN {k n : Nat} {Q : Option Value → Heap → List Loc → Prop} (X : Stand p l e R s m args below meth c T locs cells slots) (hx : p.tables.exec = Jvm.exec) (hlk : meth.locks = false) {t : FieldType} (hret : meth.sig.returnType = some t) (ht : t = .boolean ∨ t = .byte ∨ t = .char ∨ t = .short) {pc : Nat} {Ls : Array Slot} {z : Int32} {rest : List Value} (hd : decode c.code pc = .ok (.ireturn, 1)) (hk : cells ≤ k) (hn : slots ≤ n) (q : Q (some (.int (nar t z))) T.heap locs) : own_W p e below s k n Q T (mkF m pc Ls (.int z :: rest)) := by
  obtain ⟨fs, hr, hrun, hended, hW, hsame⟩ := X.leave (v := some (.int (nar t z))) (fun h => by rw [hret] at h; cases h) hlk
  exact ⟨_, _, retN X hx hret ht hd hr, hrun, hended, _, _, rfl, q, ⟨_, rfl⟩, hW, hsame.mono hk hn⟩
theorem own_retJ {k n : Nat} {Q : Option Value → Heap → List Loc → Prop} (X : Stand p l e R s m args below meth c T locs cells slots) (hx : p.tables.exec = Jvm.exec) (hlk : meth.locks = false) (hret : meth.sig.returnType = some .long) {pc : Nat} {Ls : Array Slot} {z : Int64} {rest : List Value} (hd : decode c.code pc = .ok (.lreturn, 1)) (hk : cells ≤ k) (hn : slots ≤ n) (q : Q (some (.long z)) T.heap locs) : own_W p e below s k n Q T (mkF m pc Ls (.long z :: rest)) := by
  obtain ⟨fs, hr, hrun, hended, hW, hsame⟩ := X.leave (v := some (.long z)) (fun h => by rw [hret] at h; cases h) hlk
  exact ⟨_, _, retOut X hx hret rfl (Or.inr (Or.inl ⟨rfl, rfl, z, rfl⟩)) hd hr, hrun, hended, _, _, rfl, q, ⟨_, rfl⟩, hW, hsame.mono hk hn⟩
theorem own_retA {k n : Nat} {Q : Option Value → Heap → List Loc → Prop} (X : Stand p l e R s m args below meth c T locs cells slots) (hx : p.tables.exec = Jvm.exec) (hlk : meth.locks = false) {t : FieldType} (hret : meth.sig.returnType = some t) (ht : t.isReference = true) {pc : Nat} {Ls : Array Slot} {z : Addr} {rest : List Value} (hn' : narrow t (.ref z) = .ref z) (hd : decode c.code pc = .ok (.areturn, 1)) (hk : cells ≤ k) (hn : slots ≤ n) (q : Q (some (.ref z)) T.heap locs) : own_W p e below s k n Q T (mkF m pc Ls (.ref z :: rest)) := by
  obtain ⟨fs, hr, hrun, hended, hW, hsame⟩ := X.leave (v := some (.ref z)) (fun h => by rw [hret] at h; cases h) hlk
  exact ⟨_, _, retOut X hx hret hn' (Or.inr (Or.inr (Or.inr (Or.inr ⟨rfl, ht, rfl⟩)))) hd hr, hrun, hended, _, _, rfl, q, ⟨_, rfl⟩, hW, hsame.mono hk hn⟩
theorem own_retV {k n : Nat} {Q : Option Value → Heap → List Loc → Prop} (X : Stand p l e R s m args below meth c T locs cells slots) (hx : p.tables.exec = Jvm.exec) (hlk : meth.locks = false) (hret : meth.sig.returnType = none) {pc : Nat} {Ls : Array Slot} (hd : decode c.code pc = .ok (.return_, 1)) (hk : cells ≤ k) (hn : slots ≤ n) (q : Q none T.heap locs) : own_W p e below s k n Q T (mkF m pc Ls []) := by
  obtain ⟨fs, hr, hrun, hended, hW, hsame⟩ := X.leave (v := none) (fun _ => rfl) hlk
  exact ⟨_, _, X.returnOut hx hret hd hr, hrun, hended, _, _, rfl, q, ⟨_, rfl⟩, hW, hsame.mono hk hn⟩
end OwnKit
section OwnNums
theorem own_rem {x y : Int32} (hx : 0 ≤ x.toInt) (hy : 0 < y.toInt) : (x - (x / y) * y).toInt = x.toInt % y.toInt := by
  have hd : (x / y).toInt = x.toInt.tdiv y.toInt := Jvm.Kit.i32_div (by omega)
  rw [Int.tdiv_eq_ediv_of_nonneg hx] at hd
  have hxl := Int32.toInt_lt x
  have h1 : y.toInt * (x.toInt / y.toInt) + x.toInt % y.toInt = x.toInt := Int.mul_ediv_add_emod x.toInt y.toInt
  have h2 := Int.emod_nonneg x.toInt (by omega : y.toInt ≠ 0)
  have h3 := Int.emod_lt_of_pos x.toInt hy
  have h4 : (x / y).toInt * y.toInt = x.toInt - x.toInt % y.toInt := by rw [hd, Int.mul_comm]; omega
  have h6 := Int.mul_nonneg (Int.le_of_lt hy) (Int.ediv_nonneg hx (Int.le_of_lt hy))
  have h5 : x.toInt % y.toInt ≤ x.toInt := by omega
  have hm : ((x / y) * y).toInt = x.toInt - x.toInt % y.toInt := by
    rw [Jvm.Kit.i32_mul (by omega) (by omega), h4]
  rw [Jvm.Kit.i32_sub (by omega) (by omega), hm]; omega
theorem own_and31 (x : Int32) : (x &&& (2147483647 : Int32)).toInt = x.toInt % 2147483648 := Jvm.Kit.i32_mask x 2147483647 (k := 31) (by decide) (by decide)
theorem own_i8 (x : Int32) : -128 ≤ (x.toInt8.toInt32).toInt ∧ (x.toInt8.toInt32).toInt < 128 := by
  rw [Int8.toInt_toInt32]
  have h1 := Int8.le_toInt x.toInt8
  have h2 := Int8.toInt_lt x.toInt8
  omega
end OwnNums
theorem d2_0 : decode method_3_code 0 = .ok (.iload_n 0, 1) := by decide +kernel
theorem d2_1 : decode method_3_code 1 = .ok (.iload_n 1, 1) := by decide +kernel
theorem d2_2 : decode method_3_code 2 = .ok (.if_icmp .lt 12, 3) := by decide +kernel
theorem d2_5 : decode method_3_code 5 = .ok (.iload_n 0, 1) := by decide +kernel
theorem d2_6 : decode method_3_code 6 = .ok (.iload_n 2, 1) := by decide +kernel
theorem d2_7 : decode method_3_code 7 = .ok (.if_icmp .gt 7, 3) := by decide +kernel
theorem d2_10 : decode method_3_code 10 = .ok (.iconst 1, 1) := by decide +kernel
theorem d2_11 : decode method_3_code 11 = .ok (.goto 4, 3) := by decide +kernel
theorem d2_14 : decode method_3_code 14 = .ok (.iconst 0, 1) := by decide +kernel
theorem d2_15 : decode method_3_code 15 = .ok (.ireturn, 1) := by decide +kernel
theorem pn_2 : plainFor (⟨"com/example/holyrood/holyrood/XmlCharsIsNameStartCharPinLaw", "in", "(III)Z"⟩ : MethodName) = true := by first | exact plainFor_of_name (by first | (simp [plainName, overriddenIn]; done) | decide +kernel) | decide +kernel
theorem ef_2 (m : MethodId) (x0 : Int32) (x1 : Int32) (x2 : Int32) : entryFrame m #[(.int x0), (.int x1), (.int x2)] 3 = mkF m 0 #[.val (.int x0), .val (.int x1), .val (.int x2)] [] := by first | (simp [entryFrame, mkF, argsToLocals, Value.category, maxLocals]; done) | rfl
def f2 (p0 : Int32) (p1 : Int32) (p2 : Int32) : Int32 := (if p0 < p1 then (0 : Int32) else (if p2 < p0 then (0 : Int32) else (1 : Int32)))
set_option maxRecDepth 65536 in
set_option maxHeartbeats 40000000 in
theorem rm2 (l : Launch) (Z : State) (a0 : Array Value) (hw : ∀ d ∈ tables_1, d.before a0 Z = true) (ws : List Jvm.Cond) (p0 : Int32) (p1 : Int32) (p2 : Int32) (h0 : Heap) (n0 : Nat) :
    MetFree l (⟨"com/example/holyrood/holyrood/XmlCharsIsNameStartCharPinLaw", "in", "(III)Z"⟩ : MethodName) (head1 (Jvm.Cond.code (⟨"com/example/holyrood/holyrood/XmlCharsIsNameStartCharPinLaw", "in", "(III)Z"⟩ : MethodName) method_3_code 3 (some .boolean) :: ws) ({ frames := 0, cells := 0, slots := 0, locals := 0 } : Room)) (fun a U => a = #[(.int p0), (.int p1), (.int p2)] ∧ Z.Warmed39 U.vm ∧ U.heap = h0) (fun _ _ _ _ _ => True) (fun _ U o U' => ∃ v L, o = .returned v ∧ own_GI n0 (fun h => h = h0) (f2 p0 p1 p2) v U'.heap L ∧ FrameEnd U o U' L ({ frames := 0, cells := 0, slots := 0, locals := 0 } : Room).cells ({ frames := 0, cells := 0, slots := 0, locals := 0 } : Room).slots) := by
  refine MetFree.of_bodySF pn_2 hisR ?_
  intro p e s m args below meth c s₁ Bd hml0 hP hK
  obtain ⟨rfl, hZ, hh⟩ := hP
  have hx := Bd.exec
  have hby := Bd.bytes
  have hml : c.maxLocals = 3 := hml0
  have hown : s.vm.findClass "com/example/holyrood/holyrood/XmlCharsIsNameStartCharPinLaw" = some m.cls := findClass_of_methodNamed Bd.named
  have hlk : meth.locks = false := BodyLoose.notSynchronized Bd
  have X0 : Stand p l e ({ frames := 0, cells := 0, slots := 0, locals := 0 } : Room) s m #[(.int p0), (.int p1), (.int p2)] below meth c s₁ [] 0 0 := Stand.of_body Bd
  have e0 : s₁.heap = h0 := by rw [← hh, Bd.state]; rfl
  have N0 := Fr.nil n0
  show own_W p e below s 0 0 (own_GI n0 (fun h => h = h0) (f2 p0 p1 p2)) s₁ (entryFrame m #[(.int p0), (.int p1), (.int p2)] 3)
  refine own_to (ef_2 m p0 p1 p2) ?_
  unfold f2
  refine own_st (T' := s₁) (f' := (mkF m 1 #[.val (.int p0), .val (.int p1), .val (.int p2)] [(.int p0)])) ?_ (fun t q => XS.iloadN X0.here hx rfl (hb hby d2_0) rfl q)
  refine own_st (T' := s₁) (f' := (mkF m 2 #[.val (.int p0), .val (.int p1), .val (.int p2)] [(.int p1), (.int p0)])) ?_ (fun t q => XS.iloadN X0.here hx rfl (hb hby d2_1) rfl q)
  refine own_ite (fun hc2 => ?_) (fun hc2 => ?_)
  · refine own_st (T' := s₁) (f' := (mkF m 14 #[.val (.int p0), .val (.int p1), .val (.int p2)] [])) ?_ (fun t q => XS.icmpYes X0.here hx rfl (pc0 := 2) (pc' := 14) rfl (hb hby d2_2) rfl (tlt hc2).1 (by decide) (by decide) q)
    refine own_st (T' := s₁) (f' := (mkF m 15 #[.val (.int p0), .val (.int p1), .val (.int p2)] [(.int (0 : Int32))])) ?_ (fun t q => XS.iconst X0.here hx rfl (hb hby d2_14) q)
    exact own_retN X0 hx hlk (t := .boolean) Bd.returns (by simp) (hb hby d2_15) (by decide) (by decide) ⟨rfl, N0, e0⟩
  · refine own_st (T' := s₁) (f' := (mkF m 5 #[.val (.int p0), .val (.int p1), .val (.int p2)] [])) ?_ (fun t q => XS.icmpNo X0.here hx rfl (hb hby d2_2) rfl (flt hc2).1 q)
    refine own_st (T' := s₁) (f' := (mkF m 6 #[.val (.int p0), .val (.int p1), .val (.int p2)] [(.int p0)])) ?_ (fun t q => XS.iloadN X0.here hx rfl (hb hby d2_5) rfl q)
    refine own_st (T' := s₁) (f' := (mkF m 7 #[.val (.int p0), .val (.int p1), .val (.int p2)] [(.int p2), (.int p0)])) ?_ (fun t q => XS.iloadN X0.here hx rfl (hb hby d2_6) rfl q)
    refine own_ite (fun hc7 => ?_) (fun hc7 => ?_)
    · refine own_st (T' := s₁) (f' := (mkF m 14 #[.val (.int p0), .val (.int p1), .val (.int p2)] [])) ?_ (fun t q => XS.icmpYes X0.here hx rfl (pc0 := 7) (pc' := 14) rfl (hb hby d2_7) rfl (tlt hc7).2.2.1 (by decide) (by decide) q)
      refine own_st (T' := s₁) (f' := (mkF m 15 #[.val (.int p0), .val (.int p1), .val (.int p2)] [(.int (0 : Int32))])) ?_ (fun t q => XS.iconst X0.here hx rfl (hb hby d2_14) q)
      exact own_retN X0 hx hlk (t := .boolean) Bd.returns (by simp) (hb hby d2_15) (by decide) (by decide) ⟨rfl, N0, e0⟩
    · refine own_st (T' := s₁) (f' := (mkF m 10 #[.val (.int p0), .val (.int p1), .val (.int p2)] [])) ?_ (fun t q => XS.icmpNo X0.here hx rfl (hb hby d2_7) rfl (flt hc7).2.2.1 q)
      refine own_st (T' := s₁) (f' := (mkF m 11 #[.val (.int p0), .val (.int p1), .val (.int p2)] [(.int (1 : Int32))])) ?_ (fun t q => XS.iconst X0.here hx rfl (hb hby d2_10) q)
      refine own_st (T' := s₁) (f' := (mkF m 15 #[.val (.int p0), .val (.int p1), .val (.int p2)] [(.int (1 : Int32))])) ?_ (fun t q => XS.goto X0.here hx rfl (pc0 := 11) (pc' := 15) rfl (hb hby d2_11) (by decide) (by decide) q)
      exact own_retN X0 hx hlk (t := .boolean) Bd.returns (by simp) (hb hby d2_15) (by decide) (by decide) ⟨rfl, N0, e0⟩
theorem pd_0 : parseMethodDescriptor "(III)Z" = some ⟨[.int, .int, .int], some .boolean⟩ := by decide +kernel
theorem d1_0 : decode method_4_code 0 = .ok (.iload_n 0, 1) := by decide +kernel
theorem d1_1 : decode method_4_code 1 = .ok (.bipush 58, 2) := by decide +kernel
theorem d1_3 : decode method_4_code 3 = .ok (.if_icmp .eq 9, 3) := by decide +kernel
theorem d1_6 : decode method_4_code 6 = .ok (.iload_n 0, 1) := by decide +kernel
theorem d1_7 : decode method_4_code 7 = .ok (.bipush 95, 2) := by decide +kernel
theorem d1_9 : decode method_4_code 9 = .ok (.if_icmp .ne 5, 3) := by decide +kernel
theorem d1_12 : decode method_4_code 12 = .ok (.iconst 1, 1) := by decide +kernel
theorem d1_13 : decode method_4_code 13 = .ok (.ireturn, 1) := by decide +kernel
theorem d1_14 : decode method_4_code 14 = .ok (.iload_n 0, 1) := by decide +kernel
theorem d1_15 : decode method_4_code 15 = .ok (.bipush 65, 2) := by decide +kernel
theorem d1_17 : decode method_4_code 17 = .ok (.bipush 90, 2) := by decide +kernel
theorem d1_19 : decode method_4_code 19 = .ok (.invokestatic 18, 3) := by decide +kernel
theorem d1_22 : decode method_4_code 22 = .ok (.ifCond .ne 14, 3) := by decide +kernel
theorem d1_25 : decode method_4_code 25 = .ok (.iload_n 0, 1) := by decide +kernel
theorem d1_26 : decode method_4_code 26 = .ok (.bipush 97, 2) := by decide +kernel
theorem d1_28 : decode method_4_code 28 = .ok (.bipush 122, 2) := by decide +kernel
theorem d1_30 : decode method_4_code 30 = .ok (.invokestatic 18, 3) := by decide +kernel
theorem d1_33 : decode method_4_code 33 = .ok (.ifCond .eq 5, 3) := by decide +kernel
theorem d1_36 : decode method_4_code 36 = .ok (.iconst 1, 1) := by decide +kernel
theorem d1_37 : decode method_4_code 37 = .ok (.ireturn, 1) := by decide +kernel
theorem d1_38 : decode method_4_code 38 = .ok (.iload_n 0, 1) := by decide +kernel
theorem d1_39 : decode method_4_code 39 = .ok (.sipush 192, 3) := by decide +kernel
theorem d1_42 : decode method_4_code 42 = .ok (.ldc 22, 2) := by decide +kernel
theorem d1_44 : decode method_4_code 44 = .ok (.invokestatic 18, 3) := by decide +kernel
theorem d1_47 : decode method_4_code 47 = .ok (.ifCond .ne 5, 3) := by decide +kernel
theorem d1_50 : decode method_4_code 50 = .ok (.iconst 0, 1) := by decide +kernel
theorem d1_51 : decode method_4_code 51 = .ok (.ireturn, 1) := by decide +kernel
theorem d1_52 : decode method_4_code 52 = .ok (.iload_n 0, 1) := by decide +kernel
theorem d1_53 : decode method_4_code 53 = .ok (.sipush 215, 3) := by decide +kernel
theorem d1_56 : decode method_4_code 56 = .ok (.if_icmp .eq 115, 3) := by decide +kernel
theorem d1_59 : decode method_4_code 59 = .ok (.iload_n 0, 1) := by decide +kernel
theorem d1_60 : decode method_4_code 60 = .ok (.sipush 247, 3) := by decide +kernel
theorem d1_63 : decode method_4_code 63 = .ok (.if_icmp .eq 108, 3) := by decide +kernel
theorem d1_66 : decode method_4_code 66 = .ok (.iload_n 0, 1) := by decide +kernel
theorem d1_67 : decode method_4_code 67 = .ok (.sipush 768, 3) := by decide +kernel
theorem d1_70 : decode method_4_code 70 = .ok (.sipush 879, 3) := by decide +kernel
theorem d1_73 : decode method_4_code 73 = .ok (.invokestatic 18, 3) := by decide +kernel
theorem d1_76 : decode method_4_code 76 = .ok (.ifCond .ne 95, 3) := by decide +kernel
theorem d1_79 : decode method_4_code 79 = .ok (.iload_n 0, 1) := by decide +kernel
theorem d1_80 : decode method_4_code 80 = .ok (.sipush 894, 3) := by decide +kernel
theorem d1_83 : decode method_4_code 83 = .ok (.if_icmp .eq 88, 3) := by decide +kernel
theorem d1_86 : decode method_4_code 86 = .ok (.iload_n 0, 1) := by decide +kernel
theorem d1_87 : decode method_4_code 87 = .ok (.sipush 8192, 3) := by decide +kernel
theorem d1_90 : decode method_4_code 90 = .ok (.sipush 8203, 3) := by decide +kernel
theorem d1_93 : decode method_4_code 93 = .ok (.invokestatic 18, 3) := by decide +kernel
theorem d1_96 : decode method_4_code 96 = .ok (.ifCond .ne 75, 3) := by decide +kernel
theorem d1_99 : decode method_4_code 99 = .ok (.iload_n 0, 1) := by decide +kernel
theorem d1_100 : decode method_4_code 100 = .ok (.sipush 8206, 3) := by decide +kernel
theorem d1_103 : decode method_4_code 103 = .ok (.sipush 8303, 3) := by decide +kernel
theorem d1_106 : decode method_4_code 106 = .ok (.invokestatic 18, 3) := by decide +kernel
theorem d1_109 : decode method_4_code 109 = .ok (.ifCond .ne 62, 3) := by decide +kernel
theorem d1_112 : decode method_4_code 112 = .ok (.iload_n 0, 1) := by decide +kernel
theorem d1_113 : decode method_4_code 113 = .ok (.sipush 8592, 3) := by decide +kernel
theorem d1_116 : decode method_4_code 116 = .ok (.sipush 11263, 3) := by decide +kernel
theorem d1_119 : decode method_4_code 119 = .ok (.invokestatic 18, 3) := by decide +kernel
theorem d1_122 : decode method_4_code 122 = .ok (.ifCond .ne 49, 3) := by decide +kernel
theorem d1_125 : decode method_4_code 125 = .ok (.iload_n 0, 1) := by decide +kernel
theorem d1_126 : decode method_4_code 126 = .ok (.sipush 12272, 3) := by decide +kernel
theorem d1_129 : decode method_4_code 129 = .ok (.sipush 12288, 3) := by decide +kernel
theorem d1_132 : decode method_4_code 132 = .ok (.invokestatic 18, 3) := by decide +kernel
theorem d1_135 : decode method_4_code 135 = .ok (.ifCond .ne 36, 3) := by decide +kernel
theorem d1_138 : decode method_4_code 138 = .ok (.iload_n 0, 1) := by decide +kernel
theorem d1_139 : decode method_4_code 139 = .ok (.ldc 23, 2) := by decide +kernel
theorem d1_141 : decode method_4_code 141 = .ok (.ldc 24, 2) := by decide +kernel
theorem d1_143 : decode method_4_code 143 = .ok (.invokestatic 18, 3) := by decide +kernel
theorem d1_146 : decode method_4_code 146 = .ok (.ifCond .ne 25, 3) := by decide +kernel
theorem d1_149 : decode method_4_code 149 = .ok (.iload_n 0, 1) := by decide +kernel
theorem d1_150 : decode method_4_code 150 = .ok (.ldc 25, 2) := by decide +kernel
theorem d1_152 : decode method_4_code 152 = .ok (.ldc 26, 2) := by decide +kernel
theorem d1_154 : decode method_4_code 154 = .ok (.invokestatic 18, 3) := by decide +kernel
theorem d1_157 : decode method_4_code 157 = .ok (.ifCond .ne 14, 3) := by decide +kernel
theorem d1_160 : decode method_4_code 160 = .ok (.iload_n 0, 1) := by decide +kernel
theorem d1_161 : decode method_4_code 161 = .ok (.ldc 27, 2) := by decide +kernel
theorem d1_163 : decode method_4_code 163 = .ok (.ldc 28, 2) := by decide +kernel
theorem d1_165 : decode method_4_code 165 = .ok (.invokestatic 18, 3) := by decide +kernel
theorem d1_168 : decode method_4_code 168 = .ok (.ifCond .eq 7, 3) := by decide +kernel
theorem d1_171 : decode method_4_code 171 = .ok (.iconst 1, 1) := by decide +kernel
theorem d1_172 : decode method_4_code 172 = .ok (.goto 4, 3) := by decide +kernel
theorem d1_175 : decode method_4_code 175 = .ok (.iconst 0, 1) := by decide +kernel
theorem d1_176 : decode method_4_code 176 = .ok (.istore_n 1, 1) := by decide +kernel
theorem d1_177 : decode method_4_code 177 = .ok (.iload_n 1, 1) := by decide +kernel
theorem d1_178 : decode method_4_code 178 = .ok (.ifCond .ne 7, 3) := by decide +kernel
theorem d1_181 : decode method_4_code 181 = .ok (.iconst 1, 1) := by decide +kernel
theorem d1_182 : decode method_4_code 182 = .ok (.goto 4, 3) := by decide +kernel
theorem d1_185 : decode method_4_code 185 = .ok (.iconst 0, 1) := by decide +kernel
theorem d1_186 : decode method_4_code 186 = .ok (.ireturn, 1) := by decide +kernel
theorem pn_1 : plainFor (⟨"com/example/holyrood/holyrood/XmlCharsIsNameStartCharPinLaw", "reference", "(I)Z"⟩ : MethodName) = true := by first | exact plainFor_of_name (by first | (simp [plainName, overriddenIn]; done) | decide +kernel) | decide +kernel
theorem ef_1 (m : MethodId) (x0 : Int32) : entryFrame m #[(.int x0)] 2 = mkF m 0 #[.val (.int x0), .unset] [] := by first | (simp [entryFrame, mkF, argsToLocals, Value.category, maxLocals]; done) | rfl
def f1_176 (p0 : Int32) (g100_176 : Int32) : Int32 := (if g100_176 = (0 : Int32) then (1 : Int32) else (0 : Int32))
def f1_171 (p0 : Int32) : Int32 := (f1_176 p0 (1 : Int32))
def f1 (p0 : Int32) : Int32 := (if p0 = (58 : Int32) then (1 : Int32) else (if p0 = (95 : Int32) then (1 : Int32) else (if (f2 p0 (65 : Int32) (90 : Int32)) = (0 : Int32) then (if (f2 p0 (97 : Int32) (122 : Int32)) = (0 : Int32) then (if (f2 p0 (192 : Int32) (983039 : Int32)) = (0 : Int32) then (0 : Int32) else (if p0 = (215 : Int32) then (f1_171 p0) else (if p0 = (247 : Int32) then (f1_171 p0) else (if (f2 p0 (768 : Int32) (879 : Int32)) = (0 : Int32) then (if p0 = (894 : Int32) then (f1_171 p0) else (if (f2 p0 (8192 : Int32) (8203 : Int32)) = (0 : Int32) then (if (f2 p0 (8206 : Int32) (8303 : Int32)) = (0 : Int32) then (if (f2 p0 (8592 : Int32) (11263 : Int32)) = (0 : Int32) then (if (f2 p0 (12272 : Int32) (12288 : Int32)) = (0 : Int32) then (if (f2 p0 (55296 : Int32) (63743 : Int32)) = (0 : Int32) then (if (f2 p0 (64976 : Int32) (65007 : Int32)) = (0 : Int32) then (if (f2 p0 (65534 : Int32) (65535 : Int32)) = (0 : Int32) then (f1_176 p0 (0 : Int32)) else (f1_171 p0)) else (f1_171 p0)) else (f1_171 p0)) else (f1_171 p0)) else (f1_171 p0)) else (f1_171 p0)) else (f1_171 p0))) else (f1_171 p0))))) else (1 : Int32)) else (1 : Int32))))
set_option maxRecDepth 65536 in
set_option maxHeartbeats 40000000 in
theorem rm1 (l : Launch) (Z : State) (a0 : Array Value) (hw : ∀ d ∈ tables_1, d.before a0 Z = true) (ws : List Jvm.Cond) (p0 : Int32) (h0 : Heap) (n0 : Nat) :
    MetFree l (⟨"com/example/holyrood/holyrood/XmlCharsIsNameStartCharPinLaw", "reference", "(I)Z"⟩ : MethodName) (head1 (Jvm.Cond.code (⟨"com/example/holyrood/holyrood/XmlCharsIsNameStartCharPinLaw", "reference", "(I)Z"⟩ : MethodName) method_4_code 2 (some .boolean) :: ws) ({ frames := 1, cells := 0, slots := 0, locals := 18 } : Room)) (fun a U => a = #[(.int p0)] ∧ Z.Warmed39 U.vm ∧ U.heap = h0) (fun _ _ _ _ _ => True) (fun _ U o U' => ∃ v L, o = .returned v ∧ own_GI n0 (fun h => h = h0) (f1 p0) v U'.heap L ∧ FrameEnd U o U' L ({ frames := 1, cells := 0, slots := 0, locals := 18 } : Room).cells ({ frames := 1, cells := 0, slots := 0, locals := 18 } : Room).slots) := by
  refine MetFree.of_bodySF pn_1 hisR ?_
  intro p e s m args below meth c s₁ Bd hml0 hP hK
  obtain ⟨rfl, hZ, hh⟩ := hP
  have hx := Bd.exec
  have hby := Bd.bytes
  have hml : c.maxLocals = 2 := hml0
  have hown : s.vm.findClass "com/example/holyrood/holyrood/XmlCharsIsNameStartCharPinLaw" = some m.cls := findClass_of_methodNamed Bd.named
  have hlk : meth.locks = false := BodyLoose.notSynchronized Bd
  have X0 : Stand p l e ({ frames := 1, cells := 0, slots := 0, locals := 18 } : Room) s m #[(.int p0)] below meth c s₁ [] 0 0 := Stand.of_body Bd
  have e0 : s₁.heap = h0 := by rw [← hh, Bd.state]; rfl
  have N0 := Fr.nil n0
  have B176 : ∀ (T : State) (locs : List Loc) (g100_176 : Int32) (X : Stand p l e ({ frames := 1, cells := 0, slots := 0, locals := 18 } : Room) s m #[(.int p0)] below meth c T locs 0 0) (N : Fr n0 locs) (eh : T.heap = h0), own_W p e below s 0 0 (own_GI n0 (fun h => h = h0) (f1_176 p0 g100_176)) T (mkF m 176 #[.val (.int p0), .unset] [(.int g100_176)]) := by
    intro T locs g100_176 X N eh
    unfold f1_176
    refine own_st (T' := T) (f' := (mkF m 177 #[.val (.int p0), .val (.int g100_176)] [])) ?_ (fun t q => XS.istoreN X.here hx rfl (hb hby d1_176) rfl (l' := #[.val (.int p0), .val (.int g100_176)]) rfl q)
    refine own_st (T' := T) (f' := (mkF m 178 #[.val (.int p0), .val (.int g100_176)] [(.int g100_176)])) ?_ (fun t q => XS.iloadN X.here hx rfl (hb hby d1_177) rfl q)
    refine own_ite (fun hc178 => ?_) (fun hc178 => ?_)
    · refine own_st (T' := T) (f' := (mkF m 181 #[.val (.int p0), .val (.int g100_176)] [])) ?_ (fun t q => XS.ifNo X.here hx rfl (hb hby d1_178) rfl ((if0 _ _).trans (teq hc178).2) q)
      refine own_st (T' := T) (f' := (mkF m 182 #[.val (.int p0), .val (.int g100_176)] [(.int (1 : Int32))])) ?_ (fun t q => XS.iconst X.here hx rfl (hb hby d1_181) q)
      refine own_st (T' := T) (f' := (mkF m 186 #[.val (.int p0), .val (.int g100_176)] [(.int (1 : Int32))])) ?_ (fun t q => XS.goto X.here hx rfl (pc0 := 182) (pc' := 186) rfl (hb hby d1_182) (by decide) (by decide) q)
      exact own_retN X hx hlk (t := .boolean) Bd.returns (by simp) (hb hby d1_186) (by decide) (by decide) ⟨rfl, N, eh⟩
    · refine own_st (T' := T) (f' := (mkF m 185 #[.val (.int p0), .val (.int g100_176)] [])) ?_ (fun t q => XS.ifYes X.here hx rfl (pc0 := 178) (pc' := 185) rfl (hb hby d1_178) rfl ((if0 _ _).trans (feq hc178).2) (by decide) (by decide) q)
      refine own_st (T' := T) (f' := (mkF m 186 #[.val (.int p0), .val (.int g100_176)] [(.int (0 : Int32))])) ?_ (fun t q => XS.iconst X.here hx rfl (hb hby d1_185) q)
      exact own_retN X hx hlk (t := .boolean) Bd.returns (by simp) (hb hby d1_186) (by decide) (by decide) ⟨rfl, N, eh⟩
  have B171 : ∀ (T : State) (locs : List Loc) (X : Stand p l e ({ frames := 1, cells := 0, slots := 0, locals := 18 } : Room) s m #[(.int p0)] below meth c T locs 0 0) (N : Fr n0 locs) (eh : T.heap = h0), own_W p e below s 0 0 (own_GI n0 (fun h => h = h0) (f1_171 p0)) T (mkF m 171 #[.val (.int p0), .unset] []) := by
    intro T locs X N eh
    unfold f1_171
    refine own_st (T' := T) (f' := (mkF m 172 #[.val (.int p0), .unset] [(.int (1 : Int32))])) ?_ (fun t q => XS.iconst X.here hx rfl (hb hby d1_171) q)
    refine own_st (T' := T) (f' := (mkF m 176 #[.val (.int p0), .unset] [(.int (1 : Int32))])) ?_ (fun t q => XS.goto X.here hx rfl (pc0 := 172) (pc' := 176) rfl (hb hby d1_172) (by decide) (by decide) q)
    exact B176 T _ (1 : Int32) X N eh
  show own_W p e below s 0 0 (own_GI n0 (fun h => h = h0) (f1 p0)) s₁ (entryFrame m #[(.int p0)] 2)
  refine own_to (ef_1 m p0) ?_
  unfold f1
  refine own_st (T' := s₁) (f' := (mkF m 1 #[.val (.int p0), .unset] [(.int p0)])) ?_ (fun t q => XS.iloadN X0.here hx rfl (hb hby d1_0) rfl q)
  refine own_st (T' := s₁) (f' := (mkF m 3 #[.val (.int p0), .unset] [(.int (58 : Int32)), (.int p0)])) ?_ (fun t q => XS.bipush X0.here hx rfl (hb hby d1_1) q)
  refine own_ite (fun hc3 => ?_) (fun hc3 => ?_)
  · refine own_st (T' := s₁) (f' := (mkF m 12 #[.val (.int p0), .unset] [])) ?_ (fun t q => XS.icmpYes X0.here hx rfl (pc0 := 3) (pc' := 12) rfl (hb hby d1_3) rfl (teq hc3).1 (by decide) (by decide) q)
    refine own_st (T' := s₁) (f' := (mkF m 13 #[.val (.int p0), .unset] [(.int (1 : Int32))])) ?_ (fun t q => XS.iconst X0.here hx rfl (hb hby d1_12) q)
    exact own_retN X0 hx hlk (t := .boolean) Bd.returns (by simp) (hb hby d1_13) (by decide) (by decide) ⟨rfl, N0, e0⟩
  · refine own_st (T' := s₁) (f' := (mkF m 6 #[.val (.int p0), .unset] [])) ?_ (fun t q => XS.icmpNo X0.here hx rfl (hb hby d1_3) rfl (feq hc3).1 q)
    refine own_st (T' := s₁) (f' := (mkF m 7 #[.val (.int p0), .unset] [(.int p0)])) ?_ (fun t q => XS.iloadN X0.here hx rfl (hb hby d1_6) rfl q)
    refine own_st (T' := s₁) (f' := (mkF m 9 #[.val (.int p0), .unset] [(.int (95 : Int32)), (.int p0)])) ?_ (fun t q => XS.bipush X0.here hx rfl (hb hby d1_7) q)
    refine own_ite (fun hc9 => ?_) (fun hc9 => ?_)
    · refine own_st (T' := s₁) (f' := (mkF m 12 #[.val (.int p0), .unset] [])) ?_ (fun t q => XS.icmpNo X0.here hx rfl (hb hby d1_9) rfl (teq hc9).2 q)
      refine own_st (T' := s₁) (f' := (mkF m 13 #[.val (.int p0), .unset] [(.int (1 : Int32))])) ?_ (fun t q => XS.iconst X0.here hx rfl (hb hby d1_12) q)
      exact own_retN X0 hx hlk (t := .boolean) Bd.returns (by simp) (hb hby d1_13) (by decide) (by decide) ⟨rfl, N0, e0⟩
    · refine own_st (T' := s₁) (f' := (mkF m 14 #[.val (.int p0), .unset] [])) ?_ (fun t q => XS.icmpYes X0.here hx rfl (pc0 := 9) (pc' := 14) rfl (hb hby d1_9) rfl (feq hc9).2 (by decide) (by decide) q)
      refine own_st (T' := s₁) (f' := (mkF m 15 #[.val (.int p0), .unset] [(.int p0)])) ?_ (fun t q => XS.iloadN X0.here hx rfl (hb hby d1_14) rfl q)
      refine own_st (T' := s₁) (f' := (mkF m 17 #[.val (.int p0), .unset] [(.int (65 : Int32)), (.int p0)])) ?_ (fun t q => XS.bipush X0.here hx rfl (hb hby d1_15) q)
      refine own_st (T' := s₁) (f' := (mkF m 19 #[.val (.int p0), .unset] [(.int (90 : Int32)), (.int (65 : Int32)), (.int p0)])) ?_ (fun t q => XS.bipush X0.here hx rfl (hb hby d1_17) q)
      obtain ⟨_, _, ⟨T1, L1, k1, n1⟩, -, X1, ⟨Lc1, hQ1, l1, y1, z1⟩, st1⟩ := Jvm.LawKit.callS X0 hx (y := (⟨"com/example/holyrood/holyrood/XmlCharsIsNameStartCharPinLaw", "in", "(III)Z"⟩ : MethodName)) hown (mvT hZ (hw _ (List.mem_of_getElem? (i := 4) rfl))) (mvT hZ (hw _ (List.mem_of_getElem? (i := 5) rfl))) (mvT hZ (hw _ (List.mem_of_getElem? (i := 2) rfl))) (mvT hZ (hw _ (List.mem_of_getElem? (i := 6) rfl))) (by decide) (backOf (W := 0) (rm2 l Z a0 hw [] p0 (65 : Int32) (90 : Int32) h0 n0) hZ (hw _ (List.mem_of_getElem? (i := 6) rfl)) (hw _ (List.mem_of_getElem? (i := 2) rfl)) (by decide) (by decide)) (g := (mkF m 19 #[.val (.int p0), .unset] [(.int (90 : Int32)), (.int (65 : Int32)), (.int p0)])) rfl (by rw [hml]; rfl) (argsL := [(.int p0), (.int (65 : Int32)), (.int (90 : Int32))]) (rest := []) (lenOf pd_0 rfl) rfl (by show 2 * 0 + _ ≤ _; exact Nat.le_of_eq rfl) (hb hby d1_19) (fun _ _ => ⟨rfl, e0, (Nat.le_of_ble_eq_true rfl), (Nat.le_of_ble_eq_true rfl)⟩)
      dsimp only [Pt.U, Pt.locs, Pt.cells, Pt.slots] at X1 l1 y1 z1 st1 hQ1
      subst l1 y1 z1
      obtain ⟨rfl, N1q, e1⟩ := hQ1
      have N1 := Fr.app N0 N1q
      refine own_st (T' := T1) (f' := (mkF m 22 #[.val (.int p0), .unset] [(.int (f2 p0 (65 : Int32) (90 : Int32)))])) ?_ (fun t q => st1 _ q)
      refine own_ite (fun hc22 => ?_) (fun hc22 => ?_)
      · refine own_st (T' := T1) (f' := (mkF m 25 #[.val (.int p0), .unset] [])) ?_ (fun t q => XS.ifNo X1.here hx rfl (hb hby d1_22) rfl ((if0 _ _).trans (teq hc22).2) q)
        refine own_st (T' := T1) (f' := (mkF m 26 #[.val (.int p0), .unset] [(.int p0)])) ?_ (fun t q => XS.iloadN X1.here hx rfl (hb hby d1_25) rfl q)
        refine own_st (T' := T1) (f' := (mkF m 28 #[.val (.int p0), .unset] [(.int (97 : Int32)), (.int p0)])) ?_ (fun t q => XS.bipush X1.here hx rfl (hb hby d1_26) q)
        refine own_st (T' := T1) (f' := (mkF m 30 #[.val (.int p0), .unset] [(.int (122 : Int32)), (.int (97 : Int32)), (.int p0)])) ?_ (fun t q => XS.bipush X1.here hx rfl (hb hby d1_28) q)
        obtain ⟨_, _, ⟨T2, L2, k2, n2⟩, -, X2, ⟨Lc2, hQ2, l2, y2, z2⟩, st2⟩ := Jvm.LawKit.callS X1 hx (y := (⟨"com/example/holyrood/holyrood/XmlCharsIsNameStartCharPinLaw", "in", "(III)Z"⟩ : MethodName)) hown (mvT hZ (hw _ (List.mem_of_getElem? (i := 4) rfl))) (mvT hZ (hw _ (List.mem_of_getElem? (i := 5) rfl))) (mvT hZ (hw _ (List.mem_of_getElem? (i := 2) rfl))) (mvT hZ (hw _ (List.mem_of_getElem? (i := 6) rfl))) (by decide) (backOf (W := 0) (rm2 l Z a0 hw [] p0 (97 : Int32) (122 : Int32) h0 n0) hZ (hw _ (List.mem_of_getElem? (i := 6) rfl)) (hw _ (List.mem_of_getElem? (i := 2) rfl)) (by decide) (by decide)) (g := (mkF m 30 #[.val (.int p0), .unset] [(.int (122 : Int32)), (.int (97 : Int32)), (.int p0)])) rfl (by rw [hml]; rfl) (argsL := [(.int p0), (.int (97 : Int32)), (.int (122 : Int32))]) (rest := []) (lenOf pd_0 rfl) rfl (by show 2 * 0 + _ ≤ _; exact Nat.le_of_eq rfl) (hb hby d1_30) (fun _ _ => ⟨rfl, e1, (Nat.le_of_ble_eq_true rfl), (Nat.le_of_ble_eq_true rfl)⟩)
        dsimp only [Pt.U, Pt.locs, Pt.cells, Pt.slots] at X2 l2 y2 z2 st2 hQ2
        subst l2 y2 z2
        obtain ⟨rfl, N2q, e2⟩ := hQ2
        have N2 := Fr.app N1 N2q
        refine own_st (T' := T2) (f' := (mkF m 33 #[.val (.int p0), .unset] [(.int (f2 p0 (97 : Int32) (122 : Int32)))])) ?_ (fun t q => st2 _ q)
        refine own_ite (fun hc33 => ?_) (fun hc33 => ?_)
        · refine own_st (T' := T2) (f' := (mkF m 38 #[.val (.int p0), .unset] [])) ?_ (fun t q => XS.ifYes X2.here hx rfl (pc0 := 33) (pc' := 38) rfl (hb hby d1_33) rfl ((if0 _ _).trans (teq hc33).1) (by decide) (by decide) q)
          refine own_st (T' := T2) (f' := (mkF m 39 #[.val (.int p0), .unset] [(.int p0)])) ?_ (fun t q => XS.iloadN X2.here hx rfl (hb hby d1_38) rfl q)
          refine own_st (T' := T2) (f' := (mkF m 42 #[.val (.int p0), .unset] [(.int (192 : Int32)), (.int p0)])) ?_ (fun t q => XS.sipush X2.here hx rfl (hb hby d1_39) q)
          refine own_st (T' := T2) (f' := (mkF m 44 #[.val (.int p0), .unset] [(.int (983039 : Int32)), (.int (192 : Int32)), (.int p0)])) ?_ (fun t q => X2.ldcInt hx hown (mvT hZ (hw _ (List.mem_of_getElem? (i := 7) rfl))) (g := (mkF m 42 #[.val (.int p0), .unset] [(.int (192 : Int32)), (.int p0)])) rfl (hb hby d1_42) _ q)
          obtain ⟨_, _, ⟨T3, L3, k3, n3⟩, -, X3, ⟨Lc3, hQ3, l3, y3, z3⟩, st3⟩ := Jvm.LawKit.callS X2 hx (y := (⟨"com/example/holyrood/holyrood/XmlCharsIsNameStartCharPinLaw", "in", "(III)Z"⟩ : MethodName)) hown (mvT hZ (hw _ (List.mem_of_getElem? (i := 4) rfl))) (mvT hZ (hw _ (List.mem_of_getElem? (i := 5) rfl))) (mvT hZ (hw _ (List.mem_of_getElem? (i := 2) rfl))) (mvT hZ (hw _ (List.mem_of_getElem? (i := 6) rfl))) (by decide) (backOf (W := 0) (rm2 l Z a0 hw [] p0 (192 : Int32) (983039 : Int32) h0 n0) hZ (hw _ (List.mem_of_getElem? (i := 6) rfl)) (hw _ (List.mem_of_getElem? (i := 2) rfl)) (by decide) (by decide)) (g := (mkF m 44 #[.val (.int p0), .unset] [(.int (983039 : Int32)), (.int (192 : Int32)), (.int p0)])) rfl (by rw [hml]; rfl) (argsL := [(.int p0), (.int (192 : Int32)), (.int (983039 : Int32))]) (rest := []) (lenOf pd_0 rfl) rfl (by show 2 * 0 + _ ≤ _; exact Nat.le_of_eq rfl) (hb hby d1_44) (fun _ _ => ⟨rfl, e2, (Nat.le_of_ble_eq_true rfl), (Nat.le_of_ble_eq_true rfl)⟩)
          dsimp only [Pt.U, Pt.locs, Pt.cells, Pt.slots] at X3 l3 y3 z3 st3 hQ3
          subst l3 y3 z3
          obtain ⟨rfl, N3q, e3⟩ := hQ3
          have N3 := Fr.app N2 N3q
          refine own_st (T' := T3) (f' := (mkF m 47 #[.val (.int p0), .unset] [(.int (f2 p0 (192 : Int32) (983039 : Int32)))])) ?_ (fun t q => st3 _ q)
          refine own_ite (fun hc47 => ?_) (fun hc47 => ?_)
          · refine own_st (T' := T3) (f' := (mkF m 50 #[.val (.int p0), .unset] [])) ?_ (fun t q => XS.ifNo X3.here hx rfl (hb hby d1_47) rfl ((if0 _ _).trans (teq hc47).2) q)
            refine own_st (T' := T3) (f' := (mkF m 51 #[.val (.int p0), .unset] [(.int (0 : Int32))])) ?_ (fun t q => XS.iconst X3.here hx rfl (hb hby d1_50) q)
            exact own_retN X3 hx hlk (t := .boolean) Bd.returns (by simp) (hb hby d1_51) (by decide) (by decide) ⟨rfl, N3, e3⟩
          · refine own_st (T' := T3) (f' := (mkF m 52 #[.val (.int p0), .unset] [])) ?_ (fun t q => XS.ifYes X3.here hx rfl (pc0 := 47) (pc' := 52) rfl (hb hby d1_47) rfl ((if0 _ _).trans (feq hc47).2) (by decide) (by decide) q)
            refine own_st (T' := T3) (f' := (mkF m 53 #[.val (.int p0), .unset] [(.int p0)])) ?_ (fun t q => XS.iloadN X3.here hx rfl (hb hby d1_52) rfl q)
            refine own_st (T' := T3) (f' := (mkF m 56 #[.val (.int p0), .unset] [(.int (215 : Int32)), (.int p0)])) ?_ (fun t q => XS.sipush X3.here hx rfl (hb hby d1_53) q)
            refine own_ite (fun hc56 => ?_) (fun hc56 => ?_)
            · refine own_st (T' := T3) (f' := (mkF m 171 #[.val (.int p0), .unset] [])) ?_ (fun t q => XS.icmpYes X3.here hx rfl (pc0 := 56) (pc' := 171) rfl (hb hby d1_56) rfl (teq hc56).1 (by decide) (by decide) q)
              exact B171 T3 _ X3 N3 e3
            · refine own_st (T' := T3) (f' := (mkF m 59 #[.val (.int p0), .unset] [])) ?_ (fun t q => XS.icmpNo X3.here hx rfl (hb hby d1_56) rfl (feq hc56).1 q)
              refine own_st (T' := T3) (f' := (mkF m 60 #[.val (.int p0), .unset] [(.int p0)])) ?_ (fun t q => XS.iloadN X3.here hx rfl (hb hby d1_59) rfl q)
              refine own_st (T' := T3) (f' := (mkF m 63 #[.val (.int p0), .unset] [(.int (247 : Int32)), (.int p0)])) ?_ (fun t q => XS.sipush X3.here hx rfl (hb hby d1_60) q)
              refine own_ite (fun hc63 => ?_) (fun hc63 => ?_)
              · refine own_st (T' := T3) (f' := (mkF m 171 #[.val (.int p0), .unset] [])) ?_ (fun t q => XS.icmpYes X3.here hx rfl (pc0 := 63) (pc' := 171) rfl (hb hby d1_63) rfl (teq hc63).1 (by decide) (by decide) q)
                exact B171 T3 _ X3 N3 e3
              · refine own_st (T' := T3) (f' := (mkF m 66 #[.val (.int p0), .unset] [])) ?_ (fun t q => XS.icmpNo X3.here hx rfl (hb hby d1_63) rfl (feq hc63).1 q)
                refine own_st (T' := T3) (f' := (mkF m 67 #[.val (.int p0), .unset] [(.int p0)])) ?_ (fun t q => XS.iloadN X3.here hx rfl (hb hby d1_66) rfl q)
                refine own_st (T' := T3) (f' := (mkF m 70 #[.val (.int p0), .unset] [(.int (768 : Int32)), (.int p0)])) ?_ (fun t q => XS.sipush X3.here hx rfl (hb hby d1_67) q)
                refine own_st (T' := T3) (f' := (mkF m 73 #[.val (.int p0), .unset] [(.int (879 : Int32)), (.int (768 : Int32)), (.int p0)])) ?_ (fun t q => XS.sipush X3.here hx rfl (hb hby d1_70) q)
                obtain ⟨_, _, ⟨T4, L4, k4, n4⟩, -, X4, ⟨Lc4, hQ4, l4, y4, z4⟩, st4⟩ := Jvm.LawKit.callS X3 hx (y := (⟨"com/example/holyrood/holyrood/XmlCharsIsNameStartCharPinLaw", "in", "(III)Z"⟩ : MethodName)) hown (mvT hZ (hw _ (List.mem_of_getElem? (i := 4) rfl))) (mvT hZ (hw _ (List.mem_of_getElem? (i := 5) rfl))) (mvT hZ (hw _ (List.mem_of_getElem? (i := 2) rfl))) (mvT hZ (hw _ (List.mem_of_getElem? (i := 6) rfl))) (by decide) (backOf (W := 0) (rm2 l Z a0 hw [] p0 (768 : Int32) (879 : Int32) h0 n0) hZ (hw _ (List.mem_of_getElem? (i := 6) rfl)) (hw _ (List.mem_of_getElem? (i := 2) rfl)) (by decide) (by decide)) (g := (mkF m 73 #[.val (.int p0), .unset] [(.int (879 : Int32)), (.int (768 : Int32)), (.int p0)])) rfl (by rw [hml]; rfl) (argsL := [(.int p0), (.int (768 : Int32)), (.int (879 : Int32))]) (rest := []) (lenOf pd_0 rfl) rfl (by show 2 * 0 + _ ≤ _; exact Nat.le_of_eq rfl) (hb hby d1_73) (fun _ _ => ⟨rfl, e3, (Nat.le_of_ble_eq_true rfl), (Nat.le_of_ble_eq_true rfl)⟩)
                dsimp only [Pt.U, Pt.locs, Pt.cells, Pt.slots] at X4 l4 y4 z4 st4 hQ4
                subst l4 y4 z4
                obtain ⟨rfl, N4q, e4⟩ := hQ4
                have N4 := Fr.app N3 N4q
                refine own_st (T' := T4) (f' := (mkF m 76 #[.val (.int p0), .unset] [(.int (f2 p0 (768 : Int32) (879 : Int32)))])) ?_ (fun t q => st4 _ q)
                refine own_ite (fun hc76 => ?_) (fun hc76 => ?_)
                · refine own_st (T' := T4) (f' := (mkF m 79 #[.val (.int p0), .unset] [])) ?_ (fun t q => XS.ifNo X4.here hx rfl (hb hby d1_76) rfl ((if0 _ _).trans (teq hc76).2) q)
                  refine own_st (T' := T4) (f' := (mkF m 80 #[.val (.int p0), .unset] [(.int p0)])) ?_ (fun t q => XS.iloadN X4.here hx rfl (hb hby d1_79) rfl q)
                  refine own_st (T' := T4) (f' := (mkF m 83 #[.val (.int p0), .unset] [(.int (894 : Int32)), (.int p0)])) ?_ (fun t q => XS.sipush X4.here hx rfl (hb hby d1_80) q)
                  refine own_ite (fun hc83 => ?_) (fun hc83 => ?_)
                  · refine own_st (T' := T4) (f' := (mkF m 171 #[.val (.int p0), .unset] [])) ?_ (fun t q => XS.icmpYes X4.here hx rfl (pc0 := 83) (pc' := 171) rfl (hb hby d1_83) rfl (teq hc83).1 (by decide) (by decide) q)
                    exact B171 T4 _ X4 N4 e4
                  · refine own_st (T' := T4) (f' := (mkF m 86 #[.val (.int p0), .unset] [])) ?_ (fun t q => XS.icmpNo X4.here hx rfl (hb hby d1_83) rfl (feq hc83).1 q)
                    refine own_st (T' := T4) (f' := (mkF m 87 #[.val (.int p0), .unset] [(.int p0)])) ?_ (fun t q => XS.iloadN X4.here hx rfl (hb hby d1_86) rfl q)
                    refine own_st (T' := T4) (f' := (mkF m 90 #[.val (.int p0), .unset] [(.int (8192 : Int32)), (.int p0)])) ?_ (fun t q => XS.sipush X4.here hx rfl (hb hby d1_87) q)
                    refine own_st (T' := T4) (f' := (mkF m 93 #[.val (.int p0), .unset] [(.int (8203 : Int32)), (.int (8192 : Int32)), (.int p0)])) ?_ (fun t q => XS.sipush X4.here hx rfl (hb hby d1_90) q)
                    obtain ⟨_, _, ⟨T5, L5, k5, n5⟩, -, X5, ⟨Lc5, hQ5, l5, y5, z5⟩, st5⟩ := Jvm.LawKit.callS X4 hx (y := (⟨"com/example/holyrood/holyrood/XmlCharsIsNameStartCharPinLaw", "in", "(III)Z"⟩ : MethodName)) hown (mvT hZ (hw _ (List.mem_of_getElem? (i := 4) rfl))) (mvT hZ (hw _ (List.mem_of_getElem? (i := 5) rfl))) (mvT hZ (hw _ (List.mem_of_getElem? (i := 2) rfl))) (mvT hZ (hw _ (List.mem_of_getElem? (i := 6) rfl))) (by decide) (backOf (W := 0) (rm2 l Z a0 hw [] p0 (8192 : Int32) (8203 : Int32) h0 n0) hZ (hw _ (List.mem_of_getElem? (i := 6) rfl)) (hw _ (List.mem_of_getElem? (i := 2) rfl)) (by decide) (by decide)) (g := (mkF m 93 #[.val (.int p0), .unset] [(.int (8203 : Int32)), (.int (8192 : Int32)), (.int p0)])) rfl (by rw [hml]; rfl) (argsL := [(.int p0), (.int (8192 : Int32)), (.int (8203 : Int32))]) (rest := []) (lenOf pd_0 rfl) rfl (by show 2 * 0 + _ ≤ _; exact Nat.le_of_eq rfl) (hb hby d1_93) (fun _ _ => ⟨rfl, e4, (Nat.le_of_ble_eq_true rfl), (Nat.le_of_ble_eq_true rfl)⟩)
                    dsimp only [Pt.U, Pt.locs, Pt.cells, Pt.slots] at X5 l5 y5 z5 st5 hQ5
                    subst l5 y5 z5
                    obtain ⟨rfl, N5q, e5⟩ := hQ5
                    have N5 := Fr.app N4 N5q
                    refine own_st (T' := T5) (f' := (mkF m 96 #[.val (.int p0), .unset] [(.int (f2 p0 (8192 : Int32) (8203 : Int32)))])) ?_ (fun t q => st5 _ q)
                    refine own_ite (fun hc96 => ?_) (fun hc96 => ?_)
                    · refine own_st (T' := T5) (f' := (mkF m 99 #[.val (.int p0), .unset] [])) ?_ (fun t q => XS.ifNo X5.here hx rfl (hb hby d1_96) rfl ((if0 _ _).trans (teq hc96).2) q)
                      refine own_st (T' := T5) (f' := (mkF m 100 #[.val (.int p0), .unset] [(.int p0)])) ?_ (fun t q => XS.iloadN X5.here hx rfl (hb hby d1_99) rfl q)
                      refine own_st (T' := T5) (f' := (mkF m 103 #[.val (.int p0), .unset] [(.int (8206 : Int32)), (.int p0)])) ?_ (fun t q => XS.sipush X5.here hx rfl (hb hby d1_100) q)
                      refine own_st (T' := T5) (f' := (mkF m 106 #[.val (.int p0), .unset] [(.int (8303 : Int32)), (.int (8206 : Int32)), (.int p0)])) ?_ (fun t q => XS.sipush X5.here hx rfl (hb hby d1_103) q)
                      obtain ⟨_, _, ⟨T6, L6, k6, n6⟩, -, X6, ⟨Lc6, hQ6, l6, y6, z6⟩, st6⟩ := Jvm.LawKit.callS X5 hx (y := (⟨"com/example/holyrood/holyrood/XmlCharsIsNameStartCharPinLaw", "in", "(III)Z"⟩ : MethodName)) hown (mvT hZ (hw _ (List.mem_of_getElem? (i := 4) rfl))) (mvT hZ (hw _ (List.mem_of_getElem? (i := 5) rfl))) (mvT hZ (hw _ (List.mem_of_getElem? (i := 2) rfl))) (mvT hZ (hw _ (List.mem_of_getElem? (i := 6) rfl))) (by decide) (backOf (W := 0) (rm2 l Z a0 hw [] p0 (8206 : Int32) (8303 : Int32) h0 n0) hZ (hw _ (List.mem_of_getElem? (i := 6) rfl)) (hw _ (List.mem_of_getElem? (i := 2) rfl)) (by decide) (by decide)) (g := (mkF m 106 #[.val (.int p0), .unset] [(.int (8303 : Int32)), (.int (8206 : Int32)), (.int p0)])) rfl (by rw [hml]; rfl) (argsL := [(.int p0), (.int (8206 : Int32)), (.int (8303 : Int32))]) (rest := []) (lenOf pd_0 rfl) rfl (by show 2 * 0 + _ ≤ _; exact Nat.le_of_eq rfl) (hb hby d1_106) (fun _ _ => ⟨rfl, e5, (Nat.le_of_ble_eq_true rfl), (Nat.le_of_ble_eq_true rfl)⟩)
                      dsimp only [Pt.U, Pt.locs, Pt.cells, Pt.slots] at X6 l6 y6 z6 st6 hQ6
                      subst l6 y6 z6
                      obtain ⟨rfl, N6q, e6⟩ := hQ6
                      have N6 := Fr.app N5 N6q
                      refine own_st (T' := T6) (f' := (mkF m 109 #[.val (.int p0), .unset] [(.int (f2 p0 (8206 : Int32) (8303 : Int32)))])) ?_ (fun t q => st6 _ q)
                      refine own_ite (fun hc109 => ?_) (fun hc109 => ?_)
                      · refine own_st (T' := T6) (f' := (mkF m 112 #[.val (.int p0), .unset] [])) ?_ (fun t q => XS.ifNo X6.here hx rfl (hb hby d1_109) rfl ((if0 _ _).trans (teq hc109).2) q)
                        refine own_st (T' := T6) (f' := (mkF m 113 #[.val (.int p0), .unset] [(.int p0)])) ?_ (fun t q => XS.iloadN X6.here hx rfl (hb hby d1_112) rfl q)
                        refine own_st (T' := T6) (f' := (mkF m 116 #[.val (.int p0), .unset] [(.int (8592 : Int32)), (.int p0)])) ?_ (fun t q => XS.sipush X6.here hx rfl (hb hby d1_113) q)
                        refine own_st (T' := T6) (f' := (mkF m 119 #[.val (.int p0), .unset] [(.int (11263 : Int32)), (.int (8592 : Int32)), (.int p0)])) ?_ (fun t q => XS.sipush X6.here hx rfl (hb hby d1_116) q)
                        obtain ⟨_, _, ⟨T7, L7, k7, n7⟩, -, X7, ⟨Lc7, hQ7, l7, y7, z7⟩, st7⟩ := Jvm.LawKit.callS X6 hx (y := (⟨"com/example/holyrood/holyrood/XmlCharsIsNameStartCharPinLaw", "in", "(III)Z"⟩ : MethodName)) hown (mvT hZ (hw _ (List.mem_of_getElem? (i := 4) rfl))) (mvT hZ (hw _ (List.mem_of_getElem? (i := 5) rfl))) (mvT hZ (hw _ (List.mem_of_getElem? (i := 2) rfl))) (mvT hZ (hw _ (List.mem_of_getElem? (i := 6) rfl))) (by decide) (backOf (W := 0) (rm2 l Z a0 hw [] p0 (8592 : Int32) (11263 : Int32) h0 n0) hZ (hw _ (List.mem_of_getElem? (i := 6) rfl)) (hw _ (List.mem_of_getElem? (i := 2) rfl)) (by decide) (by decide)) (g := (mkF m 119 #[.val (.int p0), .unset] [(.int (11263 : Int32)), (.int (8592 : Int32)), (.int p0)])) rfl (by rw [hml]; rfl) (argsL := [(.int p0), (.int (8592 : Int32)), (.int (11263 : Int32))]) (rest := []) (lenOf pd_0 rfl) rfl (by show 2 * 0 + _ ≤ _; exact Nat.le_of_eq rfl) (hb hby d1_119) (fun _ _ => ⟨rfl, e6, (Nat.le_of_ble_eq_true rfl), (Nat.le_of_ble_eq_true rfl)⟩)
                        dsimp only [Pt.U, Pt.locs, Pt.cells, Pt.slots] at X7 l7 y7 z7 st7 hQ7
                        subst l7 y7 z7
                        obtain ⟨rfl, N7q, e7⟩ := hQ7
                        have N7 := Fr.app N6 N7q
                        refine own_st (T' := T7) (f' := (mkF m 122 #[.val (.int p0), .unset] [(.int (f2 p0 (8592 : Int32) (11263 : Int32)))])) ?_ (fun t q => st7 _ q)
                        refine own_ite (fun hc122 => ?_) (fun hc122 => ?_)
                        · refine own_st (T' := T7) (f' := (mkF m 125 #[.val (.int p0), .unset] [])) ?_ (fun t q => XS.ifNo X7.here hx rfl (hb hby d1_122) rfl ((if0 _ _).trans (teq hc122).2) q)
                          refine own_st (T' := T7) (f' := (mkF m 126 #[.val (.int p0), .unset] [(.int p0)])) ?_ (fun t q => XS.iloadN X7.here hx rfl (hb hby d1_125) rfl q)
                          refine own_st (T' := T7) (f' := (mkF m 129 #[.val (.int p0), .unset] [(.int (12272 : Int32)), (.int p0)])) ?_ (fun t q => XS.sipush X7.here hx rfl (hb hby d1_126) q)
                          refine own_st (T' := T7) (f' := (mkF m 132 #[.val (.int p0), .unset] [(.int (12288 : Int32)), (.int (12272 : Int32)), (.int p0)])) ?_ (fun t q => XS.sipush X7.here hx rfl (hb hby d1_129) q)
                          obtain ⟨_, _, ⟨T8, L8, k8, n8⟩, -, X8, ⟨Lc8, hQ8, l8, y8, z8⟩, st8⟩ := Jvm.LawKit.callS X7 hx (y := (⟨"com/example/holyrood/holyrood/XmlCharsIsNameStartCharPinLaw", "in", "(III)Z"⟩ : MethodName)) hown (mvT hZ (hw _ (List.mem_of_getElem? (i := 4) rfl))) (mvT hZ (hw _ (List.mem_of_getElem? (i := 5) rfl))) (mvT hZ (hw _ (List.mem_of_getElem? (i := 2) rfl))) (mvT hZ (hw _ (List.mem_of_getElem? (i := 6) rfl))) (by decide) (backOf (W := 0) (rm2 l Z a0 hw [] p0 (12272 : Int32) (12288 : Int32) h0 n0) hZ (hw _ (List.mem_of_getElem? (i := 6) rfl)) (hw _ (List.mem_of_getElem? (i := 2) rfl)) (by decide) (by decide)) (g := (mkF m 132 #[.val (.int p0), .unset] [(.int (12288 : Int32)), (.int (12272 : Int32)), (.int p0)])) rfl (by rw [hml]; rfl) (argsL := [(.int p0), (.int (12272 : Int32)), (.int (12288 : Int32))]) (rest := []) (lenOf pd_0 rfl) rfl (by show 2 * 0 + _ ≤ _; exact Nat.le_of_eq rfl) (hb hby d1_132) (fun _ _ => ⟨rfl, e7, (Nat.le_of_ble_eq_true rfl), (Nat.le_of_ble_eq_true rfl)⟩)
                          dsimp only [Pt.U, Pt.locs, Pt.cells, Pt.slots] at X8 l8 y8 z8 st8 hQ8
                          subst l8 y8 z8
                          obtain ⟨rfl, N8q, e8⟩ := hQ8
                          have N8 := Fr.app N7 N8q
                          refine own_st (T' := T8) (f' := (mkF m 135 #[.val (.int p0), .unset] [(.int (f2 p0 (12272 : Int32) (12288 : Int32)))])) ?_ (fun t q => st8 _ q)
                          refine own_ite (fun hc135 => ?_) (fun hc135 => ?_)
                          · refine own_st (T' := T8) (f' := (mkF m 138 #[.val (.int p0), .unset] [])) ?_ (fun t q => XS.ifNo X8.here hx rfl (hb hby d1_135) rfl ((if0 _ _).trans (teq hc135).2) q)
                            refine own_st (T' := T8) (f' := (mkF m 139 #[.val (.int p0), .unset] [(.int p0)])) ?_ (fun t q => XS.iloadN X8.here hx rfl (hb hby d1_138) rfl q)
                            refine own_st (T' := T8) (f' := (mkF m 141 #[.val (.int p0), .unset] [(.int (55296 : Int32)), (.int p0)])) ?_ (fun t q => X8.ldcInt hx hown (mvT hZ (hw _ (List.mem_of_getElem? (i := 19) rfl))) (g := (mkF m 139 #[.val (.int p0), .unset] [(.int p0)])) rfl (hb hby d1_139) _ q)
                            refine own_st (T' := T8) (f' := (mkF m 143 #[.val (.int p0), .unset] [(.int (63743 : Int32)), (.int (55296 : Int32)), (.int p0)])) ?_ (fun t q => X8.ldcInt hx hown (mvT hZ (hw _ (List.mem_of_getElem? (i := 20) rfl))) (g := (mkF m 141 #[.val (.int p0), .unset] [(.int (55296 : Int32)), (.int p0)])) rfl (hb hby d1_141) _ q)
                            obtain ⟨_, _, ⟨T9, L9, k9, n9⟩, -, X9, ⟨Lc9, hQ9, l9, y9, z9⟩, st9⟩ := Jvm.LawKit.callS X8 hx (y := (⟨"com/example/holyrood/holyrood/XmlCharsIsNameStartCharPinLaw", "in", "(III)Z"⟩ : MethodName)) hown (mvT hZ (hw _ (List.mem_of_getElem? (i := 4) rfl))) (mvT hZ (hw _ (List.mem_of_getElem? (i := 5) rfl))) (mvT hZ (hw _ (List.mem_of_getElem? (i := 2) rfl))) (mvT hZ (hw _ (List.mem_of_getElem? (i := 6) rfl))) (by decide) (backOf (W := 0) (rm2 l Z a0 hw [] p0 (55296 : Int32) (63743 : Int32) h0 n0) hZ (hw _ (List.mem_of_getElem? (i := 6) rfl)) (hw _ (List.mem_of_getElem? (i := 2) rfl)) (by decide) (by decide)) (g := (mkF m 143 #[.val (.int p0), .unset] [(.int (63743 : Int32)), (.int (55296 : Int32)), (.int p0)])) rfl (by rw [hml]; rfl) (argsL := [(.int p0), (.int (55296 : Int32)), (.int (63743 : Int32))]) (rest := []) (lenOf pd_0 rfl) rfl (by show 2 * 0 + _ ≤ _; exact Nat.le_of_eq rfl) (hb hby d1_143) (fun _ _ => ⟨rfl, e8, (Nat.le_of_ble_eq_true rfl), (Nat.le_of_ble_eq_true rfl)⟩)
                            dsimp only [Pt.U, Pt.locs, Pt.cells, Pt.slots] at X9 l9 y9 z9 st9 hQ9
                            subst l9 y9 z9
                            obtain ⟨rfl, N9q, e9⟩ := hQ9
                            have N9 := Fr.app N8 N9q
                            refine own_st (T' := T9) (f' := (mkF m 146 #[.val (.int p0), .unset] [(.int (f2 p0 (55296 : Int32) (63743 : Int32)))])) ?_ (fun t q => st9 _ q)
                            refine own_ite (fun hc146 => ?_) (fun hc146 => ?_)
                            · refine own_st (T' := T9) (f' := (mkF m 149 #[.val (.int p0), .unset] [])) ?_ (fun t q => XS.ifNo X9.here hx rfl (hb hby d1_146) rfl ((if0 _ _).trans (teq hc146).2) q)
                              refine own_st (T' := T9) (f' := (mkF m 150 #[.val (.int p0), .unset] [(.int p0)])) ?_ (fun t q => XS.iloadN X9.here hx rfl (hb hby d1_149) rfl q)
                              refine own_st (T' := T9) (f' := (mkF m 152 #[.val (.int p0), .unset] [(.int (64976 : Int32)), (.int p0)])) ?_ (fun t q => X9.ldcInt hx hown (mvT hZ (hw _ (List.mem_of_getElem? (i := 21) rfl))) (g := (mkF m 150 #[.val (.int p0), .unset] [(.int p0)])) rfl (hb hby d1_150) _ q)
                              refine own_st (T' := T9) (f' := (mkF m 154 #[.val (.int p0), .unset] [(.int (65007 : Int32)), (.int (64976 : Int32)), (.int p0)])) ?_ (fun t q => X9.ldcInt hx hown (mvT hZ (hw _ (List.mem_of_getElem? (i := 22) rfl))) (g := (mkF m 152 #[.val (.int p0), .unset] [(.int (64976 : Int32)), (.int p0)])) rfl (hb hby d1_152) _ q)
                              obtain ⟨_, _, ⟨T10, L10, k10, n10⟩, -, X10, ⟨Lc10, hQ10, l10, y10, z10⟩, st10⟩ := Jvm.LawKit.callS X9 hx (y := (⟨"com/example/holyrood/holyrood/XmlCharsIsNameStartCharPinLaw", "in", "(III)Z"⟩ : MethodName)) hown (mvT hZ (hw _ (List.mem_of_getElem? (i := 4) rfl))) (mvT hZ (hw _ (List.mem_of_getElem? (i := 5) rfl))) (mvT hZ (hw _ (List.mem_of_getElem? (i := 2) rfl))) (mvT hZ (hw _ (List.mem_of_getElem? (i := 6) rfl))) (by decide) (backOf (W := 0) (rm2 l Z a0 hw [] p0 (64976 : Int32) (65007 : Int32) h0 n0) hZ (hw _ (List.mem_of_getElem? (i := 6) rfl)) (hw _ (List.mem_of_getElem? (i := 2) rfl)) (by decide) (by decide)) (g := (mkF m 154 #[.val (.int p0), .unset] [(.int (65007 : Int32)), (.int (64976 : Int32)), (.int p0)])) rfl (by rw [hml]; rfl) (argsL := [(.int p0), (.int (64976 : Int32)), (.int (65007 : Int32))]) (rest := []) (lenOf pd_0 rfl) rfl (by show 2 * 0 + _ ≤ _; exact Nat.le_of_eq rfl) (hb hby d1_154) (fun _ _ => ⟨rfl, e9, (Nat.le_of_ble_eq_true rfl), (Nat.le_of_ble_eq_true rfl)⟩)
                              dsimp only [Pt.U, Pt.locs, Pt.cells, Pt.slots] at X10 l10 y10 z10 st10 hQ10
                              subst l10 y10 z10
                              obtain ⟨rfl, N10q, e10⟩ := hQ10
                              have N10 := Fr.app N9 N10q
                              refine own_st (T' := T10) (f' := (mkF m 157 #[.val (.int p0), .unset] [(.int (f2 p0 (64976 : Int32) (65007 : Int32)))])) ?_ (fun t q => st10 _ q)
                              refine own_ite (fun hc157 => ?_) (fun hc157 => ?_)
                              · refine own_st (T' := T10) (f' := (mkF m 160 #[.val (.int p0), .unset] [])) ?_ (fun t q => XS.ifNo X10.here hx rfl (hb hby d1_157) rfl ((if0 _ _).trans (teq hc157).2) q)
                                refine own_st (T' := T10) (f' := (mkF m 161 #[.val (.int p0), .unset] [(.int p0)])) ?_ (fun t q => XS.iloadN X10.here hx rfl (hb hby d1_160) rfl q)
                                refine own_st (T' := T10) (f' := (mkF m 163 #[.val (.int p0), .unset] [(.int (65534 : Int32)), (.int p0)])) ?_ (fun t q => X10.ldcInt hx hown (mvT hZ (hw _ (List.mem_of_getElem? (i := 23) rfl))) (g := (mkF m 161 #[.val (.int p0), .unset] [(.int p0)])) rfl (hb hby d1_161) _ q)
                                refine own_st (T' := T10) (f' := (mkF m 165 #[.val (.int p0), .unset] [(.int (65535 : Int32)), (.int (65534 : Int32)), (.int p0)])) ?_ (fun t q => X10.ldcInt hx hown (mvT hZ (hw _ (List.mem_of_getElem? (i := 24) rfl))) (g := (mkF m 163 #[.val (.int p0), .unset] [(.int (65534 : Int32)), (.int p0)])) rfl (hb hby d1_163) _ q)
                                obtain ⟨_, _, ⟨T11, L11, k11, n11⟩, -, X11, ⟨Lc11, hQ11, l11, y11, z11⟩, st11⟩ := Jvm.LawKit.callS X10 hx (y := (⟨"com/example/holyrood/holyrood/XmlCharsIsNameStartCharPinLaw", "in", "(III)Z"⟩ : MethodName)) hown (mvT hZ (hw _ (List.mem_of_getElem? (i := 4) rfl))) (mvT hZ (hw _ (List.mem_of_getElem? (i := 5) rfl))) (mvT hZ (hw _ (List.mem_of_getElem? (i := 2) rfl))) (mvT hZ (hw _ (List.mem_of_getElem? (i := 6) rfl))) (by decide) (backOf (W := 0) (rm2 l Z a0 hw [] p0 (65534 : Int32) (65535 : Int32) h0 n0) hZ (hw _ (List.mem_of_getElem? (i := 6) rfl)) (hw _ (List.mem_of_getElem? (i := 2) rfl)) (by decide) (by decide)) (g := (mkF m 165 #[.val (.int p0), .unset] [(.int (65535 : Int32)), (.int (65534 : Int32)), (.int p0)])) rfl (by rw [hml]; rfl) (argsL := [(.int p0), (.int (65534 : Int32)), (.int (65535 : Int32))]) (rest := []) (lenOf pd_0 rfl) rfl (by show 2 * 0 + _ ≤ _; exact Nat.le_of_eq rfl) (hb hby d1_165) (fun _ _ => ⟨rfl, e10, (Nat.le_of_ble_eq_true rfl), (Nat.le_of_ble_eq_true rfl)⟩)
                                dsimp only [Pt.U, Pt.locs, Pt.cells, Pt.slots] at X11 l11 y11 z11 st11 hQ11
                                subst l11 y11 z11
                                obtain ⟨rfl, N11q, e11⟩ := hQ11
                                have N11 := Fr.app N10 N11q
                                refine own_st (T' := T11) (f' := (mkF m 168 #[.val (.int p0), .unset] [(.int (f2 p0 (65534 : Int32) (65535 : Int32)))])) ?_ (fun t q => st11 _ q)
                                refine own_ite (fun hc168 => ?_) (fun hc168 => ?_)
                                · refine own_st (T' := T11) (f' := (mkF m 175 #[.val (.int p0), .unset] [])) ?_ (fun t q => XS.ifYes X11.here hx rfl (pc0 := 168) (pc' := 175) rfl (hb hby d1_168) rfl ((if0 _ _).trans (teq hc168).1) (by decide) (by decide) q)
                                  refine own_st (T' := T11) (f' := (mkF m 176 #[.val (.int p0), .unset] [(.int (0 : Int32))])) ?_ (fun t q => XS.iconst X11.here hx rfl (hb hby d1_175) q)
                                  exact B176 T11 _ (0 : Int32) X11 N11 e11
                                · refine own_st (T' := T11) (f' := (mkF m 171 #[.val (.int p0), .unset] [])) ?_ (fun t q => XS.ifNo X11.here hx rfl (hb hby d1_168) rfl ((if0 _ _).trans (feq hc168).1) q)
                                  exact B171 T11 _ X11 N11 e11
                              · refine own_st (T' := T10) (f' := (mkF m 171 #[.val (.int p0), .unset] [])) ?_ (fun t q => XS.ifYes X10.here hx rfl (pc0 := 157) (pc' := 171) rfl (hb hby d1_157) rfl ((if0 _ _).trans (feq hc157).2) (by decide) (by decide) q)
                                exact B171 T10 _ X10 N10 e10
                            · refine own_st (T' := T9) (f' := (mkF m 171 #[.val (.int p0), .unset] [])) ?_ (fun t q => XS.ifYes X9.here hx rfl (pc0 := 146) (pc' := 171) rfl (hb hby d1_146) rfl ((if0 _ _).trans (feq hc146).2) (by decide) (by decide) q)
                              exact B171 T9 _ X9 N9 e9
                          · refine own_st (T' := T8) (f' := (mkF m 171 #[.val (.int p0), .unset] [])) ?_ (fun t q => XS.ifYes X8.here hx rfl (pc0 := 135) (pc' := 171) rfl (hb hby d1_135) rfl ((if0 _ _).trans (feq hc135).2) (by decide) (by decide) q)
                            exact B171 T8 _ X8 N8 e8
                        · refine own_st (T' := T7) (f' := (mkF m 171 #[.val (.int p0), .unset] [])) ?_ (fun t q => XS.ifYes X7.here hx rfl (pc0 := 122) (pc' := 171) rfl (hb hby d1_122) rfl ((if0 _ _).trans (feq hc122).2) (by decide) (by decide) q)
                          exact B171 T7 _ X7 N7 e7
                      · refine own_st (T' := T6) (f' := (mkF m 171 #[.val (.int p0), .unset] [])) ?_ (fun t q => XS.ifYes X6.here hx rfl (pc0 := 109) (pc' := 171) rfl (hb hby d1_109) rfl ((if0 _ _).trans (feq hc109).2) (by decide) (by decide) q)
                        exact B171 T6 _ X6 N6 e6
                    · refine own_st (T' := T5) (f' := (mkF m 171 #[.val (.int p0), .unset] [])) ?_ (fun t q => XS.ifYes X5.here hx rfl (pc0 := 96) (pc' := 171) rfl (hb hby d1_96) rfl ((if0 _ _).trans (feq hc96).2) (by decide) (by decide) q)
                      exact B171 T5 _ X5 N5 e5
                · refine own_st (T' := T4) (f' := (mkF m 171 #[.val (.int p0), .unset] [])) ?_ (fun t q => XS.ifYes X4.here hx rfl (pc0 := 76) (pc' := 171) rfl (hb hby d1_76) rfl ((if0 _ _).trans (feq hc76).2) (by decide) (by decide) q)
                  exact B171 T4 _ X4 N4 e4
        · refine own_st (T' := T2) (f' := (mkF m 36 #[.val (.int p0), .unset] [])) ?_ (fun t q => XS.ifNo X2.here hx rfl (hb hby d1_33) rfl ((if0 _ _).trans (feq hc33).1) q)
          refine own_st (T' := T2) (f' := (mkF m 37 #[.val (.int p0), .unset] [(.int (1 : Int32))])) ?_ (fun t q => XS.iconst X2.here hx rfl (hb hby d1_36) q)
          exact own_retN X2 hx hlk (t := .boolean) Bd.returns (by simp) (hb hby d1_37) (by decide) (by decide) ⟨rfl, N2, e2⟩
      · refine own_st (T' := T1) (f' := (mkF m 36 #[.val (.int p0), .unset] [])) ?_ (fun t q => XS.ifYes X1.here hx rfl (pc0 := 22) (pc' := 36) rfl (hb hby d1_22) rfl ((if0 _ _).trans (feq hc22).2) (by decide) (by decide) q)
        refine own_st (T' := T1) (f' := (mkF m 37 #[.val (.int p0), .unset] [(.int (1 : Int32))])) ?_ (fun t q => XS.iconst X1.here hx rfl (hb hby d1_36) q)
        exact own_retN X1 hx hlk (t := .boolean) Bd.returns (by simp) (hb hby d1_37) (by decide) (by decide) ⟨rfl, N1, e1⟩
theorem d3_0 : decode prog_86_method_5_code 0 = .ok (.iload_n 0, 1) := by decide +kernel
theorem d3_1 : decode prog_86_method_5_code 1 = .ok (.sipush 128, 3) := by decide +kernel
theorem d3_4 : decode prog_86_method_5_code 4 = .ok (.if_icmp .ge 45, 3) := by decide +kernel
theorem d3_7 : decode prog_86_method_5_code 7 = .ok (.iload_n 0, 1) := by decide +kernel
theorem d3_8 : decode prog_86_method_5_code 8 = .ok (.bipush 97, 2) := by decide +kernel
theorem d3_10 : decode prog_86_method_5_code 10 = .ok (.if_icmp .lt 9, 3) := by decide +kernel
theorem d3_13 : decode prog_86_method_5_code 13 = .ok (.iload_n 0, 1) := by decide +kernel
theorem d3_14 : decode prog_86_method_5_code 14 = .ok (.bipush 122, 2) := by decide +kernel
theorem d3_16 : decode prog_86_method_5_code 16 = .ok (.if_icmp .le 27, 3) := by decide +kernel
theorem d3_19 : decode prog_86_method_5_code 19 = .ok (.iload_n 0, 1) := by decide +kernel
theorem d3_20 : decode prog_86_method_5_code 20 = .ok (.bipush 65, 2) := by decide +kernel
theorem d3_22 : decode prog_86_method_5_code 22 = .ok (.if_icmp .lt 9, 3) := by decide +kernel
theorem d3_25 : decode prog_86_method_5_code 25 = .ok (.iload_n 0, 1) := by decide +kernel
theorem d3_26 : decode prog_86_method_5_code 26 = .ok (.bipush 90, 2) := by decide +kernel
theorem d3_28 : decode prog_86_method_5_code 28 = .ok (.if_icmp .le 15, 3) := by decide +kernel
theorem d3_31 : decode prog_86_method_5_code 31 = .ok (.iload_n 0, 1) := by decide +kernel
theorem d3_32 : decode prog_86_method_5_code 32 = .ok (.bipush 95, 2) := by decide +kernel
theorem d3_34 : decode prog_86_method_5_code 34 = .ok (.if_icmp .eq 9, 3) := by decide +kernel
theorem d3_37 : decode prog_86_method_5_code 37 = .ok (.iload_n 0, 1) := by decide +kernel
theorem d3_38 : decode prog_86_method_5_code 38 = .ok (.bipush 58, 2) := by decide +kernel
theorem d3_40 : decode prog_86_method_5_code 40 = .ok (.if_icmp .ne 7, 3) := by decide +kernel
theorem d3_43 : decode prog_86_method_5_code 43 = .ok (.iconst 1, 1) := by decide +kernel
theorem d3_44 : decode prog_86_method_5_code 44 = .ok (.goto 4, 3) := by decide +kernel
theorem d3_47 : decode prog_86_method_5_code 47 = .ok (.iconst 0, 1) := by decide +kernel
theorem d3_48 : decode prog_86_method_5_code 48 = .ok (.ireturn, 1) := by decide +kernel
theorem d3_49 : decode prog_86_method_5_code 49 = .ok (.iload_n 0, 1) := by decide +kernel
theorem d3_50 : decode prog_86_method_5_code 50 = .ok (.sipush 192, 3) := by decide +kernel
theorem d3_53 : decode prog_86_method_5_code 53 = .ok (.if_icmp .lt 10, 3) := by decide +kernel
theorem d3_56 : decode prog_86_method_5_code 56 = .ok (.iload_n 0, 1) := by decide +kernel
theorem d3_57 : decode prog_86_method_5_code 57 = .ok (.sipush 214, 3) := by decide +kernel
theorem d3_60 : decode prog_86_method_5_code 60 = .ok (.if_icmp .le 150, 3) := by decide +kernel
theorem d3_63 : decode prog_86_method_5_code 63 = .ok (.iload_n 0, 1) := by decide +kernel
theorem d3_64 : decode prog_86_method_5_code 64 = .ok (.sipush 216, 3) := by decide +kernel
theorem d3_67 : decode prog_86_method_5_code 67 = .ok (.if_icmp .lt 10, 3) := by decide +kernel
theorem d3_70 : decode prog_86_method_5_code 70 = .ok (.iload_n 0, 1) := by decide +kernel
theorem d3_71 : decode prog_86_method_5_code 71 = .ok (.sipush 246, 3) := by decide +kernel
theorem d3_74 : decode prog_86_method_5_code 74 = .ok (.if_icmp .le 136, 3) := by decide +kernel
theorem d3_77 : decode prog_86_method_5_code 77 = .ok (.iload_n 0, 1) := by decide +kernel
theorem d3_78 : decode prog_86_method_5_code 78 = .ok (.sipush 248, 3) := by decide +kernel
theorem d3_81 : decode prog_86_method_5_code 81 = .ok (.if_icmp .lt 10, 3) := by decide +kernel
theorem d3_84 : decode prog_86_method_5_code 84 = .ok (.iload_n 0, 1) := by decide +kernel
theorem d3_85 : decode prog_86_method_5_code 85 = .ok (.sipush 767, 3) := by decide +kernel
theorem d3_88 : decode prog_86_method_5_code 88 = .ok (.if_icmp .le 122, 3) := by decide +kernel
theorem d3_91 : decode prog_86_method_5_code 91 = .ok (.iload_n 0, 1) := by decide +kernel
theorem d3_92 : decode prog_86_method_5_code 92 = .ok (.sipush 880, 3) := by decide +kernel
theorem d3_95 : decode prog_86_method_5_code 95 = .ok (.if_icmp .lt 10, 3) := by decide +kernel
theorem d3_98 : decode prog_86_method_5_code 98 = .ok (.iload_n 0, 1) := by decide +kernel
theorem d3_99 : decode prog_86_method_5_code 99 = .ok (.sipush 893, 3) := by decide +kernel
theorem d3_102 : decode prog_86_method_5_code 102 = .ok (.if_icmp .le 108, 3) := by decide +kernel
theorem d3_105 : decode prog_86_method_5_code 105 = .ok (.iload_n 0, 1) := by decide +kernel
theorem d3_106 : decode prog_86_method_5_code 106 = .ok (.sipush 895, 3) := by decide +kernel
theorem d3_109 : decode prog_86_method_5_code 109 = .ok (.if_icmp .lt 10, 3) := by decide +kernel
theorem d3_112 : decode prog_86_method_5_code 112 = .ok (.iload_n 0, 1) := by decide +kernel
theorem d3_113 : decode prog_86_method_5_code 113 = .ok (.sipush 8191, 3) := by decide +kernel
theorem d3_116 : decode prog_86_method_5_code 116 = .ok (.if_icmp .le 94, 3) := by decide +kernel
theorem d3_119 : decode prog_86_method_5_code 119 = .ok (.iload_n 0, 1) := by decide +kernel
theorem d3_120 : decode prog_86_method_5_code 120 = .ok (.sipush 8204, 3) := by decide +kernel
theorem d3_123 : decode prog_86_method_5_code 123 = .ok (.if_icmp .lt 10, 3) := by decide +kernel
theorem d3_126 : decode prog_86_method_5_code 126 = .ok (.iload_n 0, 1) := by decide +kernel
theorem d3_127 : decode prog_86_method_5_code 127 = .ok (.sipush 8205, 3) := by decide +kernel
theorem d3_130 : decode prog_86_method_5_code 130 = .ok (.if_icmp .le 80, 3) := by decide +kernel
theorem d3_133 : decode prog_86_method_5_code 133 = .ok (.iload_n 0, 1) := by decide +kernel
theorem d3_134 : decode prog_86_method_5_code 134 = .ok (.sipush 8304, 3) := by decide +kernel
theorem d3_137 : decode prog_86_method_5_code 137 = .ok (.if_icmp .lt 10, 3) := by decide +kernel
theorem d3_140 : decode prog_86_method_5_code 140 = .ok (.iload_n 0, 1) := by decide +kernel
theorem d3_141 : decode prog_86_method_5_code 141 = .ok (.sipush 8591, 3) := by decide +kernel
theorem d3_144 : decode prog_86_method_5_code 144 = .ok (.if_icmp .le 66, 3) := by decide +kernel
theorem d3_147 : decode prog_86_method_5_code 147 = .ok (.iload_n 0, 1) := by decide +kernel
theorem d3_148 : decode prog_86_method_5_code 148 = .ok (.sipush 11264, 3) := by decide +kernel
theorem d3_151 : decode prog_86_method_5_code 151 = .ok (.if_icmp .lt 10, 3) := by decide +kernel
theorem d3_154 : decode prog_86_method_5_code 154 = .ok (.iload_n 0, 1) := by decide +kernel
theorem d3_155 : decode prog_86_method_5_code 155 = .ok (.sipush 12271, 3) := by decide +kernel
theorem d3_158 : decode prog_86_method_5_code 158 = .ok (.if_icmp .le 52, 3) := by decide +kernel
theorem d3_161 : decode prog_86_method_5_code 161 = .ok (.iload_n 0, 1) := by decide +kernel
theorem d3_162 : decode prog_86_method_5_code 162 = .ok (.sipush 12289, 3) := by decide +kernel
theorem d3_165 : decode prog_86_method_5_code 165 = .ok (.if_icmp .lt 9, 3) := by decide +kernel
theorem d3_168 : decode prog_86_method_5_code 168 = .ok (.iload_n 0, 1) := by decide +kernel
theorem d3_169 : decode prog_86_method_5_code 169 = .ok (.ldc 13, 2) := by decide +kernel
theorem d3_171 : decode prog_86_method_5_code 171 = .ok (.if_icmp .le 39, 3) := by decide +kernel
theorem d3_174 : decode prog_86_method_5_code 174 = .ok (.iload_n 0, 1) := by decide +kernel
theorem d3_175 : decode prog_86_method_5_code 175 = .ok (.ldc 18, 2) := by decide +kernel
theorem d3_177 : decode prog_86_method_5_code 177 = .ok (.if_icmp .lt 9, 3) := by decide +kernel
theorem d3_180 : decode prog_86_method_5_code 180 = .ok (.iload_n 0, 1) := by decide +kernel
theorem d3_181 : decode prog_86_method_5_code 181 = .ok (.ldc 19, 2) := by decide +kernel
theorem d3_183 : decode prog_86_method_5_code 183 = .ok (.if_icmp .le 27, 3) := by decide +kernel
theorem d3_186 : decode prog_86_method_5_code 186 = .ok (.iload_n 0, 1) := by decide +kernel
theorem d3_187 : decode prog_86_method_5_code 187 = .ok (.ldc 20, 2) := by decide +kernel
theorem d3_189 : decode prog_86_method_5_code 189 = .ok (.if_icmp .lt 9, 3) := by decide +kernel
theorem d3_192 : decode prog_86_method_5_code 192 = .ok (.iload_n 0, 1) := by decide +kernel
theorem d3_193 : decode prog_86_method_5_code 193 = .ok (.ldc 15, 2) := by decide +kernel
theorem d3_195 : decode prog_86_method_5_code 195 = .ok (.if_icmp .le 15, 3) := by decide +kernel
theorem d3_198 : decode prog_86_method_5_code 198 = .ok (.iload_n 0, 1) := by decide +kernel
theorem d3_199 : decode prog_86_method_5_code 199 = .ok (.ldc 16, 2) := by decide +kernel
theorem d3_201 : decode prog_86_method_5_code 201 = .ok (.if_icmp .lt 13, 3) := by decide +kernel
theorem d3_204 : decode prog_86_method_5_code 204 = .ok (.iload_n 0, 1) := by decide +kernel
theorem d3_205 : decode prog_86_method_5_code 205 = .ok (.ldc 21, 2) := by decide +kernel
theorem d3_207 : decode prog_86_method_5_code 207 = .ok (.if_icmp .gt 7, 3) := by decide +kernel
theorem d3_210 : decode prog_86_method_5_code 210 = .ok (.iconst 1, 1) := by decide +kernel
theorem d3_211 : decode prog_86_method_5_code 211 = .ok (.goto 4, 3) := by decide +kernel
theorem d3_214 : decode prog_86_method_5_code 214 = .ok (.iconst 0, 1) := by decide +kernel
theorem d3_215 : decode prog_86_method_5_code 215 = .ok (.ireturn, 1) := by decide +kernel
theorem pn_3 : plainFor (⟨"com/example/holyrood/holyrood/XmlChars", "isNameStartChar", "(I)Z"⟩ : MethodName) = true := by first | exact plainFor_of_name (by first | (simp [plainName, overriddenIn]; done) | decide +kernel) | decide +kernel
theorem ef_3 (m : MethodId) (x0 : Int32) : entryFrame m #[(.int x0)] 1 = mkF m 0 #[.val (.int x0)] [] := by first | (simp [entryFrame, mkF, argsToLocals, Value.category, maxLocals]; done) | rfl
def f3_198 (p0 : Int32) : Int32 := (if p0 < (65536 : Int32) then (0 : Int32) else (if (983039 : Int32) < p0 then (0 : Int32) else (1 : Int32)))
def f3_186 (p0 : Int32) : Int32 := (if p0 < (65008 : Int32) then (f3_198 p0) else (if (65533 : Int32) < p0 then (f3_198 p0) else (1 : Int32)))
def f3_174 (p0 : Int32) : Int32 := (if p0 < (63744 : Int32) then (f3_186 p0) else (if (64975 : Int32) < p0 then (f3_186 p0) else (1 : Int32)))
def f3_161 (p0 : Int32) : Int32 := (if p0 < (12289 : Int32) then (f3_174 p0) else (if (55295 : Int32) < p0 then (f3_174 p0) else (1 : Int32)))
def f3_147 (p0 : Int32) : Int32 := (if p0 < (11264 : Int32) then (f3_161 p0) else (if (12271 : Int32) < p0 then (f3_161 p0) else (1 : Int32)))
def f3_133 (p0 : Int32) : Int32 := (if p0 < (8304 : Int32) then (f3_147 p0) else (if (8591 : Int32) < p0 then (f3_147 p0) else (1 : Int32)))
def f3_119 (p0 : Int32) : Int32 := (if p0 < (8204 : Int32) then (f3_133 p0) else (if (8205 : Int32) < p0 then (f3_133 p0) else (1 : Int32)))
def f3_105 (p0 : Int32) : Int32 := (if p0 < (895 : Int32) then (f3_119 p0) else (if (8191 : Int32) < p0 then (f3_119 p0) else (1 : Int32)))
def f3_91 (p0 : Int32) : Int32 := (if p0 < (880 : Int32) then (f3_105 p0) else (if (893 : Int32) < p0 then (f3_105 p0) else (1 : Int32)))
def f3_77 (p0 : Int32) : Int32 := (if p0 < (248 : Int32) then (f3_91 p0) else (if (767 : Int32) < p0 then (f3_91 p0) else (1 : Int32)))
def f3_63 (p0 : Int32) : Int32 := (if p0 < (216 : Int32) then (f3_77 p0) else (if (246 : Int32) < p0 then (f3_77 p0) else (1 : Int32)))
def f3_31 (p0 : Int32) : Int32 := (if p0 = (95 : Int32) then (1 : Int32) else (if p0 = (58 : Int32) then (1 : Int32) else (0 : Int32)))
def f3_19 (p0 : Int32) : Int32 := (if p0 < (65 : Int32) then (f3_31 p0) else (if (90 : Int32) < p0 then (f3_31 p0) else (1 : Int32)))
def f3 (p0 : Int32) : Int32 := (if p0 < (128 : Int32) then (if p0 < (97 : Int32) then (f3_19 p0) else (if (122 : Int32) < p0 then (f3_19 p0) else (1 : Int32))) else (if p0 < (192 : Int32) then (f3_63 p0) else (if (214 : Int32) < p0 then (f3_63 p0) else (1 : Int32))))
set_option maxRecDepth 65536 in
set_option maxHeartbeats 40000000 in
theorem rm3 (l : Launch) (Z : State) (a0 : Array Value) (hw : ∀ d ∈ tables_1, d.before a0 Z = true) (ws : List Jvm.Cond) (p0 : Int32) (h0 : Heap) (n0 : Nat) :
    MetFree l (⟨"com/example/holyrood/holyrood/XmlChars", "isNameStartChar", "(I)Z"⟩ : MethodName) (head1 (Jvm.Cond.code (⟨"com/example/holyrood/holyrood/XmlChars", "isNameStartChar", "(I)Z"⟩ : MethodName) prog_86_method_5_code 1 (some .boolean) :: ws) ({ frames := 0, cells := 0, slots := 0, locals := 0 } : Room)) (fun a U => a = #[(.int p0)] ∧ Z.Warmed39 U.vm ∧ U.heap = h0) (fun _ _ _ _ _ => True) (fun _ U o U' => ∃ v L, o = .returned v ∧ own_GI n0 (fun h => h = h0) (f3 p0) v U'.heap L ∧ FrameEnd U o U' L ({ frames := 0, cells := 0, slots := 0, locals := 0 } : Room).cells ({ frames := 0, cells := 0, slots := 0, locals := 0 } : Room).slots) := by
  refine MetFree.of_bodySF pn_3 hisR ?_
  intro p e s m args below meth c s₁ Bd hml0 hP hK
  obtain ⟨rfl, hZ, hh⟩ := hP
  have hx := Bd.exec
  have hby := Bd.bytes
  have hml : c.maxLocals = 1 := hml0
  have hown : s.vm.findClass "com/example/holyrood/holyrood/XmlChars" = some m.cls := findClass_of_methodNamed Bd.named
  have hlk : meth.locks = false := BodyLoose.notSynchronized Bd
  have X0 : Stand p l e ({ frames := 0, cells := 0, slots := 0, locals := 0 } : Room) s m #[(.int p0)] below meth c s₁ [] 0 0 := Stand.of_body Bd
  have e0 : s₁.heap = h0 := by rw [← hh, Bd.state]; rfl
  have N0 := Fr.nil n0
  have B198 : ∀ (T : State) (locs : List Loc) (X : Stand p l e ({ frames := 0, cells := 0, slots := 0, locals := 0 } : Room) s m #[(.int p0)] below meth c T locs 0 0) (N : Fr n0 locs) (eh : T.heap = h0), own_W p e below s 0 0 (own_GI n0 (fun h => h = h0) (f3_198 p0)) T (mkF m 198 #[.val (.int p0)] []) := by
    intro T locs X N eh
    unfold f3_198
    refine own_st (T' := T) (f' := (mkF m 199 #[.val (.int p0)] [(.int p0)])) ?_ (fun t q => XS.iloadN X.here hx rfl (hb hby d3_198) rfl q)
    refine own_st (T' := T) (f' := (mkF m 201 #[.val (.int p0)] [(.int (65536 : Int32)), (.int p0)])) ?_ (fun t q => X.ldcInt hx hown (mvT hZ (hw _ (List.mem_of_getElem? (i := 17) rfl))) (g := (mkF m 199 #[.val (.int p0)] [(.int p0)])) rfl (hb hby d3_199) _ q)
    refine own_ite (fun hc201 => ?_) (fun hc201 => ?_)
    · refine own_st (T' := T) (f' := (mkF m 214 #[.val (.int p0)] [])) ?_ (fun t q => XS.icmpYes X.here hx rfl (pc0 := 201) (pc' := 214) rfl (hb hby d3_201) rfl (tlt hc201).1 (by decide) (by decide) q)
      refine own_st (T' := T) (f' := (mkF m 215 #[.val (.int p0)] [(.int (0 : Int32))])) ?_ (fun t q => XS.iconst X.here hx rfl (hb hby d3_214) q)
      exact own_retN X hx hlk (t := .boolean) Bd.returns (by simp) (hb hby d3_215) (by decide) (by decide) ⟨rfl, N, eh⟩
    · refine own_st (T' := T) (f' := (mkF m 204 #[.val (.int p0)] [])) ?_ (fun t q => XS.icmpNo X.here hx rfl (hb hby d3_201) rfl (flt hc201).1 q)
      refine own_st (T' := T) (f' := (mkF m 205 #[.val (.int p0)] [(.int p0)])) ?_ (fun t q => XS.iloadN X.here hx rfl (hb hby d3_204) rfl q)
      refine own_st (T' := T) (f' := (mkF m 207 #[.val (.int p0)] [(.int (983039 : Int32)), (.int p0)])) ?_ (fun t q => X.ldcInt hx hown (mvT hZ (hw _ (List.mem_of_getElem? (i := 18) rfl))) (g := (mkF m 205 #[.val (.int p0)] [(.int p0)])) rfl (hb hby d3_205) _ q)
      refine own_ite (fun hc207 => ?_) (fun hc207 => ?_)
      · refine own_st (T' := T) (f' := (mkF m 214 #[.val (.int p0)] [])) ?_ (fun t q => XS.icmpYes X.here hx rfl (pc0 := 207) (pc' := 214) rfl (hb hby d3_207) rfl (tlt hc207).2.2.1 (by decide) (by decide) q)
        refine own_st (T' := T) (f' := (mkF m 215 #[.val (.int p0)] [(.int (0 : Int32))])) ?_ (fun t q => XS.iconst X.here hx rfl (hb hby d3_214) q)
        exact own_retN X hx hlk (t := .boolean) Bd.returns (by simp) (hb hby d3_215) (by decide) (by decide) ⟨rfl, N, eh⟩
      · refine own_st (T' := T) (f' := (mkF m 210 #[.val (.int p0)] [])) ?_ (fun t q => XS.icmpNo X.here hx rfl (hb hby d3_207) rfl (flt hc207).2.2.1 q)
        refine own_st (T' := T) (f' := (mkF m 211 #[.val (.int p0)] [(.int (1 : Int32))])) ?_ (fun t q => XS.iconst X.here hx rfl (hb hby d3_210) q)
        refine own_st (T' := T) (f' := (mkF m 215 #[.val (.int p0)] [(.int (1 : Int32))])) ?_ (fun t q => XS.goto X.here hx rfl (pc0 := 211) (pc' := 215) rfl (hb hby d3_211) (by decide) (by decide) q)
        exact own_retN X hx hlk (t := .boolean) Bd.returns (by simp) (hb hby d3_215) (by decide) (by decide) ⟨rfl, N, eh⟩
  have B186 : ∀ (T : State) (locs : List Loc) (X : Stand p l e ({ frames := 0, cells := 0, slots := 0, locals := 0 } : Room) s m #[(.int p0)] below meth c T locs 0 0) (N : Fr n0 locs) (eh : T.heap = h0), own_W p e below s 0 0 (own_GI n0 (fun h => h = h0) (f3_186 p0)) T (mkF m 186 #[.val (.int p0)] []) := by
    intro T locs X N eh
    unfold f3_186
    refine own_st (T' := T) (f' := (mkF m 187 #[.val (.int p0)] [(.int p0)])) ?_ (fun t q => XS.iloadN X.here hx rfl (hb hby d3_186) rfl q)
    refine own_st (T' := T) (f' := (mkF m 189 #[.val (.int p0)] [(.int (65008 : Int32)), (.int p0)])) ?_ (fun t q => X.ldcInt hx hown (mvT hZ (hw _ (List.mem_of_getElem? (i := 15) rfl))) (g := (mkF m 187 #[.val (.int p0)] [(.int p0)])) rfl (hb hby d3_187) _ q)
    refine own_ite (fun hc189 => ?_) (fun hc189 => ?_)
    · refine own_st (T' := T) (f' := (mkF m 198 #[.val (.int p0)] [])) ?_ (fun t q => XS.icmpYes X.here hx rfl (pc0 := 189) (pc' := 198) rfl (hb hby d3_189) rfl (tlt hc189).1 (by decide) (by decide) q)
      exact B198 T _ X N eh
    · refine own_st (T' := T) (f' := (mkF m 192 #[.val (.int p0)] [])) ?_ (fun t q => XS.icmpNo X.here hx rfl (hb hby d3_189) rfl (flt hc189).1 q)
      refine own_st (T' := T) (f' := (mkF m 193 #[.val (.int p0)] [(.int p0)])) ?_ (fun t q => XS.iloadN X.here hx rfl (hb hby d3_192) rfl q)
      refine own_st (T' := T) (f' := (mkF m 195 #[.val (.int p0)] [(.int (65533 : Int32)), (.int p0)])) ?_ (fun t q => X.ldcInt hx hown (mvT hZ (hw _ (List.mem_of_getElem? (i := 16) rfl))) (g := (mkF m 193 #[.val (.int p0)] [(.int p0)])) rfl (hb hby d3_193) _ q)
      refine own_ite (fun hc195 => ?_) (fun hc195 => ?_)
      · refine own_st (T' := T) (f' := (mkF m 198 #[.val (.int p0)] [])) ?_ (fun t q => XS.icmpNo X.here hx rfl (hb hby d3_195) rfl (tlt hc195).2.2.2 q)
        exact B198 T _ X N eh
      · refine own_st (T' := T) (f' := (mkF m 210 #[.val (.int p0)] [])) ?_ (fun t q => XS.icmpYes X.here hx rfl (pc0 := 195) (pc' := 210) rfl (hb hby d3_195) rfl (flt hc195).2.2.2 (by decide) (by decide) q)
        refine own_st (T' := T) (f' := (mkF m 211 #[.val (.int p0)] [(.int (1 : Int32))])) ?_ (fun t q => XS.iconst X.here hx rfl (hb hby d3_210) q)
        refine own_st (T' := T) (f' := (mkF m 215 #[.val (.int p0)] [(.int (1 : Int32))])) ?_ (fun t q => XS.goto X.here hx rfl (pc0 := 211) (pc' := 215) rfl (hb hby d3_211) (by decide) (by decide) q)
        exact own_retN X hx hlk (t := .boolean) Bd.returns (by simp) (hb hby d3_215) (by decide) (by decide) ⟨rfl, N, eh⟩
  have B174 : ∀ (T : State) (locs : List Loc) (X : Stand p l e ({ frames := 0, cells := 0, slots := 0, locals := 0 } : Room) s m #[(.int p0)] below meth c T locs 0 0) (N : Fr n0 locs) (eh : T.heap = h0), own_W p e below s 0 0 (own_GI n0 (fun h => h = h0) (f3_174 p0)) T (mkF m 174 #[.val (.int p0)] []) := by
    intro T locs X N eh
    unfold f3_174
    refine own_st (T' := T) (f' := (mkF m 175 #[.val (.int p0)] [(.int p0)])) ?_ (fun t q => XS.iloadN X.here hx rfl (hb hby d3_174) rfl q)
    refine own_st (T' := T) (f' := (mkF m 177 #[.val (.int p0)] [(.int (63744 : Int32)), (.int p0)])) ?_ (fun t q => X.ldcInt hx hown (mvT hZ (hw _ (List.mem_of_getElem? (i := 13) rfl))) (g := (mkF m 175 #[.val (.int p0)] [(.int p0)])) rfl (hb hby d3_175) _ q)
    refine own_ite (fun hc177 => ?_) (fun hc177 => ?_)
    · refine own_st (T' := T) (f' := (mkF m 186 #[.val (.int p0)] [])) ?_ (fun t q => XS.icmpYes X.here hx rfl (pc0 := 177) (pc' := 186) rfl (hb hby d3_177) rfl (tlt hc177).1 (by decide) (by decide) q)
      exact B186 T _ X N eh
    · refine own_st (T' := T) (f' := (mkF m 180 #[.val (.int p0)] [])) ?_ (fun t q => XS.icmpNo X.here hx rfl (hb hby d3_177) rfl (flt hc177).1 q)
      refine own_st (T' := T) (f' := (mkF m 181 #[.val (.int p0)] [(.int p0)])) ?_ (fun t q => XS.iloadN X.here hx rfl (hb hby d3_180) rfl q)
      refine own_st (T' := T) (f' := (mkF m 183 #[.val (.int p0)] [(.int (64975 : Int32)), (.int p0)])) ?_ (fun t q => X.ldcInt hx hown (mvT hZ (hw _ (List.mem_of_getElem? (i := 14) rfl))) (g := (mkF m 181 #[.val (.int p0)] [(.int p0)])) rfl (hb hby d3_181) _ q)
      refine own_ite (fun hc183 => ?_) (fun hc183 => ?_)
      · refine own_st (T' := T) (f' := (mkF m 186 #[.val (.int p0)] [])) ?_ (fun t q => XS.icmpNo X.here hx rfl (hb hby d3_183) rfl (tlt hc183).2.2.2 q)
        exact B186 T _ X N eh
      · refine own_st (T' := T) (f' := (mkF m 210 #[.val (.int p0)] [])) ?_ (fun t q => XS.icmpYes X.here hx rfl (pc0 := 183) (pc' := 210) rfl (hb hby d3_183) rfl (flt hc183).2.2.2 (by decide) (by decide) q)
        refine own_st (T' := T) (f' := (mkF m 211 #[.val (.int p0)] [(.int (1 : Int32))])) ?_ (fun t q => XS.iconst X.here hx rfl (hb hby d3_210) q)
        refine own_st (T' := T) (f' := (mkF m 215 #[.val (.int p0)] [(.int (1 : Int32))])) ?_ (fun t q => XS.goto X.here hx rfl (pc0 := 211) (pc' := 215) rfl (hb hby d3_211) (by decide) (by decide) q)
        exact own_retN X hx hlk (t := .boolean) Bd.returns (by simp) (hb hby d3_215) (by decide) (by decide) ⟨rfl, N, eh⟩
  have B161 : ∀ (T : State) (locs : List Loc) (X : Stand p l e ({ frames := 0, cells := 0, slots := 0, locals := 0 } : Room) s m #[(.int p0)] below meth c T locs 0 0) (N : Fr n0 locs) (eh : T.heap = h0), own_W p e below s 0 0 (own_GI n0 (fun h => h = h0) (f3_161 p0)) T (mkF m 161 #[.val (.int p0)] []) := by
    intro T locs X N eh
    unfold f3_161
    refine own_st (T' := T) (f' := (mkF m 162 #[.val (.int p0)] [(.int p0)])) ?_ (fun t q => XS.iloadN X.here hx rfl (hb hby d3_161) rfl q)
    refine own_st (T' := T) (f' := (mkF m 165 #[.val (.int p0)] [(.int (12289 : Int32)), (.int p0)])) ?_ (fun t q => XS.sipush X.here hx rfl (hb hby d3_162) q)
    refine own_ite (fun hc165 => ?_) (fun hc165 => ?_)
    · refine own_st (T' := T) (f' := (mkF m 174 #[.val (.int p0)] [])) ?_ (fun t q => XS.icmpYes X.here hx rfl (pc0 := 165) (pc' := 174) rfl (hb hby d3_165) rfl (tlt hc165).1 (by decide) (by decide) q)
      exact B174 T _ X N eh
    · refine own_st (T' := T) (f' := (mkF m 168 #[.val (.int p0)] [])) ?_ (fun t q => XS.icmpNo X.here hx rfl (hb hby d3_165) rfl (flt hc165).1 q)
      refine own_st (T' := T) (f' := (mkF m 169 #[.val (.int p0)] [(.int p0)])) ?_ (fun t q => XS.iloadN X.here hx rfl (hb hby d3_168) rfl q)
      refine own_st (T' := T) (f' := (mkF m 171 #[.val (.int p0)] [(.int (55295 : Int32)), (.int p0)])) ?_ (fun t q => X.ldcInt hx hown (mvT hZ (hw _ (List.mem_of_getElem? (i := 12) rfl))) (g := (mkF m 169 #[.val (.int p0)] [(.int p0)])) rfl (hb hby d3_169) _ q)
      refine own_ite (fun hc171 => ?_) (fun hc171 => ?_)
      · refine own_st (T' := T) (f' := (mkF m 174 #[.val (.int p0)] [])) ?_ (fun t q => XS.icmpNo X.here hx rfl (hb hby d3_171) rfl (tlt hc171).2.2.2 q)
        exact B174 T _ X N eh
      · refine own_st (T' := T) (f' := (mkF m 210 #[.val (.int p0)] [])) ?_ (fun t q => XS.icmpYes X.here hx rfl (pc0 := 171) (pc' := 210) rfl (hb hby d3_171) rfl (flt hc171).2.2.2 (by decide) (by decide) q)
        refine own_st (T' := T) (f' := (mkF m 211 #[.val (.int p0)] [(.int (1 : Int32))])) ?_ (fun t q => XS.iconst X.here hx rfl (hb hby d3_210) q)
        refine own_st (T' := T) (f' := (mkF m 215 #[.val (.int p0)] [(.int (1 : Int32))])) ?_ (fun t q => XS.goto X.here hx rfl (pc0 := 211) (pc' := 215) rfl (hb hby d3_211) (by decide) (by decide) q)
        exact own_retN X hx hlk (t := .boolean) Bd.returns (by simp) (hb hby d3_215) (by decide) (by decide) ⟨rfl, N, eh⟩
  have B147 : ∀ (T : State) (locs : List Loc) (X : Stand p l e ({ frames := 0, cells := 0, slots := 0, locals := 0 } : Room) s m #[(.int p0)] below meth c T locs 0 0) (N : Fr n0 locs) (eh : T.heap = h0), own_W p e below s 0 0 (own_GI n0 (fun h => h = h0) (f3_147 p0)) T (mkF m 147 #[.val (.int p0)] []) := by
    intro T locs X N eh
    unfold f3_147
    refine own_st (T' := T) (f' := (mkF m 148 #[.val (.int p0)] [(.int p0)])) ?_ (fun t q => XS.iloadN X.here hx rfl (hb hby d3_147) rfl q)
    refine own_st (T' := T) (f' := (mkF m 151 #[.val (.int p0)] [(.int (11264 : Int32)), (.int p0)])) ?_ (fun t q => XS.sipush X.here hx rfl (hb hby d3_148) q)
    refine own_ite (fun hc151 => ?_) (fun hc151 => ?_)
    · refine own_st (T' := T) (f' := (mkF m 161 #[.val (.int p0)] [])) ?_ (fun t q => XS.icmpYes X.here hx rfl (pc0 := 151) (pc' := 161) rfl (hb hby d3_151) rfl (tlt hc151).1 (by decide) (by decide) q)
      exact B161 T _ X N eh
    · refine own_st (T' := T) (f' := (mkF m 154 #[.val (.int p0)] [])) ?_ (fun t q => XS.icmpNo X.here hx rfl (hb hby d3_151) rfl (flt hc151).1 q)
      refine own_st (T' := T) (f' := (mkF m 155 #[.val (.int p0)] [(.int p0)])) ?_ (fun t q => XS.iloadN X.here hx rfl (hb hby d3_154) rfl q)
      refine own_st (T' := T) (f' := (mkF m 158 #[.val (.int p0)] [(.int (12271 : Int32)), (.int p0)])) ?_ (fun t q => XS.sipush X.here hx rfl (hb hby d3_155) q)
      refine own_ite (fun hc158 => ?_) (fun hc158 => ?_)
      · refine own_st (T' := T) (f' := (mkF m 161 #[.val (.int p0)] [])) ?_ (fun t q => XS.icmpNo X.here hx rfl (hb hby d3_158) rfl (tlt hc158).2.2.2 q)
        exact B161 T _ X N eh
      · refine own_st (T' := T) (f' := (mkF m 210 #[.val (.int p0)] [])) ?_ (fun t q => XS.icmpYes X.here hx rfl (pc0 := 158) (pc' := 210) rfl (hb hby d3_158) rfl (flt hc158).2.2.2 (by decide) (by decide) q)
        refine own_st (T' := T) (f' := (mkF m 211 #[.val (.int p0)] [(.int (1 : Int32))])) ?_ (fun t q => XS.iconst X.here hx rfl (hb hby d3_210) q)
        refine own_st (T' := T) (f' := (mkF m 215 #[.val (.int p0)] [(.int (1 : Int32))])) ?_ (fun t q => XS.goto X.here hx rfl (pc0 := 211) (pc' := 215) rfl (hb hby d3_211) (by decide) (by decide) q)
        exact own_retN X hx hlk (t := .boolean) Bd.returns (by simp) (hb hby d3_215) (by decide) (by decide) ⟨rfl, N, eh⟩
  have B133 : ∀ (T : State) (locs : List Loc) (X : Stand p l e ({ frames := 0, cells := 0, slots := 0, locals := 0 } : Room) s m #[(.int p0)] below meth c T locs 0 0) (N : Fr n0 locs) (eh : T.heap = h0), own_W p e below s 0 0 (own_GI n0 (fun h => h = h0) (f3_133 p0)) T (mkF m 133 #[.val (.int p0)] []) := by
    intro T locs X N eh
    unfold f3_133
    refine own_st (T' := T) (f' := (mkF m 134 #[.val (.int p0)] [(.int p0)])) ?_ (fun t q => XS.iloadN X.here hx rfl (hb hby d3_133) rfl q)
    refine own_st (T' := T) (f' := (mkF m 137 #[.val (.int p0)] [(.int (8304 : Int32)), (.int p0)])) ?_ (fun t q => XS.sipush X.here hx rfl (hb hby d3_134) q)
    refine own_ite (fun hc137 => ?_) (fun hc137 => ?_)
    · refine own_st (T' := T) (f' := (mkF m 147 #[.val (.int p0)] [])) ?_ (fun t q => XS.icmpYes X.here hx rfl (pc0 := 137) (pc' := 147) rfl (hb hby d3_137) rfl (tlt hc137).1 (by decide) (by decide) q)
      exact B147 T _ X N eh
    · refine own_st (T' := T) (f' := (mkF m 140 #[.val (.int p0)] [])) ?_ (fun t q => XS.icmpNo X.here hx rfl (hb hby d3_137) rfl (flt hc137).1 q)
      refine own_st (T' := T) (f' := (mkF m 141 #[.val (.int p0)] [(.int p0)])) ?_ (fun t q => XS.iloadN X.here hx rfl (hb hby d3_140) rfl q)
      refine own_st (T' := T) (f' := (mkF m 144 #[.val (.int p0)] [(.int (8591 : Int32)), (.int p0)])) ?_ (fun t q => XS.sipush X.here hx rfl (hb hby d3_141) q)
      refine own_ite (fun hc144 => ?_) (fun hc144 => ?_)
      · refine own_st (T' := T) (f' := (mkF m 147 #[.val (.int p0)] [])) ?_ (fun t q => XS.icmpNo X.here hx rfl (hb hby d3_144) rfl (tlt hc144).2.2.2 q)
        exact B147 T _ X N eh
      · refine own_st (T' := T) (f' := (mkF m 210 #[.val (.int p0)] [])) ?_ (fun t q => XS.icmpYes X.here hx rfl (pc0 := 144) (pc' := 210) rfl (hb hby d3_144) rfl (flt hc144).2.2.2 (by decide) (by decide) q)
        refine own_st (T' := T) (f' := (mkF m 211 #[.val (.int p0)] [(.int (1 : Int32))])) ?_ (fun t q => XS.iconst X.here hx rfl (hb hby d3_210) q)
        refine own_st (T' := T) (f' := (mkF m 215 #[.val (.int p0)] [(.int (1 : Int32))])) ?_ (fun t q => XS.goto X.here hx rfl (pc0 := 211) (pc' := 215) rfl (hb hby d3_211) (by decide) (by decide) q)
        exact own_retN X hx hlk (t := .boolean) Bd.returns (by simp) (hb hby d3_215) (by decide) (by decide) ⟨rfl, N, eh⟩
  have B119 : ∀ (T : State) (locs : List Loc) (X : Stand p l e ({ frames := 0, cells := 0, slots := 0, locals := 0 } : Room) s m #[(.int p0)] below meth c T locs 0 0) (N : Fr n0 locs) (eh : T.heap = h0), own_W p e below s 0 0 (own_GI n0 (fun h => h = h0) (f3_119 p0)) T (mkF m 119 #[.val (.int p0)] []) := by
    intro T locs X N eh
    unfold f3_119
    refine own_st (T' := T) (f' := (mkF m 120 #[.val (.int p0)] [(.int p0)])) ?_ (fun t q => XS.iloadN X.here hx rfl (hb hby d3_119) rfl q)
    refine own_st (T' := T) (f' := (mkF m 123 #[.val (.int p0)] [(.int (8204 : Int32)), (.int p0)])) ?_ (fun t q => XS.sipush X.here hx rfl (hb hby d3_120) q)
    refine own_ite (fun hc123 => ?_) (fun hc123 => ?_)
    · refine own_st (T' := T) (f' := (mkF m 133 #[.val (.int p0)] [])) ?_ (fun t q => XS.icmpYes X.here hx rfl (pc0 := 123) (pc' := 133) rfl (hb hby d3_123) rfl (tlt hc123).1 (by decide) (by decide) q)
      exact B133 T _ X N eh
    · refine own_st (T' := T) (f' := (mkF m 126 #[.val (.int p0)] [])) ?_ (fun t q => XS.icmpNo X.here hx rfl (hb hby d3_123) rfl (flt hc123).1 q)
      refine own_st (T' := T) (f' := (mkF m 127 #[.val (.int p0)] [(.int p0)])) ?_ (fun t q => XS.iloadN X.here hx rfl (hb hby d3_126) rfl q)
      refine own_st (T' := T) (f' := (mkF m 130 #[.val (.int p0)] [(.int (8205 : Int32)), (.int p0)])) ?_ (fun t q => XS.sipush X.here hx rfl (hb hby d3_127) q)
      refine own_ite (fun hc130 => ?_) (fun hc130 => ?_)
      · refine own_st (T' := T) (f' := (mkF m 133 #[.val (.int p0)] [])) ?_ (fun t q => XS.icmpNo X.here hx rfl (hb hby d3_130) rfl (tlt hc130).2.2.2 q)
        exact B133 T _ X N eh
      · refine own_st (T' := T) (f' := (mkF m 210 #[.val (.int p0)] [])) ?_ (fun t q => XS.icmpYes X.here hx rfl (pc0 := 130) (pc' := 210) rfl (hb hby d3_130) rfl (flt hc130).2.2.2 (by decide) (by decide) q)
        refine own_st (T' := T) (f' := (mkF m 211 #[.val (.int p0)] [(.int (1 : Int32))])) ?_ (fun t q => XS.iconst X.here hx rfl (hb hby d3_210) q)
        refine own_st (T' := T) (f' := (mkF m 215 #[.val (.int p0)] [(.int (1 : Int32))])) ?_ (fun t q => XS.goto X.here hx rfl (pc0 := 211) (pc' := 215) rfl (hb hby d3_211) (by decide) (by decide) q)
        exact own_retN X hx hlk (t := .boolean) Bd.returns (by simp) (hb hby d3_215) (by decide) (by decide) ⟨rfl, N, eh⟩
  have B105 : ∀ (T : State) (locs : List Loc) (X : Stand p l e ({ frames := 0, cells := 0, slots := 0, locals := 0 } : Room) s m #[(.int p0)] below meth c T locs 0 0) (N : Fr n0 locs) (eh : T.heap = h0), own_W p e below s 0 0 (own_GI n0 (fun h => h = h0) (f3_105 p0)) T (mkF m 105 #[.val (.int p0)] []) := by
    intro T locs X N eh
    unfold f3_105
    refine own_st (T' := T) (f' := (mkF m 106 #[.val (.int p0)] [(.int p0)])) ?_ (fun t q => XS.iloadN X.here hx rfl (hb hby d3_105) rfl q)
    refine own_st (T' := T) (f' := (mkF m 109 #[.val (.int p0)] [(.int (895 : Int32)), (.int p0)])) ?_ (fun t q => XS.sipush X.here hx rfl (hb hby d3_106) q)
    refine own_ite (fun hc109 => ?_) (fun hc109 => ?_)
    · refine own_st (T' := T) (f' := (mkF m 119 #[.val (.int p0)] [])) ?_ (fun t q => XS.icmpYes X.here hx rfl (pc0 := 109) (pc' := 119) rfl (hb hby d3_109) rfl (tlt hc109).1 (by decide) (by decide) q)
      exact B119 T _ X N eh
    · refine own_st (T' := T) (f' := (mkF m 112 #[.val (.int p0)] [])) ?_ (fun t q => XS.icmpNo X.here hx rfl (hb hby d3_109) rfl (flt hc109).1 q)
      refine own_st (T' := T) (f' := (mkF m 113 #[.val (.int p0)] [(.int p0)])) ?_ (fun t q => XS.iloadN X.here hx rfl (hb hby d3_112) rfl q)
      refine own_st (T' := T) (f' := (mkF m 116 #[.val (.int p0)] [(.int (8191 : Int32)), (.int p0)])) ?_ (fun t q => XS.sipush X.here hx rfl (hb hby d3_113) q)
      refine own_ite (fun hc116 => ?_) (fun hc116 => ?_)
      · refine own_st (T' := T) (f' := (mkF m 119 #[.val (.int p0)] [])) ?_ (fun t q => XS.icmpNo X.here hx rfl (hb hby d3_116) rfl (tlt hc116).2.2.2 q)
        exact B119 T _ X N eh
      · refine own_st (T' := T) (f' := (mkF m 210 #[.val (.int p0)] [])) ?_ (fun t q => XS.icmpYes X.here hx rfl (pc0 := 116) (pc' := 210) rfl (hb hby d3_116) rfl (flt hc116).2.2.2 (by decide) (by decide) q)
        refine own_st (T' := T) (f' := (mkF m 211 #[.val (.int p0)] [(.int (1 : Int32))])) ?_ (fun t q => XS.iconst X.here hx rfl (hb hby d3_210) q)
        refine own_st (T' := T) (f' := (mkF m 215 #[.val (.int p0)] [(.int (1 : Int32))])) ?_ (fun t q => XS.goto X.here hx rfl (pc0 := 211) (pc' := 215) rfl (hb hby d3_211) (by decide) (by decide) q)
        exact own_retN X hx hlk (t := .boolean) Bd.returns (by simp) (hb hby d3_215) (by decide) (by decide) ⟨rfl, N, eh⟩
  have B91 : ∀ (T : State) (locs : List Loc) (X : Stand p l e ({ frames := 0, cells := 0, slots := 0, locals := 0 } : Room) s m #[(.int p0)] below meth c T locs 0 0) (N : Fr n0 locs) (eh : T.heap = h0), own_W p e below s 0 0 (own_GI n0 (fun h => h = h0) (f3_91 p0)) T (mkF m 91 #[.val (.int p0)] []) := by
    intro T locs X N eh
    unfold f3_91
    refine own_st (T' := T) (f' := (mkF m 92 #[.val (.int p0)] [(.int p0)])) ?_ (fun t q => XS.iloadN X.here hx rfl (hb hby d3_91) rfl q)
    refine own_st (T' := T) (f' := (mkF m 95 #[.val (.int p0)] [(.int (880 : Int32)), (.int p0)])) ?_ (fun t q => XS.sipush X.here hx rfl (hb hby d3_92) q)
    refine own_ite (fun hc95 => ?_) (fun hc95 => ?_)
    · refine own_st (T' := T) (f' := (mkF m 105 #[.val (.int p0)] [])) ?_ (fun t q => XS.icmpYes X.here hx rfl (pc0 := 95) (pc' := 105) rfl (hb hby d3_95) rfl (tlt hc95).1 (by decide) (by decide) q)
      exact B105 T _ X N eh
    · refine own_st (T' := T) (f' := (mkF m 98 #[.val (.int p0)] [])) ?_ (fun t q => XS.icmpNo X.here hx rfl (hb hby d3_95) rfl (flt hc95).1 q)
      refine own_st (T' := T) (f' := (mkF m 99 #[.val (.int p0)] [(.int p0)])) ?_ (fun t q => XS.iloadN X.here hx rfl (hb hby d3_98) rfl q)
      refine own_st (T' := T) (f' := (mkF m 102 #[.val (.int p0)] [(.int (893 : Int32)), (.int p0)])) ?_ (fun t q => XS.sipush X.here hx rfl (hb hby d3_99) q)
      refine own_ite (fun hc102 => ?_) (fun hc102 => ?_)
      · refine own_st (T' := T) (f' := (mkF m 105 #[.val (.int p0)] [])) ?_ (fun t q => XS.icmpNo X.here hx rfl (hb hby d3_102) rfl (tlt hc102).2.2.2 q)
        exact B105 T _ X N eh
      · refine own_st (T' := T) (f' := (mkF m 210 #[.val (.int p0)] [])) ?_ (fun t q => XS.icmpYes X.here hx rfl (pc0 := 102) (pc' := 210) rfl (hb hby d3_102) rfl (flt hc102).2.2.2 (by decide) (by decide) q)
        refine own_st (T' := T) (f' := (mkF m 211 #[.val (.int p0)] [(.int (1 : Int32))])) ?_ (fun t q => XS.iconst X.here hx rfl (hb hby d3_210) q)
        refine own_st (T' := T) (f' := (mkF m 215 #[.val (.int p0)] [(.int (1 : Int32))])) ?_ (fun t q => XS.goto X.here hx rfl (pc0 := 211) (pc' := 215) rfl (hb hby d3_211) (by decide) (by decide) q)
        exact own_retN X hx hlk (t := .boolean) Bd.returns (by simp) (hb hby d3_215) (by decide) (by decide) ⟨rfl, N, eh⟩
  have B77 : ∀ (T : State) (locs : List Loc) (X : Stand p l e ({ frames := 0, cells := 0, slots := 0, locals := 0 } : Room) s m #[(.int p0)] below meth c T locs 0 0) (N : Fr n0 locs) (eh : T.heap = h0), own_W p e below s 0 0 (own_GI n0 (fun h => h = h0) (f3_77 p0)) T (mkF m 77 #[.val (.int p0)] []) := by
    intro T locs X N eh
    unfold f3_77
    refine own_st (T' := T) (f' := (mkF m 78 #[.val (.int p0)] [(.int p0)])) ?_ (fun t q => XS.iloadN X.here hx rfl (hb hby d3_77) rfl q)
    refine own_st (T' := T) (f' := (mkF m 81 #[.val (.int p0)] [(.int (248 : Int32)), (.int p0)])) ?_ (fun t q => XS.sipush X.here hx rfl (hb hby d3_78) q)
    refine own_ite (fun hc81 => ?_) (fun hc81 => ?_)
    · refine own_st (T' := T) (f' := (mkF m 91 #[.val (.int p0)] [])) ?_ (fun t q => XS.icmpYes X.here hx rfl (pc0 := 81) (pc' := 91) rfl (hb hby d3_81) rfl (tlt hc81).1 (by decide) (by decide) q)
      exact B91 T _ X N eh
    · refine own_st (T' := T) (f' := (mkF m 84 #[.val (.int p0)] [])) ?_ (fun t q => XS.icmpNo X.here hx rfl (hb hby d3_81) rfl (flt hc81).1 q)
      refine own_st (T' := T) (f' := (mkF m 85 #[.val (.int p0)] [(.int p0)])) ?_ (fun t q => XS.iloadN X.here hx rfl (hb hby d3_84) rfl q)
      refine own_st (T' := T) (f' := (mkF m 88 #[.val (.int p0)] [(.int (767 : Int32)), (.int p0)])) ?_ (fun t q => XS.sipush X.here hx rfl (hb hby d3_85) q)
      refine own_ite (fun hc88 => ?_) (fun hc88 => ?_)
      · refine own_st (T' := T) (f' := (mkF m 91 #[.val (.int p0)] [])) ?_ (fun t q => XS.icmpNo X.here hx rfl (hb hby d3_88) rfl (tlt hc88).2.2.2 q)
        exact B91 T _ X N eh
      · refine own_st (T' := T) (f' := (mkF m 210 #[.val (.int p0)] [])) ?_ (fun t q => XS.icmpYes X.here hx rfl (pc0 := 88) (pc' := 210) rfl (hb hby d3_88) rfl (flt hc88).2.2.2 (by decide) (by decide) q)
        refine own_st (T' := T) (f' := (mkF m 211 #[.val (.int p0)] [(.int (1 : Int32))])) ?_ (fun t q => XS.iconst X.here hx rfl (hb hby d3_210) q)
        refine own_st (T' := T) (f' := (mkF m 215 #[.val (.int p0)] [(.int (1 : Int32))])) ?_ (fun t q => XS.goto X.here hx rfl (pc0 := 211) (pc' := 215) rfl (hb hby d3_211) (by decide) (by decide) q)
        exact own_retN X hx hlk (t := .boolean) Bd.returns (by simp) (hb hby d3_215) (by decide) (by decide) ⟨rfl, N, eh⟩
  have B63 : ∀ (T : State) (locs : List Loc) (X : Stand p l e ({ frames := 0, cells := 0, slots := 0, locals := 0 } : Room) s m #[(.int p0)] below meth c T locs 0 0) (N : Fr n0 locs) (eh : T.heap = h0), own_W p e below s 0 0 (own_GI n0 (fun h => h = h0) (f3_63 p0)) T (mkF m 63 #[.val (.int p0)] []) := by
    intro T locs X N eh
    unfold f3_63
    refine own_st (T' := T) (f' := (mkF m 64 #[.val (.int p0)] [(.int p0)])) ?_ (fun t q => XS.iloadN X.here hx rfl (hb hby d3_63) rfl q)
    refine own_st (T' := T) (f' := (mkF m 67 #[.val (.int p0)] [(.int (216 : Int32)), (.int p0)])) ?_ (fun t q => XS.sipush X.here hx rfl (hb hby d3_64) q)
    refine own_ite (fun hc67 => ?_) (fun hc67 => ?_)
    · refine own_st (T' := T) (f' := (mkF m 77 #[.val (.int p0)] [])) ?_ (fun t q => XS.icmpYes X.here hx rfl (pc0 := 67) (pc' := 77) rfl (hb hby d3_67) rfl (tlt hc67).1 (by decide) (by decide) q)
      exact B77 T _ X N eh
    · refine own_st (T' := T) (f' := (mkF m 70 #[.val (.int p0)] [])) ?_ (fun t q => XS.icmpNo X.here hx rfl (hb hby d3_67) rfl (flt hc67).1 q)
      refine own_st (T' := T) (f' := (mkF m 71 #[.val (.int p0)] [(.int p0)])) ?_ (fun t q => XS.iloadN X.here hx rfl (hb hby d3_70) rfl q)
      refine own_st (T' := T) (f' := (mkF m 74 #[.val (.int p0)] [(.int (246 : Int32)), (.int p0)])) ?_ (fun t q => XS.sipush X.here hx rfl (hb hby d3_71) q)
      refine own_ite (fun hc74 => ?_) (fun hc74 => ?_)
      · refine own_st (T' := T) (f' := (mkF m 77 #[.val (.int p0)] [])) ?_ (fun t q => XS.icmpNo X.here hx rfl (hb hby d3_74) rfl (tlt hc74).2.2.2 q)
        exact B77 T _ X N eh
      · refine own_st (T' := T) (f' := (mkF m 210 #[.val (.int p0)] [])) ?_ (fun t q => XS.icmpYes X.here hx rfl (pc0 := 74) (pc' := 210) rfl (hb hby d3_74) rfl (flt hc74).2.2.2 (by decide) (by decide) q)
        refine own_st (T' := T) (f' := (mkF m 211 #[.val (.int p0)] [(.int (1 : Int32))])) ?_ (fun t q => XS.iconst X.here hx rfl (hb hby d3_210) q)
        refine own_st (T' := T) (f' := (mkF m 215 #[.val (.int p0)] [(.int (1 : Int32))])) ?_ (fun t q => XS.goto X.here hx rfl (pc0 := 211) (pc' := 215) rfl (hb hby d3_211) (by decide) (by decide) q)
        exact own_retN X hx hlk (t := .boolean) Bd.returns (by simp) (hb hby d3_215) (by decide) (by decide) ⟨rfl, N, eh⟩
  have B31 : ∀ (T : State) (locs : List Loc) (X : Stand p l e ({ frames := 0, cells := 0, slots := 0, locals := 0 } : Room) s m #[(.int p0)] below meth c T locs 0 0) (N : Fr n0 locs) (eh : T.heap = h0), own_W p e below s 0 0 (own_GI n0 (fun h => h = h0) (f3_31 p0)) T (mkF m 31 #[.val (.int p0)] []) := by
    intro T locs X N eh
    unfold f3_31
    refine own_st (T' := T) (f' := (mkF m 32 #[.val (.int p0)] [(.int p0)])) ?_ (fun t q => XS.iloadN X.here hx rfl (hb hby d3_31) rfl q)
    refine own_st (T' := T) (f' := (mkF m 34 #[.val (.int p0)] [(.int (95 : Int32)), (.int p0)])) ?_ (fun t q => XS.bipush X.here hx rfl (hb hby d3_32) q)
    refine own_ite (fun hc34 => ?_) (fun hc34 => ?_)
    · refine own_st (T' := T) (f' := (mkF m 43 #[.val (.int p0)] [])) ?_ (fun t q => XS.icmpYes X.here hx rfl (pc0 := 34) (pc' := 43) rfl (hb hby d3_34) rfl (teq hc34).1 (by decide) (by decide) q)
      refine own_st (T' := T) (f' := (mkF m 44 #[.val (.int p0)] [(.int (1 : Int32))])) ?_ (fun t q => XS.iconst X.here hx rfl (hb hby d3_43) q)
      refine own_st (T' := T) (f' := (mkF m 48 #[.val (.int p0)] [(.int (1 : Int32))])) ?_ (fun t q => XS.goto X.here hx rfl (pc0 := 44) (pc' := 48) rfl (hb hby d3_44) (by decide) (by decide) q)
      exact own_retN X hx hlk (t := .boolean) Bd.returns (by simp) (hb hby d3_48) (by decide) (by decide) ⟨rfl, N, eh⟩
    · refine own_st (T' := T) (f' := (mkF m 37 #[.val (.int p0)] [])) ?_ (fun t q => XS.icmpNo X.here hx rfl (hb hby d3_34) rfl (feq hc34).1 q)
      refine own_st (T' := T) (f' := (mkF m 38 #[.val (.int p0)] [(.int p0)])) ?_ (fun t q => XS.iloadN X.here hx rfl (hb hby d3_37) rfl q)
      refine own_st (T' := T) (f' := (mkF m 40 #[.val (.int p0)] [(.int (58 : Int32)), (.int p0)])) ?_ (fun t q => XS.bipush X.here hx rfl (hb hby d3_38) q)
      refine own_ite (fun hc40 => ?_) (fun hc40 => ?_)
      · refine own_st (T' := T) (f' := (mkF m 43 #[.val (.int p0)] [])) ?_ (fun t q => XS.icmpNo X.here hx rfl (hb hby d3_40) rfl (teq hc40).2 q)
        refine own_st (T' := T) (f' := (mkF m 44 #[.val (.int p0)] [(.int (1 : Int32))])) ?_ (fun t q => XS.iconst X.here hx rfl (hb hby d3_43) q)
        refine own_st (T' := T) (f' := (mkF m 48 #[.val (.int p0)] [(.int (1 : Int32))])) ?_ (fun t q => XS.goto X.here hx rfl (pc0 := 44) (pc' := 48) rfl (hb hby d3_44) (by decide) (by decide) q)
        exact own_retN X hx hlk (t := .boolean) Bd.returns (by simp) (hb hby d3_48) (by decide) (by decide) ⟨rfl, N, eh⟩
      · refine own_st (T' := T) (f' := (mkF m 47 #[.val (.int p0)] [])) ?_ (fun t q => XS.icmpYes X.here hx rfl (pc0 := 40) (pc' := 47) rfl (hb hby d3_40) rfl (feq hc40).2 (by decide) (by decide) q)
        refine own_st (T' := T) (f' := (mkF m 48 #[.val (.int p0)] [(.int (0 : Int32))])) ?_ (fun t q => XS.iconst X.here hx rfl (hb hby d3_47) q)
        exact own_retN X hx hlk (t := .boolean) Bd.returns (by simp) (hb hby d3_48) (by decide) (by decide) ⟨rfl, N, eh⟩
  have B19 : ∀ (T : State) (locs : List Loc) (X : Stand p l e ({ frames := 0, cells := 0, slots := 0, locals := 0 } : Room) s m #[(.int p0)] below meth c T locs 0 0) (N : Fr n0 locs) (eh : T.heap = h0), own_W p e below s 0 0 (own_GI n0 (fun h => h = h0) (f3_19 p0)) T (mkF m 19 #[.val (.int p0)] []) := by
    intro T locs X N eh
    unfold f3_19
    refine own_st (T' := T) (f' := (mkF m 20 #[.val (.int p0)] [(.int p0)])) ?_ (fun t q => XS.iloadN X.here hx rfl (hb hby d3_19) rfl q)
    refine own_st (T' := T) (f' := (mkF m 22 #[.val (.int p0)] [(.int (65 : Int32)), (.int p0)])) ?_ (fun t q => XS.bipush X.here hx rfl (hb hby d3_20) q)
    refine own_ite (fun hc22 => ?_) (fun hc22 => ?_)
    · refine own_st (T' := T) (f' := (mkF m 31 #[.val (.int p0)] [])) ?_ (fun t q => XS.icmpYes X.here hx rfl (pc0 := 22) (pc' := 31) rfl (hb hby d3_22) rfl (tlt hc22).1 (by decide) (by decide) q)
      exact B31 T _ X N eh
    · refine own_st (T' := T) (f' := (mkF m 25 #[.val (.int p0)] [])) ?_ (fun t q => XS.icmpNo X.here hx rfl (hb hby d3_22) rfl (flt hc22).1 q)
      refine own_st (T' := T) (f' := (mkF m 26 #[.val (.int p0)] [(.int p0)])) ?_ (fun t q => XS.iloadN X.here hx rfl (hb hby d3_25) rfl q)
      refine own_st (T' := T) (f' := (mkF m 28 #[.val (.int p0)] [(.int (90 : Int32)), (.int p0)])) ?_ (fun t q => XS.bipush X.here hx rfl (hb hby d3_26) q)
      refine own_ite (fun hc28 => ?_) (fun hc28 => ?_)
      · refine own_st (T' := T) (f' := (mkF m 31 #[.val (.int p0)] [])) ?_ (fun t q => XS.icmpNo X.here hx rfl (hb hby d3_28) rfl (tlt hc28).2.2.2 q)
        exact B31 T _ X N eh
      · refine own_st (T' := T) (f' := (mkF m 43 #[.val (.int p0)] [])) ?_ (fun t q => XS.icmpYes X.here hx rfl (pc0 := 28) (pc' := 43) rfl (hb hby d3_28) rfl (flt hc28).2.2.2 (by decide) (by decide) q)
        refine own_st (T' := T) (f' := (mkF m 44 #[.val (.int p0)] [(.int (1 : Int32))])) ?_ (fun t q => XS.iconst X.here hx rfl (hb hby d3_43) q)
        refine own_st (T' := T) (f' := (mkF m 48 #[.val (.int p0)] [(.int (1 : Int32))])) ?_ (fun t q => XS.goto X.here hx rfl (pc0 := 44) (pc' := 48) rfl (hb hby d3_44) (by decide) (by decide) q)
        exact own_retN X hx hlk (t := .boolean) Bd.returns (by simp) (hb hby d3_48) (by decide) (by decide) ⟨rfl, N, eh⟩
  show own_W p e below s 0 0 (own_GI n0 (fun h => h = h0) (f3 p0)) s₁ (entryFrame m #[(.int p0)] 1)
  refine own_to (ef_3 m p0) ?_
  unfold f3
  refine own_st (T' := s₁) (f' := (mkF m 1 #[.val (.int p0)] [(.int p0)])) ?_ (fun t q => XS.iloadN X0.here hx rfl (hb hby d3_0) rfl q)
  refine own_st (T' := s₁) (f' := (mkF m 4 #[.val (.int p0)] [(.int (128 : Int32)), (.int p0)])) ?_ (fun t q => XS.sipush X0.here hx rfl (hb hby d3_1) q)
  refine own_ite (fun hc4 => ?_) (fun hc4 => ?_)
  · refine own_st (T' := s₁) (f' := (mkF m 7 #[.val (.int p0)] [])) ?_ (fun t q => XS.icmpNo X0.here hx rfl (hb hby d3_4) rfl (tlt hc4).2.1 q)
    refine own_st (T' := s₁) (f' := (mkF m 8 #[.val (.int p0)] [(.int p0)])) ?_ (fun t q => XS.iloadN X0.here hx rfl (hb hby d3_7) rfl q)
    refine own_st (T' := s₁) (f' := (mkF m 10 #[.val (.int p0)] [(.int (97 : Int32)), (.int p0)])) ?_ (fun t q => XS.bipush X0.here hx rfl (hb hby d3_8) q)
    refine own_ite (fun hc10 => ?_) (fun hc10 => ?_)
    · refine own_st (T' := s₁) (f' := (mkF m 19 #[.val (.int p0)] [])) ?_ (fun t q => XS.icmpYes X0.here hx rfl (pc0 := 10) (pc' := 19) rfl (hb hby d3_10) rfl (tlt hc10).1 (by decide) (by decide) q)
      exact B19 s₁ _ X0 N0 e0
    · refine own_st (T' := s₁) (f' := (mkF m 13 #[.val (.int p0)] [])) ?_ (fun t q => XS.icmpNo X0.here hx rfl (hb hby d3_10) rfl (flt hc10).1 q)
      refine own_st (T' := s₁) (f' := (mkF m 14 #[.val (.int p0)] [(.int p0)])) ?_ (fun t q => XS.iloadN X0.here hx rfl (hb hby d3_13) rfl q)
      refine own_st (T' := s₁) (f' := (mkF m 16 #[.val (.int p0)] [(.int (122 : Int32)), (.int p0)])) ?_ (fun t q => XS.bipush X0.here hx rfl (hb hby d3_14) q)
      refine own_ite (fun hc16 => ?_) (fun hc16 => ?_)
      · refine own_st (T' := s₁) (f' := (mkF m 19 #[.val (.int p0)] [])) ?_ (fun t q => XS.icmpNo X0.here hx rfl (hb hby d3_16) rfl (tlt hc16).2.2.2 q)
        exact B19 s₁ _ X0 N0 e0
      · refine own_st (T' := s₁) (f' := (mkF m 43 #[.val (.int p0)] [])) ?_ (fun t q => XS.icmpYes X0.here hx rfl (pc0 := 16) (pc' := 43) rfl (hb hby d3_16) rfl (flt hc16).2.2.2 (by decide) (by decide) q)
        refine own_st (T' := s₁) (f' := (mkF m 44 #[.val (.int p0)] [(.int (1 : Int32))])) ?_ (fun t q => XS.iconst X0.here hx rfl (hb hby d3_43) q)
        refine own_st (T' := s₁) (f' := (mkF m 48 #[.val (.int p0)] [(.int (1 : Int32))])) ?_ (fun t q => XS.goto X0.here hx rfl (pc0 := 44) (pc' := 48) rfl (hb hby d3_44) (by decide) (by decide) q)
        exact own_retN X0 hx hlk (t := .boolean) Bd.returns (by simp) (hb hby d3_48) (by decide) (by decide) ⟨rfl, N0, e0⟩
  · refine own_st (T' := s₁) (f' := (mkF m 49 #[.val (.int p0)] [])) ?_ (fun t q => XS.icmpYes X0.here hx rfl (pc0 := 4) (pc' := 49) rfl (hb hby d3_4) rfl (flt hc4).2.1 (by decide) (by decide) q)
    refine own_st (T' := s₁) (f' := (mkF m 50 #[.val (.int p0)] [(.int p0)])) ?_ (fun t q => XS.iloadN X0.here hx rfl (hb hby d3_49) rfl q)
    refine own_st (T' := s₁) (f' := (mkF m 53 #[.val (.int p0)] [(.int (192 : Int32)), (.int p0)])) ?_ (fun t q => XS.sipush X0.here hx rfl (hb hby d3_50) q)
    refine own_ite (fun hc53 => ?_) (fun hc53 => ?_)
    · refine own_st (T' := s₁) (f' := (mkF m 63 #[.val (.int p0)] [])) ?_ (fun t q => XS.icmpYes X0.here hx rfl (pc0 := 53) (pc' := 63) rfl (hb hby d3_53) rfl (tlt hc53).1 (by decide) (by decide) q)
      exact B63 s₁ _ X0 N0 e0
    · refine own_st (T' := s₁) (f' := (mkF m 56 #[.val (.int p0)] [])) ?_ (fun t q => XS.icmpNo X0.here hx rfl (hb hby d3_53) rfl (flt hc53).1 q)
      refine own_st (T' := s₁) (f' := (mkF m 57 #[.val (.int p0)] [(.int p0)])) ?_ (fun t q => XS.iloadN X0.here hx rfl (hb hby d3_56) rfl q)
      refine own_st (T' := s₁) (f' := (mkF m 60 #[.val (.int p0)] [(.int (214 : Int32)), (.int p0)])) ?_ (fun t q => XS.sipush X0.here hx rfl (hb hby d3_57) q)
      refine own_ite (fun hc60 => ?_) (fun hc60 => ?_)
      · refine own_st (T' := s₁) (f' := (mkF m 63 #[.val (.int p0)] [])) ?_ (fun t q => XS.icmpNo X0.here hx rfl (hb hby d3_60) rfl (tlt hc60).2.2.2 q)
        exact B63 s₁ _ X0 N0 e0
      · refine own_st (T' := s₁) (f' := (mkF m 210 #[.val (.int p0)] [])) ?_ (fun t q => XS.icmpYes X0.here hx rfl (pc0 := 60) (pc' := 210) rfl (hb hby d3_60) rfl (flt hc60).2.2.2 (by decide) (by decide) q)
        refine own_st (T' := s₁) (f' := (mkF m 211 #[.val (.int p0)] [(.int (1 : Int32))])) ?_ (fun t q => XS.iconst X0.here hx rfl (hb hby d3_210) q)
        refine own_st (T' := s₁) (f' := (mkF m 215 #[.val (.int p0)] [(.int (1 : Int32))])) ?_ (fun t q => XS.goto X0.here hx rfl (pc0 := 211) (pc' := 215) rfl (hb hby d3_211) (by decide) (by decide) q)
        exact own_retN X0 hx hlk (t := .boolean) Bd.returns (by simp) (hb hby d3_215) (by decide) (by decide) ⟨rfl, N0, e0⟩
theorem pd_1 : parseMethodDescriptor "(I)Z" = some ⟨[.int], some .boolean⟩ := by decide +kernel
theorem pn_0 : plainFor x = true := by first | exact plainFor_of_name (by first | (simp [plainName, overriddenIn]; done) | decide +kernel) | decide +kernel
theorem ef_0 (m : MethodId) (x0 : Int32) : entryFrame m #[(.int x0)] maxLocals = mkF m 0 #[.val (.int x0), .unset] [] := by first | (simp [entryFrame, mkF, argsToLocals, Value.category, maxLocals]; done) | rfl
def f0 (p0 : Int32) : Int32 := (if (f3 p0) = (f1 p0) then (1 : Int32) else (0 : Int32))
set_option maxRecDepth 65536 in
set_option maxHeartbeats 40000000 in
theorem rm0 (l : Launch) (Z : State) (a0 : Array Value) (hw : ∀ d ∈ tables_1, d.before a0 Z = true) (ws : List Jvm.Cond) (p0 : Int32) (h0 : Heap) (n0 : Nat) (Z0 : n0 ≤ h0.size) :
    MetFree l x (head1 (Jvm.Cond.code x code maxLocals ret :: ws) room_1) (fun a U => a = #[(.int p0)] ∧ Z.Warmed39 U.vm ∧ U.heap = h0) (fun _ _ _ _ _ => True) (fun _ U o U' => ∃ v L, o = .returned v ∧ own_GI n0 (fun h => h = h0) (f0 p0) v U'.heap L ∧ FrameEnd U o U' L 0 0) := by
  refine MetFree.of_bodySF pn_0 hisR ?_
  intro p e s m args below meth c s₁ Bd hml0 hP hK
  obtain ⟨rfl, hZ, hh⟩ := hP
  have hx := Bd.exec
  have hby := Bd.bytes
  have hml : c.maxLocals = 2 := hml0
  have hown : s.vm.findClass "com/example/holyrood/holyrood/XmlCharsIsNameStartCharPinLaw" = some m.cls := findClass_of_methodNamed Bd.named
  have hlk : meth.locks = false := BodyLoose.notSynchronized Bd
  have X0 : Stand p l e room_1 s m #[(.int p0)] below meth c s₁ [] 0 0 := Stand.of_body Bd
  have e0 : s₁.heap = h0 := by rw [← hh, Bd.state]; rfl
  have N0 := Fr.nil n0
  show own_W p e below s 0 0 (own_GI n0 (fun h => h = h0) (f0 p0)) s₁ (entryFrame m #[(.int p0)] maxLocals)
  refine own_to (ef_0 m p0) ?_
  unfold f0
  refine own_st (T' := s₁) (f' := (mkF m 1 #[.val (.int p0), .unset] [(.int p0)])) ?_ (fun t q => XS.iloadN X0.here hx rfl (hb hby at_0) rfl q)
  obtain ⟨_, _, ⟨T1, L1, k1, n1⟩, -, X1, ⟨Lc1, hQ1, l1, y1, z1⟩, st1⟩ := Jvm.LawKit.callS X0 hx (y := (⟨"com/example/holyrood/holyrood/XmlCharsIsNameStartCharPinLaw", "reference", "(I)Z"⟩ : MethodName)) hown (mvT hZ (hw _ (List.mem_of_getElem? (i := 0) rfl))) (mvT hZ (hw _ (List.mem_of_getElem? (i := 1) rfl))) (mvT hZ (hw _ (List.mem_of_getElem? (i := 2) rfl))) (mvT hZ (hw _ (List.mem_of_getElem? (i := 3) rfl))) (by decide) (backOf (W := 0) (rm1 l Z a0 hw [] p0 h0 n0) hZ (hw _ (List.mem_of_getElem? (i := 3) rfl)) (hw _ (List.mem_of_getElem? (i := 2) rfl)) (by decide) (by decide)) (g := (mkF m 1 #[.val (.int p0), .unset] [(.int p0)])) rfl (by rw [hml]; rfl) (argsL := [(.int p0)]) (rest := []) (lenOf pd_1 rfl) rfl (by show 2 * 0 + _ ≤ _; exact Nat.le_of_eq rfl) (hb hby at_1) (fun _ _ => ⟨rfl, e0, (Nat.le_of_ble_eq_true rfl), (Nat.le_of_ble_eq_true rfl)⟩)
  dsimp only [Pt.U, Pt.locs, Pt.cells, Pt.slots] at X1 l1 y1 z1 st1 hQ1
  subst l1 y1 z1
  obtain ⟨rfl, N1q, e1⟩ := hQ1
  have N1 := Fr.app N0 N1q
  refine own_st (T' := T1) (f' := (mkF m 4 #[.val (.int p0), .unset] [(.int (f1 p0))])) ?_ (fun t q => st1 _ q)
  refine own_st (T' := T1) (f' := (mkF m 5 #[.val (.int p0), .val (.int (f1 p0))] [])) ?_ (fun t q => XS.istoreN X1.here hx rfl (hb hby at_4) rfl (l' := #[.val (.int p0), .val (.int (f1 p0))]) rfl q)
  refine own_st (T' := T1) (f' := (mkF m 6 #[.val (.int p0), .val (.int (f1 p0))] [(.int p0)])) ?_ (fun t q => XS.iloadN X1.here hx rfl (hb hby at_5) rfl q)
  obtain ⟨_, _, ⟨T2, L2, k2, n2⟩, -, X2, ⟨Lc2, hQ2, l2, y2, z2⟩, st2⟩ := Jvm.LawKit.callS X1 hx (y := (⟨"com/example/holyrood/holyrood/XmlChars", "isNameStartChar", "(I)Z"⟩ : MethodName)) hown (mvT hZ (hw _ (List.mem_of_getElem? (i := 8) rfl))) (mvT hZ (hw _ (List.mem_of_getElem? (i := 9) rfl))) (mvT hZ (hw _ (List.mem_of_getElem? (i := 10) rfl))) (mvT hZ (hw _ (List.mem_of_getElem? (i := 11) rfl))) (by decide) (backOf (W := 0) (rm3 l Z a0 hw [] p0 h0 n0) hZ (hw _ (List.mem_of_getElem? (i := 11) rfl)) (hw _ (List.mem_of_getElem? (i := 10) rfl)) (by decide) (by decide)) (g := (mkF m 6 #[.val (.int p0), .val (.int (f1 p0))] [(.int p0)])) rfl (by rw [hml]; rfl) (argsL := [(.int p0)]) (rest := []) (lenOf pd_1 rfl) rfl (by show 2 * 0 + _ ≤ _; exact Nat.le_of_eq rfl) (hb hby at_6) (fun _ _ => ⟨rfl, e1, (Nat.le_of_ble_eq_true rfl), (Nat.le_of_ble_eq_true rfl)⟩)
  dsimp only [Pt.U, Pt.locs, Pt.cells, Pt.slots] at X2 l2 y2 z2 st2 hQ2
  subst l2 y2 z2
  obtain ⟨rfl, N2q, e2⟩ := hQ2
  have N2 := Fr.app N1 N2q
  refine own_st (T' := T2) (f' := (mkF m 9 #[.val (.int p0), .val (.int (f1 p0))] [(.int (f3 p0))])) ?_ (fun t q => st2 _ q)
  refine own_st (T' := T2) (f' := (mkF m 10 #[.val (.int p0), .val (.int (f1 p0))] [(.int (f1 p0)), (.int (f3 p0))])) ?_ (fun t q => XS.iloadN X2.here hx rfl (hb hby at_9) rfl q)
  refine own_ite (fun hc10 => ?_) (fun hc10 => ?_)
  · refine own_st (T' := T2) (f' := (mkF m 13 #[.val (.int p0), .val (.int (f1 p0))] [])) ?_ (fun t q => XS.icmpNo X2.here hx rfl (hb hby at_10) rfl (teq hc10).2 q)
    refine own_st (T' := T2) (f' := (mkF m 14 #[.val (.int p0), .val (.int (f1 p0))] [(.int (1 : Int32))])) ?_ (fun t q => XS.iconst X2.here hx rfl (hb hby at_13) q)
    refine own_st (T' := T2) (f' := (mkF m 18 #[.val (.int p0), .val (.int (f1 p0))] [(.int (1 : Int32))])) ?_ (fun t q => XS.goto X2.here hx rfl (pc0 := 14) (pc' := 18) rfl (hb hby at_14) (by decide) (by decide) q)
    exact own_retN X2 hx hlk (t := .boolean) Bd.returns (by simp) (hb hby at_18) (by decide) (by decide) ⟨rfl, N2, e2⟩
  · refine own_st (T' := T2) (f' := (mkF m 17 #[.val (.int p0), .val (.int (f1 p0))] [])) ?_ (fun t q => XS.icmpYes X2.here hx rfl (pc0 := 10) (pc' := 17) rfl (hb hby at_10) rfl (feq hc10).2 (by decide) (by decide) q)
    refine own_st (T' := T2) (f' := (mkF m 18 #[.val (.int p0), .val (.int (f1 p0))] [(.int (0 : Int32))])) ?_ (fun t q => XS.iconst X2.here hx rfl (hb hby at_17) q)
    exact own_retN X2 hx hlk (t := .boolean) Bd.returns (by simp) (hb hby at_18) (by decide) (by decide) ⟨rfl, N2, e2⟩

theorem own_f2 (c lo hi : Int32) : (f2 c lo hi = 0) = (c.toInt < lo.toInt ∨ hi.toInt < c.toInt) := by
  unfold f2
  rw [← Int32.lt_iff_toInt_lt, ← Int32.lt_iff_toInt_lt]
  split
  · simp [*]
  · split <;> simp [*]
theorem own_rng (c lo hi x : Int32) : ((if c < lo then x else (if hi < c then x else 1)) = 1) ↔ ((lo.toInt ≤ c.toInt ∧ c.toInt ≤ hi.toInt) ∨ x = 1) := by
  simp only [Int32.lt_iff_toInt_lt]
  by_cases h1 : c.toInt < lo.toInt
  · rw [if_pos h1]
    exact ⟨Or.inr, fun q => q.elim (fun q => absurd q.1 (by omega)) id⟩
  · rw [if_neg h1]
    by_cases h2 : hi.toInt < c.toInt
    · rw [if_pos h2]
      exact ⟨Or.inr, fun q => q.elim (fun q => absurd q.2 (by omega)) id⟩
    · rw [if_neg h2]
      exact ⟨fun _ => Or.inl ⟨by omega, by omega⟩, fun _ => rfl⟩
theorem own_b198 (c : Int32) : (f3_198 c = 1) ↔ (65536 ≤ c.toInt ∧ c.toInt ≤ 983039) := by
  unfold f3_198
  simp only [Int32.lt_iff_toInt_lt, Int32.reduceToInt]
  show ((if c.toInt < 65536 then (0 : Int32) else (if 983039 < c.toInt then 0 else 1)) = 1) ↔ _
  split
  · simp; omega
  · split
    · simp; omega
    · simp; omega
theorem own_b31 (c : Int32) : (f3_31 c = 1) ↔ (c.toInt = 95 ∨ c.toInt = 58) := by
  have e : ∀ k : Int32, (c = k) = (c.toInt = k.toInt) := fun k => propext Int32.toInt_inj.symm
  unfold f3_31
  simp only [e, Int32.reduceToInt]
  show ((if c.toInt = 95 then (1 : Int32) else (if c.toInt = 58 then 1 else 0)) = 1) ↔ _
  split
  · simp; omega
  · split
    · simp; omega
    · simp; omega
theorem own_b_f3_186 (c : Int32) : (f3_186 c = 1) ↔ ((65008 ≤ c.toInt ∧ c.toInt ≤ 65533) ∨ f3_198 c = 1) := own_rng c 65008 65533 (f3_198 c)
theorem own_b_f3_174 (c : Int32) : (f3_174 c = 1) ↔ ((63744 ≤ c.toInt ∧ c.toInt ≤ 64975) ∨ f3_186 c = 1) := own_rng c 63744 64975 (f3_186 c)
theorem own_b_f3_161 (c : Int32) : (f3_161 c = 1) ↔ ((12289 ≤ c.toInt ∧ c.toInt ≤ 55295) ∨ f3_174 c = 1) := own_rng c 12289 55295 (f3_174 c)
theorem own_b_f3_147 (c : Int32) : (f3_147 c = 1) ↔ ((11264 ≤ c.toInt ∧ c.toInt ≤ 12271) ∨ f3_161 c = 1) := own_rng c 11264 12271 (f3_161 c)
theorem own_b_f3_133 (c : Int32) : (f3_133 c = 1) ↔ ((8304 ≤ c.toInt ∧ c.toInt ≤ 8591) ∨ f3_147 c = 1) := own_rng c 8304 8591 (f3_147 c)
theorem own_b_f3_119 (c : Int32) : (f3_119 c = 1) ↔ ((8204 ≤ c.toInt ∧ c.toInt ≤ 8205) ∨ f3_133 c = 1) := own_rng c 8204 8205 (f3_133 c)
theorem own_b_f3_105 (c : Int32) : (f3_105 c = 1) ↔ ((895 ≤ c.toInt ∧ c.toInt ≤ 8191) ∨ f3_119 c = 1) := own_rng c 895 8191 (f3_119 c)
theorem own_b_f3_91 (c : Int32) : (f3_91 c = 1) ↔ ((880 ≤ c.toInt ∧ c.toInt ≤ 893) ∨ f3_105 c = 1) := own_rng c 880 893 (f3_105 c)
theorem own_b_f3_77 (c : Int32) : (f3_77 c = 1) ↔ ((248 ≤ c.toInt ∧ c.toInt ≤ 767) ∨ f3_91 c = 1) := own_rng c 248 767 (f3_91 c)
theorem own_b_f3_63 (c : Int32) : (f3_63 c = 1) ↔ ((216 ≤ c.toInt ∧ c.toInt ≤ 246) ∨ f3_77 c = 1) := own_rng c 216 246 (f3_77 c)
theorem own_b_f3_19 (c : Int32) : (f3_19 c = 1) ↔ ((65 ≤ c.toInt ∧ c.toInt ≤ 90) ∨ f3_31 c = 1) := own_rng c 65 90 (f3_31 c)
theorem own_b3 (c : Int32) : (f3 c = 1) ↔ ((c.toInt < 128 ∧ ((97 ≤ c.toInt ∧ c.toInt ≤ 122) ∨ f3_19 c = 1)) ∨ (128 ≤ c.toInt ∧ ((192 ≤ c.toInt ∧ c.toInt ≤ 214) ∨ f3_63 c = 1))) := by
  have h1 := own_rng c 97 122 (f3_19 c)
  have h2 := own_rng c 192 214 (f3_63 c)
  unfold f3
  by_cases q : c < 128
  · have q' : c.toInt < 128 := Int32.lt_iff_toInt_lt.mp q
    rw [if_pos q, h1]
    exact ⟨fun z => Or.inl ⟨q', z⟩, fun z => z.elim (fun z => z.2) (fun z => absurd z.1 (by omega))⟩
  · have q' : ¬ c.toInt < 128 := fun z => q (Int32.lt_iff_toInt_lt.mpr z)
    rw [if_neg q, h2]
    exact ⟨fun z => Or.inr ⟨by omega, z⟩, fun z => z.elim (fun z => absurd z.1 (by omega)) (fun z => z.2)⟩
theorem own_01 {A : Prop} [Decidable A] {x y : Int32} (hx : x = 0 ∨ x = 1) (hy : y = 0 ∨ y = 1) : (if A then x else y) = 0 ∨ (if A then x else y) = 1 := by split <;> assumption
theorem own_z : (0 : Int32) = 0 ∨ (0 : Int32) = 1 := Or.inl rfl
theorem own_o : (1 : Int32) = 0 ∨ (1 : Int32) = 1 := Or.inr rfl
theorem own_01_f3_198 (c : Int32) : f3_198 c = 0 ∨ f3_198 c = 1 := (own_01 own_z (own_01 own_z own_o))
theorem own_01_f3_186 (c : Int32) : f3_186 c = 0 ∨ f3_186 c = 1 := (own_01 (own_01_f3_198 c) (own_01 (own_01_f3_198 c) own_o))
theorem own_01_f3_174 (c : Int32) : f3_174 c = 0 ∨ f3_174 c = 1 := (own_01 (own_01_f3_186 c) (own_01 (own_01_f3_186 c) own_o))
theorem own_01_f3_161 (c : Int32) : f3_161 c = 0 ∨ f3_161 c = 1 := (own_01 (own_01_f3_174 c) (own_01 (own_01_f3_174 c) own_o))
theorem own_01_f3_147 (c : Int32) : f3_147 c = 0 ∨ f3_147 c = 1 := (own_01 (own_01_f3_161 c) (own_01 (own_01_f3_161 c) own_o))
theorem own_01_f3_133 (c : Int32) : f3_133 c = 0 ∨ f3_133 c = 1 := (own_01 (own_01_f3_147 c) (own_01 (own_01_f3_147 c) own_o))
theorem own_01_f3_119 (c : Int32) : f3_119 c = 0 ∨ f3_119 c = 1 := (own_01 (own_01_f3_133 c) (own_01 (own_01_f3_133 c) own_o))
theorem own_01_f3_105 (c : Int32) : f3_105 c = 0 ∨ f3_105 c = 1 := (own_01 (own_01_f3_119 c) (own_01 (own_01_f3_119 c) own_o))
theorem own_01_f3_91 (c : Int32) : f3_91 c = 0 ∨ f3_91 c = 1 := (own_01 (own_01_f3_105 c) (own_01 (own_01_f3_105 c) own_o))
theorem own_01_f3_77 (c : Int32) : f3_77 c = 0 ∨ f3_77 c = 1 := (own_01 (own_01_f3_91 c) (own_01 (own_01_f3_91 c) own_o))
theorem own_01_f3_63 (c : Int32) : f3_63 c = 0 ∨ f3_63 c = 1 := (own_01 (own_01_f3_77 c) (own_01 (own_01_f3_77 c) own_o))
theorem own_01_f3_31 (c : Int32) : f3_31 c = 0 ∨ f3_31 c = 1 := (own_01 own_o (own_01 own_o own_z))
theorem own_01_f3_19 (c : Int32) : f3_19 c = 0 ∨ f3_19 c = 1 := (own_01 (own_01_f3_31 c) (own_01 (own_01_f3_31 c) own_o))
theorem own_01_f3 (c : Int32) : f3 c = 0 ∨ f3 c = 1 := (own_01 (own_01 (own_01_f3_19 c) (own_01 (own_01_f3_19 c) own_o)) (own_01 (own_01_f3_63 c) (own_01 (own_01_f3_63 c) own_o)))
theorem own_eq (c : Int32) : f3 c = f1 c := by
  have hD := own_b3 c
  simp only [own_b_f3_19, own_b_f3_63, own_b_f3_77, own_b_f3_91, own_b_f3_105, own_b_f3_119, own_b_f3_133, own_b_f3_147, own_b_f3_161, own_b_f3_174, own_b_f3_186, own_b198, own_b31] at hD
  have e : ∀ k : Int32, (c = k) = (c.toInt = k.toInt) := fun k => propext Int32.toInt_inj.symm
  have h0 : f1_171 c = 0 := rfl
  have h1 : f1_176 c 0 = 1 := rfl
  have h3 := own_01_f3 c
  generalize f3 c = y at *
  simp only [f1, h0, h1, own_f2, e, Int32.reduceToInt]
  generalize c.toInt = z at *
  clear e
  have no : y = 0 → ¬ y = 1 := fun u v => absurd (u.symm.trans v) (by decide)
  by_cases q0 : z = 58
  · rw [if_pos q0]
    exact hD.mpr (by omega)
  · rw [if_neg q0]
    by_cases q1 : z = 95
    · rw [if_pos q1]
      exact hD.mpr (by omega)
    · rw [if_neg q1]
      by_cases q2 : z < 65 ∨ 90 < z
      · rw [if_pos q2]
        by_cases q3 : z < 97 ∨ 122 < z
        · rw [if_pos q3]
          by_cases q4 : z < 192 ∨ 983039 < z
          · rw [if_pos q4]
            exact h3.resolve_right (fun u => absurd (hD.mp u) (by omega))
          · rw [if_neg q4]
            by_cases q5 : z = 215
            · rw [if_pos q5]
              exact h3.resolve_right (fun u => absurd (hD.mp u) (by omega))
            · rw [if_neg q5]
              by_cases q6 : z = 247
              · rw [if_pos q6]
                exact h3.resolve_right (fun u => absurd (hD.mp u) (by omega))
              · rw [if_neg q6]
                by_cases q7 : z < 768 ∨ 879 < z
                · rw [if_pos q7]
                  by_cases q8 : z = 894
                  · rw [if_pos q8]
                    exact h3.resolve_right (fun u => absurd (hD.mp u) (by omega))
                  · rw [if_neg q8]
                    by_cases q9 : z < 8192 ∨ 8203 < z
                    · rw [if_pos q9]
                      by_cases q10 : z < 8206 ∨ 8303 < z
                      · rw [if_pos q10]
                        by_cases q11 : z < 8592 ∨ 11263 < z
                        · rw [if_pos q11]
                          by_cases q12 : z < 12272 ∨ 12288 < z
                          · rw [if_pos q12]
                            by_cases q13 : z < 55296 ∨ 63743 < z
                            · rw [if_pos q13]
                              by_cases q14 : z < 64976 ∨ 65007 < z
                              · rw [if_pos q14]
                                by_cases q15 : z < 65534 ∨ 65535 < z
                                · rw [if_pos q15]
                                  exact hD.mpr (by omega)
                                · rw [if_neg q15]
                                  exact h3.resolve_right (fun u => absurd (hD.mp u) (by omega))
                              · rw [if_neg q14]
                                exact h3.resolve_right (fun u => absurd (hD.mp u) (by omega))
                            · rw [if_neg q13]
                              exact h3.resolve_right (fun u => absurd (hD.mp u) (by omega))
                          · rw [if_neg q12]
                            exact h3.resolve_right (fun u => absurd (hD.mp u) (by omega))
                        · rw [if_neg q11]
                          exact h3.resolve_right (fun u => absurd (hD.mp u) (by omega))
                      · rw [if_neg q10]
                        exact h3.resolve_right (fun u => absurd (hD.mp u) (by omega))
                    · rw [if_neg q9]
                      exact h3.resolve_right (fun u => absurd (hD.mp u) (by omega))
                · rw [if_neg q7]
                  exact h3.resolve_right (fun u => absurd (hD.mp u) (by omega))
        · rw [if_neg q3]
          exact hD.mpr (by omega)
      · rw [if_neg q2]
        exact hD.mpr (by omega)
theorem own_law (c : Int32) : f0 c = 1 := by
  unfold f0
  rw [own_eq, if_pos rfl]
set_option maxRecDepth 65536 in
set_option maxHeartbeats 40000000 in
theorem comes_1 {Post : Tables → Env → Array Value → State → Outcome → State → Prop} (hpost : ∀ tb e args s v u, (limb_1_1.after args s (.returned v) u = true ∧ limb_1_2.after args s (.returned v) u = true ∧ True) → FrameEnd s (.returned v) u (Jvm.fieldLocs frame_1_writes args s ++ Jvm.arrayLocs frame_1_arrays args s ++ Jvm.staticLocs frame_1_statics s) 0 0 → Post tb e args s (.returned v) u) :
    ArmFor flags0 classFile x code maxLocals ret World_1 tables_1 room_1 Calls_1 rest_1 Pre_1 Post := by
  intro l hfl _ _ p e ha hc hk s m args below hf hA hF happ hP
  obtain ⟨hcalls, hrest, hpre⟩ := hP
  obtain ⟨-, -, -, hnamed, -, -, -, hat⟩ := (Spec.applies_iff hf).mp happ
  obtain ⟨hg, hn⟩ := and_e (Cond.before_iff.mp (show (Jvm.Cond.and given_1 narrow_1).before args s = true from hpre))
  obtain ⟨hcnt, g0⟩ := and_e hg
  have t0 := g0
  obtain ⟨w0, rfl⟩ : ∃ w0 : Value, args = #[w0] := by
    have hs : args.size = 1 := by simpa [Cond.value, given_1] using hcnt
    obtain ⟨L⟩ := args
    match L, hs with
    | [w0], _ => exact ⟨w0, rfl⟩
  have hw := fun d (hd : d ∈ tables_1) => atoms_spec (ws := Jvm.Cond.code x code maxLocals ret :: tables_1) hat d (List.mem_cons_of_mem _ hd)
  obtain ⟨i0, ei0⟩ := is_v t0
  obtain rfl : w0 = (.int i0) := Option.some.inj ei0
  obtain ⟨n, o, h1, h2, h3, v, L, rfl, ⟨hv, N, -⟩, hq⟩ := rm0 l s _ hw tables_1 i0 s.heap s.heap.size (Nat.le_refl _) p e ha hc hk s m _ below hf ((Spec.applies_iff_loose hf).mp happ).1 ⟨rfl, State.Warmed39.refl s, rfl⟩ trivial
  obtain rfl : v = some (.int 1) := by rw [hv, own_law]
  refine ⟨n, _, h1, h2, h3, hpost _ _ _ _ _ _ ⟨Cond.after_iff.mpr rfl, Cond.after_iff.mpr (eq_i res_at (Term.int_eval (1)) rfl), trivial⟩ ⟨hq.1, hq.2.1, (hq.2.2.sift fun y hy => Or.inr (N y hy)).mono (by decide) (by decide)⟩⟩
theorem main_1_1 : Claimed_1_1 := comes_1 fun _ _ _ _ _ _ h hF => ⟨h.1, hF⟩
theorem main_1_2 : Claimed_1_2 := comes_1 fun _ _ _ _ _ _ h hF => ⟨h.2.1, hF⟩
end Jvm.Pilot.@@N@@
namespace Jvm.Pilot.@@N@@
open Jvm Jvm.ClassFile Sem Op Lib Jvm.Free Jvm.Stand Jvm.Pilot.@@N@@.Jvm.D
/-! MADE BY PROGRAM (witnessworld.py) out of the Statement's table words and the real class files: 9 classes; the members and pool entries that the words name. The judged class is class 1, her method 1. -/
namespace start1
open Jvm.ClassFile
def u (s : String) : CpInfo := .utf8 (stringToUtf16 s)
/-- a pool by its gaps: so many unusable entries, then the entry; so many at the end -/
def gap : Nat → List CpInfo → List CpInfo
  | 0, r => r
  | n + 1, r => .unusable :: gap n r
def poolList (es : List (Nat × CpInfo)) (last : Nat) : List CpInfo := es.foldr (fun e r => gap e.1 (e.2 :: r)) (gap last [])
def pool (es : List (Nat × CpInfo)) (last : Nat) : Array CpInfo := ⟨poolList es last⟩
def fileOf (pool : Array CpInfo) (this : Nat) (attrs : Array Attribute := #[]) (ms : Array MethodInfo := #[]) (fl : Nat := 33) (sup : Nat := 0) (ifs : Array Nat := #[]) (fds : Array FieldInfo := #[]) : ClassFile where
  minorVersion := 0
  majorVersion := 65
  constantPool := pool
  accessFlags := fl
  thisClass := this
  superClass := sup
  interfaces := ifs
  fields := fds
  methods := ms
  attributes := attrs
def plain (name : String) (sup : Option ClassId) : Class where
  name := name
  kind := .ordinary
  loader := none
  accessFlags := 33
  super := sup
  interfaces := #[]
  cf := none
  fields := #[]
  methods := #[]
  instanceTypes := #[]
  staticTypes := #[]
  resolved := #[]
  callSites := []
  init := .initialized
  statics := none
  mirror := none

def pool0 : Array CpInfo := pool [(5, u "<init>"), (0, u "()V"), (1, .class_ 10), (1, u "java/lang/Object")] 113

def k0m0 : Method := { name := "<init>", desc := "()V", sig := { parameters := [], returnType := none }, accessFlags := 1, code := none }
/-- java/lang/Object -/
def k0 : Class := { plain "java/lang/Object" none with
  accessFlags := 33
  interfaces := #[]
  cf := some (fileOf pool0 8 #[] #[{ accessFlags := 1, nameIndex := 5, descriptorIndex := 6, attributes := #[] }] 33 0 #[] #[])
  fields := #[]
  methods := #[k0m0]
  instanceTypes := #[]
  staticTypes := #[]
  resolved := Array.replicate 124 none
  statics := none }

def pool1 : Array CpInfo := pool [(2, .class_ 4), (1, u "java/lang/Object"), (0, u "<init>"), (0, u "()V"), (0, .methodref 8 9), (0, .class_ 10), (0, .nameAndType 11 12), (0, u "com/example/holyrood/holyrood/XmlCharsIsNameStartCharPinLaw"), (0, u "reference"), (0, u "(I)Z"), (0, .methodref 14 15), (0, .class_ 16), (0, .nameAndType 17 12), (0, u "com/example/holyrood/holyrood/XmlChars"), (0, u "isNameStartChar"), (0, .methodref 8 19), (0, .nameAndType 20 21), (0, u "in"), (0, u "(III)Z"), (0, .integer 983039), (0, .integer 55296), (0, .integer 63743), (0, .integer 64976), (0, .integer 65007), (0, .integer 65534), (0, .integer 65535), (2, u "law")] 3

def k1m0 : Method := { name := "<init>", desc := "()V", sig := { parameters := [], returnType := none }, accessFlags := 2, code := none }
def k1c1 : Code := { maxStack := 2, maxLocals := 2, code := code, exceptionTable := #[], attributes := #[] }
def k1m1 : Method := { name := "law", desc := "(I)Z", sig := { parameters := [.int], returnType := some .boolean }, accessFlags := 9, code := some k1c1 }
def k1c2 : Code := { maxStack := 2, maxLocals := 3, code := method_3_code, exceptionTable := #[], attributes := #[] }
def k1m2 : Method := { name := "in", desc := "(III)Z", sig := { parameters := [.int, .int, .int], returnType := some .boolean }, accessFlags := 10, code := some k1c2 }
def k1c3 : Code := { maxStack := 3, maxLocals := 2, code := method_4_code, exceptionTable := #[], attributes := #[] }
def k1m3 : Method := { name := "reference", desc := "(I)Z", sig := { parameters := [.int], returnType := some .boolean }, accessFlags := 10, code := some k1c3 }
/-- com/example/holyrood/holyrood/XmlCharsIsNameStartCharPinLaw -/
def k1 : Class := { plain "com/example/holyrood/holyrood/XmlCharsIsNameStartCharPinLaw" (some 0) with
  accessFlags := 49
  interfaces := #[]
  cf := some (fileOf pool1 8 #[] #[{ accessFlags := 2, nameIndex := 5, descriptorIndex := 6, attributes := #[] }, { accessFlags := 9, nameIndex := 31, descriptorIndex := 12, attributes := #[] }, { accessFlags := 10, nameIndex := 20, descriptorIndex := 21, attributes := #[] }, { accessFlags := 10, nameIndex := 11, descriptorIndex := 12, attributes := #[] }] 49 2 #[] #[])
  fields := #[]
  methods := #[k1m0, k1m1, k1m2, k1m3]
  instanceTypes := #[]
  staticTypes := #[]
  resolved := Array.replicate 35 none
  statics := none }

def pool2 : Array CpInfo := pool [(2, .class_ 4), (1, u "java/lang/Object"), (0, u "<init>"), (0, u "()V"), (1, .class_ 10), (1, u "com/example/holyrood/holyrood/XmlChars"), (1, u "(I)Z"), (0, .integer 55295), (1, .integer 65533), (0, .integer 65536), (1, .integer 63744), (0, .integer 64975), (0, .integer 65008), (0, .integer 983039), (2, u "isNameStartChar")] 35

def k2m0 : Method := { name := "<init>", desc := "()V", sig := { parameters := [], returnType := none }, accessFlags := 2, code := none }
def k2c1 : Code := { maxStack := 2, maxLocals := 1, code := prog_86_method_5_code, exceptionTable := #[], attributes := #[] }
def k2m1 : Method := { name := "isNameStartChar", desc := "(I)Z", sig := { parameters := [.int], returnType := some .boolean }, accessFlags := 9, code := some k2c1 }
/-- com/example/holyrood/holyrood/XmlChars -/
def k2 : Class := { plain "com/example/holyrood/holyrood/XmlChars" (some 0) with
  accessFlags := 49
  interfaces := #[]
  cf := some (fileOf pool2 8 #[] #[{ accessFlags := 2, nameIndex := 5, descriptorIndex := 6, attributes := #[] }, { accessFlags := 9, nameIndex := 24, descriptorIndex := 12, attributes := #[] }] 49 2 #[] #[])
  fields := #[]
  methods := #[k2m0, k2m1]
  instanceTypes := #[]
  staticTypes := #[]
  resolved := Array.replicate 60 none
  statics := none }

def pool3 : Array CpInfo := pool [(1, u "java/lang/Cloneable"), (0, .class_ 1), (0, u "java/lang/Object"), (0, .class_ 3)] 3

/-- java/lang/Cloneable -/
def k3 : Class := { plain "java/lang/Cloneable" (some 0) with
  accessFlags := 1537
  interfaces := #[]
  cf := some (fileOf pool3 2 #[] #[] 1537 4 #[] #[])
  fields := #[]
  methods := #[]
  instanceTypes := #[]
  staticTypes := #[]
  resolved := Array.replicate 8 none
  statics := none }

def pool4 : Array CpInfo := pool [(1, u "java/io/Serializable"), (0, .class_ 1), (0, u "java/lang/Object"), (0, .class_ 3)] 3

/-- java/io/Serializable -/
def k4 : Class := { plain "java/io/Serializable" (some 0) with
  accessFlags := 1537
  interfaces := #[]
  cf := some (fileOf pool4 2 #[] #[] 1537 4 #[] #[])
  fields := #[]
  methods := #[]
  instanceTypes := #[]
  staticTypes := #[]
  resolved := Array.replicate 8 none
  statics := none }

/-- the primitive byte -/
def k5 : Class := { plain "byte" none with kind := .primitive 'B', accessFlags := 0x411 }
/-- [B -/
def k6 : Class := { plain "[B" (some 0) with kind := .array 5 .byte, interfaces := #[3, 4], accessFlags := 1041 }

/-- the primitive int -/
def k7 : Class := { plain "int" none with kind := .primitive 'I', accessFlags := 0x411 }
/-- [I -/
def k8 : Class := { plain "[I" (some 0) with kind := .array 7 .int, interfaces := #[3, 4], accessFlags := 1041 }

def heap : Heap := #[]
def classes : Array Class := #[k0, k1, k2, k3, k4, k5, k6, k7, k8]
def interned : List (Array UInt16 × Addr) := []
def slotsUsed : Nat := 0
def theMethod : MethodId := ⟨1, 1⟩
def args0 : Array Value := #[.int 5]
def aboutOver (below : List Frame) : State where
  vm := { classes := classes, interned := interned.toArray }
  heap := heap
  slotsUsed := slotsUsed
  threads := #[{ frames := .invoking theMethod args0 :: below }]
def below0 : List Frame := [.native { method := ⟨0, 0⟩, args := #[] }]
def about1 : State := aboutOver below0
def p0 : Program := .bare "" "" ""
def e0 : Env := launch0.env 0 0 0
theorem w_frames : about1.frames = Frame.invoking theMethod args0 :: below0 := rfl
set_option maxRecDepth 65536 in
theorem w_args : argsFit about1.vm theMethod args0 = true := by decide +kernel
set_option maxRecDepth 65536 in
theorem w_heap : heapFits about1 = true := by decide +kernel
set_option maxRecDepth 65536 in
theorem w_runnable : about1.curStatus? = some .runnable := by decide +kernel
set_option maxRecDepth 65536 in
theorem w_alone : about1.alone = true := by decide +kernel
set_option maxRecDepth 65536 in
theorem w_named : about1.methodNamed? x = some theMethod := by decide +kernel
set_option maxRecDepth 65536 in
theorem w_hears : about1.hears theMethod below0 = true := by decide +kernel
set_option maxRecDepth 65536 in
theorem w_ripe : about1.ripe theMethod args0 below0 = true := by decide +kernel
theorem w_running : about1.status = .running := rfl
set_option maxRecDepth 65536 in
theorem w_room : about1.hasRoom e0.platform room_1 = true :=
  launch0.hasRoom_least _ room_1 (by decide +kernel) (by decide +kernel) (by decide +kernel) (by decide +kernel) (by decide +kernel) (by decide +kernel)
theorem allAtoms_all (ts : List Jvm.Cond) (a : Array Jvm.Value) (st : Jvm.State) : (allAtoms ts).before a st = ts.all (fun c => c.before a st) := by
  induction ts with
  | nil => rfl
  | cons c t ih =>
    show (Jvm.Cond.and c (allAtoms t)).before a st = _
    rw [Jvm.Cond.before_and, ih, List.all_cons]
def words1 : List Jvm.Cond := Jvm.Cond.code x code maxLocals ret :: tables_1
/-- a 'code' word, met by the world's own term for the bytes: nothing is compared byte by byte -/
theorem code_word {y : MethodName} {bytes : ByteArray} {mx : Nat} {rt : Option FieldType} {a : Array Value} {s : State} {m : MethodId} {meth : Method} {c : Code} (h1 : s.methodNamed? y = some m) (h2 : s.vm.method? m = some meth) (h3 : meth.code = some c) (h4 : c.code = bytes)
    (h5 : (c.maxLocals == mx && c.exceptionTable.isEmpty && decide (c.maxStack ≤ mostOperands) && decide (meth.sig.returnType = rt) && !meth.locks && decide (parseMethodDescriptor y.desc = some meth.sig)) = true) : (Jvm.Cond.code y bytes mx rt).before a s = true := by
  simp only [Bool.and_eq_true, beq_iff_eq, Bool.not_eq_true', decide_eq_true_eq] at h5
  obtain ⟨⟨⟨⟨⟨g1, g2⟩, g3⟩, g4⟩, g5⟩, g6⟩ := h5
  simp [Cond.before, Cond.holds, Cond.value, h1, h2, h3, h4, g1, g2, g3, g4, g5, g6]
def isCode : Jvm.Cond → Bool
  | .code _ _ _ _ => true
  | _ => false
theorem all_split {L : List Jvm.Cond} {P : Jvm.Cond → Bool} (h1 : L.all (fun c => isCode c || P c) = true) (h2 : ∀ c ∈ L.filter isCode, P c = true) : L.all P = true := by
  refine List.all_eq_true.mpr fun c hc => ?_
  have h := List.all_eq_true.mp h1 c hc
  rcases Bool.eq_false_or_eq_true (isCode c) with hi | hi
  · exact h2 c (List.mem_filter.mpr ⟨hc, hi⟩)
  · simpa [hi] using h
set_option maxRecDepth 65536 in
theorem w_c0 : (Jvm.Cond.code x code maxLocals ret).before args0 about1 = true := code_word (m := ⟨1, 1⟩) (meth := k1m1) (c := k1c1) (by decide +kernel) rfl rfl rfl (by decide +kernel)
set_option maxRecDepth 65536 in
theorem w_c1 : (Jvm.Cond.code ({ cls := "com/example/holyrood/holyrood/XmlCharsIsNameStartCharPinLaw", name := "reference", desc := "(I)Z" } : Jvm.MethodName) method_4_code (2 : Nat) (Option.some Jvm.ClassFile.FieldType.boolean)).before args0 about1 = true := code_word (m := ⟨1, 3⟩) (meth := k1m3) (c := k1c3) (by decide +kernel) rfl rfl rfl (by decide +kernel)
set_option maxRecDepth 65536 in
theorem w_c2 : (Jvm.Cond.code ({ cls := "com/example/holyrood/holyrood/XmlCharsIsNameStartCharPinLaw", name := "in", desc := "(III)Z" } : Jvm.MethodName) method_3_code (3 : Nat) (Option.some Jvm.ClassFile.FieldType.boolean)).before args0 about1 = true := code_word (m := ⟨1, 2⟩) (meth := k1m2) (c := k1c2) (by decide +kernel) rfl rfl rfl (by decide +kernel)
set_option maxRecDepth 65536 in
theorem w_c3 : (Jvm.Cond.code ({ cls := "com/example/holyrood/holyrood/XmlChars", name := "isNameStartChar", desc := "(I)Z" } : Jvm.MethodName) prog_86_method_5_code (1 : Nat) (Option.some Jvm.ClassFile.FieldType.boolean)).before args0 about1 = true := code_word (m := ⟨2, 1⟩) (meth := k2m1) (c := k2c1) (by decide +kernel) rfl rfl rfl (by decide +kernel)
def codes1 : List Jvm.Cond := [Jvm.Cond.code x code maxLocals ret, Jvm.Cond.code ({ cls := "com/example/holyrood/holyrood/XmlCharsIsNameStartCharPinLaw", name := "reference", desc := "(I)Z" } : Jvm.MethodName) method_4_code (2 : Nat) (Option.some Jvm.ClassFile.FieldType.boolean), Jvm.Cond.code ({ cls := "com/example/holyrood/holyrood/XmlCharsIsNameStartCharPinLaw", name := "in", desc := "(III)Z" } : Jvm.MethodName) method_3_code (3 : Nat) (Option.some Jvm.ClassFile.FieldType.boolean), Jvm.Cond.code ({ cls := "com/example/holyrood/holyrood/XmlChars", name := "isNameStartChar", desc := "(I)Z" } : Jvm.MethodName) prog_86_method_5_code (1 : Nat) (Option.some Jvm.ClassFile.FieldType.boolean)]
set_option maxRecDepth 65536 in
theorem codes_eq : words1.filter isCode = codes1 := rfl
theorem w_codes : ∀ c ∈ words1.filter isCode, c.before args0 about1 = true := by
  rw [codes_eq]
  intro c hc
  simp only [codes1, List.mem_cons, List.not_mem_nil, or_false] at hc
  rcases hc with rfl | rfl | rfl | rfl
  · exact w_c0
  · exact w_c1
  · exact w_c2
  · exact w_c3
set_option maxRecDepth 65536 in
theorem w_t1 : (words1.take 24).all (fun c => isCode c || c.before args0 about1) = true := by decide +kernel
set_option maxRecDepth 65536 in
theorem w_t2 : (words1.drop 24).all (fun c => isCode c || c.before args0 about1) = true := by decide +kernel
theorem w_tables : (allAtoms (Jvm.Cond.code x code maxLocals ret :: tables_1)).before args0 about1 = true := by
  rw [allAtoms_all]
  show words1.all (fun c => c.before args0 about1) = true
  refine all_split ?_ w_codes
  rw [← List.take_append_drop 24 words1, List.all_append, w_t1, w_t2]
  rfl
set_option maxRecDepth 65536 in
theorem w_case : (Jvm.Cond.and given_1 narrow_1).before args0 about1 = true := by decide +kernel
theorem w_applies : (headSpec (Jvm.Cond.code x code maxLocals ret :: tables_1) room_1).applies x e0.platform about1 = true :=
  (Spec.applies_iff w_frames).mpr ⟨w_running, w_runnable, w_alone, w_named, w_hears, w_ripe, w_room, w_tables⟩
theorem atStart : AtStart classFile x code maxLocals ret World_1 tables_1 room_1 Calls_1 rest_1 Pre_1 launch0 p0 e0 about1 theMethod args0 below0 :=
  ⟨lists_1, trivial, launch0.admits_env _ _ _, launch0.least_env, fairChoices_fair.cas, fairChoices_fair.clock, w_frames, w_args, w_heap, w_applies, trivial, trivial, w_case⟩
end start1
theorem witness_1 : WitnessClaimed_1 := ⟨start1.p0, start1.e0, start1.about1, start1.theMethod, start1.args0, start1.below0, start1.atStart⟩
end Jvm.Pilot.@@N@@
