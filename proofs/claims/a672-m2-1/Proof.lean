import JvmDerived
import JvmDerived.Pilot.@@N@@Statement
import JvmDerived.Pilot.@@N@@Code
set_option linter.unusedVariables false
set_option linter.unusedSimpArgs false
@@BLOCK:NumsL.lean.txt@@
namespace Jvm.Pilot.@@N@@
open Jvm Jvm.ClassFile Sem Op Lib Jvm.Free Jvm.Stand Jvm.LawKit Jvm.RoadKit Bundle Jvm.Pilot.@@N@@.Jvm.D
section OwnKit
variable {p : Program} {l : Launch} {e : Env} {R : Room} {s : State} {m : MethodId} {args : Array Value} {below : List Frame} {meth : Method} {c : Code} {T T' : State} {locs : List Loc} {cells slots : Nat}
/-- from here the body comes to its end and leaves what Q says -/
def own_W (p : Program) (e : Env) (below : List Frame) (s : State) (k n : Nat) (Q : Option Value → Heap → List Loc → Prop) (T : State) (f : JFrame) : Prop :=
  ∃ s₂ o, Steps p.tables e below (T.setTop f) s₂ ∧ s₂.status = .running ∧ Ended s₂ below o ∧ ∃ v L, o = .returned v ∧ Q v s₂.heap L ∧ FrameEnd s o s₂ L k n
theorem own_st {k n : Nat} {Q : Option Value → Heap → List Loc → Prop} {f f' : JFrame} (w : own_W p e below s k n Q T' f') (h : ∀ t, Steps p.tables e below (T'.setTop f') t → Steps p.tables e below (T.setTop f) t) : own_W p e below s k n Q T f := by
  obtain ⟨s₂, o, h1, r⟩ := w
  exact ⟨s₂, o, h _ h1, r⟩
theorem own_to {k n : Nat} {Q : Option Value → Heap → List Loc → Prop} {f f' : JFrame} (q : f = f') (w : own_W p e below s k n Q T f') : own_W p e below s k n Q T f := q ▸ w
theorem own_ite {k n : Nat} {α : Type} {G : α → Option Value → Heap → List Loc → Prop} {f : JFrame} {A : Prop} [Decidable A] {x y : α} (h1 : A → own_W p e below s k n (G x) T f) (h2 : ¬ A → own_W p e below s k n (G y) T f) : own_W p e below s k n (G (if A then x else y)) T f := by
  by_cases q : A
  · rw [if_pos q]; exact h1 q
  · rw [if_neg q]; exact h2 q
/-- an int is returned, nothing old is written, the heap is as P says -/
def own_GI (n0 : Nat) (P : Heap → Prop) (r : Int32) (v : Option Value) (h : Heap) (L : List Loc) : Prop := v = some (.int r) ∧ Fr n0 L ∧ P h
def own_GJ (n0 : Nat) (P : Heap → Prop) (r : Int64) (v : Option Value) (h : Heap) (L : List Loc) : Prop := v = some (.long r) ∧ Fr n0 L ∧ P h
theorem own_retI {k n : Nat} {Q : Option Value → Heap → List Loc → Prop} (X : Stand p l e R s m args below meth c T locs cells slots) (hx : p.tables.exec = Jvm.exec) (hlk : meth.locks = false) (hret : meth.sig.returnType = some .int) {pc : Nat} {Ls : Array Slot} {z : Int32} {rest : List Value} (hd : decode c.code pc = .ok (.ireturn, 1)) (hk : cells ≤ k) (hn : slots ≤ n) (q : Q (some (.int z)) T.heap locs) : own_W p e below s k n Q T (mkF m pc Ls (.int z :: rest)) := by
  obtain ⟨fs, hr, hrun, hended, hW, hsame⟩ := X.leave (v := some (.int z)) (fun h => by rw [hret] at h; cases h) hlk
  exact ⟨_, _, retOut X hx hret rfl (Or.inl ⟨rfl, Or.inl rfl, z, rfl⟩) hd hr, hrun, hended, _, _, rfl, q, ⟨_, rfl⟩, hW, hsame.mono hk hn⟩
theorem own_retN {k n : Nat} {Q : Option Value → Heap → List Loc → Prop} (X : Stand p l e R s m args below meth c T locs cells slots) (hx : p.tables.exec = Jvm.exec) (hlk : meth.locks = false) {t : FieldType} (hret : meth.sig.returnType = some t) (ht : t = .boolean ∨ t = .byte ∨ t = .char ∨ t = .short) {pc : Nat} {Ls : Array Slot} {z : Int32} {rest : List Value} (hd : decode c.code pc = .ok (.ireturn, 1)) (hk : cells ≤ k) (hn : slots ≤ n) (q : Q (some (.int (nar t z))) T.heap locs) : own_W p e below s k n Q T (mkF m pc Ls (.int z :: rest)) := by
  obtain ⟨fs, hr, hrun, hended, hW, hsame⟩ := X.leave (v := some (.int (nar t z))) (fun h => by rw [hret] at h; cases h) hlk
  exact ⟨_, _, retN X hx hret ht hd hr, hrun, hended, _, _, rfl, q, ⟨_, rfl⟩, hW, hsame.mono hk hn⟩
theorem own_retJ {k n : Nat} {Q : Option Value → Heap → List Loc → Prop} (X : Stand p l e R s m args below meth c T locs cells slots) (hx : p.tables.exec = Jvm.exec) (hlk : meth.locks = false) (hret : meth.sig.returnType = some .long) {pc : Nat} {Ls : Array Slot} {z : Int64} {rest : List Value} (hd : decode c.code pc = .ok (.lreturn, 1)) (hk : cells ≤ k) (hn : slots ≤ n) (q : Q (some (.long z)) T.heap locs) : own_W p e below s k n Q T (mkF m pc Ls (.long z :: rest)) := by
  obtain ⟨fs, hr, hrun, hended, hW, hsame⟩ := X.leave (v := some (.long z)) (fun h => by rw [hret] at h; cases h) hlk
  exact ⟨_, _, retOut X hx hret rfl (Or.inr (Or.inl ⟨rfl, rfl, z, rfl⟩)) hd hr, hrun, hended, _, _, rfl, q, ⟨_, rfl⟩, hW, hsame.mono hk hn⟩
theorem own_retA {k n : Nat} {Q : Option Value → Heap → List Loc → Prop} (X : Stand p l e R s m args below meth c T locs cells slots) (hx : p.tables.exec = Jvm.exec) (hlk : meth.locks = false) {t : FieldType} (hret : meth.sig.returnType = some t) (ht : t.isReference = true) {pc : Nat} {Ls : Array Slot} {z : Addr} {rest : List Value} (hn' : narrow t (.ref z) = .ref z) (hd : decode c.code pc = .ok (.areturn, 1)) (hk : cells ≤ k) (hn : slots ≤ n) (q : Q (some (.ref z)) T.heap locs) : own_W p e below s k n Q T (mkF m pc Ls (.ref z :: rest)) := by
  obtain ⟨fs, hr, hrun, hended, hW, hsame⟩ := X.leave (v := some (.ref z)) (fun h => by rw [hret] at h; cases h) hlk
  exact ⟨_, _, retOut X hx hret hn' (Or.inr (Or.inr (Or.inr (Or.inr ⟨rfl, ht, rfl⟩)))) hd hr, hrun, hended, _, _, rfl, q, ⟨_, rfl⟩, hW, hsame.mono hk hn⟩
theorem own_retV {k n : Nat} {Q : Option Value → Heap → List Loc → Prop} (X : Stand p l e R s m args below meth c T locs cells slots) (hx : p.tables.exec = Jvm.exec) (hlk : meth.locks = false) (hret : meth.sig.returnType = none) {pc : Nat} {Ls : Array Slot} (hd : decode c.code pc = .ok (.return_, 1)) (hk : cells ≤ k) (hn : slots ≤ n) (q : Q none T.heap locs) : own_W p e below s k n Q T (mkF m pc Ls []) := by
  obtain ⟨fs, hr, hrun, hended, hW, hsame⟩ := X.leave (v := none) (fun _ => rfl) hlk
  exact ⟨_, _, X.returnOut hx hret hd hr, hrun, hended, _, _, rfl, q, ⟨_, rfl⟩, hW, hsame.mono hk hn⟩
end OwnKit
section OwnNums
theorem own_rem {x y : Int32} (hx : 0 ≤ x.toInt) (hy : 0 < y.toInt) : (x - (x / y) * y).toInt = x.toInt % y.toInt := by
  have hd : (x / y).toInt = x.toInt.tdiv y.toInt := Jvm.Kit.i32_div (by omega)
  rw [Int.tdiv_eq_ediv_of_nonneg hx] at hd
  have hxl := Int32.toInt_lt x
  have h1 : y.toInt * (x.toInt / y.toInt) + x.toInt % y.toInt = x.toInt := Int.mul_ediv_add_emod x.toInt y.toInt
  have h2 := Int.emod_nonneg x.toInt (by omega : y.toInt ≠ 0)
  have h3 := Int.emod_lt_of_pos x.toInt hy
  have h4 : (x / y).toInt * y.toInt = x.toInt - x.toInt % y.toInt := by rw [hd, Int.mul_comm]; omega
  have h6 := Int.mul_nonneg (Int.le_of_lt hy) (Int.ediv_nonneg hx (Int.le_of_lt hy))
  have h5 : x.toInt % y.toInt ≤ x.toInt := by omega
  have hm : ((x / y) * y).toInt = x.toInt - x.toInt % y.toInt := by
    rw [Jvm.Kit.i32_mul (by omega) (by omega), h4]
  rw [Jvm.Kit.i32_sub (by omega) (by omega), hm]; omega
theorem own_and31 (x : Int32) : (x &&& (2147483647 : Int32)).toInt = x.toInt % 2147483648 := Jvm.Kit.i32_mask x 2147483647 (k := 31) (by decide) (by decide)
theorem own_i8 (x : Int32) : -128 ≤ (x.toInt8.toInt32).toInt ∧ (x.toInt8.toInt32).toInt < 128 := by
  rw [Int8.toInt_toInt32]
  have h1 := Int8.le_toInt x.toInt8
  have h2 := Int8.toInt_lt x.toInt8
  omega
end OwnNums
theorem d1_0 : decode method_2_code 0 = .ok (.iload_n 0, 1) := by decide +kernel
theorem d1_1 : decode method_2_code 1 = .ok (.ifCond .ne 6, 3) := by decide +kernel
theorem d1_4 : decode method_2_code 4 = .ok (.bipush 115, 2) := by decide +kernel
theorem d1_6 : decode method_2_code 6 = .ok (.ireturn, 1) := by decide +kernel
theorem d1_7 : decode method_2_code 7 = .ok (.iload_n 0, 1) := by decide +kernel
theorem d1_8 : decode method_2_code 8 = .ok (.iconst 1, 1) := by decide +kernel
theorem d1_9 : decode method_2_code 9 = .ok (.if_icmp .ne 6, 3) := by decide +kernel
theorem d1_12 : decode method_2_code 12 = .ok (.bipush 109, 2) := by decide +kernel
theorem d1_14 : decode method_2_code 14 = .ok (.ireturn, 1) := by decide +kernel
theorem d1_15 : decode method_2_code 15 = .ok (.bipush 104, 2) := by decide +kernel
theorem d1_17 : decode method_2_code 17 = .ok (.ireturn, 1) := by decide +kernel
theorem pn_1 : plainFor (⟨"com/example/lease/lease/core/TtlUnitSecondsPinLaw", "unitAt", "(I)C"⟩ : MethodName) = true := by first | exact plainFor_of_name (by first | (simp [plainName, overriddenIn]; done) | decide +kernel) | decide +kernel
theorem ef_1 (m : MethodId) (x0 : Int32) : entryFrame m #[(.int x0)] 1 = mkF m 0 #[.val (.int x0)] [] := by first | (simp [entryFrame, mkF, argsToLocals, Value.category, maxLocals]; done) | rfl
def f1 (p0 : Int32) : Int32 := (if p0 = (0 : Int32) then (115 : Int32) else (if p0 = (1 : Int32) then (109 : Int32) else (104 : Int32)))
set_option maxRecDepth 65536 in
set_option maxHeartbeats 40000000 in
theorem rm1 (l : Launch) (Z : State) (a0 : Array Value) (hw : ∀ d ∈ tables_1, d.before a0 Z = true) (ws : List Jvm.Cond) (p0 : Int32) (h0 : Heap) (n0 : Nat) :
    MetFree l (⟨"com/example/lease/lease/core/TtlUnitSecondsPinLaw", "unitAt", "(I)C"⟩ : MethodName) (head1 (Jvm.Cond.code (⟨"com/example/lease/lease/core/TtlUnitSecondsPinLaw", "unitAt", "(I)C"⟩ : MethodName) method_2_code 1 (some .char) :: ws) ({ frames := 0, cells := 0, slots := 0, locals := 0 } : Room)) (fun a U => a = #[(.int p0)] ∧ Z.Warmed39 U.vm ∧ U.heap = h0) (fun _ _ _ _ _ => True) (fun _ U o U' => ∃ v L, o = .returned v ∧ own_GI n0 (fun h => h = h0) (f1 p0) v U'.heap L ∧ FrameEnd U o U' L ({ frames := 0, cells := 0, slots := 0, locals := 0 } : Room).cells ({ frames := 0, cells := 0, slots := 0, locals := 0 } : Room).slots) := by
  refine MetFree.of_bodySF pn_1 hisR ?_
  intro p e s m args below meth c s₁ Bd hml0 hP hK
  obtain ⟨rfl, hZ, hh⟩ := hP
  have hx := Bd.exec
  have hby := Bd.bytes
  have hml : c.maxLocals = 1 := hml0
  have hown : s.vm.findClass "com/example/lease/lease/core/TtlUnitSecondsPinLaw" = some m.cls := findClass_of_methodNamed Bd.named
  have hlk : meth.locks = false := BodyLoose.notSynchronized Bd
  have X0 : Stand p l e ({ frames := 0, cells := 0, slots := 0, locals := 0 } : Room) s m #[(.int p0)] below meth c s₁ [] 0 0 := Stand.of_body Bd
  have e0 : s₁.heap = h0 := by rw [← hh, Bd.state]; rfl
  have N0 := Fr.nil n0
  show own_W p e below s 0 0 (own_GI n0 (fun h => h = h0) (f1 p0)) s₁ (entryFrame m #[(.int p0)] 1)
  refine own_to (ef_1 m p0) ?_
  unfold f1
  refine own_st (T' := s₁) (f' := (mkF m 1 #[.val (.int p0)] [(.int p0)])) ?_ (fun t q => XS.iloadN X0.here hx rfl (hb hby d1_0) rfl q)
  refine own_ite (fun hc1 => ?_) (fun hc1 => ?_)
  · refine own_st (T' := s₁) (f' := (mkF m 4 #[.val (.int p0)] [])) ?_ (fun t q => XS.ifNo X0.here hx rfl (hb hby d1_1) rfl ((if0 _ _).trans (teq hc1).2) q)
    refine own_st (T' := s₁) (f' := (mkF m 6 #[.val (.int p0)] [(.int (115 : Int32))])) ?_ (fun t q => XS.bipush X0.here hx rfl (hb hby d1_4) q)
    exact own_retN X0 hx hlk (t := .char) Bd.returns (by simp) (hb hby d1_6) (by decide) (by decide) ⟨rfl, N0, e0⟩
  · refine own_st (T' := s₁) (f' := (mkF m 7 #[.val (.int p0)] [])) ?_ (fun t q => XS.ifYes X0.here hx rfl (pc0 := 1) (pc' := 7) rfl (hb hby d1_1) rfl ((if0 _ _).trans (feq hc1).2) (by decide) (by decide) q)
    refine own_st (T' := s₁) (f' := (mkF m 8 #[.val (.int p0)] [(.int p0)])) ?_ (fun t q => XS.iloadN X0.here hx rfl (hb hby d1_7) rfl q)
    refine own_st (T' := s₁) (f' := (mkF m 9 #[.val (.int p0)] [(.int (1 : Int32)), (.int p0)])) ?_ (fun t q => XS.iconst X0.here hx rfl (hb hby d1_8) q)
    refine own_ite (fun hc9 => ?_) (fun hc9 => ?_)
    · refine own_st (T' := s₁) (f' := (mkF m 12 #[.val (.int p0)] [])) ?_ (fun t q => XS.icmpNo X0.here hx rfl (hb hby d1_9) rfl (teq hc9).2 q)
      refine own_st (T' := s₁) (f' := (mkF m 14 #[.val (.int p0)] [(.int (109 : Int32))])) ?_ (fun t q => XS.bipush X0.here hx rfl (hb hby d1_12) q)
      exact own_retN X0 hx hlk (t := .char) Bd.returns (by simp) (hb hby d1_14) (by decide) (by decide) ⟨rfl, N0, e0⟩
    · refine own_st (T' := s₁) (f' := (mkF m 15 #[.val (.int p0)] [])) ?_ (fun t q => XS.icmpYes X0.here hx rfl (pc0 := 9) (pc' := 15) rfl (hb hby d1_9) rfl (feq hc9).2 (by decide) (by decide) q)
      refine own_st (T' := s₁) (f' := (mkF m 17 #[.val (.int p0)] [(.int (104 : Int32))])) ?_ (fun t q => XS.bipush X0.here hx rfl (hb hby d1_15) q)
      exact own_retN X0 hx hlk (t := .char) Bd.returns (by simp) (hb hby d1_17) (by decide) (by decide) ⟨rfl, N0, e0⟩
theorem d2_0 : decode prog_69_method_8_code 0 = .ok (.iload_n 0, 1) := by decide +kernel
theorem d2_1 : decode prog_69_method_8_code 1 = .ok (.lookupswitch 33 #[(109, 29), (115, 27)], 27) := by decide +kernel
theorem d2_28 : decode prog_69_method_8_code 28 = .ok (.lconst 1, 1) := by decide +kernel
theorem d2_29 : decode prog_69_method_8_code 29 = .ok (.lreturn, 1) := by decide +kernel
theorem d2_30 : decode prog_69_method_8_code 30 = .ok (.ldc2_w 130, 3) := by decide +kernel
theorem d2_33 : decode prog_69_method_8_code 33 = .ok (.lreturn, 1) := by decide +kernel
theorem d2_34 : decode prog_69_method_8_code 34 = .ok (.ldc2_w 132, 3) := by decide +kernel
theorem d2_37 : decode prog_69_method_8_code 37 = .ok (.lreturn, 1) := by decide +kernel
theorem pn_2 : plainFor (⟨"com/example/lease/lease/core/Ttl", "unitSeconds", "(C)J"⟩ : MethodName) = true := by first | exact plainFor_of_name (by first | (simp [plainName, overriddenIn]; done) | decide +kernel) | decide +kernel
theorem ef_2 (m : MethodId) (x0 : Int32) : entryFrame m #[(.int x0)] 1 = mkF m 0 #[.val (.int x0)] [] := by first | (simp [entryFrame, mkF, argsToLocals, Value.category, maxLocals]; done) | rfl
theorem own_miss_2_1 {x : Int32} (h0 : ¬ (x = (109 : Int32))) (h1 : ¬ (x = (115 : Int32))) : (#[(109, 29), (115, 27)] : Array (Int × Int)).find? (·.1 == x.toInt) = none := by
  refine find_miss fun q hq => ?_
  simp only [List.mem_cons, List.not_mem_nil, or_false] at hq
  rcases hq with rfl | rfl <;> (intro z; first | exact h0 (Int32.toInt_inj.mp (z.symm.trans (by decide))) | exact h1 (Int32.toInt_inj.mp (z.symm.trans (by decide))))
def f2 (p0 : Int32) : Int64 := (if p0 = (109 : Int32) then (60 : Int64) else (if p0 = (115 : Int32) then (1 : Int64) else (3600 : Int64)))
set_option maxRecDepth 65536 in
set_option maxHeartbeats 40000000 in
theorem rm2 (l : Launch) (Z : State) (a0 : Array Value) (hw : ∀ d ∈ tables_1, d.before a0 Z = true) (ws : List Jvm.Cond) (p0 : Int32) (h0 : Heap) (n0 : Nat) :
    MetFree l (⟨"com/example/lease/lease/core/Ttl", "unitSeconds", "(C)J"⟩ : MethodName) (head1 (Jvm.Cond.code (⟨"com/example/lease/lease/core/Ttl", "unitSeconds", "(C)J"⟩ : MethodName) prog_69_method_8_code 1 (some .long) :: ws) ({ frames := 0, cells := 0, slots := 0, locals := 0 } : Room)) (fun a U => a = #[(.int p0)] ∧ Z.Warmed39 U.vm ∧ U.heap = h0) (fun _ _ _ _ _ => True) (fun _ U o U' => ∃ v L, o = .returned v ∧ own_GJ n0 (fun h => h = h0) (f2 p0) v U'.heap L ∧ FrameEnd U o U' L ({ frames := 0, cells := 0, slots := 0, locals := 0 } : Room).cells ({ frames := 0, cells := 0, slots := 0, locals := 0 } : Room).slots) := by
  refine MetFree.of_bodySF pn_2 hisR ?_
  intro p e s m args below meth c s₁ Bd hml0 hP hK
  obtain ⟨rfl, hZ, hh⟩ := hP
  have hx := Bd.exec
  have hby := Bd.bytes
  have hml : c.maxLocals = 1 := hml0
  have hown : s.vm.findClass "com/example/lease/lease/core/Ttl" = some m.cls := findClass_of_methodNamed Bd.named
  have hlk : meth.locks = false := BodyLoose.notSynchronized Bd
  have X0 : Stand p l e ({ frames := 0, cells := 0, slots := 0, locals := 0 } : Room) s m #[(.int p0)] below meth c s₁ [] 0 0 := Stand.of_body Bd
  have e0 : s₁.heap = h0 := by rw [← hh, Bd.state]; rfl
  have N0 := Fr.nil n0
  show own_W p e below s 0 0 (own_GJ n0 (fun h => h = h0) (f2 p0)) s₁ (entryFrame m #[(.int p0)] 1)
  refine own_to (ef_2 m p0) ?_
  unfold f2
  refine own_st (T' := s₁) (f' := (mkF m 1 #[.val (.int p0)] [(.int p0)])) ?_ (fun t q => XS.iloadN X0.here hx rfl (hb hby d2_0) rfl q)
  refine own_ite (fun hc1_0 => ?_) (fun hc1_0 => ?_)
  · refine own_st (T' := s₁) (f' := (mkF m 30 #[.val (.int p0)] [])) ?_ (fun t q => X0.lookupswitchHit hx (g := (mkF m 1 #[.val (.int p0)] [(.int p0)])) rfl rfl (hb hby d2_1) (by decide) (a := 109) (off := 29) (by rw [hc1_0]; first | rfl | decide) (show (0 : Int) ≤ ((1 : Nat) : Int) + 29 by decide) _ q)
    refine own_st (T' := s₁) (f' := (mkF m 33 #[.val (.int p0)] [(.long (60 : Int64))])) ?_ (fun t q => X0.ldc2Long hx hown (mvT hZ (hw _ (List.mem_of_getElem? (i := 13) rfl))) (g := (mkF m 30 #[.val (.int p0)] [])) rfl (hb hby d2_30) _ q)
    exact own_retJ X0 hx hlk Bd.returns (hb hby d2_33) (by decide) (by decide) ⟨rfl, N0, e0⟩
  refine own_ite (fun hc1_1 => ?_) (fun hc1_1 => ?_)
  · refine own_st (T' := s₁) (f' := (mkF m 28 #[.val (.int p0)] [])) ?_ (fun t q => X0.lookupswitchHit hx (g := (mkF m 1 #[.val (.int p0)] [(.int p0)])) rfl rfl (hb hby d2_1) (by decide) (a := 115) (off := 27) (by rw [hc1_1]; first | rfl | decide) (show (0 : Int) ≤ ((1 : Nat) : Int) + 27 by decide) _ q)
    refine own_st (T' := s₁) (f' := (mkF m 29 #[.val (.int p0)] [(.long (1 : Int64))])) ?_ (fun t q => XS.lconst X0.here hx rfl (hb hby d2_28) q)
    exact own_retJ X0 hx hlk Bd.returns (hb hby d2_29) (by decide) (by decide) ⟨rfl, N0, e0⟩
  refine own_st (T' := s₁) (f' := (mkF m 34 #[.val (.int p0)] [])) ?_ (fun t q => X0.lookupswitchMiss hx (g := (mkF m 1 #[.val (.int p0)] [(.int p0)])) rfl rfl (hb hby d2_1) (by decide) (own_miss_2_1 hc1_0 hc1_1) (show (0 : Int) ≤ ((1 : Nat) : Int) + 33 by decide) _ q)
  refine own_st (T' := s₁) (f' := (mkF m 37 #[.val (.int p0)] [(.long (3600 : Int64))])) ?_ (fun t q => X0.ldc2Long hx hown (mvT hZ (hw _ (List.mem_of_getElem? (i := 12) rfl))) (g := (mkF m 34 #[.val (.int p0)] [])) rfl (hb hby d2_34) _ q)
  exact own_retJ X0 hx hlk Bd.returns (hb hby d2_37) (by decide) (by decide) ⟨rfl, N0, e0⟩
theorem d3_0 : decode method_3_code 0 = .ok (.iload_n 0, 1) := by decide +kernel
theorem d3_1 : decode method_3_code 1 = .ok (.ifCond .ne 5, 3) := by decide +kernel
theorem d3_4 : decode method_3_code 4 = .ok (.lconst 1, 1) := by decide +kernel
theorem d3_5 : decode method_3_code 5 = .ok (.lreturn, 1) := by decide +kernel
theorem d3_6 : decode method_3_code 6 = .ok (.iload_n 0, 1) := by decide +kernel
theorem d3_7 : decode method_3_code 7 = .ok (.iconst 1, 1) := by decide +kernel
theorem d3_8 : decode method_3_code 8 = .ok (.if_icmp .ne 7, 3) := by decide +kernel
theorem d3_11 : decode method_3_code 11 = .ok (.ldc2_w 7, 3) := by decide +kernel
theorem d3_14 : decode method_3_code 14 = .ok (.lreturn, 1) := by decide +kernel
theorem d3_15 : decode method_3_code 15 = .ok (.ldc2_w 9, 3) := by decide +kernel
theorem d3_18 : decode method_3_code 18 = .ok (.lreturn, 1) := by decide +kernel
theorem pn_3 : plainFor (⟨"com/example/lease/lease/core/TtlUnitSecondsPinLaw", "expected", "(I)J"⟩ : MethodName) = true := by first | exact plainFor_of_name (by first | (simp [plainName, overriddenIn]; done) | decide +kernel) | decide +kernel
theorem ef_3 (m : MethodId) (x0 : Int32) : entryFrame m #[(.int x0)] 1 = mkF m 0 #[.val (.int x0)] [] := by first | (simp [entryFrame, mkF, argsToLocals, Value.category, maxLocals]; done) | rfl
def f3 (p0 : Int32) : Int64 := (if p0 = (0 : Int32) then (1 : Int64) else (if p0 = (1 : Int32) then (60 : Int64) else (3600 : Int64)))
set_option maxRecDepth 65536 in
set_option maxHeartbeats 40000000 in
theorem rm3 (l : Launch) (Z : State) (a0 : Array Value) (hw : ∀ d ∈ tables_1, d.before a0 Z = true) (ws : List Jvm.Cond) (p0 : Int32) (h0 : Heap) (n0 : Nat) :
    MetFree l (⟨"com/example/lease/lease/core/TtlUnitSecondsPinLaw", "expected", "(I)J"⟩ : MethodName) (head1 (Jvm.Cond.code (⟨"com/example/lease/lease/core/TtlUnitSecondsPinLaw", "expected", "(I)J"⟩ : MethodName) method_3_code 1 (some .long) :: ws) ({ frames := 0, cells := 0, slots := 0, locals := 0 } : Room)) (fun a U => a = #[(.int p0)] ∧ Z.Warmed39 U.vm ∧ U.heap = h0) (fun _ _ _ _ _ => True) (fun _ U o U' => ∃ v L, o = .returned v ∧ own_GJ n0 (fun h => h = h0) (f3 p0) v U'.heap L ∧ FrameEnd U o U' L ({ frames := 0, cells := 0, slots := 0, locals := 0 } : Room).cells ({ frames := 0, cells := 0, slots := 0, locals := 0 } : Room).slots) := by
  refine MetFree.of_bodySF pn_3 hisR ?_
  intro p e s m args below meth c s₁ Bd hml0 hP hK
  obtain ⟨rfl, hZ, hh⟩ := hP
  have hx := Bd.exec
  have hby := Bd.bytes
  have hml : c.maxLocals = 1 := hml0
  have hown : s.vm.findClass "com/example/lease/lease/core/TtlUnitSecondsPinLaw" = some m.cls := findClass_of_methodNamed Bd.named
  have hlk : meth.locks = false := BodyLoose.notSynchronized Bd
  have X0 : Stand p l e ({ frames := 0, cells := 0, slots := 0, locals := 0 } : Room) s m #[(.int p0)] below meth c s₁ [] 0 0 := Stand.of_body Bd
  have e0 : s₁.heap = h0 := by rw [← hh, Bd.state]; rfl
  have N0 := Fr.nil n0
  show own_W p e below s 0 0 (own_GJ n0 (fun h => h = h0) (f3 p0)) s₁ (entryFrame m #[(.int p0)] 1)
  refine own_to (ef_3 m p0) ?_
  unfold f3
  refine own_st (T' := s₁) (f' := (mkF m 1 #[.val (.int p0)] [(.int p0)])) ?_ (fun t q => XS.iloadN X0.here hx rfl (hb hby d3_0) rfl q)
  refine own_ite (fun hc1 => ?_) (fun hc1 => ?_)
  · refine own_st (T' := s₁) (f' := (mkF m 4 #[.val (.int p0)] [])) ?_ (fun t q => XS.ifNo X0.here hx rfl (hb hby d3_1) rfl ((if0 _ _).trans (teq hc1).2) q)
    refine own_st (T' := s₁) (f' := (mkF m 5 #[.val (.int p0)] [(.long (1 : Int64))])) ?_ (fun t q => XS.lconst X0.here hx rfl (hb hby d3_4) q)
    exact own_retJ X0 hx hlk Bd.returns (hb hby d3_5) (by decide) (by decide) ⟨rfl, N0, e0⟩
  · refine own_st (T' := s₁) (f' := (mkF m 6 #[.val (.int p0)] [])) ?_ (fun t q => XS.ifYes X0.here hx rfl (pc0 := 1) (pc' := 6) rfl (hb hby d3_1) rfl ((if0 _ _).trans (feq hc1).2) (by decide) (by decide) q)
    refine own_st (T' := s₁) (f' := (mkF m 7 #[.val (.int p0)] [(.int p0)])) ?_ (fun t q => XS.iloadN X0.here hx rfl (hb hby d3_6) rfl q)
    refine own_st (T' := s₁) (f' := (mkF m 8 #[.val (.int p0)] [(.int (1 : Int32)), (.int p0)])) ?_ (fun t q => XS.iconst X0.here hx rfl (hb hby d3_7) q)
    refine own_ite (fun hc8 => ?_) (fun hc8 => ?_)
    · refine own_st (T' := s₁) (f' := (mkF m 11 #[.val (.int p0)] [])) ?_ (fun t q => XS.icmpNo X0.here hx rfl (hb hby d3_8) rfl (teq hc8).2 q)
      refine own_st (T' := s₁) (f' := (mkF m 14 #[.val (.int p0)] [(.long (60 : Int64))])) ?_ (fun t q => X0.ldc2Long hx hown (mvT hZ (hw _ (List.mem_of_getElem? (i := 15) rfl))) (g := (mkF m 11 #[.val (.int p0)] [])) rfl (hb hby d3_11) _ q)
      exact own_retJ X0 hx hlk Bd.returns (hb hby d3_14) (by decide) (by decide) ⟨rfl, N0, e0⟩
    · refine own_st (T' := s₁) (f' := (mkF m 15 #[.val (.int p0)] [])) ?_ (fun t q => XS.icmpYes X0.here hx rfl (pc0 := 8) (pc' := 15) rfl (hb hby d3_8) rfl (feq hc8).2 (by decide) (by decide) q)
      refine own_st (T' := s₁) (f' := (mkF m 18 #[.val (.int p0)] [(.long (3600 : Int64))])) ?_ (fun t q => X0.ldc2Long hx hown (mvT hZ (hw _ (List.mem_of_getElem? (i := 14) rfl))) (g := (mkF m 15 #[.val (.int p0)] [])) rfl (hb hby d3_15) _ q)
      exact own_retJ X0 hx hlk Bd.returns (hb hby d3_18) (by decide) (by decide) ⟨rfl, N0, e0⟩
theorem pd_0 : parseMethodDescriptor "(I)C" = some ⟨[.int], some .char⟩ := by decide +kernel
theorem pd_1 : parseMethodDescriptor "(C)J" = some ⟨[.char], some .long⟩ := by decide +kernel
theorem pd_2 : parseMethodDescriptor "(I)J" = some ⟨[.int], some .long⟩ := by decide +kernel
theorem pn_0 : plainFor x = true := by first | exact plainFor_of_name (by first | (simp [plainName, overriddenIn]; done) | decide +kernel) | decide +kernel
theorem ef_0 (m : MethodId) (x0 : Int32) (x1 : Int32) : entryFrame m #[(.int x0), (.int x1)] maxLocals = mkF m 0 #[.val (.int x0), .val (.int x1), .unset, .unset, .unset, .unset, .unset, .unset, .unset, .unset] [] := by first | (simp [entryFrame, mkF, argsToLocals, Value.category, maxLocals]; done) | rfl
def f0_116 (p0 : Int32) (p1 : Int32) (g8_116 : Int32) (g100_116 : Int32) : Int32 := (if g8_116 = (0 : Int32) then (0 : Int32) else (if g100_116 = (0 : Int32) then (0 : Int32) else (1 : Int32)))
def f0_115 (p0 : Int32) (p1 : Int32) (g8_115 : Int32) : Int32 := (f0_116 p0 p1 g8_115 (0 : Int32))
def f0_108 (p0 : Int32) (p1 : Int32) (g8_108 : Int32) (g100_108 : Int32) (g101_108 : Int32) : Int32 := (if g101_108 = g100_108 then (f0_116 p0 p1 g8_108 (1 : Int32)) else (f0_115 p0 p1 g8_108))
def f0_95 (p0 : Int32) (p1 : Int32) (g8_95 : Int32) (g100_95 : Int32) : Int32 := (if (f2 (f1 ((p0 &&& (2147483647 : Int32)) - ((p0 &&& (2147483647 : Int32)) / (3 : Int32)) * (3 : Int32)))) = (f2 (f1 ((p1 &&& (2147483647 : Int32)) - ((p1 &&& (2147483647 : Int32)) / (3 : Int32)) * (3 : Int32)))) then (f0_108 p0 p1 g8_95 (1 : Int32) g100_95) else (f0_108 p0 p1 g8_95 (0 : Int32) g100_95))
def f0_82 (p0 : Int32) (p1 : Int32) (g8_82 : Int32) (g100_82 : Int32) (g101_82 : Int32) : Int32 := (if g101_82 = g100_82 then (if ((p0 &&& (2147483647 : Int32)) - ((p0 &&& (2147483647 : Int32)) / (3 : Int32)) * (3 : Int32)) = ((p1 &&& (2147483647 : Int32)) - ((p1 &&& (2147483647 : Int32)) / (3 : Int32)) * (3 : Int32)) then (f0_95 p0 p1 g8_82 (1 : Int32)) else (f0_95 p0 p1 g8_82 (0 : Int32))) else (f0_115 p0 p1 g8_82))
def f0_69 (p0 : Int32) (p1 : Int32) (g8_69 : Int32) (g100_69 : Int32) : Int32 := (if (f2 (f1 ((p0 &&& (2147483647 : Int32)) - ((p0 &&& (2147483647 : Int32)) / (3 : Int32)) * (3 : Int32)))) < (f2 (f1 ((p1 &&& (2147483647 : Int32)) - ((p1 &&& (2147483647 : Int32)) / (3 : Int32)) * (3 : Int32)))) then (f0_82 p0 p1 g8_69 (1 : Int32) g100_69) else (f0_82 p0 p1 g8_69 (0 : Int32) g100_69))
def f0_57 (p0 : Int32) (p1 : Int32) (g100_57 : Int32) : Int32 := (if ((p0 &&& (2147483647 : Int32)) - ((p0 &&& (2147483647 : Int32)) / (3 : Int32)) * (3 : Int32)) < ((p1 &&& (2147483647 : Int32)) - ((p1 &&& (2147483647 : Int32)) / (3 : Int32)) * (3 : Int32)) then (f0_69 p0 p1 g100_57 (1 : Int32)) else (f0_69 p0 p1 g100_57 (0 : Int32)))
def f0_56 (p0 : Int32) (p1 : Int32) : Int32 := (f0_57 p0 p1 (0 : Int32))
def f0 (p0 : Int32) (p1 : Int32) : Int32 := (if (f2 (f1 ((p0 &&& (2147483647 : Int32)) - ((p0 &&& (2147483647 : Int32)) / (3 : Int32)) * (3 : Int32)))) = (f3 ((p0 &&& (2147483647 : Int32)) - ((p0 &&& (2147483647 : Int32)) / (3 : Int32)) * (3 : Int32))) then (if (f2 (f1 ((p1 &&& (2147483647 : Int32)) - ((p1 &&& (2147483647 : Int32)) / (3 : Int32)) * (3 : Int32)))) = (f3 ((p1 &&& (2147483647 : Int32)) - ((p1 &&& (2147483647 : Int32)) / (3 : Int32)) * (3 : Int32))) then (f0_57 p0 p1 (1 : Int32)) else (f0_56 p0 p1)) else (f0_56 p0 p1))
set_option maxRecDepth 65536 in
set_option maxHeartbeats 40000000 in
theorem rm0 (l : Launch) (Z : State) (a0 : Array Value) (hw : ∀ d ∈ tables_1, d.before a0 Z = true) (ws : List Jvm.Cond) (p0 : Int32) (p1 : Int32) (h0 : Heap) (n0 : Nat) (Z0 : n0 ≤ h0.size) :
    MetFree l x (head1 (Jvm.Cond.code x code maxLocals ret :: ws) room_1) (fun a U => a = #[(.int p0), (.int p1)] ∧ Z.Warmed39 U.vm ∧ U.heap = h0) (fun _ _ _ _ _ => True) (fun _ U o U' => ∃ v L, o = .returned v ∧ own_GI n0 (fun h => h = h0) (f0 p0 p1) v U'.heap L ∧ FrameEnd U o U' L 0 0) := by
  refine MetFree.of_bodySF pn_0 hisR ?_
  intro p e s m args below meth c s₁ Bd hml0 hP hK
  obtain ⟨rfl, hZ, hh⟩ := hP
  have hx := Bd.exec
  have hby := Bd.bytes
  have hml : c.maxLocals = 10 := hml0
  have hown : s.vm.findClass "com/example/lease/lease/core/TtlUnitSecondsPinLaw" = some m.cls := findClass_of_methodNamed Bd.named
  have hlk : meth.locks = false := BodyLoose.notSynchronized Bd
  have X0 : Stand p l e room_1 s m #[(.int p0), (.int p1)] below meth c s₁ [] 0 0 := Stand.of_body Bd
  have e0 : s₁.heap = h0 := by rw [← hh, Bd.state]; rfl
  have N0 := Fr.nil n0
  have B116 : ∀ (T : State) (locs : List Loc) (g8_116 : Int32) (g100_116 : Int32) (X : Stand p l e room_1 s m #[(.int p0), (.int p1)] below meth c T locs 0 0) (N : Fr n0 locs) (eh : T.heap = h0), own_W p e below s 0 0 (own_GI n0 (fun h => h = h0) (f0_116 p0 p1 g8_116 g100_116)) T (mkF m 116 #[.val (.int p0), .val (.int p1), .val (.int ((p0 &&& (2147483647 : Int32)) - ((p0 &&& (2147483647 : Int32)) / (3 : Int32)) * (3 : Int32))), .val (.int ((p1 &&& (2147483647 : Int32)) - ((p1 &&& (2147483647 : Int32)) / (3 : Int32)) * (3 : Int32))), .val (.long (f2 (f1 ((p0 &&& (2147483647 : Int32)) - ((p0 &&& (2147483647 : Int32)) / (3 : Int32)) * (3 : Int32))))), .second, .val (.long (f2 (f1 ((p1 &&& (2147483647 : Int32)) - ((p1 &&& (2147483647 : Int32)) / (3 : Int32)) * (3 : Int32))))), .second, .val (.int g8_116), .unset] [(.int g100_116)]) := by
    intro T locs g8_116 g100_116 X N eh
    unfold f0_116
    refine own_st (T' := T) (f' := (mkF m 118 #[.val (.int p0), .val (.int p1), .val (.int ((p0 &&& (2147483647 : Int32)) - ((p0 &&& (2147483647 : Int32)) / (3 : Int32)) * (3 : Int32))), .val (.int ((p1 &&& (2147483647 : Int32)) - ((p1 &&& (2147483647 : Int32)) / (3 : Int32)) * (3 : Int32))), .val (.long (f2 (f1 ((p0 &&& (2147483647 : Int32)) - ((p0 &&& (2147483647 : Int32)) / (3 : Int32)) * (3 : Int32))))), .second, .val (.long (f2 (f1 ((p1 &&& (2147483647 : Int32)) - ((p1 &&& (2147483647 : Int32)) / (3 : Int32)) * (3 : Int32))))), .second, .val (.int g8_116), .val (.int g100_116)] [])) ?_ (fun t q => XS.istore X.here hx rfl (hb hby at_116) rfl (l' := #[.val (.int p0), .val (.int p1), .val (.int ((p0 &&& (2147483647 : Int32)) - ((p0 &&& (2147483647 : Int32)) / (3 : Int32)) * (3 : Int32))), .val (.int ((p1 &&& (2147483647 : Int32)) - ((p1 &&& (2147483647 : Int32)) / (3 : Int32)) * (3 : Int32))), .val (.long (f2 (f1 ((p0 &&& (2147483647 : Int32)) - ((p0 &&& (2147483647 : Int32)) / (3 : Int32)) * (3 : Int32))))), .second, .val (.long (f2 (f1 ((p1 &&& (2147483647 : Int32)) - ((p1 &&& (2147483647 : Int32)) / (3 : Int32)) * (3 : Int32))))), .second, .val (.int g8_116), .val (.int g100_116)]) rfl q)
    refine own_st (T' := T) (f' := (mkF m 120 #[.val (.int p0), .val (.int p1), .val (.int ((p0 &&& (2147483647 : Int32)) - ((p0 &&& (2147483647 : Int32)) / (3 : Int32)) * (3 : Int32))), .val (.int ((p1 &&& (2147483647 : Int32)) - ((p1 &&& (2147483647 : Int32)) / (3 : Int32)) * (3 : Int32))), .val (.long (f2 (f1 ((p0 &&& (2147483647 : Int32)) - ((p0 &&& (2147483647 : Int32)) / (3 : Int32)) * (3 : Int32))))), .second, .val (.long (f2 (f1 ((p1 &&& (2147483647 : Int32)) - ((p1 &&& (2147483647 : Int32)) / (3 : Int32)) * (3 : Int32))))), .second, .val (.int g8_116), .val (.int g100_116)] [(.int g8_116)])) ?_ (fun t q => XS.iload X.here hx rfl (hb hby at_118) rfl q)
    refine own_ite (fun hc120 => ?_) (fun hc120 => ?_)
    · refine own_st (T' := T) (f' := (mkF m 132 #[.val (.int p0), .val (.int p1), .val (.int ((p0 &&& (2147483647 : Int32)) - ((p0 &&& (2147483647 : Int32)) / (3 : Int32)) * (3 : Int32))), .val (.int ((p1 &&& (2147483647 : Int32)) - ((p1 &&& (2147483647 : Int32)) / (3 : Int32)) * (3 : Int32))), .val (.long (f2 (f1 ((p0 &&& (2147483647 : Int32)) - ((p0 &&& (2147483647 : Int32)) / (3 : Int32)) * (3 : Int32))))), .second, .val (.long (f2 (f1 ((p1 &&& (2147483647 : Int32)) - ((p1 &&& (2147483647 : Int32)) / (3 : Int32)) * (3 : Int32))))), .second, .val (.int g8_116), .val (.int g100_116)] [])) ?_ (fun t q => XS.ifYes X.here hx rfl (pc0 := 120) (pc' := 132) rfl (hb hby at_120) rfl ((if0 _ _).trans (teq hc120).1) (by decide) (by decide) q)
      refine own_st (T' := T) (f' := (mkF m 133 #[.val (.int p0), .val (.int p1), .val (.int ((p0 &&& (2147483647 : Int32)) - ((p0 &&& (2147483647 : Int32)) / (3 : Int32)) * (3 : Int32))), .val (.int ((p1 &&& (2147483647 : Int32)) - ((p1 &&& (2147483647 : Int32)) / (3 : Int32)) * (3 : Int32))), .val (.long (f2 (f1 ((p0 &&& (2147483647 : Int32)) - ((p0 &&& (2147483647 : Int32)) / (3 : Int32)) * (3 : Int32))))), .second, .val (.long (f2 (f1 ((p1 &&& (2147483647 : Int32)) - ((p1 &&& (2147483647 : Int32)) / (3 : Int32)) * (3 : Int32))))), .second, .val (.int g8_116), .val (.int g100_116)] [(.int (0 : Int32))])) ?_ (fun t q => XS.iconst X.here hx rfl (hb hby at_132) q)
      exact own_retN X hx hlk (t := .boolean) Bd.returns (by simp) (hb hby at_133) (by decide) (by decide) ⟨rfl, N, eh⟩
    · refine own_st (T' := T) (f' := (mkF m 123 #[.val (.int p0), .val (.int p1), .val (.int ((p0 &&& (2147483647 : Int32)) - ((p0 &&& (2147483647 : Int32)) / (3 : Int32)) * (3 : Int32))), .val (.int ((p1 &&& (2147483647 : Int32)) - ((p1 &&& (2147483647 : Int32)) / (3 : Int32)) * (3 : Int32))), .val (.long (f2 (f1 ((p0 &&& (2147483647 : Int32)) - ((p0 &&& (2147483647 : Int32)) / (3 : Int32)) * (3 : Int32))))), .second, .val (.long (f2 (f1 ((p1 &&& (2147483647 : Int32)) - ((p1 &&& (2147483647 : Int32)) / (3 : Int32)) * (3 : Int32))))), .second, .val (.int g8_116), .val (.int g100_116)] [])) ?_ (fun t q => XS.ifNo X.here hx rfl (hb hby at_120) rfl ((if0 _ _).trans (feq hc120).1) q)
      refine own_st (T' := T) (f' := (mkF m 125 #[.val (.int p0), .val (.int p1), .val (.int ((p0 &&& (2147483647 : Int32)) - ((p0 &&& (2147483647 : Int32)) / (3 : Int32)) * (3 : Int32))), .val (.int ((p1 &&& (2147483647 : Int32)) - ((p1 &&& (2147483647 : Int32)) / (3 : Int32)) * (3 : Int32))), .val (.long (f2 (f1 ((p0 &&& (2147483647 : Int32)) - ((p0 &&& (2147483647 : Int32)) / (3 : Int32)) * (3 : Int32))))), .second, .val (.long (f2 (f1 ((p1 &&& (2147483647 : Int32)) - ((p1 &&& (2147483647 : Int32)) / (3 : Int32)) * (3 : Int32))))), .second, .val (.int g8_116), .val (.int g100_116)] [(.int g100_116)])) ?_ (fun t q => XS.iload X.here hx rfl (hb hby at_123) rfl q)
      refine own_ite (fun hc125 => ?_) (fun hc125 => ?_)
      · refine own_st (T' := T) (f' := (mkF m 132 #[.val (.int p0), .val (.int p1), .val (.int ((p0 &&& (2147483647 : Int32)) - ((p0 &&& (2147483647 : Int32)) / (3 : Int32)) * (3 : Int32))), .val (.int ((p1 &&& (2147483647 : Int32)) - ((p1 &&& (2147483647 : Int32)) / (3 : Int32)) * (3 : Int32))), .val (.long (f2 (f1 ((p0 &&& (2147483647 : Int32)) - ((p0 &&& (2147483647 : Int32)) / (3 : Int32)) * (3 : Int32))))), .second, .val (.long (f2 (f1 ((p1 &&& (2147483647 : Int32)) - ((p1 &&& (2147483647 : Int32)) / (3 : Int32)) * (3 : Int32))))), .second, .val (.int g8_116), .val (.int g100_116)] [])) ?_ (fun t q => XS.ifYes X.here hx rfl (pc0 := 125) (pc' := 132) rfl (hb hby at_125) rfl ((if0 _ _).trans (teq hc125).1) (by decide) (by decide) q)
        refine own_st (T' := T) (f' := (mkF m 133 #[.val (.int p0), .val (.int p1), .val (.int ((p0 &&& (2147483647 : Int32)) - ((p0 &&& (2147483647 : Int32)) / (3 : Int32)) * (3 : Int32))), .val (.int ((p1 &&& (2147483647 : Int32)) - ((p1 &&& (2147483647 : Int32)) / (3 : Int32)) * (3 : Int32))), .val (.long (f2 (f1 ((p0 &&& (2147483647 : Int32)) - ((p0 &&& (2147483647 : Int32)) / (3 : Int32)) * (3 : Int32))))), .second, .val (.long (f2 (f1 ((p1 &&& (2147483647 : Int32)) - ((p1 &&& (2147483647 : Int32)) / (3 : Int32)) * (3 : Int32))))), .second, .val (.int g8_116), .val (.int g100_116)] [(.int (0 : Int32))])) ?_ (fun t q => XS.iconst X.here hx rfl (hb hby at_132) q)
        exact own_retN X hx hlk (t := .boolean) Bd.returns (by simp) (hb hby at_133) (by decide) (by decide) ⟨rfl, N, eh⟩
      · refine own_st (T' := T) (f' := (mkF m 128 #[.val (.int p0), .val (.int p1), .val (.int ((p0 &&& (2147483647 : Int32)) - ((p0 &&& (2147483647 : Int32)) / (3 : Int32)) * (3 : Int32))), .val (.int ((p1 &&& (2147483647 : Int32)) - ((p1 &&& (2147483647 : Int32)) / (3 : Int32)) * (3 : Int32))), .val (.long (f2 (f1 ((p0 &&& (2147483647 : Int32)) - ((p0 &&& (2147483647 : Int32)) / (3 : Int32)) * (3 : Int32))))), .second, .val (.long (f2 (f1 ((p1 &&& (2147483647 : Int32)) - ((p1 &&& (2147483647 : Int32)) / (3 : Int32)) * (3 : Int32))))), .second, .val (.int g8_116), .val (.int g100_116)] [])) ?_ (fun t q => XS.ifNo X.here hx rfl (hb hby at_125) rfl ((if0 _ _).trans (feq hc125).1) q)
        refine own_st (T' := T) (f' := (mkF m 129 #[.val (.int p0), .val (.int p1), .val (.int ((p0 &&& (2147483647 : Int32)) - ((p0 &&& (2147483647 : Int32)) / (3 : Int32)) * (3 : Int32))), .val (.int ((p1 &&& (2147483647 : Int32)) - ((p1 &&& (2147483647 : Int32)) / (3 : Int32)) * (3 : Int32))), .val (.long (f2 (f1 ((p0 &&& (2147483647 : Int32)) - ((p0 &&& (2147483647 : Int32)) / (3 : Int32)) * (3 : Int32))))), .second, .val (.long (f2 (f1 ((p1 &&& (2147483647 : Int32)) - ((p1 &&& (2147483647 : Int32)) / (3 : Int32)) * (3 : Int32))))), .second, .val (.int g8_116), .val (.int g100_116)] [(.int (1 : Int32))])) ?_ (fun t q => XS.iconst X.here hx rfl (hb hby at_128) q)
        refine own_st (T' := T) (f' := (mkF m 133 #[.val (.int p0), .val (.int p1), .val (.int ((p0 &&& (2147483647 : Int32)) - ((p0 &&& (2147483647 : Int32)) / (3 : Int32)) * (3 : Int32))), .val (.int ((p1 &&& (2147483647 : Int32)) - ((p1 &&& (2147483647 : Int32)) / (3 : Int32)) * (3 : Int32))), .val (.long (f2 (f1 ((p0 &&& (2147483647 : Int32)) - ((p0 &&& (2147483647 : Int32)) / (3 : Int32)) * (3 : Int32))))), .second, .val (.long (f2 (f1 ((p1 &&& (2147483647 : Int32)) - ((p1 &&& (2147483647 : Int32)) / (3 : Int32)) * (3 : Int32))))), .second, .val (.int g8_116), .val (.int g100_116)] [(.int (1 : Int32))])) ?_ (fun t q => XS.goto X.here hx rfl (pc0 := 129) (pc' := 133) rfl (hb hby at_129) (by decide) (by decide) q)
        exact own_retN X hx hlk (t := .boolean) Bd.returns (by simp) (hb hby at_133) (by decide) (by decide) ⟨rfl, N, eh⟩
  have B115 : ∀ (T : State) (locs : List Loc) (g8_115 : Int32) (X : Stand p l e room_1 s m #[(.int p0), (.int p1)] below meth c T locs 0 0) (N : Fr n0 locs) (eh : T.heap = h0), own_W p e below s 0 0 (own_GI n0 (fun h => h = h0) (f0_115 p0 p1 g8_115)) T (mkF m 115 #[.val (.int p0), .val (.int p1), .val (.int ((p0 &&& (2147483647 : Int32)) - ((p0 &&& (2147483647 : Int32)) / (3 : Int32)) * (3 : Int32))), .val (.int ((p1 &&& (2147483647 : Int32)) - ((p1 &&& (2147483647 : Int32)) / (3 : Int32)) * (3 : Int32))), .val (.long (f2 (f1 ((p0 &&& (2147483647 : Int32)) - ((p0 &&& (2147483647 : Int32)) / (3 : Int32)) * (3 : Int32))))), .second, .val (.long (f2 (f1 ((p1 &&& (2147483647 : Int32)) - ((p1 &&& (2147483647 : Int32)) / (3 : Int32)) * (3 : Int32))))), .second, .val (.int g8_115), .unset] []) := by
    intro T locs g8_115 X N eh
    unfold f0_115
    refine own_st (T' := T) (f' := (mkF m 116 #[.val (.int p0), .val (.int p1), .val (.int ((p0 &&& (2147483647 : Int32)) - ((p0 &&& (2147483647 : Int32)) / (3 : Int32)) * (3 : Int32))), .val (.int ((p1 &&& (2147483647 : Int32)) - ((p1 &&& (2147483647 : Int32)) / (3 : Int32)) * (3 : Int32))), .val (.long (f2 (f1 ((p0 &&& (2147483647 : Int32)) - ((p0 &&& (2147483647 : Int32)) / (3 : Int32)) * (3 : Int32))))), .second, .val (.long (f2 (f1 ((p1 &&& (2147483647 : Int32)) - ((p1 &&& (2147483647 : Int32)) / (3 : Int32)) * (3 : Int32))))), .second, .val (.int g8_115), .unset] [(.int (0 : Int32))])) ?_ (fun t q => XS.iconst X.here hx rfl (hb hby at_115) q)
    exact B116 T _ g8_115 (0 : Int32) X N eh
  have B108 : ∀ (T : State) (locs : List Loc) (g8_108 : Int32) (g100_108 : Int32) (g101_108 : Int32) (X : Stand p l e room_1 s m #[(.int p0), (.int p1)] below meth c T locs 0 0) (N : Fr n0 locs) (eh : T.heap = h0), own_W p e below s 0 0 (own_GI n0 (fun h => h = h0) (f0_108 p0 p1 g8_108 g100_108 g101_108)) T (mkF m 108 #[.val (.int p0), .val (.int p1), .val (.int ((p0 &&& (2147483647 : Int32)) - ((p0 &&& (2147483647 : Int32)) / (3 : Int32)) * (3 : Int32))), .val (.int ((p1 &&& (2147483647 : Int32)) - ((p1 &&& (2147483647 : Int32)) / (3 : Int32)) * (3 : Int32))), .val (.long (f2 (f1 ((p0 &&& (2147483647 : Int32)) - ((p0 &&& (2147483647 : Int32)) / (3 : Int32)) * (3 : Int32))))), .second, .val (.long (f2 (f1 ((p1 &&& (2147483647 : Int32)) - ((p1 &&& (2147483647 : Int32)) / (3 : Int32)) * (3 : Int32))))), .second, .val (.int g8_108), .unset] [(.int g100_108), (.int g101_108)]) := by
    intro T locs g8_108 g100_108 g101_108 X N eh
    unfold f0_108
    refine own_ite (fun hc108 => ?_) (fun hc108 => ?_)
    · refine own_st (T' := T) (f' := (mkF m 111 #[.val (.int p0), .val (.int p1), .val (.int ((p0 &&& (2147483647 : Int32)) - ((p0 &&& (2147483647 : Int32)) / (3 : Int32)) * (3 : Int32))), .val (.int ((p1 &&& (2147483647 : Int32)) - ((p1 &&& (2147483647 : Int32)) / (3 : Int32)) * (3 : Int32))), .val (.long (f2 (f1 ((p0 &&& (2147483647 : Int32)) - ((p0 &&& (2147483647 : Int32)) / (3 : Int32)) * (3 : Int32))))), .second, .val (.long (f2 (f1 ((p1 &&& (2147483647 : Int32)) - ((p1 &&& (2147483647 : Int32)) / (3 : Int32)) * (3 : Int32))))), .second, .val (.int g8_108), .unset] [])) ?_ (fun t q => XS.icmpNo X.here hx rfl (hb hby at_108) rfl (teq hc108).2 q)
      refine own_st (T' := T) (f' := (mkF m 112 #[.val (.int p0), .val (.int p1), .val (.int ((p0 &&& (2147483647 : Int32)) - ((p0 &&& (2147483647 : Int32)) / (3 : Int32)) * (3 : Int32))), .val (.int ((p1 &&& (2147483647 : Int32)) - ((p1 &&& (2147483647 : Int32)) / (3 : Int32)) * (3 : Int32))), .val (.long (f2 (f1 ((p0 &&& (2147483647 : Int32)) - ((p0 &&& (2147483647 : Int32)) / (3 : Int32)) * (3 : Int32))))), .second, .val (.long (f2 (f1 ((p1 &&& (2147483647 : Int32)) - ((p1 &&& (2147483647 : Int32)) / (3 : Int32)) * (3 : Int32))))), .second, .val (.int g8_108), .unset] [(.int (1 : Int32))])) ?_ (fun t q => XS.iconst X.here hx rfl (hb hby at_111) q)
      refine own_st (T' := T) (f' := (mkF m 116 #[.val (.int p0), .val (.int p1), .val (.int ((p0 &&& (2147483647 : Int32)) - ((p0 &&& (2147483647 : Int32)) / (3 : Int32)) * (3 : Int32))), .val (.int ((p1 &&& (2147483647 : Int32)) - ((p1 &&& (2147483647 : Int32)) / (3 : Int32)) * (3 : Int32))), .val (.long (f2 (f1 ((p0 &&& (2147483647 : Int32)) - ((p0 &&& (2147483647 : Int32)) / (3 : Int32)) * (3 : Int32))))), .second, .val (.long (f2 (f1 ((p1 &&& (2147483647 : Int32)) - ((p1 &&& (2147483647 : Int32)) / (3 : Int32)) * (3 : Int32))))), .second, .val (.int g8_108), .unset] [(.int (1 : Int32))])) ?_ (fun t q => XS.goto X.here hx rfl (pc0 := 112) (pc' := 116) rfl (hb hby at_112) (by decide) (by decide) q)
      exact B116 T _ g8_108 (1 : Int32) X N eh
    · refine own_st (T' := T) (f' := (mkF m 115 #[.val (.int p0), .val (.int p1), .val (.int ((p0 &&& (2147483647 : Int32)) - ((p0 &&& (2147483647 : Int32)) / (3 : Int32)) * (3 : Int32))), .val (.int ((p1 &&& (2147483647 : Int32)) - ((p1 &&& (2147483647 : Int32)) / (3 : Int32)) * (3 : Int32))), .val (.long (f2 (f1 ((p0 &&& (2147483647 : Int32)) - ((p0 &&& (2147483647 : Int32)) / (3 : Int32)) * (3 : Int32))))), .second, .val (.long (f2 (f1 ((p1 &&& (2147483647 : Int32)) - ((p1 &&& (2147483647 : Int32)) / (3 : Int32)) * (3 : Int32))))), .second, .val (.int g8_108), .unset] [])) ?_ (fun t q => XS.icmpYes X.here hx rfl (pc0 := 108) (pc' := 115) rfl (hb hby at_108) rfl (feq hc108).2 (by decide) (by decide) q)
      exact B115 T _ g8_108 X N eh
  have B95 : ∀ (T : State) (locs : List Loc) (g8_95 : Int32) (g100_95 : Int32) (X : Stand p l e room_1 s m #[(.int p0), (.int p1)] below meth c T locs 0 0) (N : Fr n0 locs) (eh : T.heap = h0), own_W p e below s 0 0 (own_GI n0 (fun h => h = h0) (f0_95 p0 p1 g8_95 g100_95)) T (mkF m 95 #[.val (.int p0), .val (.int p1), .val (.int ((p0 &&& (2147483647 : Int32)) - ((p0 &&& (2147483647 : Int32)) / (3 : Int32)) * (3 : Int32))), .val (.int ((p1 &&& (2147483647 : Int32)) - ((p1 &&& (2147483647 : Int32)) / (3 : Int32)) * (3 : Int32))), .val (.long (f2 (f1 ((p0 &&& (2147483647 : Int32)) - ((p0 &&& (2147483647 : Int32)) / (3 : Int32)) * (3 : Int32))))), .second, .val (.long (f2 (f1 ((p1 &&& (2147483647 : Int32)) - ((p1 &&& (2147483647 : Int32)) / (3 : Int32)) * (3 : Int32))))), .second, .val (.int g8_95), .unset] [(.int g100_95)]) := by
    intro T locs g8_95 g100_95 X N eh
    unfold f0_95
    refine own_st (T' := T) (f' := (mkF m 97 #[.val (.int p0), .val (.int p1), .val (.int ((p0 &&& (2147483647 : Int32)) - ((p0 &&& (2147483647 : Int32)) / (3 : Int32)) * (3 : Int32))), .val (.int ((p1 &&& (2147483647 : Int32)) - ((p1 &&& (2147483647 : Int32)) / (3 : Int32)) * (3 : Int32))), .val (.long (f2 (f1 ((p0 &&& (2147483647 : Int32)) - ((p0 &&& (2147483647 : Int32)) / (3 : Int32)) * (3 : Int32))))), .second, .val (.long (f2 (f1 ((p1 &&& (2147483647 : Int32)) - ((p1 &&& (2147483647 : Int32)) / (3 : Int32)) * (3 : Int32))))), .second, .val (.int g8_95), .unset] [(.long (f2 (f1 ((p0 &&& (2147483647 : Int32)) - ((p0 &&& (2147483647 : Int32)) / (3 : Int32)) * (3 : Int32))))), (.int g100_95)])) ?_ (fun t q => XS.lload X.here hx rfl (hb hby at_95) rfl q)
    refine own_st (T' := T) (f' := (mkF m 99 #[.val (.int p0), .val (.int p1), .val (.int ((p0 &&& (2147483647 : Int32)) - ((p0 &&& (2147483647 : Int32)) / (3 : Int32)) * (3 : Int32))), .val (.int ((p1 &&& (2147483647 : Int32)) - ((p1 &&& (2147483647 : Int32)) / (3 : Int32)) * (3 : Int32))), .val (.long (f2 (f1 ((p0 &&& (2147483647 : Int32)) - ((p0 &&& (2147483647 : Int32)) / (3 : Int32)) * (3 : Int32))))), .second, .val (.long (f2 (f1 ((p1 &&& (2147483647 : Int32)) - ((p1 &&& (2147483647 : Int32)) / (3 : Int32)) * (3 : Int32))))), .second, .val (.int g8_95), .unset] [(.long (f2 (f1 ((p1 &&& (2147483647 : Int32)) - ((p1 &&& (2147483647 : Int32)) / (3 : Int32)) * (3 : Int32))))), (.long (f2 (f1 ((p0 &&& (2147483647 : Int32)) - ((p0 &&& (2147483647 : Int32)) / (3 : Int32)) * (3 : Int32))))), (.int g100_95)])) ?_ (fun t q => XS.lload X.here hx rfl (hb hby at_97) rfl q)
    refine own_st (T' := T) (f' := (mkF m 100 #[.val (.int p0), .val (.int p1), .val (.int ((p0 &&& (2147483647 : Int32)) - ((p0 &&& (2147483647 : Int32)) / (3 : Int32)) * (3 : Int32))), .val (.int ((p1 &&& (2147483647 : Int32)) - ((p1 &&& (2147483647 : Int32)) / (3 : Int32)) * (3 : Int32))), .val (.long (f2 (f1 ((p0 &&& (2147483647 : Int32)) - ((p0 &&& (2147483647 : Int32)) / (3 : Int32)) * (3 : Int32))))), .second, .val (.long (f2 (f1 ((p1 &&& (2147483647 : Int32)) - ((p1 &&& (2147483647 : Int32)) / (3 : Int32)) * (3 : Int32))))), .second, .val (.int g8_95), .unset] [(.int (lcmpW (f2 (f1 ((p0 &&& (2147483647 : Int32)) - ((p0 &&& (2147483647 : Int32)) / (3 : Int32)) * (3 : Int32)))) (f2 (f1 ((p1 &&& (2147483647 : Int32)) - ((p1 &&& (2147483647 : Int32)) / (3 : Int32)) * (3 : Int32)))))), (.int g100_95)])) ?_ (fun t q => XS.lcmp X.here hx rfl (hb hby at_99) rfl q)
    refine own_ite (fun hc100 => ?_) (fun hc100 => ?_)
    · refine own_st (T' := T) (f' := (mkF m 103 #[.val (.int p0), .val (.int p1), .val (.int ((p0 &&& (2147483647 : Int32)) - ((p0 &&& (2147483647 : Int32)) / (3 : Int32)) * (3 : Int32))), .val (.int ((p1 &&& (2147483647 : Int32)) - ((p1 &&& (2147483647 : Int32)) / (3 : Int32)) * (3 : Int32))), .val (.long (f2 (f1 ((p0 &&& (2147483647 : Int32)) - ((p0 &&& (2147483647 : Int32)) / (3 : Int32)) * (3 : Int32))))), .second, .val (.long (f2 (f1 ((p1 &&& (2147483647 : Int32)) - ((p1 &&& (2147483647 : Int32)) / (3 : Int32)) * (3 : Int32))))), .second, .val (.int g8_95), .unset] [(.int g100_95)])) ?_ (fun t q => XS.ifNo X.here hx rfl (hb hby at_100) rfl ((if0 _ _).trans (teq ((lw_eq _ _).mpr hc100)).2) q)
      refine own_st (T' := T) (f' := (mkF m 104 #[.val (.int p0), .val (.int p1), .val (.int ((p0 &&& (2147483647 : Int32)) - ((p0 &&& (2147483647 : Int32)) / (3 : Int32)) * (3 : Int32))), .val (.int ((p1 &&& (2147483647 : Int32)) - ((p1 &&& (2147483647 : Int32)) / (3 : Int32)) * (3 : Int32))), .val (.long (f2 (f1 ((p0 &&& (2147483647 : Int32)) - ((p0 &&& (2147483647 : Int32)) / (3 : Int32)) * (3 : Int32))))), .second, .val (.long (f2 (f1 ((p1 &&& (2147483647 : Int32)) - ((p1 &&& (2147483647 : Int32)) / (3 : Int32)) * (3 : Int32))))), .second, .val (.int g8_95), .unset] [(.int (1 : Int32)), (.int g100_95)])) ?_ (fun t q => XS.iconst X.here hx rfl (hb hby at_103) q)
      refine own_st (T' := T) (f' := (mkF m 108 #[.val (.int p0), .val (.int p1), .val (.int ((p0 &&& (2147483647 : Int32)) - ((p0 &&& (2147483647 : Int32)) / (3 : Int32)) * (3 : Int32))), .val (.int ((p1 &&& (2147483647 : Int32)) - ((p1 &&& (2147483647 : Int32)) / (3 : Int32)) * (3 : Int32))), .val (.long (f2 (f1 ((p0 &&& (2147483647 : Int32)) - ((p0 &&& (2147483647 : Int32)) / (3 : Int32)) * (3 : Int32))))), .second, .val (.long (f2 (f1 ((p1 &&& (2147483647 : Int32)) - ((p1 &&& (2147483647 : Int32)) / (3 : Int32)) * (3 : Int32))))), .second, .val (.int g8_95), .unset] [(.int (1 : Int32)), (.int g100_95)])) ?_ (fun t q => XS.goto X.here hx rfl (pc0 := 104) (pc' := 108) rfl (hb hby at_104) (by decide) (by decide) q)
      exact B108 T _ g8_95 (1 : Int32) g100_95 X N eh
    · refine own_st (T' := T) (f' := (mkF m 107 #[.val (.int p0), .val (.int p1), .val (.int ((p0 &&& (2147483647 : Int32)) - ((p0 &&& (2147483647 : Int32)) / (3 : Int32)) * (3 : Int32))), .val (.int ((p1 &&& (2147483647 : Int32)) - ((p1 &&& (2147483647 : Int32)) / (3 : Int32)) * (3 : Int32))), .val (.long (f2 (f1 ((p0 &&& (2147483647 : Int32)) - ((p0 &&& (2147483647 : Int32)) / (3 : Int32)) * (3 : Int32))))), .second, .val (.long (f2 (f1 ((p1 &&& (2147483647 : Int32)) - ((p1 &&& (2147483647 : Int32)) / (3 : Int32)) * (3 : Int32))))), .second, .val (.int g8_95), .unset] [(.int g100_95)])) ?_ (fun t q => XS.ifYes X.here hx rfl (pc0 := 100) (pc' := 107) rfl (hb hby at_100) rfl ((if0 _ _).trans (feq (fun z => hc100 ((lw_eq _ _).mp z))).2) (by decide) (by decide) q)
      refine own_st (T' := T) (f' := (mkF m 108 #[.val (.int p0), .val (.int p1), .val (.int ((p0 &&& (2147483647 : Int32)) - ((p0 &&& (2147483647 : Int32)) / (3 : Int32)) * (3 : Int32))), .val (.int ((p1 &&& (2147483647 : Int32)) - ((p1 &&& (2147483647 : Int32)) / (3 : Int32)) * (3 : Int32))), .val (.long (f2 (f1 ((p0 &&& (2147483647 : Int32)) - ((p0 &&& (2147483647 : Int32)) / (3 : Int32)) * (3 : Int32))))), .second, .val (.long (f2 (f1 ((p1 &&& (2147483647 : Int32)) - ((p1 &&& (2147483647 : Int32)) / (3 : Int32)) * (3 : Int32))))), .second, .val (.int g8_95), .unset] [(.int (0 : Int32)), (.int g100_95)])) ?_ (fun t q => XS.iconst X.here hx rfl (hb hby at_107) q)
      exact B108 T _ g8_95 (0 : Int32) g100_95 X N eh
  have B82 : ∀ (T : State) (locs : List Loc) (g8_82 : Int32) (g100_82 : Int32) (g101_82 : Int32) (X : Stand p l e room_1 s m #[(.int p0), (.int p1)] below meth c T locs 0 0) (N : Fr n0 locs) (eh : T.heap = h0), own_W p e below s 0 0 (own_GI n0 (fun h => h = h0) (f0_82 p0 p1 g8_82 g100_82 g101_82)) T (mkF m 82 #[.val (.int p0), .val (.int p1), .val (.int ((p0 &&& (2147483647 : Int32)) - ((p0 &&& (2147483647 : Int32)) / (3 : Int32)) * (3 : Int32))), .val (.int ((p1 &&& (2147483647 : Int32)) - ((p1 &&& (2147483647 : Int32)) / (3 : Int32)) * (3 : Int32))), .val (.long (f2 (f1 ((p0 &&& (2147483647 : Int32)) - ((p0 &&& (2147483647 : Int32)) / (3 : Int32)) * (3 : Int32))))), .second, .val (.long (f2 (f1 ((p1 &&& (2147483647 : Int32)) - ((p1 &&& (2147483647 : Int32)) / (3 : Int32)) * (3 : Int32))))), .second, .val (.int g8_82), .unset] [(.int g100_82), (.int g101_82)]) := by
    intro T locs g8_82 g100_82 g101_82 X N eh
    unfold f0_82
    refine own_ite (fun hc82 => ?_) (fun hc82 => ?_)
    · refine own_st (T' := T) (f' := (mkF m 85 #[.val (.int p0), .val (.int p1), .val (.int ((p0 &&& (2147483647 : Int32)) - ((p0 &&& (2147483647 : Int32)) / (3 : Int32)) * (3 : Int32))), .val (.int ((p1 &&& (2147483647 : Int32)) - ((p1 &&& (2147483647 : Int32)) / (3 : Int32)) * (3 : Int32))), .val (.long (f2 (f1 ((p0 &&& (2147483647 : Int32)) - ((p0 &&& (2147483647 : Int32)) / (3 : Int32)) * (3 : Int32))))), .second, .val (.long (f2 (f1 ((p1 &&& (2147483647 : Int32)) - ((p1 &&& (2147483647 : Int32)) / (3 : Int32)) * (3 : Int32))))), .second, .val (.int g8_82), .unset] [])) ?_ (fun t q => XS.icmpNo X.here hx rfl (hb hby at_82) rfl (teq hc82).2 q)
      refine own_st (T' := T) (f' := (mkF m 86 #[.val (.int p0), .val (.int p1), .val (.int ((p0 &&& (2147483647 : Int32)) - ((p0 &&& (2147483647 : Int32)) / (3 : Int32)) * (3 : Int32))), .val (.int ((p1 &&& (2147483647 : Int32)) - ((p1 &&& (2147483647 : Int32)) / (3 : Int32)) * (3 : Int32))), .val (.long (f2 (f1 ((p0 &&& (2147483647 : Int32)) - ((p0 &&& (2147483647 : Int32)) / (3 : Int32)) * (3 : Int32))))), .second, .val (.long (f2 (f1 ((p1 &&& (2147483647 : Int32)) - ((p1 &&& (2147483647 : Int32)) / (3 : Int32)) * (3 : Int32))))), .second, .val (.int g8_82), .unset] [(.int ((p0 &&& (2147483647 : Int32)) - ((p0 &&& (2147483647 : Int32)) / (3 : Int32)) * (3 : Int32)))])) ?_ (fun t q => XS.iloadN X.here hx rfl (hb hby at_85) rfl q)
      refine own_st (T' := T) (f' := (mkF m 87 #[.val (.int p0), .val (.int p1), .val (.int ((p0 &&& (2147483647 : Int32)) - ((p0 &&& (2147483647 : Int32)) / (3 : Int32)) * (3 : Int32))), .val (.int ((p1 &&& (2147483647 : Int32)) - ((p1 &&& (2147483647 : Int32)) / (3 : Int32)) * (3 : Int32))), .val (.long (f2 (f1 ((p0 &&& (2147483647 : Int32)) - ((p0 &&& (2147483647 : Int32)) / (3 : Int32)) * (3 : Int32))))), .second, .val (.long (f2 (f1 ((p1 &&& (2147483647 : Int32)) - ((p1 &&& (2147483647 : Int32)) / (3 : Int32)) * (3 : Int32))))), .second, .val (.int g8_82), .unset] [(.int ((p1 &&& (2147483647 : Int32)) - ((p1 &&& (2147483647 : Int32)) / (3 : Int32)) * (3 : Int32))), (.int ((p0 &&& (2147483647 : Int32)) - ((p0 &&& (2147483647 : Int32)) / (3 : Int32)) * (3 : Int32)))])) ?_ (fun t q => XS.iloadN X.here hx rfl (hb hby at_86) rfl q)
      refine own_ite (fun hc87 => ?_) (fun hc87 => ?_)
      · refine own_st (T' := T) (f' := (mkF m 90 #[.val (.int p0), .val (.int p1), .val (.int ((p0 &&& (2147483647 : Int32)) - ((p0 &&& (2147483647 : Int32)) / (3 : Int32)) * (3 : Int32))), .val (.int ((p1 &&& (2147483647 : Int32)) - ((p1 &&& (2147483647 : Int32)) / (3 : Int32)) * (3 : Int32))), .val (.long (f2 (f1 ((p0 &&& (2147483647 : Int32)) - ((p0 &&& (2147483647 : Int32)) / (3 : Int32)) * (3 : Int32))))), .second, .val (.long (f2 (f1 ((p1 &&& (2147483647 : Int32)) - ((p1 &&& (2147483647 : Int32)) / (3 : Int32)) * (3 : Int32))))), .second, .val (.int g8_82), .unset] [])) ?_ (fun t q => XS.icmpNo X.here hx rfl (hb hby at_87) rfl (teq hc87).2 q)
        refine own_st (T' := T) (f' := (mkF m 91 #[.val (.int p0), .val (.int p1), .val (.int ((p0 &&& (2147483647 : Int32)) - ((p0 &&& (2147483647 : Int32)) / (3 : Int32)) * (3 : Int32))), .val (.int ((p1 &&& (2147483647 : Int32)) - ((p1 &&& (2147483647 : Int32)) / (3 : Int32)) * (3 : Int32))), .val (.long (f2 (f1 ((p0 &&& (2147483647 : Int32)) - ((p0 &&& (2147483647 : Int32)) / (3 : Int32)) * (3 : Int32))))), .second, .val (.long (f2 (f1 ((p1 &&& (2147483647 : Int32)) - ((p1 &&& (2147483647 : Int32)) / (3 : Int32)) * (3 : Int32))))), .second, .val (.int g8_82), .unset] [(.int (1 : Int32))])) ?_ (fun t q => XS.iconst X.here hx rfl (hb hby at_90) q)
        refine own_st (T' := T) (f' := (mkF m 95 #[.val (.int p0), .val (.int p1), .val (.int ((p0 &&& (2147483647 : Int32)) - ((p0 &&& (2147483647 : Int32)) / (3 : Int32)) * (3 : Int32))), .val (.int ((p1 &&& (2147483647 : Int32)) - ((p1 &&& (2147483647 : Int32)) / (3 : Int32)) * (3 : Int32))), .val (.long (f2 (f1 ((p0 &&& (2147483647 : Int32)) - ((p0 &&& (2147483647 : Int32)) / (3 : Int32)) * (3 : Int32))))), .second, .val (.long (f2 (f1 ((p1 &&& (2147483647 : Int32)) - ((p1 &&& (2147483647 : Int32)) / (3 : Int32)) * (3 : Int32))))), .second, .val (.int g8_82), .unset] [(.int (1 : Int32))])) ?_ (fun t q => XS.goto X.here hx rfl (pc0 := 91) (pc' := 95) rfl (hb hby at_91) (by decide) (by decide) q)
        exact B95 T _ g8_82 (1 : Int32) X N eh
      · refine own_st (T' := T) (f' := (mkF m 94 #[.val (.int p0), .val (.int p1), .val (.int ((p0 &&& (2147483647 : Int32)) - ((p0 &&& (2147483647 : Int32)) / (3 : Int32)) * (3 : Int32))), .val (.int ((p1 &&& (2147483647 : Int32)) - ((p1 &&& (2147483647 : Int32)) / (3 : Int32)) * (3 : Int32))), .val (.long (f2 (f1 ((p0 &&& (2147483647 : Int32)) - ((p0 &&& (2147483647 : Int32)) / (3 : Int32)) * (3 : Int32))))), .second, .val (.long (f2 (f1 ((p1 &&& (2147483647 : Int32)) - ((p1 &&& (2147483647 : Int32)) / (3 : Int32)) * (3 : Int32))))), .second, .val (.int g8_82), .unset] [])) ?_ (fun t q => XS.icmpYes X.here hx rfl (pc0 := 87) (pc' := 94) rfl (hb hby at_87) rfl (feq hc87).2 (by decide) (by decide) q)
        refine own_st (T' := T) (f' := (mkF m 95 #[.val (.int p0), .val (.int p1), .val (.int ((p0 &&& (2147483647 : Int32)) - ((p0 &&& (2147483647 : Int32)) / (3 : Int32)) * (3 : Int32))), .val (.int ((p1 &&& (2147483647 : Int32)) - ((p1 &&& (2147483647 : Int32)) / (3 : Int32)) * (3 : Int32))), .val (.long (f2 (f1 ((p0 &&& (2147483647 : Int32)) - ((p0 &&& (2147483647 : Int32)) / (3 : Int32)) * (3 : Int32))))), .second, .val (.long (f2 (f1 ((p1 &&& (2147483647 : Int32)) - ((p1 &&& (2147483647 : Int32)) / (3 : Int32)) * (3 : Int32))))), .second, .val (.int g8_82), .unset] [(.int (0 : Int32))])) ?_ (fun t q => XS.iconst X.here hx rfl (hb hby at_94) q)
        exact B95 T _ g8_82 (0 : Int32) X N eh
    · refine own_st (T' := T) (f' := (mkF m 115 #[.val (.int p0), .val (.int p1), .val (.int ((p0 &&& (2147483647 : Int32)) - ((p0 &&& (2147483647 : Int32)) / (3 : Int32)) * (3 : Int32))), .val (.int ((p1 &&& (2147483647 : Int32)) - ((p1 &&& (2147483647 : Int32)) / (3 : Int32)) * (3 : Int32))), .val (.long (f2 (f1 ((p0 &&& (2147483647 : Int32)) - ((p0 &&& (2147483647 : Int32)) / (3 : Int32)) * (3 : Int32))))), .second, .val (.long (f2 (f1 ((p1 &&& (2147483647 : Int32)) - ((p1 &&& (2147483647 : Int32)) / (3 : Int32)) * (3 : Int32))))), .second, .val (.int g8_82), .unset] [])) ?_ (fun t q => XS.icmpYes X.here hx rfl (pc0 := 82) (pc' := 115) rfl (hb hby at_82) rfl (feq hc82).2 (by decide) (by decide) q)
      exact B115 T _ g8_82 X N eh
  have B69 : ∀ (T : State) (locs : List Loc) (g8_69 : Int32) (g100_69 : Int32) (X : Stand p l e room_1 s m #[(.int p0), (.int p1)] below meth c T locs 0 0) (N : Fr n0 locs) (eh : T.heap = h0), own_W p e below s 0 0 (own_GI n0 (fun h => h = h0) (f0_69 p0 p1 g8_69 g100_69)) T (mkF m 69 #[.val (.int p0), .val (.int p1), .val (.int ((p0 &&& (2147483647 : Int32)) - ((p0 &&& (2147483647 : Int32)) / (3 : Int32)) * (3 : Int32))), .val (.int ((p1 &&& (2147483647 : Int32)) - ((p1 &&& (2147483647 : Int32)) / (3 : Int32)) * (3 : Int32))), .val (.long (f2 (f1 ((p0 &&& (2147483647 : Int32)) - ((p0 &&& (2147483647 : Int32)) / (3 : Int32)) * (3 : Int32))))), .second, .val (.long (f2 (f1 ((p1 &&& (2147483647 : Int32)) - ((p1 &&& (2147483647 : Int32)) / (3 : Int32)) * (3 : Int32))))), .second, .val (.int g8_69), .unset] [(.int g100_69)]) := by
    intro T locs g8_69 g100_69 X N eh
    unfold f0_69
    refine own_st (T' := T) (f' := (mkF m 71 #[.val (.int p0), .val (.int p1), .val (.int ((p0 &&& (2147483647 : Int32)) - ((p0 &&& (2147483647 : Int32)) / (3 : Int32)) * (3 : Int32))), .val (.int ((p1 &&& (2147483647 : Int32)) - ((p1 &&& (2147483647 : Int32)) / (3 : Int32)) * (3 : Int32))), .val (.long (f2 (f1 ((p0 &&& (2147483647 : Int32)) - ((p0 &&& (2147483647 : Int32)) / (3 : Int32)) * (3 : Int32))))), .second, .val (.long (f2 (f1 ((p1 &&& (2147483647 : Int32)) - ((p1 &&& (2147483647 : Int32)) / (3 : Int32)) * (3 : Int32))))), .second, .val (.int g8_69), .unset] [(.long (f2 (f1 ((p0 &&& (2147483647 : Int32)) - ((p0 &&& (2147483647 : Int32)) / (3 : Int32)) * (3 : Int32))))), (.int g100_69)])) ?_ (fun t q => XS.lload X.here hx rfl (hb hby at_69) rfl q)
    refine own_st (T' := T) (f' := (mkF m 73 #[.val (.int p0), .val (.int p1), .val (.int ((p0 &&& (2147483647 : Int32)) - ((p0 &&& (2147483647 : Int32)) / (3 : Int32)) * (3 : Int32))), .val (.int ((p1 &&& (2147483647 : Int32)) - ((p1 &&& (2147483647 : Int32)) / (3 : Int32)) * (3 : Int32))), .val (.long (f2 (f1 ((p0 &&& (2147483647 : Int32)) - ((p0 &&& (2147483647 : Int32)) / (3 : Int32)) * (3 : Int32))))), .second, .val (.long (f2 (f1 ((p1 &&& (2147483647 : Int32)) - ((p1 &&& (2147483647 : Int32)) / (3 : Int32)) * (3 : Int32))))), .second, .val (.int g8_69), .unset] [(.long (f2 (f1 ((p1 &&& (2147483647 : Int32)) - ((p1 &&& (2147483647 : Int32)) / (3 : Int32)) * (3 : Int32))))), (.long (f2 (f1 ((p0 &&& (2147483647 : Int32)) - ((p0 &&& (2147483647 : Int32)) / (3 : Int32)) * (3 : Int32))))), (.int g100_69)])) ?_ (fun t q => XS.lload X.here hx rfl (hb hby at_71) rfl q)
    refine own_st (T' := T) (f' := (mkF m 74 #[.val (.int p0), .val (.int p1), .val (.int ((p0 &&& (2147483647 : Int32)) - ((p0 &&& (2147483647 : Int32)) / (3 : Int32)) * (3 : Int32))), .val (.int ((p1 &&& (2147483647 : Int32)) - ((p1 &&& (2147483647 : Int32)) / (3 : Int32)) * (3 : Int32))), .val (.long (f2 (f1 ((p0 &&& (2147483647 : Int32)) - ((p0 &&& (2147483647 : Int32)) / (3 : Int32)) * (3 : Int32))))), .second, .val (.long (f2 (f1 ((p1 &&& (2147483647 : Int32)) - ((p1 &&& (2147483647 : Int32)) / (3 : Int32)) * (3 : Int32))))), .second, .val (.int g8_69), .unset] [(.int (lcmpW (f2 (f1 ((p0 &&& (2147483647 : Int32)) - ((p0 &&& (2147483647 : Int32)) / (3 : Int32)) * (3 : Int32)))) (f2 (f1 ((p1 &&& (2147483647 : Int32)) - ((p1 &&& (2147483647 : Int32)) / (3 : Int32)) * (3 : Int32)))))), (.int g100_69)])) ?_ (fun t q => XS.lcmp X.here hx rfl (hb hby at_73) rfl q)
    refine own_ite (fun hc74 => ?_) (fun hc74 => ?_)
    · refine own_st (T' := T) (f' := (mkF m 77 #[.val (.int p0), .val (.int p1), .val (.int ((p0 &&& (2147483647 : Int32)) - ((p0 &&& (2147483647 : Int32)) / (3 : Int32)) * (3 : Int32))), .val (.int ((p1 &&& (2147483647 : Int32)) - ((p1 &&& (2147483647 : Int32)) / (3 : Int32)) * (3 : Int32))), .val (.long (f2 (f1 ((p0 &&& (2147483647 : Int32)) - ((p0 &&& (2147483647 : Int32)) / (3 : Int32)) * (3 : Int32))))), .second, .val (.long (f2 (f1 ((p1 &&& (2147483647 : Int32)) - ((p1 &&& (2147483647 : Int32)) / (3 : Int32)) * (3 : Int32))))), .second, .val (.int g8_69), .unset] [(.int g100_69)])) ?_ (fun t q => XS.ifNo X.here hx rfl (hb hby at_74) rfl ((if0 _ _).trans (tlt ((lw_lt _ _).mpr hc74)).2.1) q)
      refine own_st (T' := T) (f' := (mkF m 78 #[.val (.int p0), .val (.int p1), .val (.int ((p0 &&& (2147483647 : Int32)) - ((p0 &&& (2147483647 : Int32)) / (3 : Int32)) * (3 : Int32))), .val (.int ((p1 &&& (2147483647 : Int32)) - ((p1 &&& (2147483647 : Int32)) / (3 : Int32)) * (3 : Int32))), .val (.long (f2 (f1 ((p0 &&& (2147483647 : Int32)) - ((p0 &&& (2147483647 : Int32)) / (3 : Int32)) * (3 : Int32))))), .second, .val (.long (f2 (f1 ((p1 &&& (2147483647 : Int32)) - ((p1 &&& (2147483647 : Int32)) / (3 : Int32)) * (3 : Int32))))), .second, .val (.int g8_69), .unset] [(.int (1 : Int32)), (.int g100_69)])) ?_ (fun t q => XS.iconst X.here hx rfl (hb hby at_77) q)
      refine own_st (T' := T) (f' := (mkF m 82 #[.val (.int p0), .val (.int p1), .val (.int ((p0 &&& (2147483647 : Int32)) - ((p0 &&& (2147483647 : Int32)) / (3 : Int32)) * (3 : Int32))), .val (.int ((p1 &&& (2147483647 : Int32)) - ((p1 &&& (2147483647 : Int32)) / (3 : Int32)) * (3 : Int32))), .val (.long (f2 (f1 ((p0 &&& (2147483647 : Int32)) - ((p0 &&& (2147483647 : Int32)) / (3 : Int32)) * (3 : Int32))))), .second, .val (.long (f2 (f1 ((p1 &&& (2147483647 : Int32)) - ((p1 &&& (2147483647 : Int32)) / (3 : Int32)) * (3 : Int32))))), .second, .val (.int g8_69), .unset] [(.int (1 : Int32)), (.int g100_69)])) ?_ (fun t q => XS.goto X.here hx rfl (pc0 := 78) (pc' := 82) rfl (hb hby at_78) (by decide) (by decide) q)
      exact B82 T _ g8_69 (1 : Int32) g100_69 X N eh
    · refine own_st (T' := T) (f' := (mkF m 81 #[.val (.int p0), .val (.int p1), .val (.int ((p0 &&& (2147483647 : Int32)) - ((p0 &&& (2147483647 : Int32)) / (3 : Int32)) * (3 : Int32))), .val (.int ((p1 &&& (2147483647 : Int32)) - ((p1 &&& (2147483647 : Int32)) / (3 : Int32)) * (3 : Int32))), .val (.long (f2 (f1 ((p0 &&& (2147483647 : Int32)) - ((p0 &&& (2147483647 : Int32)) / (3 : Int32)) * (3 : Int32))))), .second, .val (.long (f2 (f1 ((p1 &&& (2147483647 : Int32)) - ((p1 &&& (2147483647 : Int32)) / (3 : Int32)) * (3 : Int32))))), .second, .val (.int g8_69), .unset] [(.int g100_69)])) ?_ (fun t q => XS.ifYes X.here hx rfl (pc0 := 74) (pc' := 81) rfl (hb hby at_74) rfl ((if0 _ _).trans (flt (fun z => hc74 ((lw_lt _ _).mp z))).2.1) (by decide) (by decide) q)
      refine own_st (T' := T) (f' := (mkF m 82 #[.val (.int p0), .val (.int p1), .val (.int ((p0 &&& (2147483647 : Int32)) - ((p0 &&& (2147483647 : Int32)) / (3 : Int32)) * (3 : Int32))), .val (.int ((p1 &&& (2147483647 : Int32)) - ((p1 &&& (2147483647 : Int32)) / (3 : Int32)) * (3 : Int32))), .val (.long (f2 (f1 ((p0 &&& (2147483647 : Int32)) - ((p0 &&& (2147483647 : Int32)) / (3 : Int32)) * (3 : Int32))))), .second, .val (.long (f2 (f1 ((p1 &&& (2147483647 : Int32)) - ((p1 &&& (2147483647 : Int32)) / (3 : Int32)) * (3 : Int32))))), .second, .val (.int g8_69), .unset] [(.int (0 : Int32)), (.int g100_69)])) ?_ (fun t q => XS.iconst X.here hx rfl (hb hby at_81) q)
      exact B82 T _ g8_69 (0 : Int32) g100_69 X N eh
  have B57 : ∀ (T : State) (locs : List Loc) (g100_57 : Int32) (X : Stand p l e room_1 s m #[(.int p0), (.int p1)] below meth c T locs 0 0) (N : Fr n0 locs) (eh : T.heap = h0), own_W p e below s 0 0 (own_GI n0 (fun h => h = h0) (f0_57 p0 p1 g100_57)) T (mkF m 57 #[.val (.int p0), .val (.int p1), .val (.int ((p0 &&& (2147483647 : Int32)) - ((p0 &&& (2147483647 : Int32)) / (3 : Int32)) * (3 : Int32))), .val (.int ((p1 &&& (2147483647 : Int32)) - ((p1 &&& (2147483647 : Int32)) / (3 : Int32)) * (3 : Int32))), .val (.long (f2 (f1 ((p0 &&& (2147483647 : Int32)) - ((p0 &&& (2147483647 : Int32)) / (3 : Int32)) * (3 : Int32))))), .second, .val (.long (f2 (f1 ((p1 &&& (2147483647 : Int32)) - ((p1 &&& (2147483647 : Int32)) / (3 : Int32)) * (3 : Int32))))), .second, .unset, .unset] [(.int g100_57)]) := by
    intro T locs g100_57 X N eh
    unfold f0_57
    refine own_st (T' := T) (f' := (mkF m 59 #[.val (.int p0), .val (.int p1), .val (.int ((p0 &&& (2147483647 : Int32)) - ((p0 &&& (2147483647 : Int32)) / (3 : Int32)) * (3 : Int32))), .val (.int ((p1 &&& (2147483647 : Int32)) - ((p1 &&& (2147483647 : Int32)) / (3 : Int32)) * (3 : Int32))), .val (.long (f2 (f1 ((p0 &&& (2147483647 : Int32)) - ((p0 &&& (2147483647 : Int32)) / (3 : Int32)) * (3 : Int32))))), .second, .val (.long (f2 (f1 ((p1 &&& (2147483647 : Int32)) - ((p1 &&& (2147483647 : Int32)) / (3 : Int32)) * (3 : Int32))))), .second, .val (.int g100_57), .unset] [])) ?_ (fun t q => XS.istore X.here hx rfl (hb hby at_57) rfl (l' := #[.val (.int p0), .val (.int p1), .val (.int ((p0 &&& (2147483647 : Int32)) - ((p0 &&& (2147483647 : Int32)) / (3 : Int32)) * (3 : Int32))), .val (.int ((p1 &&& (2147483647 : Int32)) - ((p1 &&& (2147483647 : Int32)) / (3 : Int32)) * (3 : Int32))), .val (.long (f2 (f1 ((p0 &&& (2147483647 : Int32)) - ((p0 &&& (2147483647 : Int32)) / (3 : Int32)) * (3 : Int32))))), .second, .val (.long (f2 (f1 ((p1 &&& (2147483647 : Int32)) - ((p1 &&& (2147483647 : Int32)) / (3 : Int32)) * (3 : Int32))))), .second, .val (.int g100_57), .unset]) rfl q)
    refine own_st (T' := T) (f' := (mkF m 60 #[.val (.int p0), .val (.int p1), .val (.int ((p0 &&& (2147483647 : Int32)) - ((p0 &&& (2147483647 : Int32)) / (3 : Int32)) * (3 : Int32))), .val (.int ((p1 &&& (2147483647 : Int32)) - ((p1 &&& (2147483647 : Int32)) / (3 : Int32)) * (3 : Int32))), .val (.long (f2 (f1 ((p0 &&& (2147483647 : Int32)) - ((p0 &&& (2147483647 : Int32)) / (3 : Int32)) * (3 : Int32))))), .second, .val (.long (f2 (f1 ((p1 &&& (2147483647 : Int32)) - ((p1 &&& (2147483647 : Int32)) / (3 : Int32)) * (3 : Int32))))), .second, .val (.int g100_57), .unset] [(.int ((p0 &&& (2147483647 : Int32)) - ((p0 &&& (2147483647 : Int32)) / (3 : Int32)) * (3 : Int32)))])) ?_ (fun t q => XS.iloadN X.here hx rfl (hb hby at_59) rfl q)
    refine own_st (T' := T) (f' := (mkF m 61 #[.val (.int p0), .val (.int p1), .val (.int ((p0 &&& (2147483647 : Int32)) - ((p0 &&& (2147483647 : Int32)) / (3 : Int32)) * (3 : Int32))), .val (.int ((p1 &&& (2147483647 : Int32)) - ((p1 &&& (2147483647 : Int32)) / (3 : Int32)) * (3 : Int32))), .val (.long (f2 (f1 ((p0 &&& (2147483647 : Int32)) - ((p0 &&& (2147483647 : Int32)) / (3 : Int32)) * (3 : Int32))))), .second, .val (.long (f2 (f1 ((p1 &&& (2147483647 : Int32)) - ((p1 &&& (2147483647 : Int32)) / (3 : Int32)) * (3 : Int32))))), .second, .val (.int g100_57), .unset] [(.int ((p1 &&& (2147483647 : Int32)) - ((p1 &&& (2147483647 : Int32)) / (3 : Int32)) * (3 : Int32))), (.int ((p0 &&& (2147483647 : Int32)) - ((p0 &&& (2147483647 : Int32)) / (3 : Int32)) * (3 : Int32)))])) ?_ (fun t q => XS.iloadN X.here hx rfl (hb hby at_60) rfl q)
    refine own_ite (fun hc61 => ?_) (fun hc61 => ?_)
    · refine own_st (T' := T) (f' := (mkF m 64 #[.val (.int p0), .val (.int p1), .val (.int ((p0 &&& (2147483647 : Int32)) - ((p0 &&& (2147483647 : Int32)) / (3 : Int32)) * (3 : Int32))), .val (.int ((p1 &&& (2147483647 : Int32)) - ((p1 &&& (2147483647 : Int32)) / (3 : Int32)) * (3 : Int32))), .val (.long (f2 (f1 ((p0 &&& (2147483647 : Int32)) - ((p0 &&& (2147483647 : Int32)) / (3 : Int32)) * (3 : Int32))))), .second, .val (.long (f2 (f1 ((p1 &&& (2147483647 : Int32)) - ((p1 &&& (2147483647 : Int32)) / (3 : Int32)) * (3 : Int32))))), .second, .val (.int g100_57), .unset] [])) ?_ (fun t q => XS.icmpNo X.here hx rfl (hb hby at_61) rfl (tlt hc61).2.1 q)
      refine own_st (T' := T) (f' := (mkF m 65 #[.val (.int p0), .val (.int p1), .val (.int ((p0 &&& (2147483647 : Int32)) - ((p0 &&& (2147483647 : Int32)) / (3 : Int32)) * (3 : Int32))), .val (.int ((p1 &&& (2147483647 : Int32)) - ((p1 &&& (2147483647 : Int32)) / (3 : Int32)) * (3 : Int32))), .val (.long (f2 (f1 ((p0 &&& (2147483647 : Int32)) - ((p0 &&& (2147483647 : Int32)) / (3 : Int32)) * (3 : Int32))))), .second, .val (.long (f2 (f1 ((p1 &&& (2147483647 : Int32)) - ((p1 &&& (2147483647 : Int32)) / (3 : Int32)) * (3 : Int32))))), .second, .val (.int g100_57), .unset] [(.int (1 : Int32))])) ?_ (fun t q => XS.iconst X.here hx rfl (hb hby at_64) q)
      refine own_st (T' := T) (f' := (mkF m 69 #[.val (.int p0), .val (.int p1), .val (.int ((p0 &&& (2147483647 : Int32)) - ((p0 &&& (2147483647 : Int32)) / (3 : Int32)) * (3 : Int32))), .val (.int ((p1 &&& (2147483647 : Int32)) - ((p1 &&& (2147483647 : Int32)) / (3 : Int32)) * (3 : Int32))), .val (.long (f2 (f1 ((p0 &&& (2147483647 : Int32)) - ((p0 &&& (2147483647 : Int32)) / (3 : Int32)) * (3 : Int32))))), .second, .val (.long (f2 (f1 ((p1 &&& (2147483647 : Int32)) - ((p1 &&& (2147483647 : Int32)) / (3 : Int32)) * (3 : Int32))))), .second, .val (.int g100_57), .unset] [(.int (1 : Int32))])) ?_ (fun t q => XS.goto X.here hx rfl (pc0 := 65) (pc' := 69) rfl (hb hby at_65) (by decide) (by decide) q)
      exact B69 T _ g100_57 (1 : Int32) X N eh
    · refine own_st (T' := T) (f' := (mkF m 68 #[.val (.int p0), .val (.int p1), .val (.int ((p0 &&& (2147483647 : Int32)) - ((p0 &&& (2147483647 : Int32)) / (3 : Int32)) * (3 : Int32))), .val (.int ((p1 &&& (2147483647 : Int32)) - ((p1 &&& (2147483647 : Int32)) / (3 : Int32)) * (3 : Int32))), .val (.long (f2 (f1 ((p0 &&& (2147483647 : Int32)) - ((p0 &&& (2147483647 : Int32)) / (3 : Int32)) * (3 : Int32))))), .second, .val (.long (f2 (f1 ((p1 &&& (2147483647 : Int32)) - ((p1 &&& (2147483647 : Int32)) / (3 : Int32)) * (3 : Int32))))), .second, .val (.int g100_57), .unset] [])) ?_ (fun t q => XS.icmpYes X.here hx rfl (pc0 := 61) (pc' := 68) rfl (hb hby at_61) rfl (flt hc61).2.1 (by decide) (by decide) q)
      refine own_st (T' := T) (f' := (mkF m 69 #[.val (.int p0), .val (.int p1), .val (.int ((p0 &&& (2147483647 : Int32)) - ((p0 &&& (2147483647 : Int32)) / (3 : Int32)) * (3 : Int32))), .val (.int ((p1 &&& (2147483647 : Int32)) - ((p1 &&& (2147483647 : Int32)) / (3 : Int32)) * (3 : Int32))), .val (.long (f2 (f1 ((p0 &&& (2147483647 : Int32)) - ((p0 &&& (2147483647 : Int32)) / (3 : Int32)) * (3 : Int32))))), .second, .val (.long (f2 (f1 ((p1 &&& (2147483647 : Int32)) - ((p1 &&& (2147483647 : Int32)) / (3 : Int32)) * (3 : Int32))))), .second, .val (.int g100_57), .unset] [(.int (0 : Int32))])) ?_ (fun t q => XS.iconst X.here hx rfl (hb hby at_68) q)
      exact B69 T _ g100_57 (0 : Int32) X N eh
  have B56 : ∀ (T : State) (locs : List Loc) (X : Stand p l e room_1 s m #[(.int p0), (.int p1)] below meth c T locs 0 0) (N : Fr n0 locs) (eh : T.heap = h0), own_W p e below s 0 0 (own_GI n0 (fun h => h = h0) (f0_56 p0 p1)) T (mkF m 56 #[.val (.int p0), .val (.int p1), .val (.int ((p0 &&& (2147483647 : Int32)) - ((p0 &&& (2147483647 : Int32)) / (3 : Int32)) * (3 : Int32))), .val (.int ((p1 &&& (2147483647 : Int32)) - ((p1 &&& (2147483647 : Int32)) / (3 : Int32)) * (3 : Int32))), .val (.long (f2 (f1 ((p0 &&& (2147483647 : Int32)) - ((p0 &&& (2147483647 : Int32)) / (3 : Int32)) * (3 : Int32))))), .second, .val (.long (f2 (f1 ((p1 &&& (2147483647 : Int32)) - ((p1 &&& (2147483647 : Int32)) / (3 : Int32)) * (3 : Int32))))), .second, .unset, .unset] []) := by
    intro T locs X N eh
    unfold f0_56
    refine own_st (T' := T) (f' := (mkF m 57 #[.val (.int p0), .val (.int p1), .val (.int ((p0 &&& (2147483647 : Int32)) - ((p0 &&& (2147483647 : Int32)) / (3 : Int32)) * (3 : Int32))), .val (.int ((p1 &&& (2147483647 : Int32)) - ((p1 &&& (2147483647 : Int32)) / (3 : Int32)) * (3 : Int32))), .val (.long (f2 (f1 ((p0 &&& (2147483647 : Int32)) - ((p0 &&& (2147483647 : Int32)) / (3 : Int32)) * (3 : Int32))))), .second, .val (.long (f2 (f1 ((p1 &&& (2147483647 : Int32)) - ((p1 &&& (2147483647 : Int32)) / (3 : Int32)) * (3 : Int32))))), .second, .unset, .unset] [(.int (0 : Int32))])) ?_ (fun t q => XS.iconst X.here hx rfl (hb hby at_56) q)
    exact B57 T _ (0 : Int32) X N eh
  show own_W p e below s 0 0 (own_GI n0 (fun h => h = h0) (f0 p0 p1)) s₁ (entryFrame m #[(.int p0), (.int p1)] maxLocals)
  refine own_to (ef_0 m p0 p1) ?_
  unfold f0
  refine own_st (T' := s₁) (f' := (mkF m 1 #[.val (.int p0), .val (.int p1), .unset, .unset, .unset, .unset, .unset, .unset, .unset, .unset] [(.int p0)])) ?_ (fun t q => XS.iloadN X0.here hx rfl (hb hby at_0) rfl q)
  refine own_st (T' := s₁) (f' := (mkF m 3 #[.val (.int p0), .val (.int p1), .unset, .unset, .unset, .unset, .unset, .unset, .unset, .unset] [(.int (2147483647 : Int32)), (.int p0)])) ?_ (fun t q => X0.ldcInt hx hown (mvT hZ (hw _ (List.mem_of_getElem? (i := 0) rfl))) (g := (mkF m 1 #[.val (.int p0), .val (.int p1), .unset, .unset, .unset, .unset, .unset, .unset, .unset, .unset] [(.int p0)])) rfl (hb hby at_1) _ q)
  refine own_st (T' := s₁) (f' := (mkF m 4 #[.val (.int p0), .val (.int p1), .unset, .unset, .unset, .unset, .unset, .unset, .unset, .unset] [(.int (p0 &&& (2147483647 : Int32)))])) ?_ (fun t q => XS.iand X0.here hx rfl (hb hby at_3) rfl q)
  refine own_st (T' := s₁) (f' := (mkF m 5 #[.val (.int p0), .val (.int p1), .unset, .unset, .unset, .unset, .unset, .unset, .unset, .unset] [(.int (3 : Int32)), (.int (p0 &&& (2147483647 : Int32)))])) ?_ (fun t q => XS.iconst X0.here hx rfl (hb hby at_4) q)
  refine own_st (T' := s₁) (f' := (mkF m 6 #[.val (.int p0), .val (.int p1), .unset, .unset, .unset, .unset, .unset, .unset, .unset, .unset] [(.int ((p0 &&& (2147483647 : Int32)) - ((p0 &&& (2147483647 : Int32)) / (3 : Int32)) * (3 : Int32)))])) ?_ (fun t q => XS.irem X0.here hx rfl (hb hby at_5) rfl (by decide) q)
  refine own_st (T' := s₁) (f' := (mkF m 7 #[.val (.int p0), .val (.int p1), .val (.int ((p0 &&& (2147483647 : Int32)) - ((p0 &&& (2147483647 : Int32)) / (3 : Int32)) * (3 : Int32))), .unset, .unset, .unset, .unset, .unset, .unset, .unset] [])) ?_ (fun t q => XS.istoreN X0.here hx rfl (hb hby at_6) rfl (l' := #[.val (.int p0), .val (.int p1), .val (.int ((p0 &&& (2147483647 : Int32)) - ((p0 &&& (2147483647 : Int32)) / (3 : Int32)) * (3 : Int32))), .unset, .unset, .unset, .unset, .unset, .unset, .unset]) rfl q)
  refine own_st (T' := s₁) (f' := (mkF m 8 #[.val (.int p0), .val (.int p1), .val (.int ((p0 &&& (2147483647 : Int32)) - ((p0 &&& (2147483647 : Int32)) / (3 : Int32)) * (3 : Int32))), .unset, .unset, .unset, .unset, .unset, .unset, .unset] [(.int p1)])) ?_ (fun t q => XS.iloadN X0.here hx rfl (hb hby at_7) rfl q)
  refine own_st (T' := s₁) (f' := (mkF m 10 #[.val (.int p0), .val (.int p1), .val (.int ((p0 &&& (2147483647 : Int32)) - ((p0 &&& (2147483647 : Int32)) / (3 : Int32)) * (3 : Int32))), .unset, .unset, .unset, .unset, .unset, .unset, .unset] [(.int (2147483647 : Int32)), (.int p1)])) ?_ (fun t q => X0.ldcInt hx hown (mvT hZ (hw _ (List.mem_of_getElem? (i := 0) rfl))) (g := (mkF m 8 #[.val (.int p0), .val (.int p1), .val (.int ((p0 &&& (2147483647 : Int32)) - ((p0 &&& (2147483647 : Int32)) / (3 : Int32)) * (3 : Int32))), .unset, .unset, .unset, .unset, .unset, .unset, .unset] [(.int p1)])) rfl (hb hby at_8) _ q)
  refine own_st (T' := s₁) (f' := (mkF m 11 #[.val (.int p0), .val (.int p1), .val (.int ((p0 &&& (2147483647 : Int32)) - ((p0 &&& (2147483647 : Int32)) / (3 : Int32)) * (3 : Int32))), .unset, .unset, .unset, .unset, .unset, .unset, .unset] [(.int (p1 &&& (2147483647 : Int32)))])) ?_ (fun t q => XS.iand X0.here hx rfl (hb hby at_10) rfl q)
  refine own_st (T' := s₁) (f' := (mkF m 12 #[.val (.int p0), .val (.int p1), .val (.int ((p0 &&& (2147483647 : Int32)) - ((p0 &&& (2147483647 : Int32)) / (3 : Int32)) * (3 : Int32))), .unset, .unset, .unset, .unset, .unset, .unset, .unset] [(.int (3 : Int32)), (.int (p1 &&& (2147483647 : Int32)))])) ?_ (fun t q => XS.iconst X0.here hx rfl (hb hby at_11) q)
  refine own_st (T' := s₁) (f' := (mkF m 13 #[.val (.int p0), .val (.int p1), .val (.int ((p0 &&& (2147483647 : Int32)) - ((p0 &&& (2147483647 : Int32)) / (3 : Int32)) * (3 : Int32))), .unset, .unset, .unset, .unset, .unset, .unset, .unset] [(.int ((p1 &&& (2147483647 : Int32)) - ((p1 &&& (2147483647 : Int32)) / (3 : Int32)) * (3 : Int32)))])) ?_ (fun t q => XS.irem X0.here hx rfl (hb hby at_12) rfl (by decide) q)
  refine own_st (T' := s₁) (f' := (mkF m 14 #[.val (.int p0), .val (.int p1), .val (.int ((p0 &&& (2147483647 : Int32)) - ((p0 &&& (2147483647 : Int32)) / (3 : Int32)) * (3 : Int32))), .val (.int ((p1 &&& (2147483647 : Int32)) - ((p1 &&& (2147483647 : Int32)) / (3 : Int32)) * (3 : Int32))), .unset, .unset, .unset, .unset, .unset, .unset] [])) ?_ (fun t q => XS.istoreN X0.here hx rfl (hb hby at_13) rfl (l' := #[.val (.int p0), .val (.int p1), .val (.int ((p0 &&& (2147483647 : Int32)) - ((p0 &&& (2147483647 : Int32)) / (3 : Int32)) * (3 : Int32))), .val (.int ((p1 &&& (2147483647 : Int32)) - ((p1 &&& (2147483647 : Int32)) / (3 : Int32)) * (3 : Int32))), .unset, .unset, .unset, .unset, .unset, .unset]) rfl q)
  refine own_st (T' := s₁) (f' := (mkF m 15 #[.val (.int p0), .val (.int p1), .val (.int ((p0 &&& (2147483647 : Int32)) - ((p0 &&& (2147483647 : Int32)) / (3 : Int32)) * (3 : Int32))), .val (.int ((p1 &&& (2147483647 : Int32)) - ((p1 &&& (2147483647 : Int32)) / (3 : Int32)) * (3 : Int32))), .unset, .unset, .unset, .unset, .unset, .unset] [(.int ((p0 &&& (2147483647 : Int32)) - ((p0 &&& (2147483647 : Int32)) / (3 : Int32)) * (3 : Int32)))])) ?_ (fun t q => XS.iloadN X0.here hx rfl (hb hby at_14) rfl q)
  obtain ⟨_, _, ⟨T1, L1, k1, n1⟩, -, X1, ⟨Lc1, hQ1, l1, y1, z1⟩, st1⟩ := Jvm.LawKit.callS X0 hx (y := (⟨"com/example/lease/lease/core/TtlUnitSecondsPinLaw", "unitAt", "(I)C"⟩ : MethodName)) hown (mvT hZ (hw _ (List.mem_of_getElem? (i := 1) rfl))) (mvT hZ (hw _ (List.mem_of_getElem? (i := 2) rfl))) (mvT hZ (hw _ (List.mem_of_getElem? (i := 3) rfl))) (mvT hZ (hw _ (List.mem_of_getElem? (i := 4) rfl))) (by decide) (backOf (W := 0) (rm1 l Z a0 hw [] ((p0 &&& (2147483647 : Int32)) - ((p0 &&& (2147483647 : Int32)) / (3 : Int32)) * (3 : Int32)) h0 n0) hZ (hw _ (List.mem_of_getElem? (i := 4) rfl)) (hw _ (List.mem_of_getElem? (i := 3) rfl)) (by decide) (by decide)) (g := (mkF m 15 #[.val (.int p0), .val (.int p1), .val (.int ((p0 &&& (2147483647 : Int32)) - ((p0 &&& (2147483647 : Int32)) / (3 : Int32)) * (3 : Int32))), .val (.int ((p1 &&& (2147483647 : Int32)) - ((p1 &&& (2147483647 : Int32)) / (3 : Int32)) * (3 : Int32))), .unset, .unset, .unset, .unset, .unset, .unset] [(.int ((p0 &&& (2147483647 : Int32)) - ((p0 &&& (2147483647 : Int32)) / (3 : Int32)) * (3 : Int32)))])) rfl (by rw [hml]; rfl) (argsL := [(.int ((p0 &&& (2147483647 : Int32)) - ((p0 &&& (2147483647 : Int32)) / (3 : Int32)) * (3 : Int32)))]) (rest := []) (lenOf pd_0 rfl) rfl (by show 2 * 0 + _ ≤ _; exact Nat.le_of_eq rfl) (hb hby at_15) (fun _ _ => ⟨rfl, e0, (Nat.le_of_ble_eq_true rfl), (Nat.le_of_ble_eq_true rfl)⟩)
  dsimp only [Pt.U, Pt.locs, Pt.cells, Pt.slots] at X1 l1 y1 z1 st1 hQ1
  subst l1 y1 z1
  obtain ⟨rfl, N1q, e1⟩ := hQ1
  have N1 := Fr.app N0 N1q
  refine own_st (T' := T1) (f' := (mkF m 18 #[.val (.int p0), .val (.int p1), .val (.int ((p0 &&& (2147483647 : Int32)) - ((p0 &&& (2147483647 : Int32)) / (3 : Int32)) * (3 : Int32))), .val (.int ((p1 &&& (2147483647 : Int32)) - ((p1 &&& (2147483647 : Int32)) / (3 : Int32)) * (3 : Int32))), .unset, .unset, .unset, .unset, .unset, .unset] [(.int (f1 ((p0 &&& (2147483647 : Int32)) - ((p0 &&& (2147483647 : Int32)) / (3 : Int32)) * (3 : Int32))))])) ?_ (fun t q => st1 _ q)
  obtain ⟨_, _, ⟨T2, L2, k2, n2⟩, -, X2, ⟨Lc2, hQ2, l2, y2, z2⟩, st2⟩ := Jvm.LawKit.callS X1 hx (y := (⟨"com/example/lease/lease/core/Ttl", "unitSeconds", "(C)J"⟩ : MethodName)) hown (mvT hZ (hw _ (List.mem_of_getElem? (i := 5) rfl))) (mvT hZ (hw _ (List.mem_of_getElem? (i := 6) rfl))) (mvT hZ (hw _ (List.mem_of_getElem? (i := 7) rfl))) (mvT hZ (hw _ (List.mem_of_getElem? (i := 8) rfl))) (by decide) (backOf (W := 0) (rm2 l Z a0 hw [] (f1 ((p0 &&& (2147483647 : Int32)) - ((p0 &&& (2147483647 : Int32)) / (3 : Int32)) * (3 : Int32))) h0 n0) hZ (hw _ (List.mem_of_getElem? (i := 8) rfl)) (hw _ (List.mem_of_getElem? (i := 7) rfl)) (by decide) (by decide)) (g := (mkF m 18 #[.val (.int p0), .val (.int p1), .val (.int ((p0 &&& (2147483647 : Int32)) - ((p0 &&& (2147483647 : Int32)) / (3 : Int32)) * (3 : Int32))), .val (.int ((p1 &&& (2147483647 : Int32)) - ((p1 &&& (2147483647 : Int32)) / (3 : Int32)) * (3 : Int32))), .unset, .unset, .unset, .unset, .unset, .unset] [(.int (f1 ((p0 &&& (2147483647 : Int32)) - ((p0 &&& (2147483647 : Int32)) / (3 : Int32)) * (3 : Int32))))])) rfl (by rw [hml]; rfl) (argsL := [(.int (f1 ((p0 &&& (2147483647 : Int32)) - ((p0 &&& (2147483647 : Int32)) / (3 : Int32)) * (3 : Int32))))]) (rest := []) (lenOf pd_1 rfl) rfl (by show 2 * 0 + _ ≤ _; exact Nat.le_of_eq rfl) (hb hby at_18) (fun _ _ => ⟨rfl, e1, (Nat.le_of_ble_eq_true rfl), (Nat.le_of_ble_eq_true rfl)⟩)
  dsimp only [Pt.U, Pt.locs, Pt.cells, Pt.slots] at X2 l2 y2 z2 st2 hQ2
  subst l2 y2 z2
  obtain ⟨rfl, N2q, e2⟩ := hQ2
  have N2 := Fr.app N1 N2q
  refine own_st (T' := T2) (f' := (mkF m 21 #[.val (.int p0), .val (.int p1), .val (.int ((p0 &&& (2147483647 : Int32)) - ((p0 &&& (2147483647 : Int32)) / (3 : Int32)) * (3 : Int32))), .val (.int ((p1 &&& (2147483647 : Int32)) - ((p1 &&& (2147483647 : Int32)) / (3 : Int32)) * (3 : Int32))), .unset, .unset, .unset, .unset, .unset, .unset] [(.long (f2 (f1 ((p0 &&& (2147483647 : Int32)) - ((p0 &&& (2147483647 : Int32)) / (3 : Int32)) * (3 : Int32)))))])) ?_ (fun t q => st2 _ q)
  refine own_st (T' := T2) (f' := (mkF m 23 #[.val (.int p0), .val (.int p1), .val (.int ((p0 &&& (2147483647 : Int32)) - ((p0 &&& (2147483647 : Int32)) / (3 : Int32)) * (3 : Int32))), .val (.int ((p1 &&& (2147483647 : Int32)) - ((p1 &&& (2147483647 : Int32)) / (3 : Int32)) * (3 : Int32))), .val (.long (f2 (f1 ((p0 &&& (2147483647 : Int32)) - ((p0 &&& (2147483647 : Int32)) / (3 : Int32)) * (3 : Int32))))), .second, .unset, .unset, .unset, .unset] [])) ?_ (fun t q => XS.lstore X2.here hx rfl (hb hby at_21) rfl (l' := #[.val (.int p0), .val (.int p1), .val (.int ((p0 &&& (2147483647 : Int32)) - ((p0 &&& (2147483647 : Int32)) / (3 : Int32)) * (3 : Int32))), .val (.int ((p1 &&& (2147483647 : Int32)) - ((p1 &&& (2147483647 : Int32)) / (3 : Int32)) * (3 : Int32))), .val (.long (f2 (f1 ((p0 &&& (2147483647 : Int32)) - ((p0 &&& (2147483647 : Int32)) / (3 : Int32)) * (3 : Int32))))), .second, .unset, .unset, .unset, .unset]) rfl q)
  refine own_st (T' := T2) (f' := (mkF m 24 #[.val (.int p0), .val (.int p1), .val (.int ((p0 &&& (2147483647 : Int32)) - ((p0 &&& (2147483647 : Int32)) / (3 : Int32)) * (3 : Int32))), .val (.int ((p1 &&& (2147483647 : Int32)) - ((p1 &&& (2147483647 : Int32)) / (3 : Int32)) * (3 : Int32))), .val (.long (f2 (f1 ((p0 &&& (2147483647 : Int32)) - ((p0 &&& (2147483647 : Int32)) / (3 : Int32)) * (3 : Int32))))), .second, .unset, .unset, .unset, .unset] [(.int ((p1 &&& (2147483647 : Int32)) - ((p1 &&& (2147483647 : Int32)) / (3 : Int32)) * (3 : Int32)))])) ?_ (fun t q => XS.iloadN X2.here hx rfl (hb hby at_23) rfl q)
  obtain ⟨_, _, ⟨T3, L3, k3, n3⟩, -, X3, ⟨Lc3, hQ3, l3, y3, z3⟩, st3⟩ := Jvm.LawKit.callS X2 hx (y := (⟨"com/example/lease/lease/core/TtlUnitSecondsPinLaw", "unitAt", "(I)C"⟩ : MethodName)) hown (mvT hZ (hw _ (List.mem_of_getElem? (i := 1) rfl))) (mvT hZ (hw _ (List.mem_of_getElem? (i := 2) rfl))) (mvT hZ (hw _ (List.mem_of_getElem? (i := 3) rfl))) (mvT hZ (hw _ (List.mem_of_getElem? (i := 4) rfl))) (by decide) (backOf (W := 0) (rm1 l Z a0 hw [] ((p1 &&& (2147483647 : Int32)) - ((p1 &&& (2147483647 : Int32)) / (3 : Int32)) * (3 : Int32)) h0 n0) hZ (hw _ (List.mem_of_getElem? (i := 4) rfl)) (hw _ (List.mem_of_getElem? (i := 3) rfl)) (by decide) (by decide)) (g := (mkF m 24 #[.val (.int p0), .val (.int p1), .val (.int ((p0 &&& (2147483647 : Int32)) - ((p0 &&& (2147483647 : Int32)) / (3 : Int32)) * (3 : Int32))), .val (.int ((p1 &&& (2147483647 : Int32)) - ((p1 &&& (2147483647 : Int32)) / (3 : Int32)) * (3 : Int32))), .val (.long (f2 (f1 ((p0 &&& (2147483647 : Int32)) - ((p0 &&& (2147483647 : Int32)) / (3 : Int32)) * (3 : Int32))))), .second, .unset, .unset, .unset, .unset] [(.int ((p1 &&& (2147483647 : Int32)) - ((p1 &&& (2147483647 : Int32)) / (3 : Int32)) * (3 : Int32)))])) rfl (by rw [hml]; rfl) (argsL := [(.int ((p1 &&& (2147483647 : Int32)) - ((p1 &&& (2147483647 : Int32)) / (3 : Int32)) * (3 : Int32)))]) (rest := []) (lenOf pd_0 rfl) rfl (by show 2 * 0 + _ ≤ _; exact Nat.le_of_eq rfl) (hb hby at_24) (fun _ _ => ⟨rfl, e2, (Nat.le_of_ble_eq_true rfl), (Nat.le_of_ble_eq_true rfl)⟩)
  dsimp only [Pt.U, Pt.locs, Pt.cells, Pt.slots] at X3 l3 y3 z3 st3 hQ3
  subst l3 y3 z3
  obtain ⟨rfl, N3q, e3⟩ := hQ3
  have N3 := Fr.app N2 N3q
  refine own_st (T' := T3) (f' := (mkF m 27 #[.val (.int p0), .val (.int p1), .val (.int ((p0 &&& (2147483647 : Int32)) - ((p0 &&& (2147483647 : Int32)) / (3 : Int32)) * (3 : Int32))), .val (.int ((p1 &&& (2147483647 : Int32)) - ((p1 &&& (2147483647 : Int32)) / (3 : Int32)) * (3 : Int32))), .val (.long (f2 (f1 ((p0 &&& (2147483647 : Int32)) - ((p0 &&& (2147483647 : Int32)) / (3 : Int32)) * (3 : Int32))))), .second, .unset, .unset, .unset, .unset] [(.int (f1 ((p1 &&& (2147483647 : Int32)) - ((p1 &&& (2147483647 : Int32)) / (3 : Int32)) * (3 : Int32))))])) ?_ (fun t q => st3 _ q)
  obtain ⟨_, _, ⟨T4, L4, k4, n4⟩, -, X4, ⟨Lc4, hQ4, l4, y4, z4⟩, st4⟩ := Jvm.LawKit.callS X3 hx (y := (⟨"com/example/lease/lease/core/Ttl", "unitSeconds", "(C)J"⟩ : MethodName)) hown (mvT hZ (hw _ (List.mem_of_getElem? (i := 5) rfl))) (mvT hZ (hw _ (List.mem_of_getElem? (i := 6) rfl))) (mvT hZ (hw _ (List.mem_of_getElem? (i := 7) rfl))) (mvT hZ (hw _ (List.mem_of_getElem? (i := 8) rfl))) (by decide) (backOf (W := 0) (rm2 l Z a0 hw [] (f1 ((p1 &&& (2147483647 : Int32)) - ((p1 &&& (2147483647 : Int32)) / (3 : Int32)) * (3 : Int32))) h0 n0) hZ (hw _ (List.mem_of_getElem? (i := 8) rfl)) (hw _ (List.mem_of_getElem? (i := 7) rfl)) (by decide) (by decide)) (g := (mkF m 27 #[.val (.int p0), .val (.int p1), .val (.int ((p0 &&& (2147483647 : Int32)) - ((p0 &&& (2147483647 : Int32)) / (3 : Int32)) * (3 : Int32))), .val (.int ((p1 &&& (2147483647 : Int32)) - ((p1 &&& (2147483647 : Int32)) / (3 : Int32)) * (3 : Int32))), .val (.long (f2 (f1 ((p0 &&& (2147483647 : Int32)) - ((p0 &&& (2147483647 : Int32)) / (3 : Int32)) * (3 : Int32))))), .second, .unset, .unset, .unset, .unset] [(.int (f1 ((p1 &&& (2147483647 : Int32)) - ((p1 &&& (2147483647 : Int32)) / (3 : Int32)) * (3 : Int32))))])) rfl (by rw [hml]; rfl) (argsL := [(.int (f1 ((p1 &&& (2147483647 : Int32)) - ((p1 &&& (2147483647 : Int32)) / (3 : Int32)) * (3 : Int32))))]) (rest := []) (lenOf pd_1 rfl) rfl (by show 2 * 0 + _ ≤ _; exact Nat.le_of_eq rfl) (hb hby at_27) (fun _ _ => ⟨rfl, e3, (Nat.le_of_ble_eq_true rfl), (Nat.le_of_ble_eq_true rfl)⟩)
  dsimp only [Pt.U, Pt.locs, Pt.cells, Pt.slots] at X4 l4 y4 z4 st4 hQ4
  subst l4 y4 z4
  obtain ⟨rfl, N4q, e4⟩ := hQ4
  have N4 := Fr.app N3 N4q
  refine own_st (T' := T4) (f' := (mkF m 30 #[.val (.int p0), .val (.int p1), .val (.int ((p0 &&& (2147483647 : Int32)) - ((p0 &&& (2147483647 : Int32)) / (3 : Int32)) * (3 : Int32))), .val (.int ((p1 &&& (2147483647 : Int32)) - ((p1 &&& (2147483647 : Int32)) / (3 : Int32)) * (3 : Int32))), .val (.long (f2 (f1 ((p0 &&& (2147483647 : Int32)) - ((p0 &&& (2147483647 : Int32)) / (3 : Int32)) * (3 : Int32))))), .second, .unset, .unset, .unset, .unset] [(.long (f2 (f1 ((p1 &&& (2147483647 : Int32)) - ((p1 &&& (2147483647 : Int32)) / (3 : Int32)) * (3 : Int32)))))])) ?_ (fun t q => st4 _ q)
  refine own_st (T' := T4) (f' := (mkF m 32 #[.val (.int p0), .val (.int p1), .val (.int ((p0 &&& (2147483647 : Int32)) - ((p0 &&& (2147483647 : Int32)) / (3 : Int32)) * (3 : Int32))), .val (.int ((p1 &&& (2147483647 : Int32)) - ((p1 &&& (2147483647 : Int32)) / (3 : Int32)) * (3 : Int32))), .val (.long (f2 (f1 ((p0 &&& (2147483647 : Int32)) - ((p0 &&& (2147483647 : Int32)) / (3 : Int32)) * (3 : Int32))))), .second, .val (.long (f2 (f1 ((p1 &&& (2147483647 : Int32)) - ((p1 &&& (2147483647 : Int32)) / (3 : Int32)) * (3 : Int32))))), .second, .unset, .unset] [])) ?_ (fun t q => XS.lstore X4.here hx rfl (hb hby at_30) rfl (l' := #[.val (.int p0), .val (.int p1), .val (.int ((p0 &&& (2147483647 : Int32)) - ((p0 &&& (2147483647 : Int32)) / (3 : Int32)) * (3 : Int32))), .val (.int ((p1 &&& (2147483647 : Int32)) - ((p1 &&& (2147483647 : Int32)) / (3 : Int32)) * (3 : Int32))), .val (.long (f2 (f1 ((p0 &&& (2147483647 : Int32)) - ((p0 &&& (2147483647 : Int32)) / (3 : Int32)) * (3 : Int32))))), .second, .val (.long (f2 (f1 ((p1 &&& (2147483647 : Int32)) - ((p1 &&& (2147483647 : Int32)) / (3 : Int32)) * (3 : Int32))))), .second, .unset, .unset]) rfl q)
  refine own_st (T' := T4) (f' := (mkF m 34 #[.val (.int p0), .val (.int p1), .val (.int ((p0 &&& (2147483647 : Int32)) - ((p0 &&& (2147483647 : Int32)) / (3 : Int32)) * (3 : Int32))), .val (.int ((p1 &&& (2147483647 : Int32)) - ((p1 &&& (2147483647 : Int32)) / (3 : Int32)) * (3 : Int32))), .val (.long (f2 (f1 ((p0 &&& (2147483647 : Int32)) - ((p0 &&& (2147483647 : Int32)) / (3 : Int32)) * (3 : Int32))))), .second, .val (.long (f2 (f1 ((p1 &&& (2147483647 : Int32)) - ((p1 &&& (2147483647 : Int32)) / (3 : Int32)) * (3 : Int32))))), .second, .unset, .unset] [(.long (f2 (f1 ((p0 &&& (2147483647 : Int32)) - ((p0 &&& (2147483647 : Int32)) / (3 : Int32)) * (3 : Int32)))))])) ?_ (fun t q => XS.lload X4.here hx rfl (hb hby at_32) rfl q)
  refine own_st (T' := T4) (f' := (mkF m 35 #[.val (.int p0), .val (.int p1), .val (.int ((p0 &&& (2147483647 : Int32)) - ((p0 &&& (2147483647 : Int32)) / (3 : Int32)) * (3 : Int32))), .val (.int ((p1 &&& (2147483647 : Int32)) - ((p1 &&& (2147483647 : Int32)) / (3 : Int32)) * (3 : Int32))), .val (.long (f2 (f1 ((p0 &&& (2147483647 : Int32)) - ((p0 &&& (2147483647 : Int32)) / (3 : Int32)) * (3 : Int32))))), .second, .val (.long (f2 (f1 ((p1 &&& (2147483647 : Int32)) - ((p1 &&& (2147483647 : Int32)) / (3 : Int32)) * (3 : Int32))))), .second, .unset, .unset] [(.int ((p0 &&& (2147483647 : Int32)) - ((p0 &&& (2147483647 : Int32)) / (3 : Int32)) * (3 : Int32))), (.long (f2 (f1 ((p0 &&& (2147483647 : Int32)) - ((p0 &&& (2147483647 : Int32)) / (3 : Int32)) * (3 : Int32)))))])) ?_ (fun t q => XS.iloadN X4.here hx rfl (hb hby at_34) rfl q)
  obtain ⟨_, _, ⟨T5, L5, k5, n5⟩, -, X5, ⟨Lc5, hQ5, l5, y5, z5⟩, st5⟩ := Jvm.LawKit.callS X4 hx (y := (⟨"com/example/lease/lease/core/TtlUnitSecondsPinLaw", "expected", "(I)J"⟩ : MethodName)) hown (mvT hZ (hw _ (List.mem_of_getElem? (i := 9) rfl))) (mvT hZ (hw _ (List.mem_of_getElem? (i := 10) rfl))) (mvT hZ (hw _ (List.mem_of_getElem? (i := 3) rfl))) (mvT hZ (hw _ (List.mem_of_getElem? (i := 11) rfl))) (by decide) (backOf (W := 2) (rm3 l Z a0 hw [] ((p0 &&& (2147483647 : Int32)) - ((p0 &&& (2147483647 : Int32)) / (3 : Int32)) * (3 : Int32)) h0 n0) hZ (hw _ (List.mem_of_getElem? (i := 11) rfl)) (hw _ (List.mem_of_getElem? (i := 3) rfl)) (by decide) (by decide)) (g := (mkF m 35 #[.val (.int p0), .val (.int p1), .val (.int ((p0 &&& (2147483647 : Int32)) - ((p0 &&& (2147483647 : Int32)) / (3 : Int32)) * (3 : Int32))), .val (.int ((p1 &&& (2147483647 : Int32)) - ((p1 &&& (2147483647 : Int32)) / (3 : Int32)) * (3 : Int32))), .val (.long (f2 (f1 ((p0 &&& (2147483647 : Int32)) - ((p0 &&& (2147483647 : Int32)) / (3 : Int32)) * (3 : Int32))))), .second, .val (.long (f2 (f1 ((p1 &&& (2147483647 : Int32)) - ((p1 &&& (2147483647 : Int32)) / (3 : Int32)) * (3 : Int32))))), .second, .unset, .unset] [(.int ((p0 &&& (2147483647 : Int32)) - ((p0 &&& (2147483647 : Int32)) / (3 : Int32)) * (3 : Int32))), (.long (f2 (f1 ((p0 &&& (2147483647 : Int32)) - ((p0 &&& (2147483647 : Int32)) / (3 : Int32)) * (3 : Int32)))))])) rfl (by rw [hml]; rfl) (argsL := [(.int ((p0 &&& (2147483647 : Int32)) - ((p0 &&& (2147483647 : Int32)) / (3 : Int32)) * (3 : Int32)))]) (rest := [(.long (f2 (f1 ((p0 &&& (2147483647 : Int32)) - ((p0 &&& (2147483647 : Int32)) / (3 : Int32)) * (3 : Int32)))))]) (lenOf pd_2 rfl) rfl (by show 2 * 0 + _ ≤ _; exact Nat.le_of_eq rfl) (hb hby at_35) (fun _ _ => ⟨rfl, e4, (Nat.le_of_ble_eq_true rfl), (Nat.le_of_ble_eq_true rfl)⟩)
  dsimp only [Pt.U, Pt.locs, Pt.cells, Pt.slots] at X5 l5 y5 z5 st5 hQ5
  subst l5 y5 z5
  obtain ⟨rfl, N5q, e5⟩ := hQ5
  have N5 := Fr.app N4 N5q
  refine own_st (T' := T5) (f' := (mkF m 38 #[.val (.int p0), .val (.int p1), .val (.int ((p0 &&& (2147483647 : Int32)) - ((p0 &&& (2147483647 : Int32)) / (3 : Int32)) * (3 : Int32))), .val (.int ((p1 &&& (2147483647 : Int32)) - ((p1 &&& (2147483647 : Int32)) / (3 : Int32)) * (3 : Int32))), .val (.long (f2 (f1 ((p0 &&& (2147483647 : Int32)) - ((p0 &&& (2147483647 : Int32)) / (3 : Int32)) * (3 : Int32))))), .second, .val (.long (f2 (f1 ((p1 &&& (2147483647 : Int32)) - ((p1 &&& (2147483647 : Int32)) / (3 : Int32)) * (3 : Int32))))), .second, .unset, .unset] [(.long (f3 ((p0 &&& (2147483647 : Int32)) - ((p0 &&& (2147483647 : Int32)) / (3 : Int32)) * (3 : Int32)))), (.long (f2 (f1 ((p0 &&& (2147483647 : Int32)) - ((p0 &&& (2147483647 : Int32)) / (3 : Int32)) * (3 : Int32)))))])) ?_ (fun t q => st5 _ q)
  refine own_st (T' := T5) (f' := (mkF m 39 #[.val (.int p0), .val (.int p1), .val (.int ((p0 &&& (2147483647 : Int32)) - ((p0 &&& (2147483647 : Int32)) / (3 : Int32)) * (3 : Int32))), .val (.int ((p1 &&& (2147483647 : Int32)) - ((p1 &&& (2147483647 : Int32)) / (3 : Int32)) * (3 : Int32))), .val (.long (f2 (f1 ((p0 &&& (2147483647 : Int32)) - ((p0 &&& (2147483647 : Int32)) / (3 : Int32)) * (3 : Int32))))), .second, .val (.long (f2 (f1 ((p1 &&& (2147483647 : Int32)) - ((p1 &&& (2147483647 : Int32)) / (3 : Int32)) * (3 : Int32))))), .second, .unset, .unset] [(.int (lcmpW (f2 (f1 ((p0 &&& (2147483647 : Int32)) - ((p0 &&& (2147483647 : Int32)) / (3 : Int32)) * (3 : Int32)))) (f3 ((p0 &&& (2147483647 : Int32)) - ((p0 &&& (2147483647 : Int32)) / (3 : Int32)) * (3 : Int32)))))])) ?_ (fun t q => XS.lcmp X5.here hx rfl (hb hby at_38) rfl q)
  refine own_ite (fun hc39 => ?_) (fun hc39 => ?_)
  · refine own_st (T' := T5) (f' := (mkF m 42 #[.val (.int p0), .val (.int p1), .val (.int ((p0 &&& (2147483647 : Int32)) - ((p0 &&& (2147483647 : Int32)) / (3 : Int32)) * (3 : Int32))), .val (.int ((p1 &&& (2147483647 : Int32)) - ((p1 &&& (2147483647 : Int32)) / (3 : Int32)) * (3 : Int32))), .val (.long (f2 (f1 ((p0 &&& (2147483647 : Int32)) - ((p0 &&& (2147483647 : Int32)) / (3 : Int32)) * (3 : Int32))))), .second, .val (.long (f2 (f1 ((p1 &&& (2147483647 : Int32)) - ((p1 &&& (2147483647 : Int32)) / (3 : Int32)) * (3 : Int32))))), .second, .unset, .unset] [])) ?_ (fun t q => XS.ifNo X5.here hx rfl (hb hby at_39) rfl ((if0 _ _).trans (teq ((lw_eq _ _).mpr hc39)).2) q)
    refine own_st (T' := T5) (f' := (mkF m 44 #[.val (.int p0), .val (.int p1), .val (.int ((p0 &&& (2147483647 : Int32)) - ((p0 &&& (2147483647 : Int32)) / (3 : Int32)) * (3 : Int32))), .val (.int ((p1 &&& (2147483647 : Int32)) - ((p1 &&& (2147483647 : Int32)) / (3 : Int32)) * (3 : Int32))), .val (.long (f2 (f1 ((p0 &&& (2147483647 : Int32)) - ((p0 &&& (2147483647 : Int32)) / (3 : Int32)) * (3 : Int32))))), .second, .val (.long (f2 (f1 ((p1 &&& (2147483647 : Int32)) - ((p1 &&& (2147483647 : Int32)) / (3 : Int32)) * (3 : Int32))))), .second, .unset, .unset] [(.long (f2 (f1 ((p1 &&& (2147483647 : Int32)) - ((p1 &&& (2147483647 : Int32)) / (3 : Int32)) * (3 : Int32)))))])) ?_ (fun t q => XS.lload X5.here hx rfl (hb hby at_42) rfl q)
    refine own_st (T' := T5) (f' := (mkF m 45 #[.val (.int p0), .val (.int p1), .val (.int ((p0 &&& (2147483647 : Int32)) - ((p0 &&& (2147483647 : Int32)) / (3 : Int32)) * (3 : Int32))), .val (.int ((p1 &&& (2147483647 : Int32)) - ((p1 &&& (2147483647 : Int32)) / (3 : Int32)) * (3 : Int32))), .val (.long (f2 (f1 ((p0 &&& (2147483647 : Int32)) - ((p0 &&& (2147483647 : Int32)) / (3 : Int32)) * (3 : Int32))))), .second, .val (.long (f2 (f1 ((p1 &&& (2147483647 : Int32)) - ((p1 &&& (2147483647 : Int32)) / (3 : Int32)) * (3 : Int32))))), .second, .unset, .unset] [(.int ((p1 &&& (2147483647 : Int32)) - ((p1 &&& (2147483647 : Int32)) / (3 : Int32)) * (3 : Int32))), (.long (f2 (f1 ((p1 &&& (2147483647 : Int32)) - ((p1 &&& (2147483647 : Int32)) / (3 : Int32)) * (3 : Int32)))))])) ?_ (fun t q => XS.iloadN X5.here hx rfl (hb hby at_44) rfl q)
    obtain ⟨_, _, ⟨T6, L6, k6, n6⟩, -, X6, ⟨Lc6, hQ6, l6, y6, z6⟩, st6⟩ := Jvm.LawKit.callS X5 hx (y := (⟨"com/example/lease/lease/core/TtlUnitSecondsPinLaw", "expected", "(I)J"⟩ : MethodName)) hown (mvT hZ (hw _ (List.mem_of_getElem? (i := 9) rfl))) (mvT hZ (hw _ (List.mem_of_getElem? (i := 10) rfl))) (mvT hZ (hw _ (List.mem_of_getElem? (i := 3) rfl))) (mvT hZ (hw _ (List.mem_of_getElem? (i := 11) rfl))) (by decide) (backOf (W := 2) (rm3 l Z a0 hw [] ((p1 &&& (2147483647 : Int32)) - ((p1 &&& (2147483647 : Int32)) / (3 : Int32)) * (3 : Int32)) h0 n0) hZ (hw _ (List.mem_of_getElem? (i := 11) rfl)) (hw _ (List.mem_of_getElem? (i := 3) rfl)) (by decide) (by decide)) (g := (mkF m 45 #[.val (.int p0), .val (.int p1), .val (.int ((p0 &&& (2147483647 : Int32)) - ((p0 &&& (2147483647 : Int32)) / (3 : Int32)) * (3 : Int32))), .val (.int ((p1 &&& (2147483647 : Int32)) - ((p1 &&& (2147483647 : Int32)) / (3 : Int32)) * (3 : Int32))), .val (.long (f2 (f1 ((p0 &&& (2147483647 : Int32)) - ((p0 &&& (2147483647 : Int32)) / (3 : Int32)) * (3 : Int32))))), .second, .val (.long (f2 (f1 ((p1 &&& (2147483647 : Int32)) - ((p1 &&& (2147483647 : Int32)) / (3 : Int32)) * (3 : Int32))))), .second, .unset, .unset] [(.int ((p1 &&& (2147483647 : Int32)) - ((p1 &&& (2147483647 : Int32)) / (3 : Int32)) * (3 : Int32))), (.long (f2 (f1 ((p1 &&& (2147483647 : Int32)) - ((p1 &&& (2147483647 : Int32)) / (3 : Int32)) * (3 : Int32)))))])) rfl (by rw [hml]; rfl) (argsL := [(.int ((p1 &&& (2147483647 : Int32)) - ((p1 &&& (2147483647 : Int32)) / (3 : Int32)) * (3 : Int32)))]) (rest := [(.long (f2 (f1 ((p1 &&& (2147483647 : Int32)) - ((p1 &&& (2147483647 : Int32)) / (3 : Int32)) * (3 : Int32)))))]) (lenOf pd_2 rfl) rfl (by show 2 * 0 + _ ≤ _; exact Nat.le_of_eq rfl) (hb hby at_45) (fun _ _ => ⟨rfl, e5, (Nat.le_of_ble_eq_true rfl), (Nat.le_of_ble_eq_true rfl)⟩)
    dsimp only [Pt.U, Pt.locs, Pt.cells, Pt.slots] at X6 l6 y6 z6 st6 hQ6
    subst l6 y6 z6
    obtain ⟨rfl, N6q, e6⟩ := hQ6
    have N6 := Fr.app N5 N6q
    refine own_st (T' := T6) (f' := (mkF m 48 #[.val (.int p0), .val (.int p1), .val (.int ((p0 &&& (2147483647 : Int32)) - ((p0 &&& (2147483647 : Int32)) / (3 : Int32)) * (3 : Int32))), .val (.int ((p1 &&& (2147483647 : Int32)) - ((p1 &&& (2147483647 : Int32)) / (3 : Int32)) * (3 : Int32))), .val (.long (f2 (f1 ((p0 &&& (2147483647 : Int32)) - ((p0 &&& (2147483647 : Int32)) / (3 : Int32)) * (3 : Int32))))), .second, .val (.long (f2 (f1 ((p1 &&& (2147483647 : Int32)) - ((p1 &&& (2147483647 : Int32)) / (3 : Int32)) * (3 : Int32))))), .second, .unset, .unset] [(.long (f3 ((p1 &&& (2147483647 : Int32)) - ((p1 &&& (2147483647 : Int32)) / (3 : Int32)) * (3 : Int32)))), (.long (f2 (f1 ((p1 &&& (2147483647 : Int32)) - ((p1 &&& (2147483647 : Int32)) / (3 : Int32)) * (3 : Int32)))))])) ?_ (fun t q => st6 _ q)
    refine own_st (T' := T6) (f' := (mkF m 49 #[.val (.int p0), .val (.int p1), .val (.int ((p0 &&& (2147483647 : Int32)) - ((p0 &&& (2147483647 : Int32)) / (3 : Int32)) * (3 : Int32))), .val (.int ((p1 &&& (2147483647 : Int32)) - ((p1 &&& (2147483647 : Int32)) / (3 : Int32)) * (3 : Int32))), .val (.long (f2 (f1 ((p0 &&& (2147483647 : Int32)) - ((p0 &&& (2147483647 : Int32)) / (3 : Int32)) * (3 : Int32))))), .second, .val (.long (f2 (f1 ((p1 &&& (2147483647 : Int32)) - ((p1 &&& (2147483647 : Int32)) / (3 : Int32)) * (3 : Int32))))), .second, .unset, .unset] [(.int (lcmpW (f2 (f1 ((p1 &&& (2147483647 : Int32)) - ((p1 &&& (2147483647 : Int32)) / (3 : Int32)) * (3 : Int32)))) (f3 ((p1 &&& (2147483647 : Int32)) - ((p1 &&& (2147483647 : Int32)) / (3 : Int32)) * (3 : Int32)))))])) ?_ (fun t q => XS.lcmp X6.here hx rfl (hb hby at_48) rfl q)
    refine own_ite (fun hc49 => ?_) (fun hc49 => ?_)
    · refine own_st (T' := T6) (f' := (mkF m 52 #[.val (.int p0), .val (.int p1), .val (.int ((p0 &&& (2147483647 : Int32)) - ((p0 &&& (2147483647 : Int32)) / (3 : Int32)) * (3 : Int32))), .val (.int ((p1 &&& (2147483647 : Int32)) - ((p1 &&& (2147483647 : Int32)) / (3 : Int32)) * (3 : Int32))), .val (.long (f2 (f1 ((p0 &&& (2147483647 : Int32)) - ((p0 &&& (2147483647 : Int32)) / (3 : Int32)) * (3 : Int32))))), .second, .val (.long (f2 (f1 ((p1 &&& (2147483647 : Int32)) - ((p1 &&& (2147483647 : Int32)) / (3 : Int32)) * (3 : Int32))))), .second, .unset, .unset] [])) ?_ (fun t q => XS.ifNo X6.here hx rfl (hb hby at_49) rfl ((if0 _ _).trans (teq ((lw_eq _ _).mpr hc49)).2) q)
      refine own_st (T' := T6) (f' := (mkF m 53 #[.val (.int p0), .val (.int p1), .val (.int ((p0 &&& (2147483647 : Int32)) - ((p0 &&& (2147483647 : Int32)) / (3 : Int32)) * (3 : Int32))), .val (.int ((p1 &&& (2147483647 : Int32)) - ((p1 &&& (2147483647 : Int32)) / (3 : Int32)) * (3 : Int32))), .val (.long (f2 (f1 ((p0 &&& (2147483647 : Int32)) - ((p0 &&& (2147483647 : Int32)) / (3 : Int32)) * (3 : Int32))))), .second, .val (.long (f2 (f1 ((p1 &&& (2147483647 : Int32)) - ((p1 &&& (2147483647 : Int32)) / (3 : Int32)) * (3 : Int32))))), .second, .unset, .unset] [(.int (1 : Int32))])) ?_ (fun t q => XS.iconst X6.here hx rfl (hb hby at_52) q)
      refine own_st (T' := T6) (f' := (mkF m 57 #[.val (.int p0), .val (.int p1), .val (.int ((p0 &&& (2147483647 : Int32)) - ((p0 &&& (2147483647 : Int32)) / (3 : Int32)) * (3 : Int32))), .val (.int ((p1 &&& (2147483647 : Int32)) - ((p1 &&& (2147483647 : Int32)) / (3 : Int32)) * (3 : Int32))), .val (.long (f2 (f1 ((p0 &&& (2147483647 : Int32)) - ((p0 &&& (2147483647 : Int32)) / (3 : Int32)) * (3 : Int32))))), .second, .val (.long (f2 (f1 ((p1 &&& (2147483647 : Int32)) - ((p1 &&& (2147483647 : Int32)) / (3 : Int32)) * (3 : Int32))))), .second, .unset, .unset] [(.int (1 : Int32))])) ?_ (fun t q => XS.goto X6.here hx rfl (pc0 := 53) (pc' := 57) rfl (hb hby at_53) (by decide) (by decide) q)
      exact B57 T6 _ (1 : Int32) X6 N6 e6
    · refine own_st (T' := T6) (f' := (mkF m 56 #[.val (.int p0), .val (.int p1), .val (.int ((p0 &&& (2147483647 : Int32)) - ((p0 &&& (2147483647 : Int32)) / (3 : Int32)) * (3 : Int32))), .val (.int ((p1 &&& (2147483647 : Int32)) - ((p1 &&& (2147483647 : Int32)) / (3 : Int32)) * (3 : Int32))), .val (.long (f2 (f1 ((p0 &&& (2147483647 : Int32)) - ((p0 &&& (2147483647 : Int32)) / (3 : Int32)) * (3 : Int32))))), .second, .val (.long (f2 (f1 ((p1 &&& (2147483647 : Int32)) - ((p1 &&& (2147483647 : Int32)) / (3 : Int32)) * (3 : Int32))))), .second, .unset, .unset] [])) ?_ (fun t q => XS.ifYes X6.here hx rfl (pc0 := 49) (pc' := 56) rfl (hb hby at_49) rfl ((if0 _ _).trans (feq (fun z => hc49 ((lw_eq _ _).mp z))).2) (by decide) (by decide) q)
      exact B56 T6 _ X6 N6 e6
  · refine own_st (T' := T5) (f' := (mkF m 56 #[.val (.int p0), .val (.int p1), .val (.int ((p0 &&& (2147483647 : Int32)) - ((p0 &&& (2147483647 : Int32)) / (3 : Int32)) * (3 : Int32))), .val (.int ((p1 &&& (2147483647 : Int32)) - ((p1 &&& (2147483647 : Int32)) / (3 : Int32)) * (3 : Int32))), .val (.long (f2 (f1 ((p0 &&& (2147483647 : Int32)) - ((p0 &&& (2147483647 : Int32)) / (3 : Int32)) * (3 : Int32))))), .second, .val (.long (f2 (f1 ((p1 &&& (2147483647 : Int32)) - ((p1 &&& (2147483647 : Int32)) / (3 : Int32)) * (3 : Int32))))), .second, .unset, .unset] [])) ?_ (fun t q => XS.ifYes X5.here hx rfl (pc0 := 39) (pc' := 56) rfl (hb hby at_39) rfl ((if0 _ _).trans (feq (fun z => hc39 ((lw_eq _ _).mp z))).2) (by decide) (by decide) q)
    exact B56 T5 _ X5 N5 e5

theorem own_three (p : Int32) : ((p &&& (2147483647 : Int32)) - ((p &&& (2147483647 : Int32)) / (3 : Int32)) * (3 : Int32)) = 0 ∨ ((p &&& (2147483647 : Int32)) - ((p &&& (2147483647 : Int32)) / (3 : Int32)) * (3 : Int32)) = 1 ∨ ((p &&& (2147483647 : Int32)) - ((p &&& (2147483647 : Int32)) / (3 : Int32)) * (3 : Int32)) = 2 := by
  have h : ((p &&& (2147483647 : Int32)) - ((p &&& (2147483647 : Int32)) / (3 : Int32)) * (3 : Int32)).toInt = (p.toInt % 2147483648) % 3 := by
    rw [own_rem (by rw [own_and31]; omega) (by decide), own_and31]; rfl
  simp only [← Int32.toInt_inj, h, Int32.reduceToInt]
  omega
theorem own_law (p0 p1 : Int32) : f0 p0 p1 = 1 := by
  simp only [f0_116, f0_115, f0_108, f0_95, f0_82, f0_69, f0_57, f0_56, f0]
  have h0 := own_three p0
  have h1 := own_three p1
  generalize ((p0 &&& (2147483647 : Int32)) - ((p0 &&& (2147483647 : Int32)) / (3 : Int32)) * (3 : Int32)) = i at *
  generalize ((p1 &&& (2147483647 : Int32)) - ((p1 &&& (2147483647 : Int32)) / (3 : Int32)) * (3 : Int32)) = j at *
  rcases h0 with rfl | rfl | rfl <;> rcases h1 with rfl | rfl | rfl <;> decide
set_option maxRecDepth 65536 in
set_option maxHeartbeats 40000000 in
theorem comes_1 {Post : Tables → Env → Array Value → State → Outcome → State → Prop} (hpost : ∀ tb e args s v u, (limb_1_1.after args s (.returned v) u = true ∧ limb_1_2.after args s (.returned v) u = true ∧ True) → FrameEnd s (.returned v) u (Jvm.fieldLocs frame_1_writes args s ++ Jvm.arrayLocs frame_1_arrays args s ++ Jvm.staticLocs frame_1_statics s) 0 0 → Post tb e args s (.returned v) u) :
    ArmFor flags0 classFile x code maxLocals ret World_1 tables_1 room_1 Calls_1 rest_1 Pre_1 Post := by
  intro l hfl _ _ p e ha hc hk s m args below hf hA hF happ hP
  obtain ⟨hcalls, hrest, hpre⟩ := hP
  obtain ⟨-, -, -, hnamed, -, -, -, hat⟩ := (Spec.applies_iff hf).mp happ
  obtain ⟨hg, hn⟩ := and_e (Cond.before_iff.mp (show (Jvm.Cond.and given_1 narrow_1).before args s = true from hpre))
  obtain ⟨hcnt, g0⟩ := and_e hg
  obtain ⟨t0, g1⟩ := and_e g0
  have t1 := g1
  obtain ⟨w0, w1, rfl⟩ : ∃ w0 w1 : Value, args = #[w0, w1] := by
    have hs : args.size = 2 := by simpa [Cond.value, given_1] using hcnt
    obtain ⟨L⟩ := args
    match L, hs with
    | [w0, w1], _ => exact ⟨w0, w1, rfl⟩
  have hw := fun d (hd : d ∈ tables_1) => atoms_spec (ws := Jvm.Cond.code x code maxLocals ret :: tables_1) hat d (List.mem_cons_of_mem _ hd)
  obtain ⟨i0, ei0⟩ := is_v t0
  obtain rfl : w0 = (.int i0) := Option.some.inj ei0
  obtain ⟨i1, ei1⟩ := is_v t1
  obtain rfl : w1 = (.int i1) := Option.some.inj ei1
  obtain ⟨n, o, h1, h2, h3, v, L, rfl, ⟨hv, N, -⟩, hq⟩ := rm0 l s _ hw tables_1 i0 i1 s.heap s.heap.size (Nat.le_refl _) p e ha hc hk s m _ below hf ((Spec.applies_iff_loose hf).mp happ).1 ⟨rfl, State.Warmed39.refl s, rfl⟩ trivial
  obtain rfl : v = some (.int 1) := by rw [hv, own_law]
  refine ⟨n, _, h1, h2, h3, hpost _ _ _ _ _ _ ⟨Cond.after_iff.mpr rfl, Cond.after_iff.mpr (eq_i res_at (Term.int_eval (1)) rfl), trivial⟩ ⟨hq.1, hq.2.1, (hq.2.2.sift fun y hy => Or.inr (N y hy)).mono (by decide) (by decide)⟩⟩
theorem main_1_1 : Claimed_1_1 := comes_1 fun _ _ _ _ _ _ h hF => ⟨h.1, hF⟩
theorem main_1_2 : Claimed_1_2 := comes_1 fun _ _ _ _ _ _ h hF => ⟨h.2.1, hF⟩
end Jvm.Pilot.@@N@@
namespace Jvm.Pilot.@@N@@
open Jvm Jvm.ClassFile Sem Op Lib Jvm.Free Jvm.Stand Jvm.Pilot.@@N@@.Jvm.D
/-! MADE BY PROGRAM (witnessworld.py) out of the Statement's table words and the real class files: 9 classes; the members and pool entries that the words name. The judged class is class 1, her method 3. -/
namespace start1
open Jvm.ClassFile
def u (s : String) : CpInfo := .utf8 (stringToUtf16 s)
/-- a pool by its gaps: so many unusable entries, then the entry; so many at the end -/
def gap : Nat → List CpInfo → List CpInfo
  | 0, r => r
  | n + 1, r => .unusable :: gap n r
def poolList (es : List (Nat × CpInfo)) (last : Nat) : List CpInfo := es.foldr (fun e r => gap e.1 (e.2 :: r)) (gap last [])
def pool (es : List (Nat × CpInfo)) (last : Nat) : Array CpInfo := ⟨poolList es last⟩
def fileOf (pool : Array CpInfo) (this : Nat) (attrs : Array Attribute := #[]) (ms : Array MethodInfo := #[]) (fl : Nat := 33) (sup : Nat := 0) (ifs : Array Nat := #[]) (fds : Array FieldInfo := #[]) : ClassFile where
  minorVersion := 0
  majorVersion := 65
  constantPool := pool
  accessFlags := fl
  thisClass := this
  superClass := sup
  interfaces := ifs
  fields := fds
  methods := ms
  attributes := attrs
def plain (name : String) (sup : Option ClassId) : Class where
  name := name
  kind := .ordinary
  loader := none
  accessFlags := 33
  super := sup
  interfaces := #[]
  cf := none
  fields := #[]
  methods := #[]
  instanceTypes := #[]
  staticTypes := #[]
  resolved := #[]
  callSites := []
  init := .initialized
  statics := none
  mirror := none

def pool0 : Array CpInfo := pool [(5, u "<init>"), (0, u "()V"), (1, .class_ 10), (1, u "java/lang/Object")] 113

def k0m0 : Method := { name := "<init>", desc := "()V", sig := { parameters := [], returnType := none }, accessFlags := 1, code := none }
/-- java/lang/Object -/
def k0 : Class := { plain "java/lang/Object" none with
  accessFlags := 33
  interfaces := #[]
  cf := some (fileOf pool0 8 #[] #[{ accessFlags := 1, nameIndex := 5, descriptorIndex := 6, attributes := #[] }] 33 0 #[] #[])
  fields := #[]
  methods := #[k0m0]
  instanceTypes := #[]
  staticTypes := #[]
  resolved := Array.replicate 124 none
  statics := none }

def pool1 : Array CpInfo := pool [(2, .class_ 4), (1, u "java/lang/Object"), (0, u "<init>"), (0, u "()V"), (0, .long 60), (1, .long 3600), (1, .integer 2147483647), (0, .methodref 13 14), (0, .class_ 15), (0, .nameAndType 16 17), (0, u "com/example/lease/lease/core/TtlUnitSecondsPinLaw"), (0, u "unitAt"), (0, u "(I)C"), (0, .methodref 19 20), (0, .class_ 21), (0, .nameAndType 22 23), (0, u "com/example/lease/lease/core/Ttl"), (0, u "unitSeconds"), (0, u "(C)J"), (0, .methodref 13 25), (0, .nameAndType 26 27), (0, u "expected"), (0, u "(I)J"), (3, u "law"), (0, u "(II)Z")] 2

def k1m0 : Method := { name := "<init>", desc := "()V", sig := { parameters := [], returnType := none }, accessFlags := 2, code := none }
def k1c1 : Code := { maxStack := 2, maxLocals := 1, code := method_2_code, exceptionTable := #[], attributes := #[] }
def k1m1 : Method := { name := "unitAt", desc := "(I)C", sig := { parameters := [.int], returnType := some .char }, accessFlags := 10, code := some k1c1 }
def k1c2 : Code := { maxStack := 2, maxLocals := 1, code := method_3_code, exceptionTable := #[], attributes := #[] }
def k1m2 : Method := { name := "expected", desc := "(I)J", sig := { parameters := [.int], returnType := some .long }, accessFlags := 10, code := some k1c2 }
def k1c3 : Code := { maxStack := 5, maxLocals := 10, code := code, exceptionTable := #[], attributes := #[] }
def k1m3 : Method := { name := "law", desc := "(II)Z", sig := { parameters := [.int, .int], returnType := some .boolean }, accessFlags := 9, code := some k1c3 }
/-- com/example/lease/lease/core/TtlUnitSecondsPinLaw -/
def k1 : Class := { plain "com/example/lease/lease/core/TtlUnitSecondsPinLaw" (some 0) with
  accessFlags := 49
  interfaces := #[]
  cf := some (fileOf pool1 13 #[] #[{ accessFlags := 2, nameIndex := 5, descriptorIndex := 6, attributes := #[] }, { accessFlags := 10, nameIndex := 16, descriptorIndex := 17, attributes := #[] }, { accessFlags := 10, nameIndex := 26, descriptorIndex := 27, attributes := #[] }, { accessFlags := 9, nameIndex := 31, descriptorIndex := 32, attributes := #[] }] 49 2 #[] #[])
  fields := #[]
  methods := #[k1m0, k1m1, k1m2, k1m3]
  instanceTypes := #[]
  staticTypes := #[]
  resolved := Array.replicate 35 none
  statics := none }

def pool2 : Array CpInfo := pool [(2, .class_ 4), (1, u "java/lang/Object"), (0, u "<init>"), (0, u "()V"), (1, .class_ 10), (1, u "com/example/lease/lease/core/Ttl"), (45, u "unitSeconds"), (0, u "(C)J"), (39, u "LATEST_EXPIRY"), (0, u "Ljava/time/Instant;"), (31, .long 60), (1, .long 3600), (8, u "TASK_DEFAULT"), (0, u "Ljava/time/Duration;"), (4, u "LOCK_DEFAULT"), (8, u "NOT_POSITIVE"), (0, u "Ljava/lang/String;"), (1, u "UNITS")] 30

def k2m0 : Method := { name := "<init>", desc := "()V", sig := { parameters := [], returnType := none }, accessFlags := 2, code := none }
def k2c1 : Code := { maxStack := 2, maxLocals := 1, code := prog_69_method_8_code, exceptionTable := #[], attributes := #[] }
def k2m1 : Method := { name := "unitSeconds", desc := "(C)J", sig := { parameters := [.char], returnType := some .long }, accessFlags := 9, code := some k2c1 }
/-- com/example/lease/lease/core/Ttl -/
def k2 : Class := { plain "com/example/lease/lease/core/Ttl" (some 0) with
  accessFlags := 49
  interfaces := #[]
  cf := some (fileOf pool2 8 #[] #[{ accessFlags := 2, nameIndex := 5, descriptorIndex := 6, attributes := #[] }, { accessFlags := 9, nameIndex := 56, descriptorIndex := 57, attributes := #[] }] 49 2 #[] #[{ accessFlags := 25, nameIndex := 141, descriptorIndex := 142, attributes := #[] }, { accessFlags := 25, nameIndex := 147, descriptorIndex := 142, attributes := #[] }, { accessFlags := 24, nameIndex := 156, descriptorIndex := 157, attributes := #[] }, { accessFlags := 25, nameIndex := 159, descriptorIndex := 157, attributes := #[] }, { accessFlags := 26, nameIndex := 97, descriptorIndex := 98, attributes := #[] }])
  fields := #[{ name := "TASK_DEFAULT", type := (.object "java/time/Duration"), accessFlags := 25, slot := 0, constantValue := 0 }, { name := "LOCK_DEFAULT", type := (.object "java/time/Duration"), accessFlags := 25, slot := 1, constantValue := 0 }, { name := "NOT_POSITIVE", type := (.object "java/lang/String"), accessFlags := 24, slot := 2, constantValue := 0 }, { name := "UNITS", type := (.object "java/lang/String"), accessFlags := 25, slot := 3, constantValue := 0 }, { name := "LATEST_EXPIRY", type := (.object "java/time/Instant"), accessFlags := 26, slot := 4, constantValue := 0 }]
  methods := #[k2m0, k2m1]
  instanceTypes := #[]
  staticTypes := #[(.object "java/time/Duration"), (.object "java/time/Duration"), (.object "java/lang/String"), (.object "java/lang/String"), (.object "java/time/Instant")]
  resolved := Array.replicate 190 none
  statics := none }

def pool3 : Array CpInfo := pool [(1, u "java/lang/Cloneable"), (0, .class_ 1), (0, u "java/lang/Object"), (0, .class_ 3)] 3

/-- java/lang/Cloneable -/
def k3 : Class := { plain "java/lang/Cloneable" (some 0) with
  accessFlags := 1537
  interfaces := #[]
  cf := some (fileOf pool3 2 #[] #[] 1537 4 #[] #[])
  fields := #[]
  methods := #[]
  instanceTypes := #[]
  staticTypes := #[]
  resolved := Array.replicate 8 none
  statics := none }

def pool4 : Array CpInfo := pool [(1, u "java/io/Serializable"), (0, .class_ 1), (0, u "java/lang/Object"), (0, .class_ 3)] 3

/-- java/io/Serializable -/
def k4 : Class := { plain "java/io/Serializable" (some 0) with
  accessFlags := 1537
  interfaces := #[]
  cf := some (fileOf pool4 2 #[] #[] 1537 4 #[] #[])
  fields := #[]
  methods := #[]
  instanceTypes := #[]
  staticTypes := #[]
  resolved := Array.replicate 8 none
  statics := none }

/-- the primitive byte -/
def k5 : Class := { plain "byte" none with kind := .primitive 'B', accessFlags := 0x411 }
/-- [B -/
def k6 : Class := { plain "[B" (some 0) with kind := .array 5 .byte, interfaces := #[3, 4], accessFlags := 1041 }

/-- the primitive int -/
def k7 : Class := { plain "int" none with kind := .primitive 'I', accessFlags := 0x411 }
/-- [I -/
def k8 : Class := { plain "[I" (some 0) with kind := .array 7 .int, interfaces := #[3, 4], accessFlags := 1041 }

def heap : Heap := #[]
def classes : Array Class := #[k0, k1, k2, k3, k4, k5, k6, k7, k8]
def interned : List (Array UInt16 × Addr) := []
def slotsUsed : Nat := 0
def theMethod : MethodId := ⟨1, 3⟩
def args0 : Array Value := #[.int 5, .int 5]
def aboutOver (below : List Frame) : State where
  vm := { classes := classes, interned := interned.toArray }
  heap := heap
  slotsUsed := slotsUsed
  threads := #[{ frames := .invoking theMethod args0 :: below }]
def below0 : List Frame := [.native { method := ⟨0, 0⟩, args := #[] }]
def about1 : State := aboutOver below0
def p0 : Program := .bare "" "" ""
def e0 : Env := launch0.env 0 0 0
theorem w_frames : about1.frames = Frame.invoking theMethod args0 :: below0 := rfl
set_option maxRecDepth 65536 in
theorem w_args : argsFit about1.vm theMethod args0 = true := by decide +kernel
set_option maxRecDepth 65536 in
theorem w_heap : heapFits about1 = true := by decide +kernel
set_option maxRecDepth 65536 in
theorem w_runnable : about1.curStatus? = some .runnable := by decide +kernel
set_option maxRecDepth 65536 in
theorem w_alone : about1.alone = true := by decide +kernel
set_option maxRecDepth 65536 in
theorem w_named : about1.methodNamed? x = some theMethod := by decide +kernel
set_option maxRecDepth 65536 in
theorem w_hears : about1.hears theMethod below0 = true := by decide +kernel
set_option maxRecDepth 65536 in
theorem w_ripe : about1.ripe theMethod args0 below0 = true := by decide +kernel
theorem w_running : about1.status = .running := rfl
set_option maxRecDepth 65536 in
theorem w_room : about1.hasRoom e0.platform room_1 = true :=
  launch0.hasRoom_least _ room_1 (by decide +kernel) (by decide +kernel) (by decide +kernel) (by decide +kernel) (by decide +kernel) (by decide +kernel)
theorem allAtoms_all (ts : List Jvm.Cond) (a : Array Jvm.Value) (st : Jvm.State) : (allAtoms ts).before a st = ts.all (fun c => c.before a st) := by
  induction ts with
  | nil => rfl
  | cons c t ih =>
    show (Jvm.Cond.and c (allAtoms t)).before a st = _
    rw [Jvm.Cond.before_and, ih, List.all_cons]
def words1 : List Jvm.Cond := Jvm.Cond.code x code maxLocals ret :: tables_1
/-- a 'code' word, met by the world's own term for the bytes: nothing is compared byte by byte -/
theorem code_word {y : MethodName} {bytes : ByteArray} {mx : Nat} {rt : Option FieldType} {a : Array Value} {s : State} {m : MethodId} {meth : Method} {c : Code} (h1 : s.methodNamed? y = some m) (h2 : s.vm.method? m = some meth) (h3 : meth.code = some c) (h4 : c.code = bytes)
    (h5 : (c.maxLocals == mx && c.exceptionTable.isEmpty && decide (c.maxStack ≤ mostOperands) && decide (meth.sig.returnType = rt) && !meth.locks && decide (parseMethodDescriptor y.desc = some meth.sig)) = true) : (Jvm.Cond.code y bytes mx rt).before a s = true := by
  simp only [Bool.and_eq_true, beq_iff_eq, Bool.not_eq_true', decide_eq_true_eq] at h5
  obtain ⟨⟨⟨⟨⟨g1, g2⟩, g3⟩, g4⟩, g5⟩, g6⟩ := h5
  simp [Cond.before, Cond.holds, Cond.value, h1, h2, h3, h4, g1, g2, g3, g4, g5, g6]
def isCode : Jvm.Cond → Bool
  | .code _ _ _ _ => true
  | _ => false
theorem all_split {L : List Jvm.Cond} {P : Jvm.Cond → Bool} (h1 : L.all (fun c => isCode c || P c) = true) (h2 : ∀ c ∈ L.filter isCode, P c = true) : L.all P = true := by
  refine List.all_eq_true.mpr fun c hc => ?_
  have h := List.all_eq_true.mp h1 c hc
  rcases Bool.eq_false_or_eq_true (isCode c) with hi | hi
  · exact h2 c (List.mem_filter.mpr ⟨hc, hi⟩)
  · simpa [hi] using h
set_option maxRecDepth 65536 in
theorem w_c0 : (Jvm.Cond.code x code maxLocals ret).before args0 about1 = true := code_word (m := ⟨1, 3⟩) (meth := k1m3) (c := k1c3) (by decide +kernel) rfl rfl rfl (by decide +kernel)
set_option maxRecDepth 65536 in
theorem w_c1 : (Jvm.Cond.code ({ cls := "com/example/lease/lease/core/TtlUnitSecondsPinLaw", name := "unitAt", desc := "(I)C" } : Jvm.MethodName) method_2_code (1 : Nat) (Option.some Jvm.ClassFile.FieldType.char)).before args0 about1 = true := code_word (m := ⟨1, 1⟩) (meth := k1m1) (c := k1c1) (by decide +kernel) rfl rfl rfl (by decide +kernel)
set_option maxRecDepth 65536 in
theorem w_c2 : (Jvm.Cond.code ({ cls := "com/example/lease/lease/core/Ttl", name := "unitSeconds", desc := "(C)J" } : Jvm.MethodName) prog_69_method_8_code (1 : Nat) (Option.some Jvm.ClassFile.FieldType.long)).before args0 about1 = true := code_word (m := ⟨2, 1⟩) (meth := k2m1) (c := k2c1) (by decide +kernel) rfl rfl rfl (by decide +kernel)
set_option maxRecDepth 65536 in
theorem w_c3 : (Jvm.Cond.code ({ cls := "com/example/lease/lease/core/TtlUnitSecondsPinLaw", name := "expected", desc := "(I)J" } : Jvm.MethodName) method_3_code (1 : Nat) (Option.some Jvm.ClassFile.FieldType.long)).before args0 about1 = true := code_word (m := ⟨1, 2⟩) (meth := k1m2) (c := k1c2) (by decide +kernel) rfl rfl rfl (by decide +kernel)
def codes1 : List Jvm.Cond := [Jvm.Cond.code x code maxLocals ret, Jvm.Cond.code ({ cls := "com/example/lease/lease/core/TtlUnitSecondsPinLaw", name := "unitAt", desc := "(I)C" } : Jvm.MethodName) method_2_code (1 : Nat) (Option.some Jvm.ClassFile.FieldType.char), Jvm.Cond.code ({ cls := "com/example/lease/lease/core/Ttl", name := "unitSeconds", desc := "(C)J" } : Jvm.MethodName) prog_69_method_8_code (1 : Nat) (Option.some Jvm.ClassFile.FieldType.long), Jvm.Cond.code ({ cls := "com/example/lease/lease/core/TtlUnitSecondsPinLaw", name := "expected", desc := "(I)J" } : Jvm.MethodName) method_3_code (1 : Nat) (Option.some Jvm.ClassFile.FieldType.long)]
set_option maxRecDepth 65536 in
theorem codes_eq : words1.filter isCode = codes1 := rfl
theorem w_codes : ∀ c ∈ words1.filter isCode, c.before args0 about1 = true := by
  rw [codes_eq]
  intro c hc
  simp only [codes1, List.mem_cons, List.not_mem_nil, or_false] at hc
  rcases hc with rfl | rfl | rfl | rfl
  · exact w_c0
  · exact w_c1
  · exact w_c2
  · exact w_c3
set_option maxRecDepth 65536 in
theorem w_t1 : words1.all (fun c => isCode c || c.before args0 about1) = true := by decide +kernel
theorem w_tables : (allAtoms (Jvm.Cond.code x code maxLocals ret :: tables_1)).before args0 about1 = true := by
  rw [allAtoms_all]
  show words1.all (fun c => c.before args0 about1) = true
  refine all_split ?_ w_codes
  rw [w_t1]
set_option maxRecDepth 65536 in
theorem w_case : (Jvm.Cond.and given_1 narrow_1).before args0 about1 = true := by decide +kernel
theorem w_applies : (headSpec (Jvm.Cond.code x code maxLocals ret :: tables_1) room_1).applies x e0.platform about1 = true :=
  (Spec.applies_iff w_frames).mpr ⟨w_running, w_runnable, w_alone, w_named, w_hears, w_ripe, w_room, w_tables⟩
theorem atStart : AtStart classFile x code maxLocals ret World_1 tables_1 room_1 Calls_1 rest_1 Pre_1 launch0 p0 e0 about1 theMethod args0 below0 :=
  ⟨lists_1, trivial, launch0.admits_env _ _ _, launch0.least_env, fairChoices_fair.cas, fairChoices_fair.clock, w_frames, w_args, w_heap, w_applies, trivial, trivial, w_case⟩
end start1
theorem witness_1 : WitnessClaimed_1 := ⟨start1.p0, start1.e0, start1.about1, start1.theMethod, start1.args0, start1.below0, start1.atStart⟩
end Jvm.Pilot.@@N@@
