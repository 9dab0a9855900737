import JvmDerived
import JvmDerived.Pilot.@@N@@Statement
import JvmDerived.Pilot.@@N@@Code
set_option linter.unusedVariables false
set_option linter.unusedSimpArgs false
@@BLOCK:NumsL.lean.txt@@
namespace Jvm.Pilot.@@N@@
open Jvm Jvm.ClassFile Sem Op Lib Jvm.Free Jvm.Stand Jvm.LawKit Jvm.RoadKit Bundle Jvm.Pilot.@@N@@.Jvm.D
section OwnKit
variable {p : Program} {l : Launch} {e : Env} {R : Room} {s : State} {m : MethodId} {args : Array Value} {below : List Frame} {meth : Method} {c : Code} {T T' : State} {locs : List Loc} {cells slots : Nat}
/-- from here the body comes to its end and leaves what Q says -/
def own_W (p : Program) (e : Env) (below : List Frame) (s : State) (k n : Nat) (Q : Option Value → Heap → List Loc → Prop) (T : State) (f : JFrame) : Prop :=
  ∃ s₂ o, Steps p.tables e below (T.setTop f) s₂ ∧ s₂.status = .running ∧ Ended s₂ below o ∧ ∃ v L, o = .returned v ∧ Q v s₂.heap L ∧ FrameEnd s o s₂ L k n
theorem own_st {k n : Nat} {Q : Option Value → Heap → List Loc → Prop} {f f' : JFrame} (w : own_W p e below s k n Q T' f') (h : ∀ t, Steps p.tables e below (T'.setTop f') t → Steps p.tables e below (T.setTop f) t) : own_W p e below s k n Q T f := by
  obtain ⟨s₂, o, h1, r⟩ := w
  exact ⟨s₂, o, h _ h1, r⟩
theorem own_to {k n : Nat} {Q : Option Value → Heap → List Loc → Prop} {f f' : JFrame} (q : f = f') (w : own_W p e below s k n Q T f') : own_W p e below s k n Q T f := q ▸ w
theorem own_ite {k n : Nat} {α : Type} {G : α → Option Value → Heap → List Loc → Prop} {f : JFrame} {A : Prop} [Decidable A] {x y : α} (h1 : A → own_W p e below s k n (G x) T f) (h2 : ¬ A → own_W p e below s k n (G y) T f) : own_W p e below s k n (G (if A then x else y)) T f := by
  by_cases q : A
  · rw [if_pos q]; exact h1 q
  · rw [if_neg q]; exact h2 q
/-- an int is returned, nothing old is written, the heap is as P says -/
def own_GI (n0 : Nat) (P : Heap → Prop) (r : Int32) (v : Option Value) (h : Heap) (L : List Loc) : Prop := v = some (.int r) ∧ Fr n0 L ∧ P h
def own_GJ (n0 : Nat) (P : Heap → Prop) (r : Int64) (v : Option Value) (h : Heap) (L : List Loc) : Prop := v = some (.long r) ∧ Fr n0 L ∧ P h
theorem own_retI {k n : Nat} {Q : Option Value → Heap → List Loc → Prop} (X : Stand p l e R s m args below meth c T locs cells slots) (hx : p.tables.exec = Jvm.exec) (hlk : meth.locks = false) (hret : meth.sig.returnType = some .int) {pc : Nat} {Ls : Array Slot} {z : Int32} {rest : List Value} (hd : decode c.code pc = .ok (.ireturn, 1)) (hk : cells ≤ k) (hn : slots ≤ n) (q : Q (some (.int z)) T.heap locs) : own_W p e below s k n Q T (mkF m pc Ls (.int z :: rest)) := by
  obtain ⟨fs, hr, hrun, hended, hW, hsame⟩ := X.leave (v := some (.int z)) (fun h => by rw [hret] at h; cases h) hlk
  exact ⟨_, _, retOut X hx hret rfl (Or.inl ⟨rfl, Or.inl rfl, z, rfl⟩) hd hr, hrun, hended, _, _, rfl, q, ⟨_, rfl⟩, hW, hsame.mono hk hn⟩
theorem own_retN {k n : Nat} {Q : Option Value → Heap → List Loc → Prop} (X : Stand p l e R s m args below meth c T locs cells slots) (hx : p.tables.exec = Jvm.exec) (hlk : meth.locks = false) {t : FieldType} (hret : meth.sig.returnType = some t) (ht : t = .boolean ∨ t = .byte ∨ t = .char ∨ t = .short) {pc : Nat} {Ls : Array Slot} {z : Int32} {rest : List Value} (hd : decode c.code pc = .ok (.ireturn, 1)) (hk : cells ≤ k) (hn : slots ≤ n) (q : Q (some (.int (nar t z))) T.heap locs) : own_W p e below s k n Q T (mkF m pc Ls (.int z :: rest)) := by
  obtain ⟨fs, hr, hrun, hended, hW, hsame⟩ := X.leave (v := some (.int (nar t z))) (fun h => by rw [hret] at h; cases h) hlk
  exact ⟨_, _, retN X hx hret ht hd hr, hrun, hended, _, _, rfl, q, ⟨_, rfl⟩, hW, hsame.mono hk hn⟩
theorem own_retJ {k n : Nat} {Q : Option Value → Heap → List Loc → Prop} (X : Stand p l e R s m args below meth c T locs cells slots) (hx : p.tables.exec = Jvm.exec) (hlk : meth.locks = false) (hret : meth.sig.returnType = some .long) {pc : Nat} {Ls : Array Slot} {z : Int64} {rest : List Value} (hd : decode c.code pc = .ok (.lreturn, 1)) (hk : cells ≤ k) (hn : slots ≤ n) (q : Q (some (.long z)) T.heap locs) : own_W p e below s k n Q T (mkF m pc Ls (.long z :: rest)) := by
  obtain ⟨fs, hr, hrun, hended, hW, hsame⟩ := X.leave (v := some (.long z)) (fun h => by rw [hret] at h; cases h) hlk
  exact ⟨_, _, retOut X hx hret rfl (Or.inr (Or.inl ⟨rfl, rfl, z, rfl⟩)) hd hr, hrun, hended, _, _, rfl, q, ⟨_, rfl⟩, hW, hsame.mono hk hn⟩
theorem own_retA {k n : Nat} {Q : Option Value → Heap → List Loc → Prop} (X : Stand p l e R s m args below meth c T locs cells slots) (hx : p.tables.exec = Jvm.exec) (hlk : meth.locks = false) {t : FieldType} (hret : meth.sig.returnType = some t) (ht : t.isReference = true) {pc : Nat} {Ls : Array Slot} {z : Addr} {rest : List Value} (hn' : narrow t (.ref z) = .ref z) (hd : decode c.code pc = .ok (.areturn, 1)) (hk : cells ≤ k) (hn : slots ≤ n) (q : Q (some (.ref z)) T.heap locs) : own_W p e below s k n Q T (mkF m pc Ls (.ref z :: rest)) := by
  obtain ⟨fs, hr, hrun, hended, hW, hsame⟩ := X.leave (v := some (.ref z)) (fun h => by rw [hret] at h; cases h) hlk
  exact ⟨_, _, retOut X hx hret hn' (Or.inr (Or.inr (Or.inr (Or.inr ⟨rfl, ht, rfl⟩)))) hd hr, hrun, hended, _, _, rfl, q, ⟨_, rfl⟩, hW, hsame.mono hk hn⟩
theorem own_retV {k n : Nat} {Q : Option Value → Heap → List Loc → Prop} (X : Stand p l e R s m args below meth c T locs cells slots) (hx : p.tables.exec = Jvm.exec) (hlk : meth.locks = false) (hret : meth.sig.returnType = none) {pc : Nat} {Ls : Array Slot} (hd : decode c.code pc = .ok (.return_, 1)) (hk : cells ≤ k) (hn : slots ≤ n) (q : Q none T.heap locs) : own_W p e below s k n Q T (mkF m pc Ls []) := by
  obtain ⟨fs, hr, hrun, hended, hW, hsame⟩ := X.leave (v := none) (fun _ => rfl) hlk
  exact ⟨_, _, X.returnOut hx hret hd hr, hrun, hended, _, _, rfl, q, ⟨_, rfl⟩, hW, hsame.mono hk hn⟩
end OwnKit
section OwnNums
theorem own_rem {x y : Int32} (hx : 0 ≤ x.toInt) (hy : 0 < y.toInt) : (x - (x / y) * y).toInt = x.toInt % y.toInt := by
  have hd : (x / y).toInt = x.toInt.tdiv y.toInt := Jvm.Kit.i32_div (by omega)
  rw [Int.tdiv_eq_ediv_of_nonneg hx] at hd
  have hxl := Int32.toInt_lt x
  have h1 : y.toInt * (x.toInt / y.toInt) + x.toInt % y.toInt = x.toInt := Int.mul_ediv_add_emod x.toInt y.toInt
  have h2 := Int.emod_nonneg x.toInt (by omega : y.toInt ≠ 0)
  have h3 := Int.emod_lt_of_pos x.toInt hy
  have h4 : (x / y).toInt * y.toInt = x.toInt - x.toInt % y.toInt := by rw [hd, Int.mul_comm]; omega
  have h6 := Int.mul_nonneg (Int.le_of_lt hy) (Int.ediv_nonneg hx (Int.le_of_lt hy))
  have h5 : x.toInt % y.toInt ≤ x.toInt := by omega
  have hm : ((x / y) * y).toInt = x.toInt - x.toInt % y.toInt := by
    rw [Jvm.Kit.i32_mul (by omega) (by omega), h4]
  rw [Jvm.Kit.i32_sub (by omega) (by omega), hm]; omega
theorem own_and31 (x : Int32) : (x &&& (2147483647 : Int32)).toInt = x.toInt % 2147483648 := Jvm.Kit.i32_mask x 2147483647 (k := 31) (by decide) (by decide)
theorem own_i8 (x : Int32) : -128 ≤ (x.toInt8.toInt32).toInt ∧ (x.toInt8.toInt32).toInt < 128 := by
  rw [Int8.toInt_toInt32]
  have h1 := Int8.le_toInt x.toInt8
  have h2 := Int8.toInt_lt x.toInt8
  omega
end OwnNums
theorem d1_0 : decode prog_35_method_2_code 0 = .ok (.iload_n 0, 1) := by decide +kernel
theorem d1_1 : decode prog_35_method_2_code 1 = .ok (.sipush 255, 3) := by decide +kernel
theorem d1_4 : decode prog_35_method_2_code 4 = .ok (.iand, 1) := by decide +kernel
theorem d1_5 : decode prog_35_method_2_code 5 = .ok (.bipush 31, 2) := by decide +kernel
theorem d1_7 : decode prog_35_method_2_code 7 = .ok (.if_icmp .ne 18, 3) := by decide +kernel
theorem d1_10 : decode prog_35_method_2_code 10 = .ok (.iload_n 1, 1) := by decide +kernel
theorem d1_11 : decode prog_35_method_2_code 11 = .ok (.sipush 255, 3) := by decide +kernel
theorem d1_14 : decode prog_35_method_2_code 14 = .ok (.iand, 1) := by decide +kernel
theorem d1_15 : decode prog_35_method_2_code 15 = .ok (.sipush 139, 3) := by decide +kernel
theorem d1_18 : decode prog_35_method_2_code 18 = .ok (.if_icmp .ne 7, 3) := by decide +kernel
theorem d1_21 : decode prog_35_method_2_code 21 = .ok (.iconst 1, 1) := by decide +kernel
theorem d1_22 : decode prog_35_method_2_code 22 = .ok (.goto 4, 3) := by decide +kernel
theorem d1_25 : decode prog_35_method_2_code 25 = .ok (.iconst 0, 1) := by decide +kernel
theorem d1_26 : decode prog_35_method_2_code 26 = .ok (.ireturn, 1) := by decide +kernel
theorem pn_1 : plainFor (⟨"com/example/tollerance/tollerance/GzipChannel", "startsMember", "(BB)Z"⟩ : MethodName) = true := by first | exact plainFor_of_name (by first | (simp [plainName, overriddenIn]; done) | decide +kernel) | decide +kernel
theorem ef_1 (m : MethodId) (x0 : Int32) (x1 : Int32) : entryFrame m #[(.int x0), (.int x1)] 2 = mkF m 0 #[.val (.int x0), .val (.int x1)] [] := by first | (simp [entryFrame, mkF, argsToLocals, Value.category, maxLocals]; done) | rfl
def f1 (p0 : Int32) (p1 : Int32) : Int32 := (if (p0 &&& (255 : Int32)) = (31 : Int32) then (if (p1 &&& (255 : Int32)) = (139 : Int32) then (1 : Int32) else (0 : Int32)) else (0 : Int32))
set_option maxRecDepth 65536 in
set_option maxHeartbeats 40000000 in
theorem rm1 (l : Launch) (Z : State) (a0 : Array Value) (hw : ∀ d ∈ tables_1, d.before a0 Z = true) (ws : List Jvm.Cond) (p0 : Int32) (p1 : Int32) (h0 : Heap) (n0 : Nat) :
    MetFree l (⟨"com/example/tollerance/tollerance/GzipChannel", "startsMember", "(BB)Z"⟩ : MethodName) (head1 (Jvm.Cond.code (⟨"com/example/tollerance/tollerance/GzipChannel", "startsMember", "(BB)Z"⟩ : MethodName) prog_35_method_2_code 2 (some .boolean) :: ws) ({ frames := 0, cells := 0, slots := 0, locals := 0 } : Room)) (fun a U => a = #[(.int p0), (.int p1)] ∧ Z.Warmed39 U.vm ∧ U.heap = h0) (fun _ _ _ _ _ => True) (fun _ U o U' => ∃ v L, o = .returned v ∧ own_GI n0 (fun h => h = h0) (f1 p0 p1) v U'.heap L ∧ FrameEnd U o U' L ({ frames := 0, cells := 0, slots := 0, locals := 0 } : Room).cells ({ frames := 0, cells := 0, slots := 0, locals := 0 } : Room).slots) := by
  refine MetFree.of_bodySF pn_1 hisR ?_
  intro p e s m args below meth c s₁ Bd hml0 hP hK
  obtain ⟨rfl, hZ, hh⟩ := hP
  have hx := Bd.exec
  have hby := Bd.bytes
  have hml : c.maxLocals = 2 := hml0
  have hown : s.vm.findClass "com/example/tollerance/tollerance/GzipChannel" = some m.cls := findClass_of_methodNamed Bd.named
  have hlk : meth.locks = false := BodyLoose.notSynchronized Bd
  have X0 : Stand p l e ({ frames := 0, cells := 0, slots := 0, locals := 0 } : Room) s m #[(.int p0), (.int p1)] below meth c s₁ [] 0 0 := Stand.of_body Bd
  have e0 : s₁.heap = h0 := by rw [← hh, Bd.state]; rfl
  have N0 := Fr.nil n0
  show own_W p e below s 0 0 (own_GI n0 (fun h => h = h0) (f1 p0 p1)) s₁ (entryFrame m #[(.int p0), (.int p1)] 2)
  refine own_to (ef_1 m p0 p1) ?_
  unfold f1
  refine own_st (T' := s₁) (f' := (mkF m 1 #[.val (.int p0), .val (.int p1)] [(.int p0)])) ?_ (fun t q => XS.iloadN X0.here hx rfl (hb hby d1_0) rfl q)
  refine own_st (T' := s₁) (f' := (mkF m 4 #[.val (.int p0), .val (.int p1)] [(.int (255 : Int32)), (.int p0)])) ?_ (fun t q => XS.sipush X0.here hx rfl (hb hby d1_1) q)
  refine own_st (T' := s₁) (f' := (mkF m 5 #[.val (.int p0), .val (.int p1)] [(.int (p0 &&& (255 : Int32)))])) ?_ (fun t q => XS.iand X0.here hx rfl (hb hby d1_4) rfl q)
  refine own_st (T' := s₁) (f' := (mkF m 7 #[.val (.int p0), .val (.int p1)] [(.int (31 : Int32)), (.int (p0 &&& (255 : Int32)))])) ?_ (fun t q => XS.bipush X0.here hx rfl (hb hby d1_5) q)
  refine own_ite (fun hc7 => ?_) (fun hc7 => ?_)
  · refine own_st (T' := s₁) (f' := (mkF m 10 #[.val (.int p0), .val (.int p1)] [])) ?_ (fun t q => XS.icmpNo X0.here hx rfl (hb hby d1_7) rfl (teq hc7).2 q)
    refine own_st (T' := s₁) (f' := (mkF m 11 #[.val (.int p0), .val (.int p1)] [(.int p1)])) ?_ (fun t q => XS.iloadN X0.here hx rfl (hb hby d1_10) rfl q)
    refine own_st (T' := s₁) (f' := (mkF m 14 #[.val (.int p0), .val (.int p1)] [(.int (255 : Int32)), (.int p1)])) ?_ (fun t q => XS.sipush X0.here hx rfl (hb hby d1_11) q)
    refine own_st (T' := s₁) (f' := (mkF m 15 #[.val (.int p0), .val (.int p1)] [(.int (p1 &&& (255 : Int32)))])) ?_ (fun t q => XS.iand X0.here hx rfl (hb hby d1_14) rfl q)
    refine own_st (T' := s₁) (f' := (mkF m 18 #[.val (.int p0), .val (.int p1)] [(.int (139 : Int32)), (.int (p1 &&& (255 : Int32)))])) ?_ (fun t q => XS.sipush X0.here hx rfl (hb hby d1_15) q)
    refine own_ite (fun hc18 => ?_) (fun hc18 => ?_)
    · refine own_st (T' := s₁) (f' := (mkF m 21 #[.val (.int p0), .val (.int p1)] [])) ?_ (fun t q => XS.icmpNo X0.here hx rfl (hb hby d1_18) rfl (teq hc18).2 q)
      refine own_st (T' := s₁) (f' := (mkF m 22 #[.val (.int p0), .val (.int p1)] [(.int (1 : Int32))])) ?_ (fun t q => XS.iconst X0.here hx rfl (hb hby d1_21) q)
      refine own_st (T' := s₁) (f' := (mkF m 26 #[.val (.int p0), .val (.int p1)] [(.int (1 : Int32))])) ?_ (fun t q => XS.goto X0.here hx rfl (pc0 := 22) (pc' := 26) rfl (hb hby d1_22) (by decide) (by decide) q)
      exact own_retN X0 hx hlk (t := .boolean) Bd.returns (by simp) (hb hby d1_26) (by decide) (by decide) ⟨rfl, N0, e0⟩
    · refine own_st (T' := s₁) (f' := (mkF m 25 #[.val (.int p0), .val (.int p1)] [])) ?_ (fun t q => XS.icmpYes X0.here hx rfl (pc0 := 18) (pc' := 25) rfl (hb hby d1_18) rfl (feq hc18).2 (by decide) (by decide) q)
      refine own_st (T' := s₁) (f' := (mkF m 26 #[.val (.int p0), .val (.int p1)] [(.int (0 : Int32))])) ?_ (fun t q => XS.iconst X0.here hx rfl (hb hby d1_25) q)
      exact own_retN X0 hx hlk (t := .boolean) Bd.returns (by simp) (hb hby d1_26) (by decide) (by decide) ⟨rfl, N0, e0⟩
  · refine own_st (T' := s₁) (f' := (mkF m 25 #[.val (.int p0), .val (.int p1)] [])) ?_ (fun t q => XS.icmpYes X0.here hx rfl (pc0 := 7) (pc' := 25) rfl (hb hby d1_7) rfl (feq hc7).2 (by decide) (by decide) q)
    refine own_st (T' := s₁) (f' := (mkF m 26 #[.val (.int p0), .val (.int p1)] [(.int (0 : Int32))])) ?_ (fun t q => XS.iconst X0.here hx rfl (hb hby d1_25) q)
    exact own_retN X0 hx hlk (t := .boolean) Bd.returns (by simp) (hb hby d1_26) (by decide) (by decide) ⟨rfl, N0, e0⟩
theorem pd_0 : parseMethodDescriptor "(BB)Z" = some ⟨[.byte, .byte], some .boolean⟩ := by decide +kernel
theorem pn_0 : plainFor x = true := by first | exact plainFor_of_name (by first | (simp [plainName, overriddenIn]; done) | decide +kernel) | decide +kernel
theorem ef_0 (m : MethodId) (x0 : Int32) (x1 : Int32) (x2 : Int32) : entryFrame m #[(.int x0), (.int x1), (.int x2)] maxLocals = mkF m 0 #[.val (.int x0), .val (.int x1), .val (.int x2), .unset, .unset, .unset] [] := by first | (simp [entryFrame, mkF, argsToLocals, Value.category, maxLocals]; done) | rfl
def f0_47 (p0 : Int32) (p1 : Int32) (p2 : Int32) (g3_47 : Int32) (g4_47 : Int32) (g100_47 : Int32) : Int32 := (if (f1 g3_47 g4_47) = g100_47 then (1 : Int32) else (0 : Int32))
def f0_46 (p0 : Int32) (p1 : Int32) (p2 : Int32) (g3_46 : Int32) (g4_46 : Int32) : Int32 := (f0_47 p0 p1 p2 g3_46 g4_46 (0 : Int32))
def f0_27 (p0 : Int32) (p1 : Int32) (p2 : Int32) (g3_27 : Int32) (g100_27 : Int32) : Int32 := (if g3_27 = (31 : Int32) then (if g100_27 = (-117 : Int32) then (f0_47 p0 p1 p2 g3_27 g100_27 (1 : Int32)) else (f0_46 p0 p1 p2 g3_27 g100_27)) else (f0_46 p0 p1 p2 g3_27 g100_27))
def f0_13 (p0 : Int32) (p1 : Int32) (p2 : Int32) (g100_13 : Int32) : Int32 := (if (p2 &&& (2 : Int32)) = (0 : Int32) then (f0_27 p0 p1 p2 g100_13 (p1.toInt8.toInt32)) else (f0_27 p0 p1 p2 g100_13 (-117 : Int32)))
def f0 (p0 : Int32) (p1 : Int32) (p2 : Int32) : Int32 := (if (p2 &&& (1 : Int32)) = (0 : Int32) then (f0_13 p0 p1 p2 (p0.toInt8.toInt32)) else (f0_13 p0 p1 p2 (31 : Int32)))
set_option maxRecDepth 65536 in
set_option maxHeartbeats 40000000 in
theorem rm0 (l : Launch) (Z : State) (a0 : Array Value) (hw : ∀ d ∈ tables_1, d.before a0 Z = true) (ws : List Jvm.Cond) (p0 : Int32) (p1 : Int32) (p2 : Int32) (h0 : Heap) (n0 : Nat) (Z0 : n0 ≤ h0.size) :
    MetFree l x (head1 (Jvm.Cond.code x code maxLocals ret :: ws) room_1) (fun a U => a = #[(.int p0), (.int p1), (.int p2)] ∧ Z.Warmed39 U.vm ∧ U.heap = h0) (fun _ _ _ _ _ => True) (fun _ U o U' => ∃ v L, o = .returned v ∧ own_GI n0 (fun h => h = h0) (f0 p0 p1 p2) v U'.heap L ∧ FrameEnd U o U' L 0 0) := by
  refine MetFree.of_bodySF pn_0 hisR ?_
  intro p e s m args below meth c s₁ Bd hml0 hP hK
  obtain ⟨rfl, hZ, hh⟩ := hP
  have hx := Bd.exec
  have hby := Bd.bytes
  have hml : c.maxLocals = 6 := hml0
  have hown : s.vm.findClass "com/example/tollerance/tollerance/GzipChannelStartsMemberPinLaw" = some m.cls := findClass_of_methodNamed Bd.named
  have hlk : meth.locks = false := BodyLoose.notSynchronized Bd
  have X0 : Stand p l e room_1 s m #[(.int p0), (.int p1), (.int p2)] below meth c s₁ [] 0 0 := Stand.of_body Bd
  have e0 : s₁.heap = h0 := by rw [← hh, Bd.state]; rfl
  have N0 := Fr.nil n0
  have B47 : ∀ (T : State) (locs : List Loc) (g3_47 : Int32) (g4_47 : Int32) (g100_47 : Int32) (X : Stand p l e room_1 s m #[(.int p0), (.int p1), (.int p2)] below meth c T locs 0 0) (N : Fr n0 locs) (eh : T.heap = h0), own_W p e below s 0 0 (own_GI n0 (fun h => h = h0) (f0_47 p0 p1 p2 g3_47 g4_47 g100_47)) T (mkF m 47 #[.val (.int p0), .val (.int p1), .val (.int p2), .val (.int g3_47), .val (.int g4_47), .unset] [(.int g100_47)]) := by
    intro T locs g3_47 g4_47 g100_47 X N eh
    unfold f0_47
    refine own_st (T' := T) (f' := (mkF m 49 #[.val (.int p0), .val (.int p1), .val (.int p2), .val (.int g3_47), .val (.int g4_47), .val (.int g100_47)] [])) ?_ (fun t q => XS.istore X.here hx rfl (hb hby at_47) rfl (l' := #[.val (.int p0), .val (.int p1), .val (.int p2), .val (.int g3_47), .val (.int g4_47), .val (.int g100_47)]) rfl q)
    refine own_st (T' := T) (f' := (mkF m 50 #[.val (.int p0), .val (.int p1), .val (.int p2), .val (.int g3_47), .val (.int g4_47), .val (.int g100_47)] [(.int g3_47)])) ?_ (fun t q => XS.iloadN X.here hx rfl (hb hby at_49) rfl q)
    refine own_st (T' := T) (f' := (mkF m 52 #[.val (.int p0), .val (.int p1), .val (.int p2), .val (.int g3_47), .val (.int g4_47), .val (.int g100_47)] [(.int g4_47), (.int g3_47)])) ?_ (fun t q => XS.iload X.here hx rfl (hb hby at_50) rfl q)
    obtain ⟨_, _, ⟨T1, L1, k1, n1⟩, -, X1, ⟨Lc1, hQ1, l1, y1, z1⟩, st1⟩ := Jvm.LawKit.callS X hx (y := (⟨"com/example/tollerance/tollerance/GzipChannel", "startsMember", "(BB)Z"⟩ : MethodName)) hown (mvT hZ (hw _ (List.mem_of_getElem? (i := 0) rfl))) (mvT hZ (hw _ (List.mem_of_getElem? (i := 1) rfl))) (mvT hZ (hw _ (List.mem_of_getElem? (i := 2) rfl))) (mvT hZ (hw _ (List.mem_of_getElem? (i := 3) rfl))) (by decide) (backOf (W := 0) (rm1 l Z a0 hw [] g3_47 g4_47 h0 n0) hZ (hw _ (List.mem_of_getElem? (i := 3) rfl)) (hw _ (List.mem_of_getElem? (i := 2) rfl)) (by decide) (by decide)) (g := (mkF m 52 #[.val (.int p0), .val (.int p1), .val (.int p2), .val (.int g3_47), .val (.int g4_47), .val (.int g100_47)] [(.int g4_47), (.int g3_47)])) rfl (by rw [hml]; rfl) (argsL := [(.int g3_47), (.int g4_47)]) (rest := []) (lenOf pd_0 rfl) rfl (by show 2 * 0 + _ ≤ _; exact Nat.le_of_eq rfl) (hb hby at_52) (fun _ _ => ⟨rfl, eh, (Nat.le_of_ble_eq_true rfl), (Nat.le_of_ble_eq_true rfl)⟩)
    dsimp only [Pt.U, Pt.locs, Pt.cells, Pt.slots] at X1 l1 y1 z1 st1 hQ1
    subst l1 y1 z1
    obtain ⟨rfl, N1q, e1⟩ := hQ1
    have N1 := Fr.app N N1q
    refine own_st (T' := T1) (f' := (mkF m 55 #[.val (.int p0), .val (.int p1), .val (.int p2), .val (.int g3_47), .val (.int g4_47), .val (.int g100_47)] [(.int (f1 g3_47 g4_47))])) ?_ (fun t q => st1 _ q)
    refine own_st (T' := T1) (f' := (mkF m 57 #[.val (.int p0), .val (.int p1), .val (.int p2), .val (.int g3_47), .val (.int g4_47), .val (.int g100_47)] [(.int g100_47), (.int (f1 g3_47 g4_47))])) ?_ (fun t q => XS.iload X1.here hx rfl (hb hby at_55) rfl q)
    refine own_ite (fun hc57 => ?_) (fun hc57 => ?_)
    · refine own_st (T' := T1) (f' := (mkF m 60 #[.val (.int p0), .val (.int p1), .val (.int p2), .val (.int g3_47), .val (.int g4_47), .val (.int g100_47)] [])) ?_ (fun t q => XS.icmpNo X1.here hx rfl (hb hby at_57) rfl (teq hc57).2 q)
      refine own_st (T' := T1) (f' := (mkF m 61 #[.val (.int p0), .val (.int p1), .val (.int p2), .val (.int g3_47), .val (.int g4_47), .val (.int g100_47)] [(.int (1 : Int32))])) ?_ (fun t q => XS.iconst X1.here hx rfl (hb hby at_60) q)
      refine own_st (T' := T1) (f' := (mkF m 65 #[.val (.int p0), .val (.int p1), .val (.int p2), .val (.int g3_47), .val (.int g4_47), .val (.int g100_47)] [(.int (1 : Int32))])) ?_ (fun t q => XS.goto X1.here hx rfl (pc0 := 61) (pc' := 65) rfl (hb hby at_61) (by decide) (by decide) q)
      exact own_retN X1 hx hlk (t := .boolean) Bd.returns (by simp) (hb hby at_65) (by decide) (by decide) ⟨rfl, N1, e1⟩
    · refine own_st (T' := T1) (f' := (mkF m 64 #[.val (.int p0), .val (.int p1), .val (.int p2), .val (.int g3_47), .val (.int g4_47), .val (.int g100_47)] [])) ?_ (fun t q => XS.icmpYes X1.here hx rfl (pc0 := 57) (pc' := 64) rfl (hb hby at_57) rfl (feq hc57).2 (by decide) (by decide) q)
      refine own_st (T' := T1) (f' := (mkF m 65 #[.val (.int p0), .val (.int p1), .val (.int p2), .val (.int g3_47), .val (.int g4_47), .val (.int g100_47)] [(.int (0 : Int32))])) ?_ (fun t q => XS.iconst X1.here hx rfl (hb hby at_64) q)
      exact own_retN X1 hx hlk (t := .boolean) Bd.returns (by simp) (hb hby at_65) (by decide) (by decide) ⟨rfl, N1, e1⟩
  have B46 : ∀ (T : State) (locs : List Loc) (g3_46 : Int32) (g4_46 : Int32) (X : Stand p l e room_1 s m #[(.int p0), (.int p1), (.int p2)] below meth c T locs 0 0) (N : Fr n0 locs) (eh : T.heap = h0), own_W p e below s 0 0 (own_GI n0 (fun h => h = h0) (f0_46 p0 p1 p2 g3_46 g4_46)) T (mkF m 46 #[.val (.int p0), .val (.int p1), .val (.int p2), .val (.int g3_46), .val (.int g4_46), .unset] []) := by
    intro T locs g3_46 g4_46 X N eh
    unfold f0_46
    refine own_st (T' := T) (f' := (mkF m 47 #[.val (.int p0), .val (.int p1), .val (.int p2), .val (.int g3_46), .val (.int g4_46), .unset] [(.int (0 : Int32))])) ?_ (fun t q => XS.iconst X.here hx rfl (hb hby at_46) q)
    exact B47 T _ g3_46 g4_46 (0 : Int32) X N eh
  have B27 : ∀ (T : State) (locs : List Loc) (g3_27 : Int32) (g100_27 : Int32) (X : Stand p l e room_1 s m #[(.int p0), (.int p1), (.int p2)] below meth c T locs 0 0) (N : Fr n0 locs) (eh : T.heap = h0), own_W p e below s 0 0 (own_GI n0 (fun h => h = h0) (f0_27 p0 p1 p2 g3_27 g100_27)) T (mkF m 27 #[.val (.int p0), .val (.int p1), .val (.int p2), .val (.int g3_27), .unset, .unset] [(.int g100_27)]) := by
    intro T locs g3_27 g100_27 X N eh
    unfold f0_27
    refine own_st (T' := T) (f' := (mkF m 29 #[.val (.int p0), .val (.int p1), .val (.int p2), .val (.int g3_27), .val (.int g100_27), .unset] [])) ?_ (fun t q => XS.istore X.here hx rfl (hb hby at_27) rfl (l' := #[.val (.int p0), .val (.int p1), .val (.int p2), .val (.int g3_27), .val (.int g100_27), .unset]) rfl q)
    refine own_st (T' := T) (f' := (mkF m 30 #[.val (.int p0), .val (.int p1), .val (.int p2), .val (.int g3_27), .val (.int g100_27), .unset] [(.int g3_27)])) ?_ (fun t q => XS.iloadN X.here hx rfl (hb hby at_29) rfl q)
    refine own_st (T' := T) (f' := (mkF m 32 #[.val (.int p0), .val (.int p1), .val (.int p2), .val (.int g3_27), .val (.int g100_27), .unset] [(.int (31 : Int32)), (.int g3_27)])) ?_ (fun t q => XS.bipush X.here hx rfl (hb hby at_30) q)
    refine own_ite (fun hc32 => ?_) (fun hc32 => ?_)
    · refine own_st (T' := T) (f' := (mkF m 35 #[.val (.int p0), .val (.int p1), .val (.int p2), .val (.int g3_27), .val (.int g100_27), .unset] [])) ?_ (fun t q => XS.icmpNo X.here hx rfl (hb hby at_32) rfl (teq hc32).2 q)
      refine own_st (T' := T) (f' := (mkF m 37 #[.val (.int p0), .val (.int p1), .val (.int p2), .val (.int g3_27), .val (.int g100_27), .unset] [(.int g100_27)])) ?_ (fun t q => XS.iload X.here hx rfl (hb hby at_35) rfl q)
      refine own_st (T' := T) (f' := (mkF m 39 #[.val (.int p0), .val (.int p1), .val (.int p2), .val (.int g3_27), .val (.int g100_27), .unset] [(.int (-117 : Int32)), (.int g100_27)])) ?_ (fun t q => XS.bipush X.here hx rfl (hb hby at_37) q)
      refine own_ite (fun hc39 => ?_) (fun hc39 => ?_)
      · refine own_st (T' := T) (f' := (mkF m 42 #[.val (.int p0), .val (.int p1), .val (.int p2), .val (.int g3_27), .val (.int g100_27), .unset] [])) ?_ (fun t q => XS.icmpNo X.here hx rfl (hb hby at_39) rfl (teq hc39).2 q)
        refine own_st (T' := T) (f' := (mkF m 43 #[.val (.int p0), .val (.int p1), .val (.int p2), .val (.int g3_27), .val (.int g100_27), .unset] [(.int (1 : Int32))])) ?_ (fun t q => XS.iconst X.here hx rfl (hb hby at_42) q)
        refine own_st (T' := T) (f' := (mkF m 47 #[.val (.int p0), .val (.int p1), .val (.int p2), .val (.int g3_27), .val (.int g100_27), .unset] [(.int (1 : Int32))])) ?_ (fun t q => XS.goto X.here hx rfl (pc0 := 43) (pc' := 47) rfl (hb hby at_43) (by decide) (by decide) q)
        exact B47 T _ g3_27 g100_27 (1 : Int32) X N eh
      · refine own_st (T' := T) (f' := (mkF m 46 #[.val (.int p0), .val (.int p1), .val (.int p2), .val (.int g3_27), .val (.int g100_27), .unset] [])) ?_ (fun t q => XS.icmpYes X.here hx rfl (pc0 := 39) (pc' := 46) rfl (hb hby at_39) rfl (feq hc39).2 (by decide) (by decide) q)
        exact B46 T _ g3_27 g100_27 X N eh
    · refine own_st (T' := T) (f' := (mkF m 46 #[.val (.int p0), .val (.int p1), .val (.int p2), .val (.int g3_27), .val (.int g100_27), .unset] [])) ?_ (fun t q => XS.icmpYes X.here hx rfl (pc0 := 32) (pc' := 46) rfl (hb hby at_32) rfl (feq hc32).2 (by decide) (by decide) q)
      exact B46 T _ g3_27 g100_27 X N eh
  have B13 : ∀ (T : State) (locs : List Loc) (g100_13 : Int32) (X : Stand p l e room_1 s m #[(.int p0), (.int p1), (.int p2)] below meth c T locs 0 0) (N : Fr n0 locs) (eh : T.heap = h0), own_W p e below s 0 0 (own_GI n0 (fun h => h = h0) (f0_13 p0 p1 p2 g100_13)) T (mkF m 13 #[.val (.int p0), .val (.int p1), .val (.int p2), .unset, .unset, .unset] [(.int g100_13)]) := by
    intro T locs g100_13 X N eh
    unfold f0_13
    refine own_st (T' := T) (f' := (mkF m 14 #[.val (.int p0), .val (.int p1), .val (.int p2), .val (.int g100_13), .unset, .unset] [])) ?_ (fun t q => XS.istoreN X.here hx rfl (hb hby at_13) rfl (l' := #[.val (.int p0), .val (.int p1), .val (.int p2), .val (.int g100_13), .unset, .unset]) rfl q)
    refine own_st (T' := T) (f' := (mkF m 15 #[.val (.int p0), .val (.int p1), .val (.int p2), .val (.int g100_13), .unset, .unset] [(.int p2)])) ?_ (fun t q => XS.iloadN X.here hx rfl (hb hby at_14) rfl q)
    refine own_st (T' := T) (f' := (mkF m 16 #[.val (.int p0), .val (.int p1), .val (.int p2), .val (.int g100_13), .unset, .unset] [(.int (2 : Int32)), (.int p2)])) ?_ (fun t q => XS.iconst X.here hx rfl (hb hby at_15) q)
    refine own_st (T' := T) (f' := (mkF m 17 #[.val (.int p0), .val (.int p1), .val (.int p2), .val (.int g100_13), .unset, .unset] [(.int (p2 &&& (2 : Int32)))])) ?_ (fun t q => XS.iand X.here hx rfl (hb hby at_16) rfl q)
    refine own_ite (fun hc17 => ?_) (fun hc17 => ?_)
    · refine own_st (T' := T) (f' := (mkF m 25 #[.val (.int p0), .val (.int p1), .val (.int p2), .val (.int g100_13), .unset, .unset] [])) ?_ (fun t q => XS.ifYes X.here hx rfl (pc0 := 17) (pc' := 25) rfl (hb hby at_17) rfl ((if0 _ _).trans (teq hc17).1) (by decide) (by decide) q)
      refine own_st (T' := T) (f' := (mkF m 26 #[.val (.int p0), .val (.int p1), .val (.int p2), .val (.int g100_13), .unset, .unset] [(.int p1)])) ?_ (fun t q => XS.iloadN X.here hx rfl (hb hby at_25) rfl q)
      refine own_st (T' := T) (f' := (mkF m 27 #[.val (.int p0), .val (.int p1), .val (.int p2), .val (.int g100_13), .unset, .unset] [(.int (p1.toInt8.toInt32))])) ?_ (fun t q => XS.i2b X.here hx rfl (hb hby at_26) rfl q)
      exact B27 T _ g100_13 (p1.toInt8.toInt32) X N eh
    · refine own_st (T' := T) (f' := (mkF m 20 #[.val (.int p0), .val (.int p1), .val (.int p2), .val (.int g100_13), .unset, .unset] [])) ?_ (fun t q => XS.ifNo X.here hx rfl (hb hby at_17) rfl ((if0 _ _).trans (feq hc17).1) q)
      refine own_st (T' := T) (f' := (mkF m 22 #[.val (.int p0), .val (.int p1), .val (.int p2), .val (.int g100_13), .unset, .unset] [(.int (-117 : Int32))])) ?_ (fun t q => XS.bipush X.here hx rfl (hb hby at_20) q)
      refine own_st (T' := T) (f' := (mkF m 27 #[.val (.int p0), .val (.int p1), .val (.int p2), .val (.int g100_13), .unset, .unset] [(.int (-117 : Int32))])) ?_ (fun t q => XS.goto X.here hx rfl (pc0 := 22) (pc' := 27) rfl (hb hby at_22) (by decide) (by decide) q)
      exact B27 T _ g100_13 (-117 : Int32) X N eh
  show own_W p e below s 0 0 (own_GI n0 (fun h => h = h0) (f0 p0 p1 p2)) s₁ (entryFrame m #[(.int p0), (.int p1), (.int p2)] maxLocals)
  refine own_to (ef_0 m p0 p1 p2) ?_
  unfold f0
  refine own_st (T' := s₁) (f' := (mkF m 1 #[.val (.int p0), .val (.int p1), .val (.int p2), .unset, .unset, .unset] [(.int p2)])) ?_ (fun t q => XS.iloadN X0.here hx rfl (hb hby at_0) rfl q)
  refine own_st (T' := s₁) (f' := (mkF m 2 #[.val (.int p0), .val (.int p1), .val (.int p2), .unset, .unset, .unset] [(.int (1 : Int32)), (.int p2)])) ?_ (fun t q => XS.iconst X0.here hx rfl (hb hby at_1) q)
  refine own_st (T' := s₁) (f' := (mkF m 3 #[.val (.int p0), .val (.int p1), .val (.int p2), .unset, .unset, .unset] [(.int (p2 &&& (1 : Int32)))])) ?_ (fun t q => XS.iand X0.here hx rfl (hb hby at_2) rfl q)
  refine own_ite (fun hc3 => ?_) (fun hc3 => ?_)
  · refine own_st (T' := s₁) (f' := (mkF m 11 #[.val (.int p0), .val (.int p1), .val (.int p2), .unset, .unset, .unset] [])) ?_ (fun t q => XS.ifYes X0.here hx rfl (pc0 := 3) (pc' := 11) rfl (hb hby at_3) rfl ((if0 _ _).trans (teq hc3).1) (by decide) (by decide) q)
    refine own_st (T' := s₁) (f' := (mkF m 12 #[.val (.int p0), .val (.int p1), .val (.int p2), .unset, .unset, .unset] [(.int p0)])) ?_ (fun t q => XS.iloadN X0.here hx rfl (hb hby at_11) rfl q)
    refine own_st (T' := s₁) (f' := (mkF m 13 #[.val (.int p0), .val (.int p1), .val (.int p2), .unset, .unset, .unset] [(.int (p0.toInt8.toInt32))])) ?_ (fun t q => XS.i2b X0.here hx rfl (hb hby at_12) rfl q)
    exact B13 s₁ _ (p0.toInt8.toInt32) X0 N0 e0
  · refine own_st (T' := s₁) (f' := (mkF m 6 #[.val (.int p0), .val (.int p1), .val (.int p2), .unset, .unset, .unset] [])) ?_ (fun t q => XS.ifNo X0.here hx rfl (hb hby at_3) rfl ((if0 _ _).trans (feq hc3).1) q)
    refine own_st (T' := s₁) (f' := (mkF m 8 #[.val (.int p0), .val (.int p1), .val (.int p2), .unset, .unset, .unset] [(.int (31 : Int32))])) ?_ (fun t q => XS.bipush X0.here hx rfl (hb hby at_6) q)
    refine own_st (T' := s₁) (f' := (mkF m 13 #[.val (.int p0), .val (.int p1), .val (.int p2), .unset, .unset, .unset] [(.int (31 : Int32))])) ?_ (fun t q => XS.goto X0.here hx rfl (pc0 := 8) (pc' := 13) rfl (hb hby at_8) (by decide) (by decide) q)
    exact B13 s₁ _ (31 : Int32) X0 N0 e0

theorem own_f1 (g s : Int32) (hg : -128 ≤ g.toInt ∧ g.toInt < 128) (hs : -128 ≤ s.toInt ∧ s.toInt < 128) : f1 g s = (if g = 31 then (if s = -117 then 1 else 0) else 0) := by
  have e1 : ((g &&& 255) = 31) = (g = 31) := by
    apply propext
    rw [← Int32.toInt_inj, ← Int32.toInt_inj, Jvm.Kit.i32_mask g 255 (k := 8) (by decide) (by decide)]
    show _ = (31 : Int) ↔ _ = (31 : Int)
    omega
  have e2 : ((s &&& 255) = 139) = (s = -117) := by
    apply propext
    rw [← Int32.toInt_inj, ← Int32.toInt_inj, Jvm.Kit.i32_mask s 255 (k := 8) (by decide) (by decide)]
    show _ = (139 : Int) ↔ _ = (-117 : Int)
    omega
  simp only [f1, e1, e2]
theorem own_47 (p0 p1 p2 g s : Int32) (hg : -128 ≤ g.toInt ∧ g.toInt < 128) (hs : -128 ≤ s.toInt ∧ s.toInt < 128) : f0_27 p0 p1 p2 g s = 1 := by
  simp only [f0_27, f0_46, f0_47, own_f1 g s hg hs]
  by_cases h1 : g = 31
  · by_cases h2 : s = -117 <;> simp [h1, h2]
  · simp [h1]
theorem own_law (p0 p1 p2 : Int32) : f0 p0 p1 p2 = 1 := by
  have b1 : -128 ≤ (31 : Int32).toInt ∧ (31 : Int32).toInt < 128 := by decide
  have b2 : -128 ≤ (-117 : Int32).toInt ∧ (-117 : Int32).toInt < 128 := by decide
  simp only [f0, f0_13, own_47 _ _ _ _ _ b1 b2, own_47 _ _ _ _ _ b1 (own_i8 _), own_47 _ _ _ _ _ (own_i8 _) b2, own_47 _ _ _ _ _ (own_i8 _) (own_i8 _), ite_self]
set_option maxRecDepth 65536 in
set_option maxHeartbeats 40000000 in
theorem comes_1 {Post : Tables → Env → Array Value → State → Outcome → State → Prop} (hpost : ∀ tb e args s v u, (limb_1_1.after args s (.returned v) u = true ∧ limb_1_2.after args s (.returned v) u = true ∧ True) → FrameEnd s (.returned v) u (Jvm.fieldLocs frame_1_writes args s ++ Jvm.arrayLocs frame_1_arrays args s ++ Jvm.staticLocs frame_1_statics s) 0 0 → Post tb e args s (.returned v) u) :
    ArmFor flags0 classFile x code maxLocals ret World_1 tables_1 room_1 Calls_1 rest_1 Pre_1 Post := by
  intro l hfl _ _ p e ha hc hk s m args below hf hA hF happ hP
  obtain ⟨hcalls, hrest, hpre⟩ := hP
  obtain ⟨-, -, -, hnamed, -, -, -, hat⟩ := (Spec.applies_iff hf).mp happ
  obtain ⟨hg, hn⟩ := and_e (Cond.before_iff.mp (show (Jvm.Cond.and given_1 narrow_1).before args s = true from hpre))
  obtain ⟨hcnt, g0⟩ := and_e hg
  obtain ⟨t0, g1⟩ := and_e g0
  obtain ⟨t1, g2⟩ := and_e g1
  have t2 := g2
  obtain ⟨w0, w1, w2, rfl⟩ : ∃ w0 w1 w2 : Value, args = #[w0, w1, w2] := by
    have hs : args.size = 3 := by simpa [Cond.value, given_1] using hcnt
    obtain ⟨L⟩ := args
    match L, hs with
    | [w0, w1, w2], _ => exact ⟨w0, w1, w2, rfl⟩
  have hw := fun d (hd : d ∈ tables_1) => atoms_spec (ws := Jvm.Cond.code x code maxLocals ret :: tables_1) hat d (List.mem_cons_of_mem _ hd)
  obtain ⟨i0, ei0⟩ := is_v t0
  obtain rfl : w0 = (.int i0) := Option.some.inj ei0
  obtain ⟨i1, ei1⟩ := is_v t1
  obtain rfl : w1 = (.int i1) := Option.some.inj ei1
  obtain ⟨i2, ei2⟩ := is_v t2
  obtain rfl : w2 = (.int i2) := Option.some.inj ei2
  obtain ⟨n, o, h1, h2, h3, v, L, rfl, ⟨hv, N, -⟩, hq⟩ := rm0 l s _ hw tables_1 i0 i1 i2 s.heap s.heap.size (Nat.le_refl _) p e ha hc hk s m _ below hf ((Spec.applies_iff_loose hf).mp happ).1 ⟨rfl, State.Warmed39.refl s, rfl⟩ trivial
  obtain rfl : v = some (.int 1) := by rw [hv, own_law]
  refine ⟨n, _, h1, h2, h3, hpost _ _ _ _ _ _ ⟨Cond.after_iff.mpr rfl, Cond.after_iff.mpr (eq_i res_at (Term.int_eval (1)) rfl), trivial⟩ ⟨hq.1, hq.2.1, (hq.2.2.sift fun y hy => Or.inr (N y hy)).mono (by decide) (by decide)⟩⟩
theorem main_1_1 : Claimed_1_1 := comes_1 fun _ _ _ _ _ _ h hF => ⟨h.1, hF⟩
theorem main_1_2 : Claimed_1_2 := comes_1 fun _ _ _ _ _ _ h hF => ⟨h.2.1, hF⟩
end Jvm.Pilot.@@N@@
namespace Jvm.Pilot.@@N@@
open Jvm Jvm.ClassFile Sem Op Lib Jvm.Free Jvm.Stand Jvm.Pilot.@@N@@.Jvm.D
/-! MADE BY PROGRAM (witnessworld.py) out of the Statement's table words and the real class files: 10 classes; the members and pool entries that the words name. The judged class is class 1, her method 1. -/
namespace start1
open Jvm.ClassFile
def u (s : String) : CpInfo := .utf8 (stringToUtf16 s)
/-- a pool by its gaps: so many unusable entries, then the entry; so many at the end -/
def gap : Nat → List CpInfo → List CpInfo
  | 0, r => r
  | n + 1, r => .unusable :: gap n r
def poolList (es : List (Nat × CpInfo)) (last : Nat) : List CpInfo := es.foldr (fun e r => gap e.1 (e.2 :: r)) (gap last [])
def pool (es : List (Nat × CpInfo)) (last : Nat) : Array CpInfo := ⟨poolList es last⟩
def fileOf (pool : Array CpInfo) (this : Nat) (attrs : Array Attribute := #[]) (ms : Array MethodInfo := #[]) (fl : Nat := 33) (sup : Nat := 0) (ifs : Array Nat := #[]) (fds : Array FieldInfo := #[]) : ClassFile where
  minorVersion := 0
  majorVersion := 65
  constantPool := pool
  accessFlags := fl
  thisClass := this
  superClass := sup
  interfaces := ifs
  fields := fds
  methods := ms
  attributes := attrs
def plain (name : String) (sup : Option ClassId) : Class where
  name := name
  kind := .ordinary
  loader := none
  accessFlags := 33
  super := sup
  interfaces := #[]
  cf := none
  fields := #[]
  methods := #[]
  instanceTypes := #[]
  staticTypes := #[]
  resolved := #[]
  callSites := []
  init := .initialized
  statics := none
  mirror := none

def pool0 : Array CpInfo := pool [(5, u "<init>"), (0, u "()V"), (1, .class_ 10), (1, u "java/lang/Object")] 113

def k0m0 : Method := { name := "<init>", desc := "()V", sig := { parameters := [], returnType := none }, accessFlags := 1, code := none }
/-- java/lang/Object -/
def k0 : Class := { plain "java/lang/Object" none with
  accessFlags := 33
  interfaces := #[]
  cf := some (fileOf pool0 8 #[] #[{ accessFlags := 1, nameIndex := 5, descriptorIndex := 6, attributes := #[] }] 33 0 #[] #[])
  fields := #[]
  methods := #[k0m0]
  instanceTypes := #[]
  staticTypes := #[]
  resolved := Array.replicate 124 none
  statics := none }

def pool1 : Array CpInfo := pool [(2, .class_ 4), (1, u "java/lang/Object"), (0, u "<init>"), (0, u "()V"), (0, .methodref 8 9), (0, .class_ 10), (0, .nameAndType 11 12), (0, u "com/example/tollerance/tollerance/GzipChannel"), (0, u "startsMember"), (0, u "(BB)Z"), (0, .class_ 14), (0, u "com/example/tollerance/tollerance/GzipChannelStartsMemberPinLaw"), (2, u "law"), (0, u "(III)Z")] 3

def k1m0 : Method := { name := "<init>", desc := "()V", sig := { parameters := [], returnType := none }, accessFlags := 1, code := none }
def k1c1 : Code := { maxStack := 2, maxLocals := 6, code := code, exceptionTable := #[], attributes := #[] }
def k1m1 : Method := { name := "law", desc := "(III)Z", sig := { parameters := [.int, .int, .int], returnType := some .boolean }, accessFlags := 9, code := some k1c1 }
/-- com/example/tollerance/tollerance/GzipChannelStartsMemberPinLaw -/
def k1 : Class := { plain "com/example/tollerance/tollerance/GzipChannelStartsMemberPinLaw" (some 0) with
  accessFlags := 49
  interfaces := #[]
  cf := some (fileOf pool1 13 #[] #[{ accessFlags := 1, nameIndex := 5, descriptorIndex := 6, attributes := #[] }, { accessFlags := 9, nameIndex := 17, descriptorIndex := 18, attributes := #[] }] 49 2 #[] #[])
  fields := #[]
  methods := #[k1m0, k1m1]
  instanceTypes := #[]
  staticTypes := #[]
  resolved := Array.replicate 22 none
  statics := none }

def pool2 : Array CpInfo := pool [(1, u "java/nio/channels/ReadableByteChannel"), (0, .class_ 1), (0, u "java/lang/Object"), (0, .class_ 3)] 3

/-- java/nio/channels/ReadableByteChannel -/
def k2 : Class := { plain "java/nio/channels/ReadableByteChannel" (some 0) with
  accessFlags := 1537
  interfaces := #[]
  cf := some (fileOf pool2 2 #[] #[] 1537 4 #[] #[])
  fields := #[]
  methods := #[]
  instanceTypes := #[]
  staticTypes := #[]
  resolved := Array.replicate 8 none
  statics := none }

def pool3 : Array CpInfo := pool [(2, .class_ 4), (1, u "java/lang/Object"), (2, .class_ 8), (0, u "com/example/tollerance/tollerance/GzipChannel"), (12, u "input"), (0, u "Ljava/nio/ByteBuffer;"), (7, u "inflater"), (0, u "Ljava/util/zip/Inflater;"), (5, u "dataCrc"), (0, u "Ljava/util/zip/CRC32;"), (2, u "headerCrc"), (2, u "source"), (0, u "Ljava/nio/channels/ReadableByteChannel;"), (2, u "damage"), (0, u "Ljava/util/zip/ZipException;"), (6, u "ended"), (0, u "Z"), (2, u "inData"), (10, .class_ 73), (1, u "java/nio/channels/ReadableByteChannel"), (9, u "members"), (0, u "I"), (12, u "dataSize"), (0, u "J"), (109, u "ID1"), (2, u "ID2"), (1, u "DEFLATE"), (1, u "FHCRC"), (1, u "FEXTRA"), (1, u "FNAME"), (0, u "FCOMMENT"), (1, u "RESERVED_FLAGS"), (1, u "TIME_FLAGS_AND_SYSTEM"), (1, u "FOUR_BYTES"), (0, u "BYTES_READ_AT_ONCE"), (3, u "startsMember"), (0, u "(BB)Z")] 43

def k3c0 : Code := { maxStack := 2, maxLocals := 2, code := prog_35_method_2_code, exceptionTable := #[], attributes := #[] }
def k3m0 : Method := { name := "startsMember", desc := "(BB)Z", sig := { parameters := [.byte, .byte], returnType := some .boolean }, accessFlags := 8, code := some k3c0 }
/-- com/example/tollerance/tollerance/GzipChannel -/
def k3 : Class := { plain "com/example/tollerance/tollerance/GzipChannel" (some 0) with
  accessFlags := 48
  interfaces := #[2]
  cf := some (fileOf pool3 7 #[] #[{ accessFlags := 8, nameIndex := 231, descriptorIndex := 232, attributes := #[] }] 48 2 #[71] #[{ accessFlags := 26, nameIndex := 208, descriptorIndex := 84, attributes := #[] }, { accessFlags := 26, nameIndex := 211, descriptorIndex := 84, attributes := #[] }, { accessFlags := 26, nameIndex := 213, descriptorIndex := 84, attributes := #[] }, { accessFlags := 26, nameIndex := 215, descriptorIndex := 84, attributes := #[] }, { accessFlags := 26, nameIndex := 217, descriptorIndex := 84, attributes := #[] }, { accessFlags := 26, nameIndex := 219, descriptorIndex := 84, attributes := #[] }, { accessFlags := 26, nameIndex := 220, descriptorIndex := 84, attributes := #[] }, { accessFlags := 26, nameIndex := 222, descriptorIndex := 84, attributes := #[] }, { accessFlags := 26, nameIndex := 224, descriptorIndex := 84, attributes := #[] }, { accessFlags := 26, nameIndex := 226, descriptorIndex := 98, attributes := #[] }, { accessFlags := 26, nameIndex := 227, descriptorIndex := 84, attributes := #[] }, { accessFlags := 18, nameIndex := 44, descriptorIndex := 45, attributes := #[] }, { accessFlags := 18, nameIndex := 21, descriptorIndex := 22, attributes := #[] }, { accessFlags := 18, nameIndex := 30, descriptorIndex := 31, attributes := #[] }, { accessFlags := 18, nameIndex := 37, descriptorIndex := 38, attributes := #[] }, { accessFlags := 18, nameIndex := 41, descriptorIndex := 38, attributes := #[] }, { accessFlags := 2, nameIndex := 97, descriptorIndex := 98, attributes := #[] }, { accessFlags := 2, nameIndex := 83, descriptorIndex := 84, attributes := #[] }, { accessFlags := 2, nameIndex := 60, descriptorIndex := 57, attributes := #[] }, { accessFlags := 2, nameIndex := 56, descriptorIndex := 57, attributes := #[] }, { accessFlags := 2, nameIndex := 48, descriptorIndex := 49, attributes := #[] }])
  fields := #[{ name := "ID1", type := .int, accessFlags := 26, slot := 0, constantValue := 0 }, { name := "ID2", type := .int, accessFlags := 26, slot := 1, constantValue := 0 }, { name := "DEFLATE", type := .int, accessFlags := 26, slot := 2, constantValue := 0 }, { name := "FHCRC", type := .int, accessFlags := 26, slot := 3, constantValue := 0 }, { name := "FEXTRA", type := .int, accessFlags := 26, slot := 4, constantValue := 0 }, { name := "FNAME", type := .int, accessFlags := 26, slot := 5, constantValue := 0 }, { name := "FCOMMENT", type := .int, accessFlags := 26, slot := 6, constantValue := 0 }, { name := "RESERVED_FLAGS", type := .int, accessFlags := 26, slot := 7, constantValue := 0 }, { name := "TIME_FLAGS_AND_SYSTEM", type := .int, accessFlags := 26, slot := 8, constantValue := 0 }, { name := "FOUR_BYTES", type := .long, accessFlags := 26, slot := 9, constantValue := 0 }, { name := "BYTES_READ_AT_ONCE", type := .int, accessFlags := 26, slot := 10, constantValue := 0 }, { name := "source", type := (.object "java/nio/channels/ReadableByteChannel"), accessFlags := 18, slot := 0, constantValue := 0 }, { name := "input", type := (.object "java/nio/ByteBuffer"), accessFlags := 18, slot := 1, constantValue := 0 }, { name := "inflater", type := (.object "java/util/zip/Inflater"), accessFlags := 18, slot := 2, constantValue := 0 }, { name := "dataCrc", type := (.object "java/util/zip/CRC32"), accessFlags := 18, slot := 3, constantValue := 0 }, { name := "headerCrc", type := (.object "java/util/zip/CRC32"), accessFlags := 18, slot := 4, constantValue := 0 }, { name := "dataSize", type := .long, accessFlags := 2, slot := 5, constantValue := 0 }, { name := "members", type := .int, accessFlags := 2, slot := 6, constantValue := 0 }, { name := "inData", type := .boolean, accessFlags := 2, slot := 7, constantValue := 0 }, { name := "ended", type := .boolean, accessFlags := 2, slot := 8, constantValue := 0 }, { name := "damage", type := (.object "java/util/zip/ZipException"), accessFlags := 2, slot := 9, constantValue := 0 }]
  methods := #[k3m0]
  instanceTypes := #[(.object "java/nio/channels/ReadableByteChannel"), (.object "java/nio/ByteBuffer"), (.object "java/util/zip/Inflater"), (.object "java/util/zip/CRC32"), (.object "java/util/zip/CRC32"), .long, .int, .boolean, .boolean, (.object "java/util/zip/ZipException")]
  staticTypes := #[.int, .int, .int, .int, .int, .int, .int, .int, .int, .long, .int]
  resolved := Array.replicate 276 none
  statics := none }

def pool4 : Array CpInfo := pool [(1, u "java/lang/Cloneable"), (0, .class_ 1), (0, u "java/lang/Object"), (0, .class_ 3)] 3

/-- java/lang/Cloneable -/
def k4 : Class := { plain "java/lang/Cloneable" (some 0) with
  accessFlags := 1537
  interfaces := #[]
  cf := some (fileOf pool4 2 #[] #[] 1537 4 #[] #[])
  fields := #[]
  methods := #[]
  instanceTypes := #[]
  staticTypes := #[]
  resolved := Array.replicate 8 none
  statics := none }

def pool5 : Array CpInfo := pool [(1, u "java/io/Serializable"), (0, .class_ 1), (0, u "java/lang/Object"), (0, .class_ 3)] 3

/-- java/io/Serializable -/
def k5 : Class := { plain "java/io/Serializable" (some 0) with
  accessFlags := 1537
  interfaces := #[]
  cf := some (fileOf pool5 2 #[] #[] 1537 4 #[] #[])
  fields := #[]
  methods := #[]
  instanceTypes := #[]
  staticTypes := #[]
  resolved := Array.replicate 8 none
  statics := none }

/-- the primitive byte -/
def k6 : Class := { plain "byte" none with kind := .primitive 'B', accessFlags := 0x411 }
/-- [B -/
def k7 : Class := { plain "[B" (some 0) with kind := .array 6 .byte, interfaces := #[4, 5], accessFlags := 1041 }

/-- the primitive int -/
def k8 : Class := { plain "int" none with kind := .primitive 'I', accessFlags := 0x411 }
/-- [I -/
def k9 : Class := { plain "[I" (some 0) with kind := .array 8 .int, interfaces := #[4, 5], accessFlags := 1041 }

def heap : Heap := #[]
def classes : Array Class := #[k0, k1, k2, k3, k4, k5, k6, k7, k8, k9]
def interned : List (Array UInt16 × Addr) := []
def slotsUsed : Nat := 0
def theMethod : MethodId := ⟨1, 1⟩
def args0 : Array Value := #[.int 5, .int 5, .int 5]
def aboutOver (below : List Frame) : State where
  vm := { classes := classes, interned := interned.toArray }
  heap := heap
  slotsUsed := slotsUsed
  threads := #[{ frames := .invoking theMethod args0 :: below }]
def below0 : List Frame := [.native { method := ⟨0, 0⟩, args := #[] }]
def about1 : State := aboutOver below0
def p0 : Program := .bare "" "" ""
def e0 : Env := launch0.env 0 0 0
theorem w_frames : about1.frames = Frame.invoking theMethod args0 :: below0 := rfl
set_option maxRecDepth 65536 in
theorem w_args : argsFit about1.vm theMethod args0 = true := by decide +kernel
set_option maxRecDepth 65536 in
theorem w_heap : heapFits about1 = true := by decide +kernel
set_option maxRecDepth 65536 in
theorem w_runnable : about1.curStatus? = some .runnable := by decide +kernel
set_option maxRecDepth 65536 in
theorem w_alone : about1.alone = true := by decide +kernel
set_option maxRecDepth 65536 in
theorem w_named : about1.methodNamed? x = some theMethod := by decide +kernel
set_option maxRecDepth 65536 in
theorem w_hears : about1.hears theMethod below0 = true := by decide +kernel
set_option maxRecDepth 65536 in
theorem w_ripe : about1.ripe theMethod args0 below0 = true := by decide +kernel
theorem w_running : about1.status = .running := rfl
set_option maxRecDepth 65536 in
theorem w_room : about1.hasRoom e0.platform room_1 = true :=
  launch0.hasRoom_least _ room_1 (by decide +kernel) (by decide +kernel) (by decide +kernel) (by decide +kernel) (by decide +kernel) (by decide +kernel)
theorem allAtoms_all (ts : List Jvm.Cond) (a : Array Jvm.Value) (st : Jvm.State) : (allAtoms ts).before a st = ts.all (fun c => c.before a st) := by
  induction ts with
  | nil => rfl
  | cons c t ih =>
    show (Jvm.Cond.and c (allAtoms t)).before a st = _
    rw [Jvm.Cond.before_and, ih, List.all_cons]
def words1 : List Jvm.Cond := Jvm.Cond.code x code maxLocals ret :: tables_1
/-- a 'code' word, met by the world's own term for the bytes: nothing is compared byte by byte -/
theorem code_word {y : MethodName} {bytes : ByteArray} {mx : Nat} {rt : Option FieldType} {a : Array Value} {s : State} {m : MethodId} {meth : Method} {c : Code} (h1 : s.methodNamed? y = some m) (h2 : s.vm.method? m = some meth) (h3 : meth.code = some c) (h4 : c.code = bytes)
    (h5 : (c.maxLocals == mx && c.exceptionTable.isEmpty && decide (c.maxStack ≤ mostOperands) && decide (meth.sig.returnType = rt) && !meth.locks && decide (parseMethodDescriptor y.desc = some meth.sig)) = true) : (Jvm.Cond.code y bytes mx rt).before a s = true := by
  simp only [Bool.and_eq_true, beq_iff_eq, Bool.not_eq_true', decide_eq_true_eq] at h5
  obtain ⟨⟨⟨⟨⟨g1, g2⟩, g3⟩, g4⟩, g5⟩, g6⟩ := h5
  simp [Cond.before, Cond.holds, Cond.value, h1, h2, h3, h4, g1, g2, g3, g4, g5, g6]
def isCode : Jvm.Cond → Bool
  | .code _ _ _ _ => true
  | _ => false
theorem all_split {L : List Jvm.Cond} {P : Jvm.Cond → Bool} (h1 : L.all (fun c => isCode c || P c) = true) (h2 : ∀ c ∈ L.filter isCode, P c = true) : L.all P = true := by
  refine List.all_eq_true.mpr fun c hc => ?_
  have h := List.all_eq_true.mp h1 c hc
  rcases Bool.eq_false_or_eq_true (isCode c) with hi | hi
  · exact h2 c (List.mem_filter.mpr ⟨hc, hi⟩)
  · simpa [hi] using h
set_option maxRecDepth 65536 in
theorem w_c0 : (Jvm.Cond.code x code maxLocals ret).before args0 about1 = true := code_word (m := ⟨1, 1⟩) (meth := k1m1) (c := k1c1) (by decide +kernel) rfl rfl rfl (by decide +kernel)
set_option maxRecDepth 65536 in
theorem w_c1 : (Jvm.Cond.code ({ cls := "com/example/tollerance/tollerance/GzipChannel", name := "startsMember", desc := "(BB)Z" } : Jvm.MethodName) prog_35_method_2_code (2 : Nat) (Option.some Jvm.ClassFile.FieldType.boolean)).before args0 about1 = true := code_word (m := ⟨3, 0⟩) (meth := k3m0) (c := k3c0) (by decide +kernel) rfl rfl rfl (by decide +kernel)
def codes1 : List Jvm.Cond := [Jvm.Cond.code x code maxLocals ret, Jvm.Cond.code ({ cls := "com/example/tollerance/tollerance/GzipChannel", name := "startsMember", desc := "(BB)Z" } : Jvm.MethodName) prog_35_method_2_code (2 : Nat) (Option.some Jvm.ClassFile.FieldType.boolean)]
set_option maxRecDepth 65536 in
theorem codes_eq : words1.filter isCode = codes1 := rfl
theorem w_codes : ∀ c ∈ words1.filter isCode, c.before args0 about1 = true := by
  rw [codes_eq]
  intro c hc
  simp only [codes1, List.mem_cons, List.not_mem_nil, or_false] at hc
  rcases hc with rfl | rfl
  · exact w_c0
  · exact w_c1
set_option maxRecDepth 65536 in
theorem w_t1 : words1.all (fun c => isCode c || c.before args0 about1) = true := by decide +kernel
theorem w_tables : (allAtoms (Jvm.Cond.code x code maxLocals ret :: tables_1)).before args0 about1 = true := by
  rw [allAtoms_all]
  show words1.all (fun c => c.before args0 about1) = true
  refine all_split ?_ w_codes
  rw [w_t1]
set_option maxRecDepth 65536 in
theorem w_case : (Jvm.Cond.and given_1 narrow_1).before args0 about1 = true := by decide +kernel
theorem w_applies : (headSpec (Jvm.Cond.code x code maxLocals ret :: tables_1) room_1).applies x e0.platform about1 = true :=
  (Spec.applies_iff w_frames).mpr ⟨w_running, w_runnable, w_alone, w_named, w_hears, w_ripe, w_room, w_tables⟩
theorem atStart : AtStart classFile x code maxLocals ret World_1 tables_1 room_1 Calls_1 rest_1 Pre_1 launch0 p0 e0 about1 theMethod args0 below0 :=
  ⟨lists_1, trivial, launch0.admits_env _ _ _, launch0.least_env, fairChoices_fair.cas, fairChoices_fair.clock, w_frames, w_args, w_heap, w_applies, trivial, trivial, w_case⟩
end start1
theorem witness_1 : WitnessClaimed_1 := ⟨start1.p0, start1.e0, start1.about1, start1.theMethod, start1.args0, start1.below0, start1.atStart⟩
end Jvm.Pilot.@@N@@
