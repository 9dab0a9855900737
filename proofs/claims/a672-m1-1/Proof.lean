import JvmDerived
import JvmDerived.Pilot.@@N@@Statement
import JvmDerived.Pilot.@@N@@Code
set_option linter.unusedVariables false
set_option linter.unusedSimpArgs false
@@BLOCK:NumsL.lean.txt@@
namespace Jvm.Pilot.@@N@@
open Jvm Jvm.ClassFile Sem Op Lib Jvm.Free Jvm.Stand Jvm.LawKit Jvm.RoadKit Bundle Jvm.Pilot.@@N@@.Jvm.D
section OwnKit
variable {p : Program} {l : Launch} {e : Env} {R : Room} {s : State} {m : MethodId} {args : Array Value} {below : List Frame} {meth : Method} {c : Code} {T T' : State} {locs : List Loc} {cells slots : Nat}
/-- from here the body comes to its end and leaves what Q says -/
def own_W (p : Program) (e : Env) (below : List Frame) (s : State) (k n : Nat) (Q : Option Value → Heap → List Loc → Prop) (T : State) (f : JFrame) : Prop :=
  ∃ s₂ o, Steps p.tables e below (T.setTop f) s₂ ∧ s₂.status = .running ∧ Ended s₂ below o ∧ ∃ v L, o = .returned v ∧ Q v s₂.heap L ∧ FrameEnd s o s₂ L k n
theorem own_st {k n : Nat} {Q : Option Value → Heap → List Loc → Prop} {f f' : JFrame} (w : own_W p e below s k n Q T' f') (h : ∀ t, Steps p.tables e below (T'.setTop f') t → Steps p.tables e below (T.setTop f) t) : own_W p e below s k n Q T f := by
  obtain ⟨s₂, o, h1, r⟩ := w
  exact ⟨s₂, o, h _ h1, r⟩
theorem own_to {k n : Nat} {Q : Option Value → Heap → List Loc → Prop} {f f' : JFrame} (q : f = f') (w : own_W p e below s k n Q T f') : own_W p e below s k n Q T f := q ▸ w
theorem own_ite {k n : Nat} {α : Type} {G : α → Option Value → Heap → List Loc → Prop} {f : JFrame} {A : Prop} [Decidable A] {x y : α} (h1 : A → own_W p e below s k n (G x) T f) (h2 : ¬ A → own_W p e below s k n (G y) T f) : own_W p e below s k n (G (if A then x else y)) T f := by
  by_cases q : A
  · rw [if_pos q]; exact h1 q
  · rw [if_neg q]; exact h2 q
/-- an int is returned, nothing old is written, the heap is as P says -/
def own_GI (n0 : Nat) (P : Heap → Prop) (r : Int32) (v : Option Value) (h : Heap) (L : List Loc) : Prop := v = some (.int r) ∧ Fr n0 L ∧ P h
def own_GJ (n0 : Nat) (P : Heap → Prop) (r : Int64) (v : Option Value) (h : Heap) (L : List Loc) : Prop := v = some (.long r) ∧ Fr n0 L ∧ P h
theorem own_retI {k n : Nat} {Q : Option Value → Heap → List Loc → Prop} (X : Stand p l e R s m args below meth c T locs cells slots) (hx : p.tables.exec = Jvm.exec) (hlk : meth.locks = false) (hret : meth.sig.returnType = some .int) {pc : Nat} {Ls : Array Slot} {z : Int32} {rest : List Value} (hd : decode c.code pc = .ok (.ireturn, 1)) (hk : cells ≤ k) (hn : slots ≤ n) (q : Q (some (.int z)) T.heap locs) : own_W p e below s k n Q T (mkF m pc Ls (.int z :: rest)) := by
  obtain ⟨fs, hr, hrun, hended, hW, hsame⟩ := X.leave (v := some (.int z)) (fun h => by rw [hret] at h; cases h) hlk
  exact ⟨_, _, retOut X hx hret rfl (Or.inl ⟨rfl, Or.inl rfl, z, rfl⟩) hd hr, hrun, hended, _, _, rfl, q, ⟨_, rfl⟩, hW, hsame.mono hk hn⟩
theorem own_retN {k n : Nat} {Q : Option Value → Heap → List Loc → Prop} (X : Stand p l e R s m args below meth c T locs cells slots) (hx : p.tables.exec = Jvm.exec) (hlk : meth.locks = false) {t : FieldType} (hret : meth.sig.returnType = some t) (ht : t = .boolean ∨ t = .byte ∨ t = .char ∨ t = .short) {pc : Nat} {Ls : Array Slot} {z : Int32} {rest : List Value} (hd : decode c.code pc = .ok (.ireturn, 1)) (hk : cells ≤ k) (hn : slots ≤ n) (q : Q (some (.int (nar t z))) T.heap locs) : own_W p e below s k n Q T (mkF m pc Ls (.int z :: rest)) := by
  obtain ⟨fs, hr, hrun, hended, hW, hsame⟩ := X.leave (v := some (.int (nar t z))) (fun h => by rw [hret] at h; cases h) hlk
  exact ⟨_, _, retN X hx hret ht hd hr, hrun, hended, _, _, rfl, q, ⟨_, rfl⟩, hW, hsame.mono hk hn⟩
theorem own_retJ {k n : Nat} {Q : Option Value → Heap → List Loc → Prop} (X : Stand p l e R s m args below meth c T locs cells slots) (hx : p.tables.exec = Jvm.exec) (hlk : meth.locks = false) (hret : meth.sig.returnType = some .long) {pc : Nat} {Ls : Array Slot} {z : Int64} {rest : List Value} (hd : decode c.code pc = .ok (.lreturn, 1)) (hk : cells ≤ k) (hn : slots ≤ n) (q : Q (some (.long z)) T.heap locs) : own_W p e below s k n Q T (mkF m pc Ls (.long z :: rest)) := by
  obtain ⟨fs, hr, hrun, hended, hW, hsame⟩ := X.leave (v := some (.long z)) (fun h => by rw [hret] at h; cases h) hlk
  exact ⟨_, _, retOut X hx hret rfl (Or.inr (Or.inl ⟨rfl, rfl, z, rfl⟩)) hd hr, hrun, hended, _, _, rfl, q, ⟨_, rfl⟩, hW, hsame.mono hk hn⟩
theorem own_retA {k n : Nat} {Q : Option Value → Heap → List Loc → Prop} (X : Stand p l e R s m args below meth c T locs cells slots) (hx : p.tables.exec = Jvm.exec) (hlk : meth.locks = false) {t : FieldType} (hret : meth.sig.returnType = some t) (ht : t.isReference = true) {pc : Nat} {Ls : Array Slot} {z : Addr} {rest : List Value} (hn' : narrow t (.ref z) = .ref z) (hd : decode c.code pc = .ok (.areturn, 1)) (hk : cells ≤ k) (hn : slots ≤ n) (q : Q (some (.ref z)) T.heap locs) : own_W p e below s k n Q T (mkF m pc Ls (.ref z :: rest)) := by
  obtain ⟨fs, hr, hrun, hended, hW, hsame⟩ := X.leave (v := some (.ref z)) (fun h => by rw [hret] at h; cases h) hlk
  exact ⟨_, _, retOut X hx hret hn' (Or.inr (Or.inr (Or.inr (Or.inr ⟨rfl, ht, rfl⟩)))) hd hr, hrun, hended, _, _, rfl, q, ⟨_, rfl⟩, hW, hsame.mono hk hn⟩
theorem own_retV {k n : Nat} {Q : Option Value → Heap → List Loc → Prop} (X : Stand p l e R s m args below meth c T locs cells slots) (hx : p.tables.exec = Jvm.exec) (hlk : meth.locks = false) (hret : meth.sig.returnType = none) {pc : Nat} {Ls : Array Slot} (hd : decode c.code pc = .ok (.return_, 1)) (hk : cells ≤ k) (hn : slots ≤ n) (q : Q none T.heap locs) : own_W p e below s k n Q T (mkF m pc Ls []) := by
  obtain ⟨fs, hr, hrun, hended, hW, hsame⟩ := X.leave (v := none) (fun _ => rfl) hlk
  exact ⟨_, _, X.returnOut hx hret hd hr, hrun, hended, _, _, rfl, q, ⟨_, rfl⟩, hW, hsame.mono hk hn⟩
end OwnKit
section OwnNums
theorem own_rem {x y : Int32} (hx : 0 ≤ x.toInt) (hy : 0 < y.toInt) : (x - (x / y) * y).toInt = x.toInt % y.toInt := by
  have hd : (x / y).toInt = x.toInt.tdiv y.toInt := Jvm.Kit.i32_div (by omega)
  rw [Int.tdiv_eq_ediv_of_nonneg hx] at hd
  have hxl := Int32.toInt_lt x
  have h1 : y.toInt * (x.toInt / y.toInt) + x.toInt % y.toInt = x.toInt := Int.mul_ediv_add_emod x.toInt y.toInt
  have h2 := Int.emod_nonneg x.toInt (by omega : y.toInt ≠ 0)
  have h3 := Int.emod_lt_of_pos x.toInt hy
  have h4 : (x / y).toInt * y.toInt = x.toInt - x.toInt % y.toInt := by rw [hd, Int.mul_comm]; omega
  have h6 := Int.mul_nonneg (Int.le_of_lt hy) (Int.ediv_nonneg hx (Int.le_of_lt hy))
  have h5 : x.toInt % y.toInt ≤ x.toInt := by omega
  have hm : ((x / y) * y).toInt = x.toInt - x.toInt % y.toInt := by
    rw [Jvm.Kit.i32_mul (by omega) (by omega), h4]
  rw [Jvm.Kit.i32_sub (by omega) (by omega), hm]; omega
theorem own_and31 (x : Int32) : (x &&& (2147483647 : Int32)).toInt = x.toInt % 2147483648 := Jvm.Kit.i32_mask x 2147483647 (k := 31) (by decide) (by decide)
theorem own_i8 (x : Int32) : -128 ≤ (x.toInt8.toInt32).toInt ∧ (x.toInt8.toInt32).toInt < 128 := by
  rw [Int8.toInt_toInt32]
  have h1 := Int8.le_toInt x.toInt8
  have h2 := Int8.toInt_lt x.toInt8
  omega
end OwnNums
theorem d1_0 : decode prog_41_method_2_code 0 = .ok (.iload_n 0, 1) := by decide +kernel
theorem d1_1 : decode prog_41_method_2_code 1 = .ok (.bipush 97, 2) := by decide +kernel
theorem d1_3 : decode prog_41_method_2_code 3 = .ok (.if_icmp .lt 9, 3) := by decide +kernel
theorem d1_6 : decode prog_41_method_2_code 6 = .ok (.iload_n 0, 1) := by decide +kernel
theorem d1_7 : decode prog_41_method_2_code 7 = .ok (.bipush 122, 2) := by decide +kernel
theorem d1_9 : decode prog_41_method_2_code 9 = .ok (.if_icmp .le 51, 3) := by decide +kernel
theorem d1_12 : decode prog_41_method_2_code 12 = .ok (.iload_n 0, 1) := by decide +kernel
theorem d1_13 : decode prog_41_method_2_code 13 = .ok (.bipush 65, 2) := by decide +kernel
theorem d1_15 : decode prog_41_method_2_code 15 = .ok (.if_icmp .lt 9, 3) := by decide +kernel
theorem d1_18 : decode prog_41_method_2_code 18 = .ok (.iload_n 0, 1) := by decide +kernel
theorem d1_19 : decode prog_41_method_2_code 19 = .ok (.bipush 90, 2) := by decide +kernel
theorem d1_21 : decode prog_41_method_2_code 21 = .ok (.if_icmp .le 39, 3) := by decide +kernel
theorem d1_24 : decode prog_41_method_2_code 24 = .ok (.iload_n 0, 1) := by decide +kernel
theorem d1_25 : decode prog_41_method_2_code 25 = .ok (.bipush 48, 2) := by decide +kernel
theorem d1_27 : decode prog_41_method_2_code 27 = .ok (.if_icmp .lt 9, 3) := by decide +kernel
theorem d1_30 : decode prog_41_method_2_code 30 = .ok (.iload_n 0, 1) := by decide +kernel
theorem d1_31 : decode prog_41_method_2_code 31 = .ok (.bipush 57, 2) := by decide +kernel
theorem d1_33 : decode prog_41_method_2_code 33 = .ok (.if_icmp .le 27, 3) := by decide +kernel
theorem d1_36 : decode prog_41_method_2_code 36 = .ok (.iload_n 0, 1) := by decide +kernel
theorem d1_37 : decode prog_41_method_2_code 37 = .ok (.bipush 46, 2) := by decide +kernel
theorem d1_39 : decode prog_41_method_2_code 39 = .ok (.if_icmp .eq 21, 3) := by decide +kernel
theorem d1_42 : decode prog_41_method_2_code 42 = .ok (.iload_n 0, 1) := by decide +kernel
theorem d1_43 : decode prog_41_method_2_code 43 = .ok (.bipush 95, 2) := by decide +kernel
theorem d1_45 : decode prog_41_method_2_code 45 = .ok (.if_icmp .eq 15, 3) := by decide +kernel
theorem d1_48 : decode prog_41_method_2_code 48 = .ok (.iload_n 0, 1) := by decide +kernel
theorem d1_49 : decode prog_41_method_2_code 49 = .ok (.bipush 58, 2) := by decide +kernel
theorem d1_51 : decode prog_41_method_2_code 51 = .ok (.if_icmp .eq 9, 3) := by decide +kernel
theorem d1_54 : decode prog_41_method_2_code 54 = .ok (.iload_n 0, 1) := by decide +kernel
theorem d1_55 : decode prog_41_method_2_code 55 = .ok (.bipush 45, 2) := by decide +kernel
theorem d1_57 : decode prog_41_method_2_code 57 = .ok (.if_icmp .ne 7, 3) := by decide +kernel
theorem d1_60 : decode prog_41_method_2_code 60 = .ok (.iconst 1, 1) := by decide +kernel
theorem d1_61 : decode prog_41_method_2_code 61 = .ok (.goto 4, 3) := by decide +kernel
theorem d1_64 : decode prog_41_method_2_code 64 = .ok (.iconst 0, 1) := by decide +kernel
theorem d1_65 : decode prog_41_method_2_code 65 = .ok (.ireturn, 1) := by decide +kernel
theorem pn_1 : plainFor (⟨"com/example/lease/lease/core/Names", "isAllowed", "(C)Z"⟩ : MethodName) = true := by first | exact plainFor_of_name (by first | (simp [plainName, overriddenIn]; done) | decide +kernel) | decide +kernel
theorem ef_1 (m : MethodId) (x0 : Int32) : entryFrame m #[(.int x0)] 1 = mkF m 0 #[.val (.int x0)] [] := by first | (simp [entryFrame, mkF, argsToLocals, Value.category, maxLocals]; done) | rfl
def f1_36 (p0 : Int32) : Int32 := (if p0 = (46 : Int32) then (1 : Int32) else (if p0 = (95 : Int32) then (1 : Int32) else (if p0 = (58 : Int32) then (1 : Int32) else (if p0 = (45 : Int32) then (1 : Int32) else (0 : Int32)))))
def f1_24 (p0 : Int32) : Int32 := (if p0 < (48 : Int32) then (f1_36 p0) else (if (57 : Int32) < p0 then (f1_36 p0) else (1 : Int32)))
def f1_12 (p0 : Int32) : Int32 := (if p0 < (65 : Int32) then (f1_24 p0) else (if (90 : Int32) < p0 then (f1_24 p0) else (1 : Int32)))
def f1 (p0 : Int32) : Int32 := (if p0 < (97 : Int32) then (f1_12 p0) else (if (122 : Int32) < p0 then (f1_12 p0) else (1 : Int32)))
set_option maxRecDepth 65536 in
set_option maxHeartbeats 40000000 in
theorem rm1 (l : Launch) (Z : State) (a0 : Array Value) (hw : ∀ d ∈ tables_1, d.before a0 Z = true) (ws : List Jvm.Cond) (p0 : Int32) (h0 : Heap) (n0 : Nat) :
    MetFree l (⟨"com/example/lease/lease/core/Names", "isAllowed", "(C)Z"⟩ : MethodName) (head1 (Jvm.Cond.code (⟨"com/example/lease/lease/core/Names", "isAllowed", "(C)Z"⟩ : MethodName) prog_41_method_2_code 1 (some .boolean) :: ws) ({ frames := 0, cells := 0, slots := 0, locals := 0 } : Room)) (fun a U => a = #[(.int p0)] ∧ Z.Warmed39 U.vm ∧ U.heap = h0) (fun _ _ _ _ _ => True) (fun _ U o U' => ∃ v L, o = .returned v ∧ own_GI n0 (fun h => h = h0) (f1 p0) v U'.heap L ∧ FrameEnd U o U' L ({ frames := 0, cells := 0, slots := 0, locals := 0 } : Room).cells ({ frames := 0, cells := 0, slots := 0, locals := 0 } : Room).slots) := by
  refine MetFree.of_bodySF pn_1 hisR ?_
  intro p e s m args below meth c s₁ Bd hml0 hP hK
  obtain ⟨rfl, hZ, hh⟩ := hP
  have hx := Bd.exec
  have hby := Bd.bytes
  have hml : c.maxLocals = 1 := hml0
  have hown : s.vm.findClass "com/example/lease/lease/core/Names" = some m.cls := findClass_of_methodNamed Bd.named
  have hlk : meth.locks = false := BodyLoose.notSynchronized Bd
  have X0 : Stand p l e ({ frames := 0, cells := 0, slots := 0, locals := 0 } : Room) s m #[(.int p0)] below meth c s₁ [] 0 0 := Stand.of_body Bd
  have e0 : s₁.heap = h0 := by rw [← hh, Bd.state]; rfl
  have N0 := Fr.nil n0
  have B36 : ∀ (T : State) (locs : List Loc) (X : Stand p l e ({ frames := 0, cells := 0, slots := 0, locals := 0 } : Room) s m #[(.int p0)] below meth c T locs 0 0) (N : Fr n0 locs) (eh : T.heap = h0), own_W p e below s 0 0 (own_GI n0 (fun h => h = h0) (f1_36 p0)) T (mkF m 36 #[.val (.int p0)] []) := by
    intro T locs X N eh
    unfold f1_36
    refine own_st (T' := T) (f' := (mkF m 37 #[.val (.int p0)] [(.int p0)])) ?_ (fun t q => XS.iloadN X.here hx rfl (hb hby d1_36) rfl q)
    refine own_st (T' := T) (f' := (mkF m 39 #[.val (.int p0)] [(.int (46 : Int32)), (.int p0)])) ?_ (fun t q => XS.bipush X.here hx rfl (hb hby d1_37) q)
    refine own_ite (fun hc39 => ?_) (fun hc39 => ?_)
    · refine own_st (T' := T) (f' := (mkF m 60 #[.val (.int p0)] [])) ?_ (fun t q => XS.icmpYes X.here hx rfl (pc0 := 39) (pc' := 60) rfl (hb hby d1_39) rfl (teq hc39).1 (by decide) (by decide) q)
      refine own_st (T' := T) (f' := (mkF m 61 #[.val (.int p0)] [(.int (1 : Int32))])) ?_ (fun t q => XS.iconst X.here hx rfl (hb hby d1_60) q)
      refine own_st (T' := T) (f' := (mkF m 65 #[.val (.int p0)] [(.int (1 : Int32))])) ?_ (fun t q => XS.goto X.here hx rfl (pc0 := 61) (pc' := 65) rfl (hb hby d1_61) (by decide) (by decide) q)
      exact own_retN X hx hlk (t := .boolean) Bd.returns (by simp) (hb hby d1_65) (by decide) (by decide) ⟨rfl, N, eh⟩
    · refine own_st (T' := T) (f' := (mkF m 42 #[.val (.int p0)] [])) ?_ (fun t q => XS.icmpNo X.here hx rfl (hb hby d1_39) rfl (feq hc39).1 q)
      refine own_st (T' := T) (f' := (mkF m 43 #[.val (.int p0)] [(.int p0)])) ?_ (fun t q => XS.iloadN X.here hx rfl (hb hby d1_42) rfl q)
      refine own_st (T' := T) (f' := (mkF m 45 #[.val (.int p0)] [(.int (95 : Int32)), (.int p0)])) ?_ (fun t q => XS.bipush X.here hx rfl (hb hby d1_43) q)
      refine own_ite (fun hc45 => ?_) (fun hc45 => ?_)
      · refine own_st (T' := T) (f' := (mkF m 60 #[.val (.int p0)] [])) ?_ (fun t q => XS.icmpYes X.here hx rfl (pc0 := 45) (pc' := 60) rfl (hb hby d1_45) rfl (teq hc45).1 (by decide) (by decide) q)
        refine own_st (T' := T) (f' := (mkF m 61 #[.val (.int p0)] [(.int (1 : Int32))])) ?_ (fun t q => XS.iconst X.here hx rfl (hb hby d1_60) q)
        refine own_st (T' := T) (f' := (mkF m 65 #[.val (.int p0)] [(.int (1 : Int32))])) ?_ (fun t q => XS.goto X.here hx rfl (pc0 := 61) (pc' := 65) rfl (hb hby d1_61) (by decide) (by decide) q)
        exact own_retN X hx hlk (t := .boolean) Bd.returns (by simp) (hb hby d1_65) (by decide) (by decide) ⟨rfl, N, eh⟩
      · refine own_st (T' := T) (f' := (mkF m 48 #[.val (.int p0)] [])) ?_ (fun t q => XS.icmpNo X.here hx rfl (hb hby d1_45) rfl (feq hc45).1 q)
        refine own_st (T' := T) (f' := (mkF m 49 #[.val (.int p0)] [(.int p0)])) ?_ (fun t q => XS.iloadN X.here hx rfl (hb hby d1_48) rfl q)
        refine own_st (T' := T) (f' := (mkF m 51 #[.val (.int p0)] [(.int (58 : Int32)), (.int p0)])) ?_ (fun t q => XS.bipush X.here hx rfl (hb hby d1_49) q)
        refine own_ite (fun hc51 => ?_) (fun hc51 => ?_)
        · refine own_st (T' := T) (f' := (mkF m 60 #[.val (.int p0)] [])) ?_ (fun t q => XS.icmpYes X.here hx rfl (pc0 := 51) (pc' := 60) rfl (hb hby d1_51) rfl (teq hc51).1 (by decide) (by decide) q)
          refine own_st (T' := T) (f' := (mkF m 61 #[.val (.int p0)] [(.int (1 : Int32))])) ?_ (fun t q => XS.iconst X.here hx rfl (hb hby d1_60) q)
          refine own_st (T' := T) (f' := (mkF m 65 #[.val (.int p0)] [(.int (1 : Int32))])) ?_ (fun t q => XS.goto X.here hx rfl (pc0 := 61) (pc' := 65) rfl (hb hby d1_61) (by decide) (by decide) q)
          exact own_retN X hx hlk (t := .boolean) Bd.returns (by simp) (hb hby d1_65) (by decide) (by decide) ⟨rfl, N, eh⟩
        · refine own_st (T' := T) (f' := (mkF m 54 #[.val (.int p0)] [])) ?_ (fun t q => XS.icmpNo X.here hx rfl (hb hby d1_51) rfl (feq hc51).1 q)
          refine own_st (T' := T) (f' := (mkF m 55 #[.val (.int p0)] [(.int p0)])) ?_ (fun t q => XS.iloadN X.here hx rfl (hb hby d1_54) rfl q)
          refine own_st (T' := T) (f' := (mkF m 57 #[.val (.int p0)] [(.int (45 : Int32)), (.int p0)])) ?_ (fun t q => XS.bipush X.here hx rfl (hb hby d1_55) q)
          refine own_ite (fun hc57 => ?_) (fun hc57 => ?_)
          · refine own_st (T' := T) (f' := (mkF m 60 #[.val (.int p0)] [])) ?_ (fun t q => XS.icmpNo X.here hx rfl (hb hby d1_57) rfl (teq hc57).2 q)
            refine own_st (T' := T) (f' := (mkF m 61 #[.val (.int p0)] [(.int (1 : Int32))])) ?_ (fun t q => XS.iconst X.here hx rfl (hb hby d1_60) q)
            refine own_st (T' := T) (f' := (mkF m 65 #[.val (.int p0)] [(.int (1 : Int32))])) ?_ (fun t q => XS.goto X.here hx rfl (pc0 := 61) (pc' := 65) rfl (hb hby d1_61) (by decide) (by decide) q)
            exact own_retN X hx hlk (t := .boolean) Bd.returns (by simp) (hb hby d1_65) (by decide) (by decide) ⟨rfl, N, eh⟩
          · refine own_st (T' := T) (f' := (mkF m 64 #[.val (.int p0)] [])) ?_ (fun t q => XS.icmpYes X.here hx rfl (pc0 := 57) (pc' := 64) rfl (hb hby d1_57) rfl (feq hc57).2 (by decide) (by decide) q)
            refine own_st (T' := T) (f' := (mkF m 65 #[.val (.int p0)] [(.int (0 : Int32))])) ?_ (fun t q => XS.iconst X.here hx rfl (hb hby d1_64) q)
            exact own_retN X hx hlk (t := .boolean) Bd.returns (by simp) (hb hby d1_65) (by decide) (by decide) ⟨rfl, N, eh⟩
  have B24 : ∀ (T : State) (locs : List Loc) (X : Stand p l e ({ frames := 0, cells := 0, slots := 0, locals := 0 } : Room) s m #[(.int p0)] below meth c T locs 0 0) (N : Fr n0 locs) (eh : T.heap = h0), own_W p e below s 0 0 (own_GI n0 (fun h => h = h0) (f1_24 p0)) T (mkF m 24 #[.val (.int p0)] []) := by
    intro T locs X N eh
    unfold f1_24
    refine own_st (T' := T) (f' := (mkF m 25 #[.val (.int p0)] [(.int p0)])) ?_ (fun t q => XS.iloadN X.here hx rfl (hb hby d1_24) rfl q)
    refine own_st (T' := T) (f' := (mkF m 27 #[.val (.int p0)] [(.int (48 : Int32)), (.int p0)])) ?_ (fun t q => XS.bipush X.here hx rfl (hb hby d1_25) q)
    refine own_ite (fun hc27 => ?_) (fun hc27 => ?_)
    · refine own_st (T' := T) (f' := (mkF m 36 #[.val (.int p0)] [])) ?_ (fun t q => XS.icmpYes X.here hx rfl (pc0 := 27) (pc' := 36) rfl (hb hby d1_27) rfl (tlt hc27).1 (by decide) (by decide) q)
      exact B36 T _ X N eh
    · refine own_st (T' := T) (f' := (mkF m 30 #[.val (.int p0)] [])) ?_ (fun t q => XS.icmpNo X.here hx rfl (hb hby d1_27) rfl (flt hc27).1 q)
      refine own_st (T' := T) (f' := (mkF m 31 #[.val (.int p0)] [(.int p0)])) ?_ (fun t q => XS.iloadN X.here hx rfl (hb hby d1_30) rfl q)
      refine own_st (T' := T) (f' := (mkF m 33 #[.val (.int p0)] [(.int (57 : Int32)), (.int p0)])) ?_ (fun t q => XS.bipush X.here hx rfl (hb hby d1_31) q)
      refine own_ite (fun hc33 => ?_) (fun hc33 => ?_)
      · refine own_st (T' := T) (f' := (mkF m 36 #[.val (.int p0)] [])) ?_ (fun t q => XS.icmpNo X.here hx rfl (hb hby d1_33) rfl (tlt hc33).2.2.2 q)
        exact B36 T _ X N eh
      · refine own_st (T' := T) (f' := (mkF m 60 #[.val (.int p0)] [])) ?_ (fun t q => XS.icmpYes X.here hx rfl (pc0 := 33) (pc' := 60) rfl (hb hby d1_33) rfl (flt hc33).2.2.2 (by decide) (by decide) q)
        refine own_st (T' := T) (f' := (mkF m 61 #[.val (.int p0)] [(.int (1 : Int32))])) ?_ (fun t q => XS.iconst X.here hx rfl (hb hby d1_60) q)
        refine own_st (T' := T) (f' := (mkF m 65 #[.val (.int p0)] [(.int (1 : Int32))])) ?_ (fun t q => XS.goto X.here hx rfl (pc0 := 61) (pc' := 65) rfl (hb hby d1_61) (by decide) (by decide) q)
        exact own_retN X hx hlk (t := .boolean) Bd.returns (by simp) (hb hby d1_65) (by decide) (by decide) ⟨rfl, N, eh⟩
  have B12 : ∀ (T : State) (locs : List Loc) (X : Stand p l e ({ frames := 0, cells := 0, slots := 0, locals := 0 } : Room) s m #[(.int p0)] below meth c T locs 0 0) (N : Fr n0 locs) (eh : T.heap = h0), own_W p e below s 0 0 (own_GI n0 (fun h => h = h0) (f1_12 p0)) T (mkF m 12 #[.val (.int p0)] []) := by
    intro T locs X N eh
    unfold f1_12
    refine own_st (T' := T) (f' := (mkF m 13 #[.val (.int p0)] [(.int p0)])) ?_ (fun t q => XS.iloadN X.here hx rfl (hb hby d1_12) rfl q)
    refine own_st (T' := T) (f' := (mkF m 15 #[.val (.int p0)] [(.int (65 : Int32)), (.int p0)])) ?_ (fun t q => XS.bipush X.here hx rfl (hb hby d1_13) q)
    refine own_ite (fun hc15 => ?_) (fun hc15 => ?_)
    · refine own_st (T' := T) (f' := (mkF m 24 #[.val (.int p0)] [])) ?_ (fun t q => XS.icmpYes X.here hx rfl (pc0 := 15) (pc' := 24) rfl (hb hby d1_15) rfl (tlt hc15).1 (by decide) (by decide) q)
      exact B24 T _ X N eh
    · refine own_st (T' := T) (f' := (mkF m 18 #[.val (.int p0)] [])) ?_ (fun t q => XS.icmpNo X.here hx rfl (hb hby d1_15) rfl (flt hc15).1 q)
      refine own_st (T' := T) (f' := (mkF m 19 #[.val (.int p0)] [(.int p0)])) ?_ (fun t q => XS.iloadN X.here hx rfl (hb hby d1_18) rfl q)
      refine own_st (T' := T) (f' := (mkF m 21 #[.val (.int p0)] [(.int (90 : Int32)), (.int p0)])) ?_ (fun t q => XS.bipush X.here hx rfl (hb hby d1_19) q)
      refine own_ite (fun hc21 => ?_) (fun hc21 => ?_)
      · refine own_st (T' := T) (f' := (mkF m 24 #[.val (.int p0)] [])) ?_ (fun t q => XS.icmpNo X.here hx rfl (hb hby d1_21) rfl (tlt hc21).2.2.2 q)
        exact B24 T _ X N eh
      · refine own_st (T' := T) (f' := (mkF m 60 #[.val (.int p0)] [])) ?_ (fun t q => XS.icmpYes X.here hx rfl (pc0 := 21) (pc' := 60) rfl (hb hby d1_21) rfl (flt hc21).2.2.2 (by decide) (by decide) q)
        refine own_st (T' := T) (f' := (mkF m 61 #[.val (.int p0)] [(.int (1 : Int32))])) ?_ (fun t q => XS.iconst X.here hx rfl (hb hby d1_60) q)
        refine own_st (T' := T) (f' := (mkF m 65 #[.val (.int p0)] [(.int (1 : Int32))])) ?_ (fun t q => XS.goto X.here hx rfl (pc0 := 61) (pc' := 65) rfl (hb hby d1_61) (by decide) (by decide) q)
        exact own_retN X hx hlk (t := .boolean) Bd.returns (by simp) (hb hby d1_65) (by decide) (by decide) ⟨rfl, N, eh⟩
  show own_W p e below s 0 0 (own_GI n0 (fun h => h = h0) (f1 p0)) s₁ (entryFrame m #[(.int p0)] 1)
  refine own_to (ef_1 m p0) ?_
  unfold f1
  refine own_st (T' := s₁) (f' := (mkF m 1 #[.val (.int p0)] [(.int p0)])) ?_ (fun t q => XS.iloadN X0.here hx rfl (hb hby d1_0) rfl q)
  refine own_st (T' := s₁) (f' := (mkF m 3 #[.val (.int p0)] [(.int (97 : Int32)), (.int p0)])) ?_ (fun t q => XS.bipush X0.here hx rfl (hb hby d1_1) q)
  refine own_ite (fun hc3 => ?_) (fun hc3 => ?_)
  · refine own_st (T' := s₁) (f' := (mkF m 12 #[.val (.int p0)] [])) ?_ (fun t q => XS.icmpYes X0.here hx rfl (pc0 := 3) (pc' := 12) rfl (hb hby d1_3) rfl (tlt hc3).1 (by decide) (by decide) q)
    exact B12 s₁ _ X0 N0 e0
  · refine own_st (T' := s₁) (f' := (mkF m 6 #[.val (.int p0)] [])) ?_ (fun t q => XS.icmpNo X0.here hx rfl (hb hby d1_3) rfl (flt hc3).1 q)
    refine own_st (T' := s₁) (f' := (mkF m 7 #[.val (.int p0)] [(.int p0)])) ?_ (fun t q => XS.iloadN X0.here hx rfl (hb hby d1_6) rfl q)
    refine own_st (T' := s₁) (f' := (mkF m 9 #[.val (.int p0)] [(.int (122 : Int32)), (.int p0)])) ?_ (fun t q => XS.bipush X0.here hx rfl (hb hby d1_7) q)
    refine own_ite (fun hc9 => ?_) (fun hc9 => ?_)
    · refine own_st (T' := s₁) (f' := (mkF m 12 #[.val (.int p0)] [])) ?_ (fun t q => XS.icmpNo X0.here hx rfl (hb hby d1_9) rfl (tlt hc9).2.2.2 q)
      exact B12 s₁ _ X0 N0 e0
    · refine own_st (T' := s₁) (f' := (mkF m 60 #[.val (.int p0)] [])) ?_ (fun t q => XS.icmpYes X0.here hx rfl (pc0 := 9) (pc' := 60) rfl (hb hby d1_9) rfl (flt hc9).2.2.2 (by decide) (by decide) q)
      refine own_st (T' := s₁) (f' := (mkF m 61 #[.val (.int p0)] [(.int (1 : Int32))])) ?_ (fun t q => XS.iconst X0.here hx rfl (hb hby d1_60) q)
      refine own_st (T' := s₁) (f' := (mkF m 65 #[.val (.int p0)] [(.int (1 : Int32))])) ?_ (fun t q => XS.goto X0.here hx rfl (pc0 := 61) (pc' := 65) rfl (hb hby d1_61) (by decide) (by decide) q)
      exact own_retN X0 hx hlk (t := .boolean) Bd.returns (by simp) (hb hby d1_65) (by decide) (by decide) ⟨rfl, N0, e0⟩
theorem d2_0 : decode method_2_code 0 = .ok (.iload_n 0, 1) := by decide +kernel
theorem d2_1 : decode method_2_code 1 = .ok (.bipush 64, 2) := by decide +kernel
theorem d2_3 : decode method_2_code 3 = .ok (.if_icmp .ge 21, 3) := by decide +kernel
theorem d2_6 : decode method_2_code 6 = .ok (.ldc2_w 9, 3) := by decide +kernel
theorem d2_9 : decode method_2_code 9 = .ok (.iload_n 0, 1) := by decide +kernel
theorem d2_10 : decode method_2_code 10 = .ok (.lushr, 1) := by decide +kernel
theorem d2_11 : decode method_2_code 11 = .ok (.lconst 1, 1) := by decide +kernel
theorem d2_12 : decode method_2_code 12 = .ok (.land, 1) := by decide +kernel
theorem d2_13 : decode method_2_code 13 = .ok (.lconst 0, 1) := by decide +kernel
theorem d2_14 : decode method_2_code 14 = .ok (.lcmp, 1) := by decide +kernel
theorem d2_15 : decode method_2_code 15 = .ok (.ifCond .eq 7, 3) := by decide +kernel
theorem d2_18 : decode method_2_code 18 = .ok (.iconst 1, 1) := by decide +kernel
theorem d2_19 : decode method_2_code 19 = .ok (.goto 4, 3) := by decide +kernel
theorem d2_22 : decode method_2_code 22 = .ok (.iconst 0, 1) := by decide +kernel
theorem d2_23 : decode method_2_code 23 = .ok (.ireturn, 1) := by decide +kernel
theorem d2_24 : decode method_2_code 24 = .ok (.iload_n 0, 1) := by decide +kernel
theorem d2_25 : decode method_2_code 25 = .ok (.sipush 128, 3) := by decide +kernel
theorem d2_28 : decode method_2_code 28 = .ok (.if_icmp .ge 24, 3) := by decide +kernel
theorem d2_31 : decode method_2_code 31 = .ok (.ldc2_w 11, 3) := by decide +kernel
theorem d2_34 : decode method_2_code 34 = .ok (.iload_n 0, 1) := by decide +kernel
theorem d2_35 : decode method_2_code 35 = .ok (.bipush 64, 2) := by decide +kernel
theorem d2_37 : decode method_2_code 37 = .ok (.isub, 1) := by decide +kernel
theorem d2_38 : decode method_2_code 38 = .ok (.lushr, 1) := by decide +kernel
theorem d2_39 : decode method_2_code 39 = .ok (.lconst 1, 1) := by decide +kernel
theorem d2_40 : decode method_2_code 40 = .ok (.land, 1) := by decide +kernel
theorem d2_41 : decode method_2_code 41 = .ok (.lconst 0, 1) := by decide +kernel
theorem d2_42 : decode method_2_code 42 = .ok (.lcmp, 1) := by decide +kernel
theorem d2_43 : decode method_2_code 43 = .ok (.ifCond .eq 7, 3) := by decide +kernel
theorem d2_46 : decode method_2_code 46 = .ok (.iconst 1, 1) := by decide +kernel
theorem d2_47 : decode method_2_code 47 = .ok (.goto 4, 3) := by decide +kernel
theorem d2_50 : decode method_2_code 50 = .ok (.iconst 0, 1) := by decide +kernel
theorem d2_51 : decode method_2_code 51 = .ok (.ireturn, 1) := by decide +kernel
theorem d2_52 : decode method_2_code 52 = .ok (.iconst 0, 1) := by decide +kernel
theorem d2_53 : decode method_2_code 53 = .ok (.ireturn, 1) := by decide +kernel
theorem pn_2 : plainFor (⟨"com/example/lease/lease/core/NamesIsAllowedPinLaw", "expected", "(I)Z"⟩ : MethodName) = true := by first | exact plainFor_of_name (by first | (simp [plainName, overriddenIn]; done) | decide +kernel) | decide +kernel
theorem ef_2 (m : MethodId) (x0 : Int32) : entryFrame m #[(.int x0)] 1 = mkF m 0 #[.val (.int x0)] [] := by first | (simp [entryFrame, mkF, argsToLocals, Value.category, maxLocals]; done) | rfl
def f2 (p0 : Int32) : Int32 := (if p0 < (64 : Int32) then (if ((((576284830442979328 : Int64).toUInt64 >>> (p0 &&& 0x3f).toInt64.toUInt64).toInt64) &&& (1 : Int64)) = (0 : Int64) then (0 : Int32) else (1 : Int32)) else (if p0 < (128 : Int32) then (if ((((576460745995190270 : Int64).toUInt64 >>> ((p0 - (64 : Int32)) &&& 0x3f).toInt64.toUInt64).toInt64) &&& (1 : Int64)) = (0 : Int64) then (0 : Int32) else (1 : Int32)) else (0 : Int32)))
set_option maxRecDepth 65536 in
set_option maxHeartbeats 40000000 in
theorem rm2 (l : Launch) (Z : State) (a0 : Array Value) (hw : ∀ d ∈ tables_1, d.before a0 Z = true) (ws : List Jvm.Cond) (p0 : Int32) (h0 : Heap) (n0 : Nat) :
    MetFree l (⟨"com/example/lease/lease/core/NamesIsAllowedPinLaw", "expected", "(I)Z"⟩ : MethodName) (head1 (Jvm.Cond.code (⟨"com/example/lease/lease/core/NamesIsAllowedPinLaw", "expected", "(I)Z"⟩ : MethodName) method_2_code 1 (some .boolean) :: ws) ({ frames := 0, cells := 0, slots := 0, locals := 0 } : Room)) (fun a U => a = #[(.int p0)] ∧ Z.Warmed39 U.vm ∧ U.heap = h0) (fun _ _ _ _ _ => True) (fun _ U o U' => ∃ v L, o = .returned v ∧ own_GI n0 (fun h => h = h0) (f2 p0) v U'.heap L ∧ FrameEnd U o U' L ({ frames := 0, cells := 0, slots := 0, locals := 0 } : Room).cells ({ frames := 0, cells := 0, slots := 0, locals := 0 } : Room).slots) := by
  refine MetFree.of_bodySF pn_2 hisR ?_
  intro p e s m args below meth c s₁ Bd hml0 hP hK
  obtain ⟨rfl, hZ, hh⟩ := hP
  have hx := Bd.exec
  have hby := Bd.bytes
  have hml : c.maxLocals = 1 := hml0
  have hown : s.vm.findClass "com/example/lease/lease/core/NamesIsAllowedPinLaw" = some m.cls := findClass_of_methodNamed Bd.named
  have hlk : meth.locks = false := BodyLoose.notSynchronized Bd
  have X0 : Stand p l e ({ frames := 0, cells := 0, slots := 0, locals := 0 } : Room) s m #[(.int p0)] below meth c s₁ [] 0 0 := Stand.of_body Bd
  have e0 : s₁.heap = h0 := by rw [← hh, Bd.state]; rfl
  have N0 := Fr.nil n0
  show own_W p e below s 0 0 (own_GI n0 (fun h => h = h0) (f2 p0)) s₁ (entryFrame m #[(.int p0)] 1)
  refine own_to (ef_2 m p0) ?_
  unfold f2
  refine own_st (T' := s₁) (f' := (mkF m 1 #[.val (.int p0)] [(.int p0)])) ?_ (fun t q => XS.iloadN X0.here hx rfl (hb hby d2_0) rfl q)
  refine own_st (T' := s₁) (f' := (mkF m 3 #[.val (.int p0)] [(.int (64 : Int32)), (.int p0)])) ?_ (fun t q => XS.bipush X0.here hx rfl (hb hby d2_1) q)
  refine own_ite (fun hc3 => ?_) (fun hc3 => ?_)
  · refine own_st (T' := s₁) (f' := (mkF m 6 #[.val (.int p0)] [])) ?_ (fun t q => XS.icmpNo X0.here hx rfl (hb hby d2_3) rfl (tlt hc3).2.1 q)
    refine own_st (T' := s₁) (f' := (mkF m 9 #[.val (.int p0)] [(.long (576284830442979328 : Int64))])) ?_ (fun t q => X0.ldc2Long hx hown (mvT hZ (hw _ (List.mem_of_getElem? (i := 8) rfl))) (g := (mkF m 6 #[.val (.int p0)] [])) rfl (hb hby d2_6) _ q)
    refine own_st (T' := s₁) (f' := (mkF m 10 #[.val (.int p0)] [(.int p0), (.long (576284830442979328 : Int64))])) ?_ (fun t q => XS.iloadN X0.here hx rfl (hb hby d2_9) rfl q)
    refine own_st (T' := s₁) (f' := (mkF m 11 #[.val (.int p0)] [(.long (((576284830442979328 : Int64).toUInt64 >>> (p0 &&& 0x3f).toInt64.toUInt64).toInt64))])) ?_ (fun t q => XS.lushr X0.here hx rfl (hb hby d2_10) rfl q)
    refine own_st (T' := s₁) (f' := (mkF m 12 #[.val (.int p0)] [(.long (1 : Int64)), (.long (((576284830442979328 : Int64).toUInt64 >>> (p0 &&& 0x3f).toInt64.toUInt64).toInt64))])) ?_ (fun t q => XS.lconst X0.here hx rfl (hb hby d2_11) q)
    refine own_st (T' := s₁) (f' := (mkF m 13 #[.val (.int p0)] [(.long ((((576284830442979328 : Int64).toUInt64 >>> (p0 &&& 0x3f).toInt64.toUInt64).toInt64) &&& (1 : Int64)))])) ?_ (fun t q => XS.land X0.here hx rfl (hb hby d2_12) rfl q)
    refine own_st (T' := s₁) (f' := (mkF m 14 #[.val (.int p0)] [(.long (0 : Int64)), (.long ((((576284830442979328 : Int64).toUInt64 >>> (p0 &&& 0x3f).toInt64.toUInt64).toInt64) &&& (1 : Int64)))])) ?_ (fun t q => XS.lconst X0.here hx rfl (hb hby d2_13) q)
    refine own_st (T' := s₁) (f' := (mkF m 15 #[.val (.int p0)] [(.int (lcmpW ((((576284830442979328 : Int64).toUInt64 >>> (p0 &&& 0x3f).toInt64.toUInt64).toInt64) &&& (1 : Int64)) (0 : Int64)))])) ?_ (fun t q => XS.lcmp X0.here hx rfl (hb hby d2_14) rfl q)
    refine own_ite (fun hc15 => ?_) (fun hc15 => ?_)
    · refine own_st (T' := s₁) (f' := (mkF m 22 #[.val (.int p0)] [])) ?_ (fun t q => XS.ifYes X0.here hx rfl (pc0 := 15) (pc' := 22) rfl (hb hby d2_15) rfl ((if0 _ _).trans (teq ((lw_eq _ _).mpr hc15)).1) (by decide) (by decide) q)
      refine own_st (T' := s₁) (f' := (mkF m 23 #[.val (.int p0)] [(.int (0 : Int32))])) ?_ (fun t q => XS.iconst X0.here hx rfl (hb hby d2_22) q)
      exact own_retN X0 hx hlk (t := .boolean) Bd.returns (by simp) (hb hby d2_23) (by decide) (by decide) ⟨rfl, N0, e0⟩
    · refine own_st (T' := s₁) (f' := (mkF m 18 #[.val (.int p0)] [])) ?_ (fun t q => XS.ifNo X0.here hx rfl (hb hby d2_15) rfl ((if0 _ _).trans (feq (fun z => hc15 ((lw_eq _ _).mp z))).1) q)
      refine own_st (T' := s₁) (f' := (mkF m 19 #[.val (.int p0)] [(.int (1 : Int32))])) ?_ (fun t q => XS.iconst X0.here hx rfl (hb hby d2_18) q)
      refine own_st (T' := s₁) (f' := (mkF m 23 #[.val (.int p0)] [(.int (1 : Int32))])) ?_ (fun t q => XS.goto X0.here hx rfl (pc0 := 19) (pc' := 23) rfl (hb hby d2_19) (by decide) (by decide) q)
      exact own_retN X0 hx hlk (t := .boolean) Bd.returns (by simp) (hb hby d2_23) (by decide) (by decide) ⟨rfl, N0, e0⟩
  · refine own_st (T' := s₁) (f' := (mkF m 24 #[.val (.int p0)] [])) ?_ (fun t q => XS.icmpYes X0.here hx rfl (pc0 := 3) (pc' := 24) rfl (hb hby d2_3) rfl (flt hc3).2.1 (by decide) (by decide) q)
    refine own_st (T' := s₁) (f' := (mkF m 25 #[.val (.int p0)] [(.int p0)])) ?_ (fun t q => XS.iloadN X0.here hx rfl (hb hby d2_24) rfl q)
    refine own_st (T' := s₁) (f' := (mkF m 28 #[.val (.int p0)] [(.int (128 : Int32)), (.int p0)])) ?_ (fun t q => XS.sipush X0.here hx rfl (hb hby d2_25) q)
    refine own_ite (fun hc28 => ?_) (fun hc28 => ?_)
    · refine own_st (T' := s₁) (f' := (mkF m 31 #[.val (.int p0)] [])) ?_ (fun t q => XS.icmpNo X0.here hx rfl (hb hby d2_28) rfl (tlt hc28).2.1 q)
      refine own_st (T' := s₁) (f' := (mkF m 34 #[.val (.int p0)] [(.long (576460745995190270 : Int64))])) ?_ (fun t q => X0.ldc2Long hx hown (mvT hZ (hw _ (List.mem_of_getElem? (i := 9) rfl))) (g := (mkF m 31 #[.val (.int p0)] [])) rfl (hb hby d2_31) _ q)
      refine own_st (T' := s₁) (f' := (mkF m 35 #[.val (.int p0)] [(.int p0), (.long (576460745995190270 : Int64))])) ?_ (fun t q => XS.iloadN X0.here hx rfl (hb hby d2_34) rfl q)
      refine own_st (T' := s₁) (f' := (mkF m 37 #[.val (.int p0)] [(.int (64 : Int32)), (.int p0), (.long (576460745995190270 : Int64))])) ?_ (fun t q => XS.bipush X0.here hx rfl (hb hby d2_35) q)
      refine own_st (T' := s₁) (f' := (mkF m 38 #[.val (.int p0)] [(.int (p0 - (64 : Int32))), (.long (576460745995190270 : Int64))])) ?_ (fun t q => XS.isub X0.here hx rfl (hb hby d2_37) rfl q)
      refine own_st (T' := s₁) (f' := (mkF m 39 #[.val (.int p0)] [(.long (((576460745995190270 : Int64).toUInt64 >>> ((p0 - (64 : Int32)) &&& 0x3f).toInt64.toUInt64).toInt64))])) ?_ (fun t q => XS.lushr X0.here hx rfl (hb hby d2_38) rfl q)
      refine own_st (T' := s₁) (f' := (mkF m 40 #[.val (.int p0)] [(.long (1 : Int64)), (.long (((576460745995190270 : Int64).toUInt64 >>> ((p0 - (64 : Int32)) &&& 0x3f).toInt64.toUInt64).toInt64))])) ?_ (fun t q => XS.lconst X0.here hx rfl (hb hby d2_39) q)
      refine own_st (T' := s₁) (f' := (mkF m 41 #[.val (.int p0)] [(.long ((((576460745995190270 : Int64).toUInt64 >>> ((p0 - (64 : Int32)) &&& 0x3f).toInt64.toUInt64).toInt64) &&& (1 : Int64)))])) ?_ (fun t q => XS.land X0.here hx rfl (hb hby d2_40) rfl q)
      refine own_st (T' := s₁) (f' := (mkF m 42 #[.val (.int p0)] [(.long (0 : Int64)), (.long ((((576460745995190270 : Int64).toUInt64 >>> ((p0 - (64 : Int32)) &&& 0x3f).toInt64.toUInt64).toInt64) &&& (1 : Int64)))])) ?_ (fun t q => XS.lconst X0.here hx rfl (hb hby d2_41) q)
      refine own_st (T' := s₁) (f' := (mkF m 43 #[.val (.int p0)] [(.int (lcmpW ((((576460745995190270 : Int64).toUInt64 >>> ((p0 - (64 : Int32)) &&& 0x3f).toInt64.toUInt64).toInt64) &&& (1 : Int64)) (0 : Int64)))])) ?_ (fun t q => XS.lcmp X0.here hx rfl (hb hby d2_42) rfl q)
      refine own_ite (fun hc43 => ?_) (fun hc43 => ?_)
      · refine own_st (T' := s₁) (f' := (mkF m 50 #[.val (.int p0)] [])) ?_ (fun t q => XS.ifYes X0.here hx rfl (pc0 := 43) (pc' := 50) rfl (hb hby d2_43) rfl ((if0 _ _).trans (teq ((lw_eq _ _).mpr hc43)).1) (by decide) (by decide) q)
        refine own_st (T' := s₁) (f' := (mkF m 51 #[.val (.int p0)] [(.int (0 : Int32))])) ?_ (fun t q => XS.iconst X0.here hx rfl (hb hby d2_50) q)
        exact own_retN X0 hx hlk (t := .boolean) Bd.returns (by simp) (hb hby d2_51) (by decide) (by decide) ⟨rfl, N0, e0⟩
      · refine own_st (T' := s₁) (f' := (mkF m 46 #[.val (.int p0)] [])) ?_ (fun t q => XS.ifNo X0.here hx rfl (hb hby d2_43) rfl ((if0 _ _).trans (feq (fun z => hc43 ((lw_eq _ _).mp z))).1) q)
        refine own_st (T' := s₁) (f' := (mkF m 47 #[.val (.int p0)] [(.int (1 : Int32))])) ?_ (fun t q => XS.iconst X0.here hx rfl (hb hby d2_46) q)
        refine own_st (T' := s₁) (f' := (mkF m 51 #[.val (.int p0)] [(.int (1 : Int32))])) ?_ (fun t q => XS.goto X0.here hx rfl (pc0 := 47) (pc' := 51) rfl (hb hby d2_47) (by decide) (by decide) q)
        exact own_retN X0 hx hlk (t := .boolean) Bd.returns (by simp) (hb hby d2_51) (by decide) (by decide) ⟨rfl, N0, e0⟩
    · refine own_st (T' := s₁) (f' := (mkF m 52 #[.val (.int p0)] [])) ?_ (fun t q => XS.icmpYes X0.here hx rfl (pc0 := 28) (pc' := 52) rfl (hb hby d2_28) rfl (flt hc28).2.1 (by decide) (by decide) q)
      refine own_st (T' := s₁) (f' := (mkF m 53 #[.val (.int p0)] [(.int (0 : Int32))])) ?_ (fun t q => XS.iconst X0.here hx rfl (hb hby d2_52) q)
      exact own_retN X0 hx hlk (t := .boolean) Bd.returns (by simp) (hb hby d2_53) (by decide) (by decide) ⟨rfl, N0, e0⟩
theorem pd_0 : parseMethodDescriptor "(C)Z" = some ⟨[.char], some .boolean⟩ := by decide +kernel
theorem pd_1 : parseMethodDescriptor "(I)Z" = some ⟨[.int], some .boolean⟩ := by decide +kernel
theorem pn_0 : plainFor x = true := by first | exact plainFor_of_name (by first | (simp [plainName, overriddenIn]; done) | decide +kernel) | decide +kernel
theorem ef_0 (m : MethodId) (x0 : Int32) (x1 : Int32) : entryFrame m #[(.int x0), (.int x1)] maxLocals = mkF m 0 #[.val (.int x0), .val (.int x1), .unset, .unset] [] := by first | (simp [entryFrame, mkF, argsToLocals, Value.category, maxLocals]; done) | rfl
def f0_18 (p0 : Int32) (p1 : Int32) (g2_18 : Int32) : Int32 := (if (f1 g2_18) = (f2 g2_18) then (1 : Int32) else (0 : Int32))
def f0 (p0 : Int32) (p1 : Int32) : Int32 := (if (p1 &&& (1 : Int32)) = (0 : Int32) then (f0_18 p0 p1 ((p0 &&& (127 : Int32)).toUInt32.toUInt16.toUInt32.toInt32)) else (f0_18 p0 p1 (p0.toUInt32.toUInt16.toUInt32.toInt32)))
set_option maxRecDepth 65536 in
set_option maxHeartbeats 40000000 in
theorem rm0 (l : Launch) (Z : State) (a0 : Array Value) (hw : ∀ d ∈ tables_1, d.before a0 Z = true) (ws : List Jvm.Cond) (p0 : Int32) (p1 : Int32) (h0 : Heap) (n0 : Nat) (Z0 : n0 ≤ h0.size) :
    MetFree l x (head1 (Jvm.Cond.code x code maxLocals ret :: ws) room_1) (fun a U => a = #[(.int p0), (.int p1)] ∧ Z.Warmed39 U.vm ∧ U.heap = h0) (fun _ _ _ _ _ => True) (fun _ U o U' => ∃ v L, o = .returned v ∧ own_GI n0 (fun h => h = h0) (f0 p0 p1) v U'.heap L ∧ FrameEnd U o U' L 0 0) := by
  refine MetFree.of_bodySF pn_0 hisR ?_
  intro p e s m args below meth c s₁ Bd hml0 hP hK
  obtain ⟨rfl, hZ, hh⟩ := hP
  have hx := Bd.exec
  have hby := Bd.bytes
  have hml : c.maxLocals = 4 := hml0
  have hown : s.vm.findClass "com/example/lease/lease/core/NamesIsAllowedPinLaw" = some m.cls := findClass_of_methodNamed Bd.named
  have hlk : meth.locks = false := BodyLoose.notSynchronized Bd
  have X0 : Stand p l e room_1 s m #[(.int p0), (.int p1)] below meth c s₁ [] 0 0 := Stand.of_body Bd
  have e0 : s₁.heap = h0 := by rw [← hh, Bd.state]; rfl
  have N0 := Fr.nil n0
  have B18 : ∀ (T : State) (locs : List Loc) (g2_18 : Int32) (X : Stand p l e room_1 s m #[(.int p0), (.int p1)] below meth c T locs 0 0) (N : Fr n0 locs) (eh : T.heap = h0), own_W p e below s 0 0 (own_GI n0 (fun h => h = h0) (f0_18 p0 p1 g2_18)) T (mkF m 18 #[.val (.int p0), .val (.int p1), .val (.int g2_18), .unset] []) := by
    intro T locs g2_18 X N eh
    unfold f0_18
    refine own_st (T' := T) (f' := (mkF m 19 #[.val (.int p0), .val (.int p1), .val (.int g2_18), .unset] [(.int g2_18)])) ?_ (fun t q => XS.iloadN X.here hx rfl (hb hby at_18) rfl q)
    refine own_st (T' := T) (f' := (mkF m 20 #[.val (.int p0), .val (.int p1), .val (.int g2_18), .val (.int g2_18)] [])) ?_ (fun t q => XS.istoreN X.here hx rfl (hb hby at_19) rfl (l' := #[.val (.int p0), .val (.int p1), .val (.int g2_18), .val (.int g2_18)]) rfl q)
    refine own_st (T' := T) (f' := (mkF m 21 #[.val (.int p0), .val (.int p1), .val (.int g2_18), .val (.int g2_18)] [(.int g2_18)])) ?_ (fun t q => XS.iloadN X.here hx rfl (hb hby at_20) rfl q)
    obtain ⟨_, _, ⟨T1, L1, k1, n1⟩, -, X1, ⟨Lc1, hQ1, l1, y1, z1⟩, st1⟩ := Jvm.LawKit.callS X hx (y := (⟨"com/example/lease/lease/core/Names", "isAllowed", "(C)Z"⟩ : MethodName)) hown (mvT hZ (hw _ (List.mem_of_getElem? (i := 0) rfl))) (mvT hZ (hw _ (List.mem_of_getElem? (i := 1) rfl))) (mvT hZ (hw _ (List.mem_of_getElem? (i := 2) rfl))) (mvT hZ (hw _ (List.mem_of_getElem? (i := 3) rfl))) (by decide) (backOf (W := 0) (rm1 l Z a0 hw [] g2_18 h0 n0) hZ (hw _ (List.mem_of_getElem? (i := 3) rfl)) (hw _ (List.mem_of_getElem? (i := 2) rfl)) (by decide) (by decide)) (g := (mkF m 21 #[.val (.int p0), .val (.int p1), .val (.int g2_18), .val (.int g2_18)] [(.int g2_18)])) rfl (by rw [hml]; rfl) (argsL := [(.int g2_18)]) (rest := []) (lenOf pd_0 rfl) rfl (by show 2 * 0 + _ ≤ _; exact Nat.le_of_eq rfl) (hb hby at_21) (fun _ _ => ⟨rfl, eh, (Nat.le_of_ble_eq_true rfl), (Nat.le_of_ble_eq_true rfl)⟩)
    dsimp only [Pt.U, Pt.locs, Pt.cells, Pt.slots] at X1 l1 y1 z1 st1 hQ1
    subst l1 y1 z1
    obtain ⟨rfl, N1q, e1⟩ := hQ1
    have N1 := Fr.app N N1q
    refine own_st (T' := T1) (f' := (mkF m 24 #[.val (.int p0), .val (.int p1), .val (.int g2_18), .val (.int g2_18)] [(.int (f1 g2_18))])) ?_ (fun t q => st1 _ q)
    refine own_st (T' := T1) (f' := (mkF m 25 #[.val (.int p0), .val (.int p1), .val (.int g2_18), .val (.int g2_18)] [(.int g2_18), (.int (f1 g2_18))])) ?_ (fun t q => XS.iloadN X1.here hx rfl (hb hby at_24) rfl q)
    obtain ⟨_, _, ⟨T2, L2, k2, n2⟩, -, X2, ⟨Lc2, hQ2, l2, y2, z2⟩, st2⟩ := Jvm.LawKit.callS X1 hx (y := (⟨"com/example/lease/lease/core/NamesIsAllowedPinLaw", "expected", "(I)Z"⟩ : MethodName)) hown (mvT hZ (hw _ (List.mem_of_getElem? (i := 4) rfl))) (mvT hZ (hw _ (List.mem_of_getElem? (i := 5) rfl))) (mvT hZ (hw _ (List.mem_of_getElem? (i := 6) rfl))) (mvT hZ (hw _ (List.mem_of_getElem? (i := 7) rfl))) (by decide) (backOf (W := 1) (rm2 l Z a0 hw [] g2_18 h0 n0) hZ (hw _ (List.mem_of_getElem? (i := 7) rfl)) (hw _ (List.mem_of_getElem? (i := 6) rfl)) (by decide) (by decide)) (g := (mkF m 25 #[.val (.int p0), .val (.int p1), .val (.int g2_18), .val (.int g2_18)] [(.int g2_18), (.int (f1 g2_18))])) rfl (by rw [hml]; rfl) (argsL := [(.int g2_18)]) (rest := [(.int (f1 g2_18))]) (lenOf pd_1 rfl) rfl (by show 2 * 0 + _ ≤ _; exact Nat.le_of_eq rfl) (hb hby at_25) (fun _ _ => ⟨rfl, e1, (Nat.le_of_ble_eq_true rfl), (Nat.le_of_ble_eq_true rfl)⟩)
    dsimp only [Pt.U, Pt.locs, Pt.cells, Pt.slots] at X2 l2 y2 z2 st2 hQ2
    subst l2 y2 z2
    obtain ⟨rfl, N2q, e2⟩ := hQ2
    have N2 := Fr.app N1 N2q
    refine own_st (T' := T2) (f' := (mkF m 28 #[.val (.int p0), .val (.int p1), .val (.int g2_18), .val (.int g2_18)] [(.int (f2 g2_18)), (.int (f1 g2_18))])) ?_ (fun t q => st2 _ q)
    refine own_ite (fun hc28 => ?_) (fun hc28 => ?_)
    · refine own_st (T' := T2) (f' := (mkF m 31 #[.val (.int p0), .val (.int p1), .val (.int g2_18), .val (.int g2_18)] [])) ?_ (fun t q => XS.icmpNo X2.here hx rfl (hb hby at_28) rfl (teq hc28).2 q)
      refine own_st (T' := T2) (f' := (mkF m 32 #[.val (.int p0), .val (.int p1), .val (.int g2_18), .val (.int g2_18)] [(.int (1 : Int32))])) ?_ (fun t q => XS.iconst X2.here hx rfl (hb hby at_31) q)
      refine own_st (T' := T2) (f' := (mkF m 36 #[.val (.int p0), .val (.int p1), .val (.int g2_18), .val (.int g2_18)] [(.int (1 : Int32))])) ?_ (fun t q => XS.goto X2.here hx rfl (pc0 := 32) (pc' := 36) rfl (hb hby at_32) (by decide) (by decide) q)
      exact own_retN X2 hx hlk (t := .boolean) Bd.returns (by simp) (hb hby at_36) (by decide) (by decide) ⟨rfl, N2, e2⟩
    · refine own_st (T' := T2) (f' := (mkF m 35 #[.val (.int p0), .val (.int p1), .val (.int g2_18), .val (.int g2_18)] [])) ?_ (fun t q => XS.icmpYes X2.here hx rfl (pc0 := 28) (pc' := 35) rfl (hb hby at_28) rfl (feq hc28).2 (by decide) (by decide) q)
      refine own_st (T' := T2) (f' := (mkF m 36 #[.val (.int p0), .val (.int p1), .val (.int g2_18), .val (.int g2_18)] [(.int (0 : Int32))])) ?_ (fun t q => XS.iconst X2.here hx rfl (hb hby at_35) q)
      exact own_retN X2 hx hlk (t := .boolean) Bd.returns (by simp) (hb hby at_36) (by decide) (by decide) ⟨rfl, N2, e2⟩
  show own_W p e below s 0 0 (own_GI n0 (fun h => h = h0) (f0 p0 p1)) s₁ (entryFrame m #[(.int p0), (.int p1)] maxLocals)
  refine own_to (ef_0 m p0 p1) ?_
  unfold f0
  refine own_st (T' := s₁) (f' := (mkF m 1 #[.val (.int p0), .val (.int p1), .unset, .unset] [(.int p1)])) ?_ (fun t q => XS.iloadN X0.here hx rfl (hb hby at_0) rfl q)
  refine own_st (T' := s₁) (f' := (mkF m 2 #[.val (.int p0), .val (.int p1), .unset, .unset] [(.int (1 : Int32)), (.int p1)])) ?_ (fun t q => XS.iconst X0.here hx rfl (hb hby at_1) q)
  refine own_st (T' := s₁) (f' := (mkF m 3 #[.val (.int p0), .val (.int p1), .unset, .unset] [(.int (p1 &&& (1 : Int32)))])) ?_ (fun t q => XS.iand X0.here hx rfl (hb hby at_2) rfl q)
  refine own_ite (fun hc3 => ?_) (fun hc3 => ?_)
  · refine own_st (T' := s₁) (f' := (mkF m 6 #[.val (.int p0), .val (.int p1), .unset, .unset] [])) ?_ (fun t q => XS.ifNo X0.here hx rfl (hb hby at_3) rfl ((if0 _ _).trans (teq hc3).2) q)
    refine own_st (T' := s₁) (f' := (mkF m 7 #[.val (.int p0), .val (.int p1), .unset, .unset] [(.int p0)])) ?_ (fun t q => XS.iloadN X0.here hx rfl (hb hby at_6) rfl q)
    refine own_st (T' := s₁) (f' := (mkF m 9 #[.val (.int p0), .val (.int p1), .unset, .unset] [(.int (127 : Int32)), (.int p0)])) ?_ (fun t q => XS.bipush X0.here hx rfl (hb hby at_7) q)
    refine own_st (T' := s₁) (f' := (mkF m 10 #[.val (.int p0), .val (.int p1), .unset, .unset] [(.int (p0 &&& (127 : Int32)))])) ?_ (fun t q => XS.iand X0.here hx rfl (hb hby at_9) rfl q)
    refine own_st (T' := s₁) (f' := (mkF m 11 #[.val (.int p0), .val (.int p1), .unset, .unset] [(.int ((p0 &&& (127 : Int32)).toUInt32.toUInt16.toUInt32.toInt32))])) ?_ (fun t q => XS.i2c X0.here hx rfl (hb hby at_10) rfl q)
    refine own_st (T' := s₁) (f' := (mkF m 12 #[.val (.int p0), .val (.int p1), .val (.int ((p0 &&& (127 : Int32)).toUInt32.toUInt16.toUInt32.toInt32)), .unset] [])) ?_ (fun t q => XS.istoreN X0.here hx rfl (hb hby at_11) rfl (l' := #[.val (.int p0), .val (.int p1), .val (.int ((p0 &&& (127 : Int32)).toUInt32.toUInt16.toUInt32.toInt32)), .unset]) rfl q)
    refine own_st (T' := s₁) (f' := (mkF m 18 #[.val (.int p0), .val (.int p1), .val (.int ((p0 &&& (127 : Int32)).toUInt32.toUInt16.toUInt32.toInt32)), .unset] [])) ?_ (fun t q => XS.goto X0.here hx rfl (pc0 := 12) (pc' := 18) rfl (hb hby at_12) (by decide) (by decide) q)
    exact B18 s₁ _ ((p0 &&& (127 : Int32)).toUInt32.toUInt16.toUInt32.toInt32) X0 N0 e0
  · refine own_st (T' := s₁) (f' := (mkF m 15 #[.val (.int p0), .val (.int p1), .unset, .unset] [])) ?_ (fun t q => XS.ifYes X0.here hx rfl (pc0 := 3) (pc' := 15) rfl (hb hby at_3) rfl ((if0 _ _).trans (feq hc3).2) (by decide) (by decide) q)
    refine own_st (T' := s₁) (f' := (mkF m 16 #[.val (.int p0), .val (.int p1), .unset, .unset] [(.int p0)])) ?_ (fun t q => XS.iloadN X0.here hx rfl (hb hby at_15) rfl q)
    refine own_st (T' := s₁) (f' := (mkF m 17 #[.val (.int p0), .val (.int p1), .unset, .unset] [(.int (p0.toUInt32.toUInt16.toUInt32.toInt32))])) ?_ (fun t q => XS.i2c X0.here hx rfl (hb hby at_16) rfl q)
    refine own_st (T' := s₁) (f' := (mkF m 18 #[.val (.int p0), .val (.int p1), .val (.int (p0.toUInt32.toUInt16.toUInt32.toInt32)), .unset] [])) ?_ (fun t q => XS.istoreN X0.here hx rfl (hb hby at_17) rfl (l' := #[.val (.int p0), .val (.int p1), .val (.int (p0.toUInt32.toUInt16.toUInt32.toInt32)), .unset]) rfl q)
    exact B18 s₁ _ (p0.toUInt32.toUInt16.toUInt32.toInt32) X0 N0 e0

theorem own_small : ∀ i : Fin 128, f1 (Int32.ofNat i.val) = f2 (Int32.ofNat i.val) := by decide +kernel
theorem own_f12 (g : Int32) (h1 : 0 ≤ g.toInt) : f1 g = f2 g := by
  by_cases h2 : g.toInt < 128
  · have q : g = Int32.ofNat g.toInt.toNat := by
      apply Int32.toInt_inj.mp
      rw [Int32.toInt_ofNat_of_lt (by omega)]
      omega
    rw [q]
    exact own_small ⟨g.toInt.toNat, by omega⟩
  · have e : ∀ k : Int32, (g = k) = (g.toInt = k.toInt) := fun k => propext Int32.toInt_inj.symm
    have e1 : ∀ k : Int32, (g < k) = (g.toInt < k.toInt) := fun k => propext Int32.lt_iff_toInt_lt
    have e2 : ∀ k : Int32, (k < g) = (k.toInt < g.toInt) := fun k => propext Int32.lt_iff_toInt_lt
    have a1 : f1 g = 0 := by
      simp only [f1, f1_12, f1_24, f1_36, e, e1, e2, Int32.reduceToInt]
      generalize g.toInt = z at *
      repeat' split
      all_goals first | rfl | omega
    have a2 : f2 g = 0 := by
      unfold f2
      rw [if_neg (by rw [e1]; show ¬ g.toInt < 64; omega), if_neg (by rw [e1]; show ¬ g.toInt < 128; omega)]
    rw [a1, a2]
theorem own_char (x : Int32) : 0 ≤ (x.toUInt32.toUInt16.toUInt32.toInt32).toInt := by
  have h := fits_nar_char x
  have e0 : (0 : Int32).toInt = 0 := rfl
  simp only [fits, Bool.and_eq_true, decide_eq_true_eq, Int32.le_iff_toInt_le, e0] at h
  exact h.1
theorem own_law (p0 p1 : Int32) : f0 p0 p1 = 1 := by
  simp only [f0, f0_18, own_f12 _ (own_char _), if_true, ite_self]
set_option maxRecDepth 65536 in
set_option maxHeartbeats 40000000 in
theorem comes_1 {Post : Tables → Env → Array Value → State → Outcome → State → Prop} (hpost : ∀ tb e args s v u, (limb_1_1.after args s (.returned v) u = true ∧ limb_1_2.after args s (.returned v) u = true ∧ True) → FrameEnd s (.returned v) u (Jvm.fieldLocs frame_1_writes args s ++ Jvm.arrayLocs frame_1_arrays args s ++ Jvm.staticLocs frame_1_statics s) 0 0 → Post tb e args s (.returned v) u) :
    ArmFor flags0 classFile x code maxLocals ret World_1 tables_1 room_1 Calls_1 rest_1 Pre_1 Post := by
  intro l hfl _ _ p e ha hc hk s m args below hf hA hF happ hP
  obtain ⟨hcalls, hrest, hpre⟩ := hP
  obtain ⟨-, -, -, hnamed, -, -, -, hat⟩ := (Spec.applies_iff hf).mp happ
  obtain ⟨hg, hn⟩ := and_e (Cond.before_iff.mp (show (Jvm.Cond.and given_1 narrow_1).before args s = true from hpre))
  obtain ⟨hcnt, g0⟩ := and_e hg
  obtain ⟨t0, g1⟩ := and_e g0
  have t1 := g1
  obtain ⟨w0, w1, rfl⟩ : ∃ w0 w1 : Value, args = #[w0, w1] := by
    have hs : args.size = 2 := by simpa [Cond.value, given_1] using hcnt
    obtain ⟨L⟩ := args
    match L, hs with
    | [w0, w1], _ => exact ⟨w0, w1, rfl⟩
  have hw := fun d (hd : d ∈ tables_1) => atoms_spec (ws := Jvm.Cond.code x code maxLocals ret :: tables_1) hat d (List.mem_cons_of_mem _ hd)
  obtain ⟨i0, ei0⟩ := is_v t0
  obtain rfl : w0 = (.int i0) := Option.some.inj ei0
  obtain ⟨i1, ei1⟩ := is_v t1
  obtain rfl : w1 = (.int i1) := Option.some.inj ei1
  obtain ⟨n, o, h1, h2, h3, v, L, rfl, ⟨hv, N, -⟩, hq⟩ := rm0 l s _ hw tables_1 i0 i1 s.heap s.heap.size (Nat.le_refl _) p e ha hc hk s m _ below hf ((Spec.applies_iff_loose hf).mp happ).1 ⟨rfl, State.Warmed39.refl s, rfl⟩ trivial
  obtain rfl : v = some (.int 1) := by rw [hv, own_law]
  refine ⟨n, _, h1, h2, h3, hpost _ _ _ _ _ _ ⟨Cond.after_iff.mpr rfl, Cond.after_iff.mpr (eq_i res_at (Term.int_eval (1)) rfl), trivial⟩ ⟨hq.1, hq.2.1, (hq.2.2.sift fun y hy => Or.inr (N y hy)).mono (by decide) (by decide)⟩⟩
theorem main_1_1 : Claimed_1_1 := comes_1 fun _ _ _ _ _ _ h hF => ⟨h.1, hF⟩
theorem main_1_2 : Claimed_1_2 := comes_1 fun _ _ _ _ _ _ h hF => ⟨h.2.1, hF⟩
end Jvm.Pilot.@@N@@
namespace Jvm.Pilot.@@N@@
open Jvm Jvm.ClassFile Sem Op Lib Jvm.Free Jvm.Stand Jvm.Pilot.@@N@@.Jvm.D
/-! MADE BY PROGRAM (witnessworld.py) out of the Statement's table words and the real class files: 9 classes; the members and pool entries that the words name. The judged class is class 1, her method 2. -/
namespace start1
open Jvm.ClassFile
def u (s : String) : CpInfo := .utf8 (stringToUtf16 s)
/-- a pool by its gaps: so many unusable entries, then the entry; so many at the end -/
def gap : Nat → List CpInfo → List CpInfo
  | 0, r => r
  | n + 1, r => .unusable :: gap n r
def poolList (es : List (Nat × CpInfo)) (last : Nat) : List CpInfo := es.foldr (fun e r => gap e.1 (e.2 :: r)) (gap last [])
def pool (es : List (Nat × CpInfo)) (last : Nat) : Array CpInfo := ⟨poolList es last⟩
def fileOf (pool : Array CpInfo) (this : Nat) (attrs : Array Attribute := #[]) (ms : Array MethodInfo := #[]) (fl : Nat := 33) (sup : Nat := 0) (ifs : Array Nat := #[]) (fds : Array FieldInfo := #[]) : ClassFile where
  minorVersion := 0
  majorVersion := 65
  constantPool := pool
  accessFlags := fl
  thisClass := this
  superClass := sup
  interfaces := ifs
  fields := fds
  methods := ms
  attributes := attrs
def plain (name : String) (sup : Option ClassId) : Class where
  name := name
  kind := .ordinary
  loader := none
  accessFlags := 33
  super := sup
  interfaces := #[]
  cf := none
  fields := #[]
  methods := #[]
  instanceTypes := #[]
  staticTypes := #[]
  resolved := #[]
  callSites := []
  init := .initialized
  statics := none
  mirror := none

def pool0 : Array CpInfo := pool [(5, u "<init>"), (0, u "()V"), (1, .class_ 10), (1, u "java/lang/Object")] 113

def k0m0 : Method := { name := "<init>", desc := "()V", sig := { parameters := [], returnType := none }, accessFlags := 1, code := none }
/-- java/lang/Object -/
def k0 : Class := { plain "java/lang/Object" none with
  accessFlags := 33
  interfaces := #[]
  cf := some (fileOf pool0 8 #[] #[{ accessFlags := 1, nameIndex := 5, descriptorIndex := 6, attributes := #[] }] 33 0 #[] #[])
  fields := #[]
  methods := #[k0m0]
  instanceTypes := #[]
  staticTypes := #[]
  resolved := Array.replicate 124 none
  statics := none }

def pool1 : Array CpInfo := pool [(2, .class_ 4), (1, u "java/lang/Object"), (0, u "<init>"), (0, u "()V"), (0, .class_ 8), (0, u "com/example/lease/lease/core/NamesIsAllowedPinLaw"), (0, .long 576284830442979328), (1, .long 576460745995190270), (1, .methodref 14 15), (0, .class_ 16), (0, .nameAndType 17 18), (0, u "com/example/lease/lease/core/Names"), (0, u "isAllowed"), (0, u "(C)Z"), (0, .methodref 7 20), (0, .nameAndType 21 22), (0, u "expected"), (0, u "(I)Z"), (0, u "LOW"), (0, u "J"), (1, u "HIGH"), (3, u "law"), (0, u "(II)Z")] 2

def k1m0 : Method := { name := "<init>", desc := "()V", sig := { parameters := [], returnType := none }, accessFlags := 2, code := none }
def k1c1 : Code := { maxStack := 4, maxLocals := 1, code := method_2_code, exceptionTable := #[], attributes := #[] }
def k1m1 : Method := { name := "expected", desc := "(I)Z", sig := { parameters := [.int], returnType := some .boolean }, accessFlags := 10, code := some k1c1 }
def k1c2 : Code := { maxStack := 2, maxLocals := 4, code := code, exceptionTable := #[], attributes := #[] }
def k1m2 : Method := { name := "law", desc := "(II)Z", sig := { parameters := [.int, .int], returnType := some .boolean }, accessFlags := 9, code := some k1c2 }
/-- com/example/lease/lease/core/NamesIsAllowedPinLaw -/
def k1 : Class := { plain "com/example/lease/lease/core/NamesIsAllowedPinLaw" (some 0) with
  accessFlags := 49
  interfaces := #[]
  cf := some (fileOf pool1 7 #[] #[{ accessFlags := 2, nameIndex := 5, descriptorIndex := 6, attributes := #[] }, { accessFlags := 10, nameIndex := 21, descriptorIndex := 22, attributes := #[] }, { accessFlags := 9, nameIndex := 30, descriptorIndex := 31, attributes := #[] }] 49 2 #[] #[{ accessFlags := 26, nameIndex := 23, descriptorIndex := 24, attributes := #[] }, { accessFlags := 26, nameIndex := 26, descriptorIndex := 24, attributes := #[] }])
  fields := #[{ name := "LOW", type := .long, accessFlags := 26, slot := 0, constantValue := 0 }, { name := "HIGH", type := .long, accessFlags := 26, slot := 1, constantValue := 0 }]
  methods := #[k1m0, k1m1, k1m2]
  instanceTypes := #[]
  staticTypes := #[.long, .long]
  resolved := Array.replicate 34 none
  statics := none }

def pool2 : Array CpInfo := pool [(2, .class_ 4), (1, u "java/lang/Object"), (0, u "<init>"), (0, u "()V"), (19, .class_ 27), (0, u "com/example/lease/lease/core/Names"), (9, u "isAllowed"), (0, u "(C)Z"), (16, u "MAX_LENGTH"), (0, u "I")] 26

def k2m0 : Method := { name := "<init>", desc := "()V", sig := { parameters := [], returnType := none }, accessFlags := 2, code := none }
def k2c1 : Code := { maxStack := 2, maxLocals := 1, code := prog_41_method_2_code, exceptionTable := #[], attributes := #[] }
def k2m1 : Method := { name := "isAllowed", desc := "(C)Z", sig := { parameters := [.char], returnType := some .boolean }, accessFlags := 9, code := some k2c1 }
/-- com/example/lease/lease/core/Names -/
def k2 : Class := { plain "com/example/lease/lease/core/Names" (some 0) with
  accessFlags := 49
  interfaces := #[]
  cf := some (fileOf pool2 26 #[] #[{ accessFlags := 2, nameIndex := 5, descriptorIndex := 6, attributes := #[] }, { accessFlags := 9, nameIndex := 37, descriptorIndex := 38, attributes := #[] }] 49 2 #[] #[{ accessFlags := 25, nameIndex := 55, descriptorIndex := 56, attributes := #[] }])
  fields := #[{ name := "MAX_LENGTH", type := .int, accessFlags := 25, slot := 0, constantValue := 0 }]
  methods := #[k2m0, k2m1]
  instanceTypes := #[]
  staticTypes := #[.int]
  resolved := Array.replicate 83 none
  statics := none }

def pool3 : Array CpInfo := pool [(1, u "java/lang/Cloneable"), (0, .class_ 1), (0, u "java/lang/Object"), (0, .class_ 3)] 3

/-- java/lang/Cloneable -/
def k3 : Class := { plain "java/lang/Cloneable" (some 0) with
  accessFlags := 1537
  interfaces := #[]
  cf := some (fileOf pool3 2 #[] #[] 1537 4 #[] #[])
  fields := #[]
  methods := #[]
  instanceTypes := #[]
  staticTypes := #[]
  resolved := Array.replicate 8 none
  statics := none }

def pool4 : Array CpInfo := pool [(1, u "java/io/Serializable"), (0, .class_ 1), (0, u "java/lang/Object"), (0, .class_ 3)] 3

/-- java/io/Serializable -/
def k4 : Class := { plain "java/io/Serializable" (some 0) with
  accessFlags := 1537
  interfaces := #[]
  cf := some (fileOf pool4 2 #[] #[] 1537 4 #[] #[])
  fields := #[]
  methods := #[]
  instanceTypes := #[]
  staticTypes := #[]
  resolved := Array.replicate 8 none
  statics := none }

/-- the primitive byte -/
def k5 : Class := { plain "byte" none with kind := .primitive 'B', accessFlags := 0x411 }
/-- [B -/
def k6 : Class := { plain "[B" (some 0) with kind := .array 5 .byte, interfaces := #[3, 4], accessFlags := 1041 }

/-- the primitive int -/
def k7 : Class := { plain "int" none with kind := .primitive 'I', accessFlags := 0x411 }
/-- [I -/
def k8 : Class := { plain "[I" (some 0) with kind := .array 7 .int, interfaces := #[3, 4], accessFlags := 1041 }

def heap : Heap := #[]
def classes : Array Class := #[k0, k1, k2, k3, k4, k5, k6, k7, k8]
def interned : List (Array UInt16 × Addr) := []
def slotsUsed : Nat := 0
def theMethod : MethodId := ⟨1, 2⟩
def args0 : Array Value := #[.int 5, .int 5]
def aboutOver (below : List Frame) : State where
  vm := { classes := classes, interned := interned.toArray }
  heap := heap
  slotsUsed := slotsUsed
  threads := #[{ frames := .invoking theMethod args0 :: below }]
def below0 : List Frame := [.native { method := ⟨0, 0⟩, args := #[] }]
def about1 : State := aboutOver below0
def p0 : Program := .bare "" "" ""
def e0 : Env := launch0.env 0 0 0
theorem w_frames : about1.frames = Frame.invoking theMethod args0 :: below0 := rfl
set_option maxRecDepth 65536 in
theorem w_args : argsFit about1.vm theMethod args0 = true := by decide +kernel
set_option maxRecDepth 65536 in
theorem w_heap : heapFits about1 = true := by decide +kernel
set_option maxRecDepth 65536 in
theorem w_runnable : about1.curStatus? = some .runnable := by decide +kernel
set_option maxRecDepth 65536 in
theorem w_alone : about1.alone = true := by decide +kernel
set_option maxRecDepth 65536 in
theorem w_named : about1.methodNamed? x = some theMethod := by decide +kernel
set_option maxRecDepth 65536 in
theorem w_hears : about1.hears theMethod below0 = true := by decide +kernel
set_option maxRecDepth 65536 in
theorem w_ripe : about1.ripe theMethod args0 below0 = true := by decide +kernel
theorem w_running : about1.status = .running := rfl
set_option maxRecDepth 65536 in
theorem w_room : about1.hasRoom e0.platform room_1 = true :=
  launch0.hasRoom_least _ room_1 (by decide +kernel) (by decide +kernel) (by decide +kernel) (by decide +kernel) (by decide +kernel) (by decide +kernel)
theorem allAtoms_all (ts : List Jvm.Cond) (a : Array Jvm.Value) (st : Jvm.State) : (allAtoms ts).before a st = ts.all (fun c => c.before a st) := by
  induction ts with
  | nil => rfl
  | cons c t ih =>
    show (Jvm.Cond.and c (allAtoms t)).before a st = _
    rw [Jvm.Cond.before_and, ih, List.all_cons]
def words1 : List Jvm.Cond := Jvm.Cond.code x code maxLocals ret :: tables_1
/-- a 'code' word, met by the world's own term for the bytes: nothing is compared byte by byte -/
theorem code_word {y : MethodName} {bytes : ByteArray} {mx : Nat} {rt : Option FieldType} {a : Array Value} {s : State} {m : MethodId} {meth : Method} {c : Code} (h1 : s.methodNamed? y = some m) (h2 : s.vm.method? m = some meth) (h3 : meth.code = some c) (h4 : c.code = bytes)
    (h5 : (c.maxLocals == mx && c.exceptionTable.isEmpty && decide (c.maxStack ≤ mostOperands) && decide (meth.sig.returnType = rt) && !meth.locks && decide (parseMethodDescriptor y.desc = some meth.sig)) = true) : (Jvm.Cond.code y bytes mx rt).before a s = true := by
  simp only [Bool.and_eq_true, beq_iff_eq, Bool.not_eq_true', decide_eq_true_eq] at h5
  obtain ⟨⟨⟨⟨⟨g1, g2⟩, g3⟩, g4⟩, g5⟩, g6⟩ := h5
  simp [Cond.before, Cond.holds, Cond.value, h1, h2, h3, h4, g1, g2, g3, g4, g5, g6]
def isCode : Jvm.Cond → Bool
  | .code _ _ _ _ => true
  | _ => false
theorem all_split {L : List Jvm.Cond} {P : Jvm.Cond → Bool} (h1 : L.all (fun c => isCode c || P c) = true) (h2 : ∀ c ∈ L.filter isCode, P c = true) : L.all P = true := by
  refine List.all_eq_true.mpr fun c hc => ?_
  have h := List.all_eq_true.mp h1 c hc
  rcases Bool.eq_false_or_eq_true (isCode c) with hi | hi
  · exact h2 c (List.mem_filter.mpr ⟨hc, hi⟩)
  · simpa [hi] using h
set_option maxRecDepth 65536 in
theorem w_c0 : (Jvm.Cond.code x code maxLocals ret).before args0 about1 = true := code_word (m := ⟨1, 2⟩) (meth := k1m2) (c := k1c2) (by decide +kernel) rfl rfl rfl (by decide +kernel)
set_option maxRecDepth 65536 in
theorem w_c1 : (Jvm.Cond.code ({ cls := "com/example/lease/lease/core/Names", name := "isAllowed", desc := "(C)Z" } : Jvm.MethodName) prog_41_method_2_code (1 : Nat) (Option.some Jvm.ClassFile.FieldType.boolean)).before args0 about1 = true := code_word (m := ⟨2, 1⟩) (meth := k2m1) (c := k2c1) (by decide +kernel) rfl rfl rfl (by decide +kernel)
set_option maxRecDepth 65536 in
theorem w_c2 : (Jvm.Cond.code ({ cls := "com/example/lease/lease/core/NamesIsAllowedPinLaw", name := "expected", desc := "(I)Z" } : Jvm.MethodName) method_2_code (1 : Nat) (Option.some Jvm.ClassFile.FieldType.boolean)).before args0 about1 = true := code_word (m := ⟨1, 1⟩) (meth := k1m1) (c := k1c1) (by decide +kernel) rfl rfl rfl (by decide +kernel)
def codes1 : List Jvm.Cond := [Jvm.Cond.code x code maxLocals ret, Jvm.Cond.code ({ cls := "com/example/lease/lease/core/Names", name := "isAllowed", desc := "(C)Z" } : Jvm.MethodName) prog_41_method_2_code (1 : Nat) (Option.some Jvm.ClassFile.FieldType.boolean), Jvm.Cond.code ({ cls := "com/example/lease/lease/core/NamesIsAllowedPinLaw", name := "expected", desc := "(I)Z" } : Jvm.MethodName) method_2_code (1 : Nat) (Option.some Jvm.ClassFile.FieldType.boolean)]
set_option maxRecDepth 65536 in
theorem codes_eq : words1.filter isCode = codes1 := rfl
theorem w_codes : ∀ c ∈ words1.filter isCode, c.before args0 about1 = true := by
  rw [codes_eq]
  intro c hc
  simp only [codes1, List.mem_cons, List.not_mem_nil, or_false] at hc
  rcases hc with rfl | rfl | rfl
  · exact w_c0
  · exact w_c1
  · exact w_c2
set_option maxRecDepth 65536 in
theorem w_t1 : words1.all (fun c => isCode c || c.before args0 about1) = true := by decide +kernel
theorem w_tables : (allAtoms (Jvm.Cond.code x code maxLocals ret :: tables_1)).before args0 about1 = true := by
  rw [allAtoms_all]
  show words1.all (fun c => c.before args0 about1) = true
  refine all_split ?_ w_codes
  rw [w_t1]
set_option maxRecDepth 65536 in
theorem w_case : (Jvm.Cond.and given_1 narrow_1).before args0 about1 = true := by decide +kernel
theorem w_applies : (headSpec (Jvm.Cond.code x code maxLocals ret :: tables_1) room_1).applies x e0.platform about1 = true :=
  (Spec.applies_iff w_frames).mpr ⟨w_running, w_runnable, w_alone, w_named, w_hears, w_ripe, w_room, w_tables⟩
theorem atStart : AtStart classFile x code maxLocals ret World_1 tables_1 room_1 Calls_1 rest_1 Pre_1 launch0 p0 e0 about1 theMethod args0 below0 :=
  ⟨lists_1, trivial, launch0.admits_env _ _ _, launch0.least_env, fairChoices_fair.cas, fairChoices_fair.clock, w_frames, w_args, w_heap, w_applies, trivial, trivial, w_case⟩
end start1
theorem witness_1 : WitnessClaimed_1 := ⟨start1.p0, start1.e0, start1.about1, start1.theMethod, start1.args0, start1.below0, start1.atStart⟩
end Jvm.Pilot.@@N@@
