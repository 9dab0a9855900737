import JvmDerived
import JvmDerived.Pilot.@@N@@Statement
import JvmDerived.Pilot.@@N@@Code
set_option linter.unusedVariables false
set_option linter.unusedSimpArgs false
@@BLOCK:NumsL.lean.txt@@
namespace Jvm.Pilot.@@N@@
open Jvm Jvm.ClassFile Sem Op Lib Jvm.Free Jvm.Stand Jvm.LawKit Jvm.RoadKit Bundle Jvm.Pilot.@@N@@.Jvm.D
section OwnKit
variable {p : Program} {l : Launch} {e : Env} {R : Room} {s : State} {m : MethodId} {args : Array Value} {below : List Frame} {meth : Method} {c : Code} {T T' : State} {locs : List Loc} {cells slots : Nat}
/-- from here the body comes to its end and leaves what Q says -/
def own_W (p : Program) (e : Env) (below : List Frame) (s : State) (k n : Nat) (Q : Option Value → Heap → List Loc → Prop) (T : State) (f : JFrame) : Prop :=
  ∃ s₂ o, Steps p.tables e below (T.setTop f) s₂ ∧ s₂.status = .running ∧ Ended s₂ below o ∧ ∃ v L, o = .returned v ∧ Q v s₂.heap L ∧ FrameEnd s o s₂ L k n
theorem own_st {k n : Nat} {Q : Option Value → Heap → List Loc → Prop} {f f' : JFrame} (w : own_W p e below s k n Q T' f') (h : ∀ t, Steps p.tables e below (T'.setTop f') t → Steps p.tables e below (T.setTop f) t) : own_W p e below s k n Q T f := by
  obtain ⟨s₂, o, h1, r⟩ := w
  exact ⟨s₂, o, h _ h1, r⟩
theorem own_to {k n : Nat} {Q : Option Value → Heap → List Loc → Prop} {f f' : JFrame} (q : f = f') (w : own_W p e below s k n Q T f') : own_W p e below s k n Q T f := q ▸ w
theorem own_ite {k n : Nat} {α : Type} {G : α → Option Value → Heap → List Loc → Prop} {f : JFrame} {A : Prop} [Decidable A] {x y : α} (h1 : A → own_W p e below s k n (G x) T f) (h2 : ¬ A → own_W p e below s k n (G y) T f) : own_W p e below s k n (G (if A then x else y)) T f := by
  by_cases q : A
  · rw [if_pos q]; exact h1 q
  · rw [if_neg q]; exact h2 q
/-- an int is returned, nothing old is written, the heap is as P says -/
def own_GI (n0 : Nat) (P : Heap → Prop) (r : Int32) (v : Option Value) (h : Heap) (L : List Loc) : Prop := v = some (.int r) ∧ Fr n0 L ∧ P h
def own_GJ (n0 : Nat) (P : Heap → Prop) (r : Int64) (v : Option Value) (h : Heap) (L : List Loc) : Prop := v = some (.long r) ∧ Fr n0 L ∧ P h
theorem own_retI {k n : Nat} {Q : Option Value → Heap → List Loc → Prop} (X : Stand p l e R s m args below meth c T locs cells slots) (hx : p.tables.exec = Jvm.exec) (hlk : meth.locks = false) (hret : meth.sig.returnType = some .int) {pc : Nat} {Ls : Array Slot} {z : Int32} {rest : List Value} (hd : decode c.code pc = .ok (.ireturn, 1)) (hk : cells ≤ k) (hn : slots ≤ n) (q : Q (some (.int z)) T.heap locs) : own_W p e below s k n Q T (mkF m pc Ls (.int z :: rest)) := by
  obtain ⟨fs, hr, hrun, hended, hW, hsame⟩ := X.leave (v := some (.int z)) (fun h => by rw [hret] at h; cases h) hlk
  exact ⟨_, _, retOut X hx hret rfl (Or.inl ⟨rfl, Or.inl rfl, z, rfl⟩) hd hr, hrun, hended, _, _, rfl, q, ⟨_, rfl⟩, hW, hsame.mono hk hn⟩
theorem own_retN {k n : Nat} {Q : Option Value → Heap → List Loc → Prop} (X : Stand p l e R s m args below meth c T locs cells slots) (hx : p.tables.exec = Jvm.exec) (hlk : meth.locks = false) {t : FieldType} (hret : meth.sig.returnType = some t) (ht : t = .boolean ∨ t = .byte ∨ t = .char ∨ t = .short) {pc : Nat} {Ls : Array Slot} {z : Int32} {rest : List Value} (hd : decode c.code pc = .ok (.ireturn, 1)) (hk : cells ≤ k) (hn : slots ≤ n) (q : Q (some (.int (nar t z))) T.heap locs) : own_W p e below s k n Q T (mkF m pc Ls (.int z :: rest)) := by
  obtain ⟨fs, hr, hrun, hended, hW, hsame⟩ := X.leave (v := some (.int (nar t z))) (fun h => by rw [hret] at h; cases h) hlk
  exact ⟨_, _, retN X hx hret ht hd hr, hrun, hended, _, _, rfl, q, ⟨_, rfl⟩, hW, hsame.mono hk hn⟩
theorem own_retJ {k n : Nat} {Q : Option Value → Heap → List Loc → Prop} (X : Stand p l e R s m args below meth c T locs cells slots) (hx : p.tables.exec = Jvm.exec) (hlk : meth.locks = false) (hret : meth.sig.returnType = some .long) {pc : Nat} {Ls : Array Slot} {z : Int64} {rest : List Value} (hd : decode c.code pc = .ok (.lreturn, 1)) (hk : cells ≤ k) (hn : slots ≤ n) (q : Q (some (.long z)) T.heap locs) : own_W p e below s k n Q T (mkF m pc Ls (.long z :: rest)) := by
  obtain ⟨fs, hr, hrun, hended, hW, hsame⟩ := X.leave (v := some (.long z)) (fun h => by rw [hret] at h; cases h) hlk
  exact ⟨_, _, retOut X hx hret rfl (Or.inr (Or.inl ⟨rfl, rfl, z, rfl⟩)) hd hr, hrun, hended, _, _, rfl, q, ⟨_, rfl⟩, hW, hsame.mono hk hn⟩
theorem own_retA {k n : Nat} {Q : Option Value → Heap → List Loc → Prop} (X : Stand p l e R s m args below meth c T locs cells slots) (hx : p.tables.exec = Jvm.exec) (hlk : meth.locks = false) {t : FieldType} (hret : meth.sig.returnType = some t) (ht : t.isReference = true) {pc : Nat} {Ls : Array Slot} {z : Addr} {rest : List Value} (hn' : narrow t (.ref z) = .ref z) (hd : decode c.code pc = .ok (.areturn, 1)) (hk : cells ≤ k) (hn : slots ≤ n) (q : Q (some (.ref z)) T.heap locs) : own_W p e below s k n Q T (mkF m pc Ls (.ref z :: rest)) := by
  obtain ⟨fs, hr, hrun, hended, hW, hsame⟩ := X.leave (v := some (.ref z)) (fun h => by rw [hret] at h; cases h) hlk
  exact ⟨_, _, retOut X hx hret hn' (Or.inr (Or.inr (Or.inr (Or.inr ⟨rfl, ht, rfl⟩)))) hd hr, hrun, hended, _, _, rfl, q, ⟨_, rfl⟩, hW, hsame.mono hk hn⟩
theorem own_retV {k n : Nat} {Q : Option Value → Heap → List Loc → Prop} (X : Stand p l e R s m args below meth c T locs cells slots) (hx : p.tables.exec = Jvm.exec) (hlk : meth.locks = false) (hret : meth.sig.returnType = none) {pc : Nat} {Ls : Array Slot} (hd : decode c.code pc = .ok (.return_, 1)) (hk : cells ≤ k) (hn : slots ≤ n) (q : Q none T.heap locs) : own_W p e below s k n Q T (mkF m pc Ls []) := by
  obtain ⟨fs, hr, hrun, hended, hW, hsame⟩ := X.leave (v := none) (fun _ => rfl) hlk
  exact ⟨_, _, X.returnOut hx hret hd hr, hrun, hended, _, _, rfl, q, ⟨_, rfl⟩, hW, hsame.mono hk hn⟩
end OwnKit
section OwnNums
theorem own_rem {x y : Int32} (hx : 0 ≤ x.toInt) (hy : 0 < y.toInt) : (x - (x / y) * y).toInt = x.toInt % y.toInt := by
  have hd : (x / y).toInt = x.toInt.tdiv y.toInt := Jvm.Kit.i32_div (by omega)
  rw [Int.tdiv_eq_ediv_of_nonneg hx] at hd
  have hxl := Int32.toInt_lt x
  have h1 : y.toInt * (x.toInt / y.toInt) + x.toInt % y.toInt = x.toInt := Int.mul_ediv_add_emod x.toInt y.toInt
  have h2 := Int.emod_nonneg x.toInt (by omega : y.toInt ≠ 0)
  have h3 := Int.emod_lt_of_pos x.toInt hy
  have h4 : (x / y).toInt * y.toInt = x.toInt - x.toInt % y.toInt := by rw [hd, Int.mul_comm]; omega
  have h6 := Int.mul_nonneg (Int.le_of_lt hy) (Int.ediv_nonneg hx (Int.le_of_lt hy))
  have h5 : x.toInt % y.toInt ≤ x.toInt := by omega
  have hm : ((x / y) * y).toInt = x.toInt - x.toInt % y.toInt := by
    rw [Jvm.Kit.i32_mul (by omega) (by omega), h4]
  rw [Jvm.Kit.i32_sub (by omega) (by omega), hm]; omega
theorem own_and31 (x : Int32) : (x &&& (2147483647 : Int32)).toInt = x.toInt % 2147483648 := Jvm.Kit.i32_mask x 2147483647 (k := 31) (by decide) (by decide)
theorem own_i8 (x : Int32) : -128 ≤ (x.toInt8.toInt32).toInt ∧ (x.toInt8.toInt32).toInt < 128 := by
  rw [Int8.toInt_toInt32]
  have h1 := Int8.le_toInt x.toInt8
  have h2 := Int8.toInt_lt x.toInt8
  omega
end OwnNums
section OwnArr
variable {p : Program} {l : Launch} {e : Env} {R : Room} {s : State} {m : MethodId} {args : Array Value} {below : List Frame} {meth : Method} {c : Code} {T T' : State} {locs : List Loc} {cells slots : Nat} {Z : State} {h h' : Heap} {a b : Addr} {n : Nat} {f : Nat → Int32} {ty : FieldType}
/-- an array of n places whose i-th holds f i -/
def own_A (Z : State) (h : Heap) (a : Addr) (ty : FieldType) (n : Nat) (f : Nat → Int32) : Prop := ∃ c : Cell, Arr Z h a c ty ∧ c.slots.size = n ∧ ∀ i, i < n → c.slots[i]? = some (.int (f i))
def own_up (f : Nat → Int32) (j : Nat) (x : Int32) : Nat → Int32 := fun i => if i = j then x else f i
def own_in (j : Int32) (n : Nat) : Prop := ¬ j < 0 ∧ j.toNatClampNeg < n
theorem own_A.lt (A : own_A Z h a ty n f) : a < h.size := by obtain ⟨c, A, -⟩ := A; exact A.lt
theorem own_A.ext (A : own_A Z h a ty n f) (E : Ext h h') : own_A Z h' a ty n f := by obtain ⟨c, A, r⟩ := A; exact ⟨c, A.ext E, r⟩
theorem own_A.keep {ws : List Addr} (A : own_A Z h a ty n f) (K : Keep h h' ws) (q : a ∉ ws) : own_A Z h' a ty n f := by obtain ⟨c, A, r⟩ := A; exact ⟨c, ⟨K.2.1 a c A.1 q, A.2⟩, r⟩
theorem own_A.eq (A : own_A Z h a ty n f) (q : h' = h) : own_A Z h' a ty n f := q ▸ A
theorem own_A.set {j : Nat} {x : Int32} (A : own_A Z h a ty n f) (W : Wr h h' a j (.int x)) : own_A Z h' a ty n (own_up f j x) := by
  obtain ⟨cl, Ar, S, H⟩ := A
  refine ⟨_, Ar.same W, by rw [sz_set]; exact S, fun i hi => ?_⟩
  show (cl.slots.setIfInBounds j (.int x))[i]? = _
  unfold own_up
  by_cases q : i = j
  · subst q
    rw [if_pos rfl, Array.getElem?_setIfInBounds_self_of_lt (by omega)]
  · rw [if_neg q, Array.getElem?_setIfInBounds_ne (fun z => q z.symm)]; exact H i hi
theorem own_bald {k n' : Nat} {Q : Option Value → Heap → List Loc → Prop} (X : Stand p l e R s m args below meth c T locs cells slots) (hx : p.tables.exec = Jvm.exec) (hZ : Z.Warmed39 s.vm) (A : own_A Z T.heap a .byte n f) {j : Int32} (hj : own_in j n) {pc : Nat} {Ls : Array Slot} {rest : List Value} (hd : decode c.code pc = .ok (.baload, 1)) (w : own_W p e below s k n' Q T (mkF m (pc + 1) Ls (.int (f j.toNatClampNeg) :: rest))) : own_W p e below s k n' Q T (mkF m pc Ls (.int j :: .ref a :: rest)) := by
  obtain ⟨cl, Ar, S, H⟩ := A
  refine own_st w (fun t q => X.baloadBytes hx (j := j) (v := .int (f j.toNatClampNeg)) Ar.1 (State.isArrayOf_alike hZ.alike Ar.2.1) Ar.2.2 (fun u => u.elim hj.1 (fun u => absurd hj.2 (by omega))) (H _ hj.2) (g := mkF m pc Ls (.int j :: .ref a :: rest)) rfl rfl hd _ q)
theorem own_iald {k n' : Nat} {Q : Option Value → Heap → List Loc → Prop} (X : Stand p l e R s m args below meth c T locs cells slots) (hx : p.tables.exec = Jvm.exec) (hZ : Z.Warmed39 s.vm) (A : own_A Z T.heap a .int n f) {j : Int32} (hj : own_in j n) {pc : Nat} {Ls : Array Slot} {rest : List Value} (hd : decode c.code pc = .ok (.iaload, 1)) (w : own_W p e below s k n' Q T (mkF m (pc + 1) Ls (.int (f j.toNatClampNeg) :: rest))) : own_W p e below s k n' Q T (mkF m pc Ls (.int j :: .ref a :: rest)) := by
  obtain ⟨cl, Ar, S, H⟩ := A
  refine own_st w (fun t q => X.iaload hx (j := j) (v := .int (f j.toNatClampNeg)) Ar.1 (State.isArrayOf_alike hZ.alike Ar.2.1) Ar.2.2 (fun u => u.elim hj.1 (fun u => absurd hj.2 (by omega))) (H _ hj.2) (g := mkF m pc Ls (.int j :: .ref a :: rest)) rfl rfl hd _ q)
theorem own_alen {k n' : Nat} {Q : Option Value → Heap → List Loc → Prop} (X : Stand p l e R s m args below meth c T locs cells slots) (hx : p.tables.exec = Jvm.exec) (hZ : Z.Warmed39 s.vm) (A : own_A Z T.heap a ty n f) {pc : Nat} {Ls : Array Slot} {rest : List Value} (hd : decode c.code pc = .ok (.arraylength, 1)) (w : own_W p e below s k n' Q T (mkF m (pc + 1) Ls (.int (Int32.ofNat n) :: rest))) : own_W p e below s k n' Q T (mkF m pc Ls (.ref a :: rest)) := by
  obtain ⟨cl, Ar, S, H⟩ := A
  subst S
  exact own_st w (fun t q => X.arraylength hx (cell := cl) Ar.1 (State.isArrayOf_alike hZ.alike Ar.2.1) (g := mkF m pc Ls (.ref a :: rest)) rfl (rest := rest) rfl hd _ q)
theorem own_bast {k n' : Nat} {Q : Option Value → Heap → List Loc → Prop} (X : Stand p l e R s m args below meth c T locs cells slots) (hx : p.tables.exec = Jvm.exec) (hZ : Z.Warmed39 s.vm) (A : own_A Z T.heap a .byte n f) {j x : Int32} (hj : own_in j n) {pc : Nat} {Ls : Array Slot} {rest : List Value} (hd : decode c.code pc = .ok (.bastore, 1)) {n0 : Nat} (N : Fr n0 locs) (g : n0 ≤ a)
    (w : ∀ (T' : State) (locs' : List Loc), Stand p l e R s m args below meth c T' locs' cells slots → Fr n0 locs' → Keep T.heap T'.heap [a] → own_A Z T'.heap a .byte n (own_up f j.toNatClampNeg (nar .byte x)) → own_W p e below s k n' Q T' (mkF m (pc + 1) Ls rest)) : own_W p e below s k n' Q T (mkF m pc Ls (.int x :: .int j :: .ref a :: rest)) := by
  obtain ⟨cl, Ar, S, H⟩ := A
  obtain ⟨T', h', X', e', W', st⟩ := stB X hx hZ rfl Ar (j := j) (x := x) (fun u => u.elim hj.1 (fun u => absurd hj.2 (by omega))) (g := mkF m pc Ls (.int x :: .int j :: .ref a :: rest)) rfl rfl hd
  subst e'
  exact own_st (w T' _ X' (Fr.snoc X' N g) (Keep.of_wr W') (own_A.set ⟨cl, Ar, S, H⟩ W')) (fun t q => st _ q)
theorem own_iast {k n' : Nat} {Q : Option Value → Heap → List Loc → Prop} (X : Stand p l e R s m args below meth c T locs cells slots) (hx : p.tables.exec = Jvm.exec) (hZ : Z.Warmed39 s.vm) (A : own_A Z T.heap a .int n f) {j x : Int32} (hj : own_in j n) {pc : Nat} {Ls : Array Slot} {rest : List Value} (hd : decode c.code pc = .ok (.iastore, 1)) {n0 : Nat} (N : Fr n0 locs) (g : n0 ≤ a)
    (w : ∀ (T' : State) (locs' : List Loc), Stand p l e R s m args below meth c T' locs' cells slots → Fr n0 locs' → Keep T.heap T'.heap [a] → own_A Z T'.heap a .int n (own_up f j.toNatClampNeg x) → own_W p e below s k n' Q T' (mkF m (pc + 1) Ls rest)) : own_W p e below s k n' Q T (mkF m pc Ls (.int x :: .int j :: .ref a :: rest)) := by
  obtain ⟨cl, Ar, S, H⟩ := A
  obtain ⟨T', h', X', e', W', st⟩ := stI X hx hZ rfl Ar (j := j) (x := x) (fun u => u.elim hj.1 (fun u => absurd hj.2 (by omega))) (g := mkF m pc Ls (.int x :: .int j :: .ref a :: rest)) rfl rfl hd
  subst e'
  exact own_st (w T' _ X' (Fr.snoc X' N g) (Keep.of_wr W') (own_A.set ⟨cl, Ar, S, H⟩ W')) (fun t q => st _ q)
theorem own_newB {k n' : Nat} {Q : Option Value → Heap → List Loc → Prop} {a0 : Array Value} (X : Stand p l e R s m args below meth c T locs cells slots) (hx : p.tables.exec = Jvm.exec) (hZ : Z.Warmed39 s.vm) (wd : (Jvm.Cond.arrayClass .byte).before a0 Z = true) {z : Int32} (hz : ¬ z < 0) {cap : Nat} (hcap : z.toNatClampNeg ≤ cap) (hb8 : cap * 8 ≤ 536870912) (hc : cells + 1 ≤ R.cells) (hl : slots + cap ≤ R.slots) {pc : Nat} {Ls : Array Slot} {rest : List Value} (hd : decode c.code pc = .ok (.newarray .byte, 2))
    (w : ∀ (T' : State) (b : Addr), Stand p l e R s m args below meth c T' locs (cells + 1) (slots + cap) → T.heap.size ≤ b → Ext T.heap T'.heap → own_A Z T'.heap b .byte z.toNatClampNeg (fun _ => 0) → own_W p e below s k n' Q T' (mkF m (pc + 2) Ls (.ref b :: rest))) : own_W p e below s k n' Q T (mkF m pc Ls (.int z :: rest)) := by
  obtain ⟨T', h', cA, X', e', E', A', st⟩ := newP X hx hZ (aty := .byte) wd rfl (g := mkF m pc Ls (.int z :: rest)) rfl hd rfl hz hcap hb8 hc hl
  subst e'
  refine own_st (w T' _ X' (Nat.le_refl _) E' ⟨_, A', sz_new _ _ _, fun i hi => ?_⟩) (fun t q => st _ q)
  show (Array.replicate z.toNatClampNeg (defaultValue .byte))[i]? = _
  simp [hi]; rfl
theorem own_newI {k n' : Nat} {Q : Option Value → Heap → List Loc → Prop} {a0 : Array Value} (X : Stand p l e R s m args below meth c T locs cells slots) (hx : p.tables.exec = Jvm.exec) (hZ : Z.Warmed39 s.vm) (wd : (Jvm.Cond.arrayClass .int).before a0 Z = true) {z : Int32} (hz : ¬ z < 0) {cap : Nat} (hcap : z.toNatClampNeg ≤ cap) (hb8 : cap * 8 ≤ 536870912) (hc : cells + 1 ≤ R.cells) (hl : slots + cap ≤ R.slots) {pc : Nat} {Ls : Array Slot} {rest : List Value} (hd : decode c.code pc = .ok (.newarray .int, 2))
    (w : ∀ (T' : State) (b : Addr), Stand p l e R s m args below meth c T' locs (cells + 1) (slots + cap) → T.heap.size ≤ b → Ext T.heap T'.heap → own_A Z T'.heap b .int z.toNatClampNeg (fun _ => 0) → own_W p e below s k n' Q T' (mkF m (pc + 2) Ls (.ref b :: rest))) : own_W p e below s k n' Q T (mkF m pc Ls (.int z :: rest)) := by
  obtain ⟨T', h', cA, X', e', E', A', st⟩ := newP X hx hZ (aty := .int) wd rfl (g := mkF m pc Ls (.int z :: rest)) rfl hd rfl hz hcap hb8 hc hl
  subst e'
  refine own_st (w T' _ X' (Nat.le_refl _) E' ⟨_, A', sz_new _ _ _, fun i hi => ?_⟩) (fun t q => st _ q)
  show (Array.replicate z.toNatClampNeg (defaultValue .int))[i]? = _
  simp [hi]; rfl
end OwnArr
section OwnIdx
theorem own_idx {j e : Int32} {n : Nat} (h0 : ¬ j < 0) (h : j < e) (he : e.toNatClampNeg ≤ n) : own_in j n := by
  refine ⟨h0, ?_⟩
  simp only [Int32.lt_iff_toInt_lt, Int32.toNatClampNeg, Int32.reduceToInt] at *
  omega
theorem own_inc {i e : Int32} (h : i < e) : (i + 1).toInt = i.toInt + 1 := by
  have h1 := Int32.toInt_lt e
  have h2 := Int32.le_toInt i
  have k : (1 : Int32).toInt = 1 := rfl
  rw [Int32.lt_iff_toInt_lt] at h
  rw [Jvm.Kit.i32_add (by omega) (by omega), k]
theorem own_back {i e : Int32} {k : Nat} (h : i < e) (hk : (e.toInt - i.toInt).toNat < k + 1) : (e.toInt - (i + 1).toInt).toNat < k := by
  rw [own_inc h]
  rw [Int32.lt_iff_toInt_lt] at h
  omega
theorem own_nn {i e : Int32} (h : i < e) (h0 : ¬ i < 0) : ¬ (i + 1) < 0 := by
  have k : (0 : Int32).toInt = 0 := rfl
  rw [Int32.lt_iff_toInt_lt, k] at h0 ⊢
  rw [own_inc h]
  omega
end OwnIdx
section OwnIdx2
theorem own_ge {z k : Int32} {j : Nat} (h : ¬ z < k) (hk : k.toInt = j + 1) : j < z.toNatClampNeg := by
  rw [Int32.lt_iff_toInt_lt] at h
  rw [Int32.toNatClampNeg]; omega
theorem own_ofN {n : Nat} (h : n < 2147483648) : (Int32.ofNat n).toInt = n := Int32.toInt_ofNat_of_lt (by omega)
theorem own_ofC {n : Nat} (h : n < 2147483648) : (Int32.ofNat n).toNatClampNeg = n := by rw [Int32.toNatClampNeg, own_ofN h]; omega
theorem own_cof {z : Int32} (h : 0 ≤ z.toInt) : Int32.ofNat z.toNatClampNeg = z := by
  have h2 := Int32.toInt_lt z
  apply Int32.toInt_inj.mp
  rw [Int32.toNatClampNeg, own_ofN (by omega)]; omega
abbrev own_r (p d : Int32) : Int32 := (p &&& (2147483647 : Int32)) - ((p &&& (2147483647 : Int32)) / d) * d
theorem own_rb (p d : Int32) (hd : 0 < d.toInt) : 0 ≤ (own_r p d).toInt ∧ (own_r p d).toInt < d.toInt := by
  have h : (own_r p d).toInt = (p.toInt % 2147483648) % d.toInt := by
    rw [own_rem (by rw [own_and31]; omega) hd, own_and31]
  rw [h]
  exact ⟨Int.emod_nonneg _ (by omega), Int.emod_lt_of_pos _ hd⟩
end OwnIdx2
section OwnSplit
/-- the separators from place i on, below e -/
def own_cnt (F : Nat → Int32) (b e : Int32) : Nat → Int32 → Int
  | 0, _ => 0
  | k + 1, i => if i < e then (if F i.toNatClampNeg = b then 1 + own_cnt F b e k (i + 1) else own_cnt F b e k (i + 1)) else 0
theorem own_cnt_nn (F : Nat → Int32) (b e : Int32) : ∀ (k : Nat) (i : Int32), 0 ≤ own_cnt F b e k i := by
  intro k
  induction k with
  | zero => intro i; exact Int.le_refl 0
  | succ k ih =>
    intro i
    have := ih (i + 1)
    rw [own_cnt]
    split
    · split <;> omega
    · exact Int.le_refl 0
theorem own_cnt_le (F : Nat → Int32) (b e : Int32) : ∀ (k : Nat) (i : Int32), own_cnt F b e k i ≤ ((e.toInt - i.toInt).toNat : Int) := by
  intro k
  induction k with
  | zero => intro i; show (0 : Int) ≤ _; omega
  | succ k ih =>
    intro i
    have h := ih (i + 1)
    rw [own_cnt]
    split
    · rename_i q
      rw [own_inc q] at h
      rw [Int32.lt_iff_toInt_lt] at q
      split <;> omega
    · omega
theorem own_hit {F : Nat → Int32} {b e i : Int32} {k : Nat} (h : i < e) (q : F i.toNatClampNeg = b) : own_cnt F b e (k + 1) i = 1 + own_cnt F b e k (i + 1) := by rw [own_cnt, if_pos h, if_pos q]
theorem own_miss {F : Nat → Int32} {b e i : Int32} {k : Nat} (h : i < e) (q : ¬ F i.toNatClampNeg = b) : own_cnt F b e (k + 1) i = own_cnt F b e k (i + 1) := by rw [own_cnt, if_pos h, if_neg q]
theorem own_out {F : Nat → Int32} {b e i : Int32} {k : Nat} (h : ¬ i < e) : own_cnt F b e (k + 1) i = 0 := by rw [own_cnt, if_neg h]
theorem own_q1 : (1 : Int32).toInt = 1 := rfl
theorem own_q2 : (2 : Int32).toInt = 2 := rfl
theorem own_q0 : (0 : Int32).toInt = 0 := rfl
theorem own_p1' {g : Int32} (h0 : 0 ≤ g.toInt) (h1 : g.toInt ≤ 100) : (g + 1).toInt = g.toInt + 1 := by
  rw [Jvm.Kit.i32_add (by rw [own_q1]; omega) (by rw [own_q1]; omega), own_q1]
theorem own_d2' {g : Int32} (h0 : 0 ≤ g.toInt) (h1 : g.toInt ≤ 100) : (2 * g).toInt = 2 * g.toInt := by
  rw [Jvm.Kit.i32_mul (by rw [own_q2]; omega) (by rw [own_q2]; omega), own_q2]
theorem own_mkin {j : Int32} {M : Nat} (h0 : 0 ≤ j.toInt) (h1 : j.toInt < M) : own_in j M := by
  refine ⟨by rw [Int32.lt_iff_toInt_lt, own_q0]; omega, ?_⟩
  rw [Int32.toNatClampNeg]; omega
-- the first loop
theorem own_h4a {F : Nat → Int32} {b e i g : Int32} {k : Nat} {C : Int} (h : i < e) (q : F i.toNatClampNeg = b) (hg : 1 ≤ g.toInt) (hC : C ≤ 4) (h4 : g.toInt + own_cnt F b e (k + 1) i = 1 + C) : (g + 1).toInt + own_cnt F b e k (i + 1) = 1 + C := by
  rw [own_hit h q] at h4
  have := own_cnt_nn F b e k (i + 1)
  rw [own_p1' (by omega) (by omega)]; omega
theorem own_h4b {F : Nat → Int32} {b e i g : Int32} {k : Nat} {C : Int} (h : i < e) (q : ¬ F i.toNatClampNeg = b) (h4 : g.toInt + own_cnt F b e (k + 1) i = 1 + C) : g.toInt + own_cnt F b e k (i + 1) = 1 + C := by
  rw [own_miss h q] at h4; exact h4
theorem own_hg {F : Nat → Int32} {b e i g : Int32} {k : Nat} {C : Int} (h : i < e) (q : F i.toNatClampNeg = b) (hg : 1 ≤ g.toInt) (hC : C ≤ 4) (h4 : g.toInt + own_cnt F b e (k + 1) i = 1 + C) : 1 ≤ (g + 1).toInt := by
  rw [own_hit h q] at h4
  have := own_cnt_nn F b e k (i + 1)
  rw [own_p1' (by omega) (by omega)]; omega
theorem own_ex {F : Nat → Int32} {b e i g : Int32} {k : Nat} {C : Int} (h : ¬ i < e) (h4 : g.toInt + own_cnt F b e (k + 1) i = 1 + C) : g.toInt = 1 + C := by
  rw [own_out h] at h4; omega
theorem own_z0 {g : Int32} {C : Int} (hC : 0 ≤ C ∧ C ≤ 4) (e : g.toInt = 1 + C) : (2 * g).toInt = 2 + 2 * C := by
  rw [own_d2' (by omega) (by omega)]; omega
theorem own_z1 {g : Int32} {C : Int} (hC : 0 ≤ C ∧ C ≤ 4) (e : g.toInt = 1 + C) : ¬ (2 * g) < 0 := by
  rw [Int32.lt_iff_toInt_lt, own_z0 hC e, own_q0]; omega
theorem own_z2 {g : Int32} {C : Int} (hC : 0 ≤ C ∧ C ≤ 4) (e : g.toInt = 1 + C) : (2 * g).toNatClampNeg ≤ 10 := by
  rw [Int32.toNatClampNeg, own_z0 hC e]; omega
theorem own_z3 {g : Int32} {C : Int} (hC : 0 ≤ C ∧ C ≤ 4) (e : g.toInt = 1 + C) : own_in 0 (2 * g).toNatClampNeg := by
  refine ⟨by decide, ?_⟩
  show 0 < _
  rw [Int32.toNatClampNeg, own_z0 hC e]; omega
theorem own_z4 {g : Int32} {C : Int} (hC : 0 ≤ C ∧ C ≤ 4) (e : g.toInt = 1 + C) : (((2 * g).toNatClampNeg : Nat) : Int) = 2 * g.toInt := by
  rw [Int32.toNatClampNeg, own_z0 hC e]; omega
theorem own_z5 {g : Int32} {C : Int} (hC : 0 ≤ C ∧ C ≤ 4) (e : g.toInt = 1 + C) : g.toInt ≤ 5 := by omega
theorem own_z6 {g : Int32} {C : Int} (e : g.toInt = 1 + C) : (0 : Int32).toInt + C + 1 = g.toInt := by rw [own_q0]; omega
-- the second loop
theorem own_s72 {F : Nat → Int32} {b e i g g4 : Int32} {k M : Nat} (h : i < e) (q : F i.toNatClampNeg = b) (h4 : g.toInt + own_cnt F b e (k + 1) i + 1 = g4.toInt) (h6 : 0 ≤ g.toInt) (hM : (M : Int) = 2 * g4.toInt) (hg : g4.toInt ≤ 5) : own_in (2 * g + 1) M := by
  rw [own_hit h q] at h4
  have := own_cnt_nn F b e k (i + 1)
  have e2 := own_d2' (g := g) (by omega) (by omega)
  have e3 := own_p1' (g := 2 * g) (by omega) (by omega)
  exact own_mkin (by omega) (by omega)
theorem own_s86 {F : Nat → Int32} {b e i g g4 : Int32} {k M : Nat} (h : i < e) (q : F i.toNatClampNeg = b) (h4 : g.toInt + own_cnt F b e (k + 1) i + 1 = g4.toInt) (h6 : 0 ≤ g.toInt) (hM : (M : Int) = 2 * g4.toInt) (hg : g4.toInt ≤ 5) : own_in (2 * (g + 1)) M := by
  rw [own_hit h q] at h4
  have := own_cnt_nn F b e k (i + 1)
  have e3 := own_p1' (g := g) (by omega) (by omega)
  have e2 := own_d2' (g := g + 1) (by omega) (by omega)
  exact own_mkin (by omega) (by omega)
theorem own_s102 {F : Nat → Int32} {b e i g g4 : Int32} {k M : Nat} (h : ¬ i < e) (h4 : g.toInt + own_cnt F b e (k + 1) i + 1 = g4.toInt) (h6 : 0 ≤ g.toInt) (hM : (M : Int) = 2 * g4.toInt) (hg : g4.toInt ≤ 5) : own_in (2 * g + 1) M := by
  rw [own_out h] at h4
  have e2 := own_d2' (g := g) (by omega) (by omega)
  have e3 := own_p1' (g := 2 * g) (by omega) (by omega)
  exact own_mkin (by omega) (by omega)
theorem own_k4a {F : Nat → Int32} {b e i g g4 : Int32} {k : Nat} (h : i < e) (q : F i.toNatClampNeg = b) (h6 : 0 ≤ g.toInt) (hg : g4.toInt ≤ 5) (h4 : g.toInt + own_cnt F b e (k + 1) i + 1 = g4.toInt) : (g + 1).toInt + own_cnt F b e k (i + 1) + 1 = g4.toInt := by
  rw [own_hit h q] at h4
  have := own_cnt_nn F b e k (i + 1)
  rw [own_p1' (by omega) (by omega)]; omega
theorem own_k4b {F : Nat → Int32} {b e i g g4 : Int32} {k : Nat} (h : i < e) (q : ¬ F i.toNatClampNeg = b) (h4 : g.toInt + own_cnt F b e (k + 1) i + 1 = g4.toInt) : g.toInt + own_cnt F b e k (i + 1) + 1 = g4.toInt := by
  rw [own_miss h q] at h4; exact h4
theorem own_k6 {F : Nat → Int32} {b e i g g4 : Int32} {k : Nat} (h : i < e) (q : F i.toNatClampNeg = b) (h6 : 0 ≤ g.toInt) (hg : g4.toInt ≤ 5) (h4 : g.toInt + own_cnt F b e (k + 1) i + 1 = g4.toInt) : 0 ≤ (g + 1).toInt := by
  rw [own_hit h q] at h4
  have := own_cnt_nn F b e k (i + 1)
  rw [own_p1' (by omega) (by omega)]; omega
theorem own_mn {F : Nat → Int32} {b e i g g4 : Int32} {k M : Nat} (h : ¬ i < e) (h4 : g.toInt + own_cnt F b e (k + 1) i + 1 = g4.toInt) (h6 : 0 ≤ g.toInt) (hM : (M : Int) = 2 * g4.toInt) (hg : g4.toInt ≤ 5) : 2 ≤ M ∧ M ≤ 10 := by
  rw [own_out h] at h4
  omega
def own_GS (n0 : Nat) (Z : State) (o : Addr) (n : Nat) (F : Nat → Int32) (r : Nat × (Nat → Int32)) (v : Option Value) (h : Heap) (L : List Loc) : Prop := ∃ a : Addr, v = some (.ref a) ∧ Fr n0 L ∧ n0 ≤ a ∧ o ≠ a ∧ own_A Z h o .byte n F ∧ own_A Z h a .int r.1 r.2 ∧ 2 ≤ r.1 ∧ r.1 ≤ 10
-- piece
theorem own_pl {M : Nat} (hM : M ≤ 10) : ((Int32.ofNat M) / 2 - 1).toInt = (M : Int) / 2 - 1 := by
  have e := own_ofN (n := M) (by omega)
  have d : (Int32.ofNat M / 2).toInt = (M : Int) / 2 := by
    rw [Jvm.Kit.i32_div (by rw [own_q2]; omega), e, own_q2, Int.tdiv_eq_ediv_of_nonneg (by omega)]
  rw [Jvm.Kit.i32_sub (by rw [d, own_q1]; omega) (by rw [d, own_q1]; omega), d, own_q1]
theorem own_pa {M : Nat} {g : Int32} (hM : M ≤ 10) (h0 : 0 ≤ g.toInt) (h1 : g.toInt ≤ 4) (h : ¬ ((Int32.ofNat M) / 2 - 1) < g) : own_in (2 * g) M := by
  rw [Int32.lt_iff_toInt_lt, own_pl hM] at h
  have e2 := own_d2' (g := g) (by omega) (by omega)
  exact own_mkin (by omega) (by omega)
theorem own_pb {M : Nat} {g : Int32} (hM : M ≤ 10) (h0 : 0 ≤ g.toInt) (h1 : g.toInt ≤ 4) (h : ¬ ((Int32.ofNat M) / 2 - 1) < g) : own_in (2 * g + 1) M := by
  rw [Int32.lt_iff_toInt_lt, own_pl hM] at h
  have e2 := own_d2' (g := g) (by omega) (by omega)
  have e3 := own_p1' (g := 2 * g) (by omega) (by omega)
  exact own_mkin (by omega) (by omega)
theorem own_pc {M : Nat} {g : Int32} (hM : M ≤ 10) (h0 : 0 ≤ g.toInt) (h1 : g.toInt ≤ 4) (h : g < ((Int32.ofNat M) / 2 - 1)) : own_in (2 * g + 2) M := by
  rw [Int32.lt_iff_toInt_lt, own_pl hM] at h
  have e2 := own_d2' (g := g) (by omega) (by omega)
  have e3 : (2 * g + 2).toInt = 2 * g.toInt + 2 := by rw [Jvm.Kit.i32_add (by rw [own_q2]; omega) (by rw [own_q2]; omega), e2, own_q2]
  exact own_mkin (by omega) (by omega)
theorem own_phi {lo hi st en : Int32} {n : Nat} (hs : ¬ st < 0) (h1 : ¬ lo < st) (h2 : ¬ hi < lo) (h3 : hi < en) (he : en.toNatClampNeg ≤ n) : own_in hi n := by
  refine own_idx ?_ h3 he
  rw [Int32.lt_iff_toInt_lt] at *
  omega
theorem own_last2 {N : Nat} (h : 2 ≤ N ∧ N ≤ 10) : own_in (Int32.ofNat N - 1) N := by
  have e := own_ofN (n := N) (by omega)
  have e1 : (Int32.ofNat N - 1).toInt = N - 1 := by rw [Jvm.Kit.i32_sub (by rw [e, own_q1]; omega) (by rw [e, own_q1]; omega), e, own_q1]
  exact own_mkin (by omega) (by omega)
end OwnSplit
theorem d1_0 : decode method_3_code 0 = .ok (.iload_n 2, 1) := by decide +kernel
theorem d1_1 : decode method_3_code 1 = .ok (.iload_n 1, 1) := by decide +kernel
theorem d1_2 : decode method_3_code 2 = .ok (.if_icmp .gt 20, 3) := by decide +kernel
theorem d1_5 : decode method_3_code 5 = .ok (.iload_n 1, 1) := by decide +kernel
theorem d1_6 : decode method_3_code 6 = .ok (.iload_n 3, 1) := by decide +kernel
theorem d1_7 : decode method_3_code 7 = .ok (.if_icmp .ge 15, 3) := by decide +kernel
theorem d1_10 : decode method_3_code 10 = .ok (.aload_n 0, 1) := by decide +kernel
theorem d1_11 : decode method_3_code 11 = .ok (.iload_n 1, 1) := by decide +kernel
theorem d1_12 : decode method_3_code 12 = .ok (.baload, 1) := by decide +kernel
theorem d1_13 : decode method_3_code 13 = .ok (.iload 4, 2) := by decide +kernel
theorem d1_15 : decode method_3_code 15 = .ok (.if_icmp .ne 7, 3) := by decide +kernel
theorem d1_18 : decode method_3_code 18 = .ok (.iconst 1, 1) := by decide +kernel
theorem d1_19 : decode method_3_code 19 = .ok (.goto 4, 3) := by decide +kernel
theorem d1_22 : decode method_3_code 22 = .ok (.iconst 0, 1) := by decide +kernel
theorem d1_23 : decode method_3_code 23 = .ok (.ireturn, 1) := by decide +kernel
theorem pn_1 : plainFor (⟨"com/example/cuvette/cuvette/hl7/Er7SplitPinLaw", "sepAt", "([BIIIB)I"⟩ : MethodName) = true := by first | exact plainFor_of_name (by first | (simp [plainName, overriddenIn]; done) | decide +kernel) | decide +kernel
theorem ef_1 (m : MethodId) (x0 : Addr) (x1 : Int32) (x2 : Int32) (x3 : Int32) (x4 : Int32) : entryFrame m #[(.ref x0), (.int x1), (.int x2), (.int x3), (.int x4)] 5 = mkF m 0 #[.val (.ref x0), .val (.int x1), .val (.int x2), .val (.int x3), .val (.int x4)] [] := by first | (simp [entryFrame, mkF, argsToLocals, Value.category, maxLocals]; done) | rfl
def f1 (p1 : Int32) (p2 : Int32) (p3 : Int32) (p4 : Int32) (F : Nat → Int32) : Int32 := (if p1 < p2 then (0 : Int32) else (if p1 < p3 then (if (F p1.toNatClampNeg) = p4 then (1 : Int32) else (0 : Int32)) else (0 : Int32)))
set_option maxRecDepth 65536 in
set_option maxHeartbeats 40000000 in
theorem rm1 (l : Launch) (Z : State) (a0 : Array Value) (hw : ∀ d ∈ tables_1, d.before a0 Z = true) (ws : List Jvm.Cond) (o0 : Addr) (p1 : Int32) (p2 : Int32) (p3 : Int32) (p4 : Int32) (n : Nat) (F : Nat → Int32) (h0 : Heap) (n0 : Nat) (A_o0 : own_A Z h0 o0 .byte n F) (hj : own_in p1 n) :
    MetFree l (⟨"com/example/cuvette/cuvette/hl7/Er7SplitPinLaw", "sepAt", "([BIIIB)I"⟩ : MethodName) (head1 (Jvm.Cond.code (⟨"com/example/cuvette/cuvette/hl7/Er7SplitPinLaw", "sepAt", "([BIIIB)I"⟩ : MethodName) method_3_code 5 (some .int) :: ws) ({ frames := 0, cells := 0, slots := 0, locals := 0 } : Room)) (fun a U => a = #[(.ref o0), (.int p1), (.int p2), (.int p3), (.int p4)] ∧ Z.Warmed39 U.vm ∧ U.heap = h0) (fun _ _ _ _ _ => True) (fun _ U o U' => ∃ v L, o = .returned v ∧ own_GI n0 (fun h => h = h0) (f1 p1 p2 p3 p4 F) v U'.heap L ∧ FrameEnd U o U' L ({ frames := 0, cells := 0, slots := 0, locals := 0 } : Room).cells ({ frames := 0, cells := 0, slots := 0, locals := 0 } : Room).slots) := by
  refine MetFree.of_bodySF pn_1 hisR ?_
  intro p e s m args below meth c s₁ Bd hml0 hP hK
  obtain ⟨rfl, hZ, hh⟩ := hP
  have hx := Bd.exec
  have hby := Bd.bytes
  have hml : c.maxLocals = 5 := hml0
  have hown : s.vm.findClass "com/example/cuvette/cuvette/hl7/Er7SplitPinLaw" = some m.cls := findClass_of_methodNamed Bd.named
  have hlk : meth.locks = false := BodyLoose.notSynchronized Bd
  have X0 : Stand p l e ({ frames := 0, cells := 0, slots := 0, locals := 0 } : Room) s m #[(.ref o0), (.int p1), (.int p2), (.int p3), (.int p4)] below meth c s₁ [] 0 0 := Stand.of_body Bd
  have e0 : s₁.heap = h0 := by rw [← hh, Bd.state]; rfl
  have N0 := Fr.nil n0
  show own_W p e below s 0 0 (own_GI n0 (fun h => h = h0) (f1 p1 p2 p3 p4 F)) s₁ (entryFrame m #[(.ref o0), (.int p1), (.int p2), (.int p3), (.int p4)] 5)
  refine own_to (ef_1 m o0 p1 p2 p3 p4) ?_
  unfold f1
  refine own_st (T' := s₁) (f' := (mkF m 1 #[.val (.ref o0), .val (.int p1), .val (.int p2), .val (.int p3), .val (.int p4)] [(.int p2)])) ?_ (fun t q => XS.iloadN X0.here hx rfl (hb hby d1_0) rfl q)
  refine own_st (T' := s₁) (f' := (mkF m 2 #[.val (.ref o0), .val (.int p1), .val (.int p2), .val (.int p3), .val (.int p4)] [(.int p1), (.int p2)])) ?_ (fun t q => XS.iloadN X0.here hx rfl (hb hby d1_1) rfl q)
  refine own_ite (fun hc2 => ?_) (fun hc2 => ?_)
  · refine own_st (T' := s₁) (f' := (mkF m 22 #[.val (.ref o0), .val (.int p1), .val (.int p2), .val (.int p3), .val (.int p4)] [])) ?_ (fun t q => XS.icmpYes X0.here hx rfl (pc0 := 2) (pc' := 22) rfl (hb hby d1_2) rfl (tlt hc2).2.2.1 (by decide) (by decide) q)
    refine own_st (T' := s₁) (f' := (mkF m 23 #[.val (.ref o0), .val (.int p1), .val (.int p2), .val (.int p3), .val (.int p4)] [(.int (0 : Int32))])) ?_ (fun t q => XS.iconst X0.here hx rfl (hb hby d1_22) q)
    exact own_retI X0 hx hlk Bd.returns (hb hby d1_23) (by decide) (by decide) ⟨rfl, N0, e0⟩
  · refine own_st (T' := s₁) (f' := (mkF m 5 #[.val (.ref o0), .val (.int p1), .val (.int p2), .val (.int p3), .val (.int p4)] [])) ?_ (fun t q => XS.icmpNo X0.here hx rfl (hb hby d1_2) rfl (flt hc2).2.2.1 q)
    refine own_st (T' := s₁) (f' := (mkF m 6 #[.val (.ref o0), .val (.int p1), .val (.int p2), .val (.int p3), .val (.int p4)] [(.int p1)])) ?_ (fun t q => XS.iloadN X0.here hx rfl (hb hby d1_5) rfl q)
    refine own_st (T' := s₁) (f' := (mkF m 7 #[.val (.ref o0), .val (.int p1), .val (.int p2), .val (.int p3), .val (.int p4)] [(.int p3), (.int p1)])) ?_ (fun t q => XS.iloadN X0.here hx rfl (hb hby d1_6) rfl q)
    refine own_ite (fun hc7 => ?_) (fun hc7 => ?_)
    · refine own_st (T' := s₁) (f' := (mkF m 10 #[.val (.ref o0), .val (.int p1), .val (.int p2), .val (.int p3), .val (.int p4)] [])) ?_ (fun t q => XS.icmpNo X0.here hx rfl (hb hby d1_7) rfl (tlt hc7).2.1 q)
      refine own_st (T' := s₁) (f' := (mkF m 11 #[.val (.ref o0), .val (.int p1), .val (.int p2), .val (.int p3), .val (.int p4)] [(.ref o0)])) ?_ (fun t q => XS.aloadN X0.here hx rfl (hb hby d1_10) rfl rfl q)
      refine own_st (T' := s₁) (f' := (mkF m 12 #[.val (.ref o0), .val (.int p1), .val (.int p2), .val (.int p3), .val (.int p4)] [(.int p1), (.ref o0)])) ?_ (fun t q => XS.iloadN X0.here hx rfl (hb hby d1_11) rfl q)
      refine own_bald X0 hx hZ (own_A.eq A_o0 e0) (j := p1) hj (hb hby d1_12) ?_
      show own_W _ _ _ _ _ _ _ s₁ (mkF m 13 #[.val (.ref o0), .val (.int p1), .val (.int p2), .val (.int p3), .val (.int p4)] [(.int (F p1.toNatClampNeg))])
      refine own_st (T' := s₁) (f' := (mkF m 15 #[.val (.ref o0), .val (.int p1), .val (.int p2), .val (.int p3), .val (.int p4)] [(.int p4), (.int (F p1.toNatClampNeg))])) ?_ (fun t q => XS.iload X0.here hx rfl (hb hby d1_13) rfl q)
      refine own_ite (fun hc15 => ?_) (fun hc15 => ?_)
      · refine own_st (T' := s₁) (f' := (mkF m 18 #[.val (.ref o0), .val (.int p1), .val (.int p2), .val (.int p3), .val (.int p4)] [])) ?_ (fun t q => XS.icmpNo X0.here hx rfl (hb hby d1_15) rfl (teq hc15).2 q)
        refine own_st (T' := s₁) (f' := (mkF m 19 #[.val (.ref o0), .val (.int p1), .val (.int p2), .val (.int p3), .val (.int p4)] [(.int (1 : Int32))])) ?_ (fun t q => XS.iconst X0.here hx rfl (hb hby d1_18) q)
        refine own_st (T' := s₁) (f' := (mkF m 23 #[.val (.ref o0), .val (.int p1), .val (.int p2), .val (.int p3), .val (.int p4)] [(.int (1 : Int32))])) ?_ (fun t q => XS.goto X0.here hx rfl (pc0 := 19) (pc' := 23) rfl (hb hby d1_19) (by decide) (by decide) q)
        exact own_retI X0 hx hlk Bd.returns (hb hby d1_23) (by decide) (by decide) ⟨rfl, N0, e0⟩
      · refine own_st (T' := s₁) (f' := (mkF m 22 #[.val (.ref o0), .val (.int p1), .val (.int p2), .val (.int p3), .val (.int p4)] [])) ?_ (fun t q => XS.icmpYes X0.here hx rfl (pc0 := 15) (pc' := 22) rfl (hb hby d1_15) rfl (feq hc15).2 (by decide) (by decide) q)
        refine own_st (T' := s₁) (f' := (mkF m 23 #[.val (.ref o0), .val (.int p1), .val (.int p2), .val (.int p3), .val (.int p4)] [(.int (0 : Int32))])) ?_ (fun t q => XS.iconst X0.here hx rfl (hb hby d1_22) q)
        exact own_retI X0 hx hlk Bd.returns (hb hby d1_23) (by decide) (by decide) ⟨rfl, N0, e0⟩
    · refine own_st (T' := s₁) (f' := (mkF m 22 #[.val (.ref o0), .val (.int p1), .val (.int p2), .val (.int p3), .val (.int p4)] [])) ?_ (fun t q => XS.icmpYes X0.here hx rfl (pc0 := 7) (pc' := 22) rfl (hb hby d1_7) rfl (flt hc7).2.1 (by decide) (by decide) q)
      refine own_st (T' := s₁) (f' := (mkF m 23 #[.val (.ref o0), .val (.int p1), .val (.int p2), .val (.int p3), .val (.int p4)] [(.int (0 : Int32))])) ?_ (fun t q => XS.iconst X0.here hx rfl (hb hby d1_22) q)
      exact own_retI X0 hx hlk Bd.returns (hb hby d1_23) (by decide) (by decide) ⟨rfl, N0, e0⟩
theorem d4_0 : decode method_4_code 0 = .ok (.iload_n 1, 1) := by decide +kernel
theorem d4_1 : decode method_4_code 1 = .ok (.iload_n 3, 1) := by decide +kernel
theorem d4_2 : decode method_4_code 2 = .ok (.if_icmp .gt 20, 3) := by decide +kernel
theorem d4_5 : decode method_4_code 5 = .ok (.iload_n 3, 1) := by decide +kernel
theorem d4_6 : decode method_4_code 6 = .ok (.iload_n 2, 1) := by decide +kernel
theorem d4_7 : decode method_4_code 7 = .ok (.if_icmp .ge 15, 3) := by decide +kernel
theorem d4_10 : decode method_4_code 10 = .ok (.aload_n 0, 1) := by decide +kernel
theorem d4_11 : decode method_4_code 11 = .ok (.iload_n 3, 1) := by decide +kernel
theorem d4_12 : decode method_4_code 12 = .ok (.baload, 1) := by decide +kernel
theorem d4_13 : decode method_4_code 13 = .ok (.iload 4, 2) := by decide +kernel
theorem d4_15 : decode method_4_code 15 = .ok (.if_icmp .ne 7, 3) := by decide +kernel
theorem d4_18 : decode method_4_code 18 = .ok (.iconst 1, 1) := by decide +kernel
theorem d4_19 : decode method_4_code 19 = .ok (.goto 4, 3) := by decide +kernel
theorem d4_22 : decode method_4_code 22 = .ok (.iconst 0, 1) := by decide +kernel
theorem d4_23 : decode method_4_code 23 = .ok (.ireturn, 1) := by decide +kernel
theorem pn_4 : plainFor (⟨"com/example/cuvette/cuvette/hl7/Er7SplitPinLaw", "sepIn", "([BIIIB)Z"⟩ : MethodName) = true := by first | exact plainFor_of_name (by first | (simp [plainName, overriddenIn]; done) | decide +kernel) | decide +kernel
theorem ef_4 (m : MethodId) (x0 : Addr) (x1 : Int32) (x2 : Int32) (x3 : Int32) (x4 : Int32) : entryFrame m #[(.ref x0), (.int x1), (.int x2), (.int x3), (.int x4)] 5 = mkF m 0 #[.val (.ref x0), .val (.int x1), .val (.int x2), .val (.int x3), .val (.int x4)] [] := by first | (simp [entryFrame, mkF, argsToLocals, Value.category, maxLocals]; done) | rfl
def f4 (p1 : Int32) (p2 : Int32) (p3 : Int32) (p4 : Int32) (F : Nat → Int32) : Int32 := (if p3 < p1 then (0 : Int32) else (if p3 < p2 then (if (F p3.toNatClampNeg) = p4 then (1 : Int32) else (0 : Int32)) else (0 : Int32)))
set_option maxRecDepth 65536 in
set_option maxHeartbeats 40000000 in
theorem rm4 (l : Launch) (Z : State) (a0 : Array Value) (hw : ∀ d ∈ tables_1, d.before a0 Z = true) (ws : List Jvm.Cond) (o0 : Addr) (p1 : Int32) (p2 : Int32) (p3 : Int32) (p4 : Int32) (n : Nat) (F : Nat → Int32) (h0 : Heap) (n0 : Nat) (A_o0 : own_A Z h0 o0 .byte n F) (hj : own_in p3 n) :
    MetFree l (⟨"com/example/cuvette/cuvette/hl7/Er7SplitPinLaw", "sepIn", "([BIIIB)Z"⟩ : MethodName) (head1 (Jvm.Cond.code (⟨"com/example/cuvette/cuvette/hl7/Er7SplitPinLaw", "sepIn", "([BIIIB)Z"⟩ : MethodName) method_4_code 5 (some .boolean) :: ws) ({ frames := 0, cells := 0, slots := 0, locals := 0 } : Room)) (fun a U => a = #[(.ref o0), (.int p1), (.int p2), (.int p3), (.int p4)] ∧ Z.Warmed39 U.vm ∧ U.heap = h0) (fun _ _ _ _ _ => True) (fun _ U o U' => ∃ v L, o = .returned v ∧ own_GI n0 (fun h => h = h0) (f4 p1 p2 p3 p4 F) v U'.heap L ∧ FrameEnd U o U' L ({ frames := 0, cells := 0, slots := 0, locals := 0 } : Room).cells ({ frames := 0, cells := 0, slots := 0, locals := 0 } : Room).slots) := by
  refine MetFree.of_bodySF pn_4 hisR ?_
  intro p e s m args below meth c s₁ Bd hml0 hP hK
  obtain ⟨rfl, hZ, hh⟩ := hP
  have hx := Bd.exec
  have hby := Bd.bytes
  have hml : c.maxLocals = 5 := hml0
  have hown : s.vm.findClass "com/example/cuvette/cuvette/hl7/Er7SplitPinLaw" = some m.cls := findClass_of_methodNamed Bd.named
  have hlk : meth.locks = false := BodyLoose.notSynchronized Bd
  have X0 : Stand p l e ({ frames := 0, cells := 0, slots := 0, locals := 0 } : Room) s m #[(.ref o0), (.int p1), (.int p2), (.int p3), (.int p4)] below meth c s₁ [] 0 0 := Stand.of_body Bd
  have e0 : s₁.heap = h0 := by rw [← hh, Bd.state]; rfl
  have N0 := Fr.nil n0
  show own_W p e below s 0 0 (own_GI n0 (fun h => h = h0) (f4 p1 p2 p3 p4 F)) s₁ (entryFrame m #[(.ref o0), (.int p1), (.int p2), (.int p3), (.int p4)] 5)
  refine own_to (ef_4 m o0 p1 p2 p3 p4) ?_
  unfold f4
  refine own_st (T' := s₁) (f' := (mkF m 1 #[.val (.ref o0), .val (.int p1), .val (.int p2), .val (.int p3), .val (.int p4)] [(.int p1)])) ?_ (fun t q => XS.iloadN X0.here hx rfl (hb hby d4_0) rfl q)
  refine own_st (T' := s₁) (f' := (mkF m 2 #[.val (.ref o0), .val (.int p1), .val (.int p2), .val (.int p3), .val (.int p4)] [(.int p3), (.int p1)])) ?_ (fun t q => XS.iloadN X0.here hx rfl (hb hby d4_1) rfl q)
  refine own_ite (fun hc2 => ?_) (fun hc2 => ?_)
  · refine own_st (T' := s₁) (f' := (mkF m 22 #[.val (.ref o0), .val (.int p1), .val (.int p2), .val (.int p3), .val (.int p4)] [])) ?_ (fun t q => XS.icmpYes X0.here hx rfl (pc0 := 2) (pc' := 22) rfl (hb hby d4_2) rfl (tlt hc2).2.2.1 (by decide) (by decide) q)
    refine own_st (T' := s₁) (f' := (mkF m 23 #[.val (.ref o0), .val (.int p1), .val (.int p2), .val (.int p3), .val (.int p4)] [(.int (0 : Int32))])) ?_ (fun t q => XS.iconst X0.here hx rfl (hb hby d4_22) q)
    exact own_retN X0 hx hlk (t := .boolean) Bd.returns (by simp) (hb hby d4_23) (by decide) (by decide) ⟨rfl, N0, e0⟩
  · refine own_st (T' := s₁) (f' := (mkF m 5 #[.val (.ref o0), .val (.int p1), .val (.int p2), .val (.int p3), .val (.int p4)] [])) ?_ (fun t q => XS.icmpNo X0.here hx rfl (hb hby d4_2) rfl (flt hc2).2.2.1 q)
    refine own_st (T' := s₁) (f' := (mkF m 6 #[.val (.ref o0), .val (.int p1), .val (.int p2), .val (.int p3), .val (.int p4)] [(.int p3)])) ?_ (fun t q => XS.iloadN X0.here hx rfl (hb hby d4_5) rfl q)
    refine own_st (T' := s₁) (f' := (mkF m 7 #[.val (.ref o0), .val (.int p1), .val (.int p2), .val (.int p3), .val (.int p4)] [(.int p2), (.int p3)])) ?_ (fun t q => XS.iloadN X0.here hx rfl (hb hby d4_6) rfl q)
    refine own_ite (fun hc7 => ?_) (fun hc7 => ?_)
    · refine own_st (T' := s₁) (f' := (mkF m 10 #[.val (.ref o0), .val (.int p1), .val (.int p2), .val (.int p3), .val (.int p4)] [])) ?_ (fun t q => XS.icmpNo X0.here hx rfl (hb hby d4_7) rfl (tlt hc7).2.1 q)
      refine own_st (T' := s₁) (f' := (mkF m 11 #[.val (.ref o0), .val (.int p1), .val (.int p2), .val (.int p3), .val (.int p4)] [(.ref o0)])) ?_ (fun t q => XS.aloadN X0.here hx rfl (hb hby d4_10) rfl rfl q)
      refine own_st (T' := s₁) (f' := (mkF m 12 #[.val (.ref o0), .val (.int p1), .val (.int p2), .val (.int p3), .val (.int p4)] [(.int p3), (.ref o0)])) ?_ (fun t q => XS.iloadN X0.here hx rfl (hb hby d4_11) rfl q)
      refine own_bald X0 hx hZ (own_A.eq A_o0 e0) (j := p3) hj (hb hby d4_12) ?_
      show own_W _ _ _ _ _ _ _ s₁ (mkF m 13 #[.val (.ref o0), .val (.int p1), .val (.int p2), .val (.int p3), .val (.int p4)] [(.int (F p3.toNatClampNeg))])
      refine own_st (T' := s₁) (f' := (mkF m 15 #[.val (.ref o0), .val (.int p1), .val (.int p2), .val (.int p3), .val (.int p4)] [(.int p4), (.int (F p3.toNatClampNeg))])) ?_ (fun t q => XS.iload X0.here hx rfl (hb hby d4_13) rfl q)
      refine own_ite (fun hc15 => ?_) (fun hc15 => ?_)
      · refine own_st (T' := s₁) (f' := (mkF m 18 #[.val (.ref o0), .val (.int p1), .val (.int p2), .val (.int p3), .val (.int p4)] [])) ?_ (fun t q => XS.icmpNo X0.here hx rfl (hb hby d4_15) rfl (teq hc15).2 q)
        refine own_st (T' := s₁) (f' := (mkF m 19 #[.val (.ref o0), .val (.int p1), .val (.int p2), .val (.int p3), .val (.int p4)] [(.int (1 : Int32))])) ?_ (fun t q => XS.iconst X0.here hx rfl (hb hby d4_18) q)
        refine own_st (T' := s₁) (f' := (mkF m 23 #[.val (.ref o0), .val (.int p1), .val (.int p2), .val (.int p3), .val (.int p4)] [(.int (1 : Int32))])) ?_ (fun t q => XS.goto X0.here hx rfl (pc0 := 19) (pc' := 23) rfl (hb hby d4_19) (by decide) (by decide) q)
        exact own_retN X0 hx hlk (t := .boolean) Bd.returns (by simp) (hb hby d4_23) (by decide) (by decide) ⟨rfl, N0, e0⟩
      · refine own_st (T' := s₁) (f' := (mkF m 22 #[.val (.ref o0), .val (.int p1), .val (.int p2), .val (.int p3), .val (.int p4)] [])) ?_ (fun t q => XS.icmpYes X0.here hx rfl (pc0 := 15) (pc' := 22) rfl (hb hby d4_15) rfl (feq hc15).2 (by decide) (by decide) q)
        refine own_st (T' := s₁) (f' := (mkF m 23 #[.val (.ref o0), .val (.int p1), .val (.int p2), .val (.int p3), .val (.int p4)] [(.int (0 : Int32))])) ?_ (fun t q => XS.iconst X0.here hx rfl (hb hby d4_22) q)
        exact own_retN X0 hx hlk (t := .boolean) Bd.returns (by simp) (hb hby d4_23) (by decide) (by decide) ⟨rfl, N0, e0⟩
    · refine own_st (T' := s₁) (f' := (mkF m 22 #[.val (.ref o0), .val (.int p1), .val (.int p2), .val (.int p3), .val (.int p4)] [])) ?_ (fun t q => XS.icmpYes X0.here hx rfl (pc0 := 7) (pc' := 22) rfl (hb hby d4_7) rfl (flt hc7).2.1 (by decide) (by decide) q)
      refine own_st (T' := s₁) (f' := (mkF m 23 #[.val (.ref o0), .val (.int p1), .val (.int p2), .val (.int p3), .val (.int p4)] [(.int (0 : Int32))])) ?_ (fun t q => XS.iconst X0.here hx rfl (hb hby d4_22) q)
      exact own_retN X0 hx hlk (t := .boolean) Bd.returns (by simp) (hb hby d4_23) (by decide) (by decide) ⟨rfl, N0, e0⟩
theorem d2_0 : decode prog_25_method_6_code 0 = .ok (.iconst 1, 1) := by decide +kernel
theorem d2_1 : decode prog_25_method_6_code 1 = .ok (.istore 4, 2) := by decide +kernel
theorem d2_3 : decode prog_25_method_6_code 3 = .ok (.iload_n 1, 1) := by decide +kernel
theorem d2_4 : decode prog_25_method_6_code 4 = .ok (.istore 5, 2) := by decide +kernel
theorem d2_6 : decode prog_25_method_6_code 6 = .ok (.iload 5, 2) := by decide +kernel
theorem d2_8 : decode prog_25_method_6_code 8 = .ok (.iload_n 2, 1) := by decide +kernel
theorem d2_9 : decode prog_25_method_6_code 9 = .ok (.if_icmp .ge 20, 3) := by decide +kernel
theorem d2_12 : decode prog_25_method_6_code 12 = .ok (.aload_n 0, 1) := by decide +kernel
theorem d2_13 : decode prog_25_method_6_code 13 = .ok (.iload 5, 2) := by decide +kernel
theorem d2_15 : decode prog_25_method_6_code 15 = .ok (.baload, 1) := by decide +kernel
theorem d2_16 : decode prog_25_method_6_code 16 = .ok (.iload_n 3, 1) := by decide +kernel
theorem d2_17 : decode prog_25_method_6_code 17 = .ok (.if_icmp .ne 6, 3) := by decide +kernel
theorem d2_20 : decode prog_25_method_6_code 20 = .ok (.iinc 4 1, 3) := by decide +kernel
theorem d2_23 : decode prog_25_method_6_code 23 = .ok (.iinc 5 1, 3) := by decide +kernel
theorem d2_26 : decode prog_25_method_6_code 26 = .ok (.goto (-20), 3) := by decide +kernel
theorem d2_29 : decode prog_25_method_6_code 29 = .ok (.iconst 2, 1) := by decide +kernel
theorem d2_30 : decode prog_25_method_6_code 30 = .ok (.iload 4, 2) := by decide +kernel
theorem d2_32 : decode prog_25_method_6_code 32 = .ok (.imul, 1) := by decide +kernel
theorem d2_33 : decode prog_25_method_6_code 33 = .ok (.newarray .int, 2) := by decide +kernel
theorem d2_35 : decode prog_25_method_6_code 35 = .ok (.astore 5, 2) := by decide +kernel
theorem d2_37 : decode prog_25_method_6_code 37 = .ok (.iconst 0, 1) := by decide +kernel
theorem d2_38 : decode prog_25_method_6_code 38 = .ok (.istore 6, 2) := by decide +kernel
theorem d2_40 : decode prog_25_method_6_code 40 = .ok (.aload 5, 2) := by decide +kernel
theorem d2_42 : decode prog_25_method_6_code 42 = .ok (.iconst 0, 1) := by decide +kernel
theorem d2_43 : decode prog_25_method_6_code 43 = .ok (.iload_n 1, 1) := by decide +kernel
theorem d2_44 : decode prog_25_method_6_code 44 = .ok (.iastore, 1) := by decide +kernel
theorem d2_45 : decode prog_25_method_6_code 45 = .ok (.iload_n 1, 1) := by decide +kernel
theorem d2_46 : decode prog_25_method_6_code 46 = .ok (.istore 7, 2) := by decide +kernel
theorem d2_48 : decode prog_25_method_6_code 48 = .ok (.iload 7, 2) := by decide +kernel
theorem d2_50 : decode prog_25_method_6_code 50 = .ok (.iload_n 2, 1) := by decide +kernel
theorem d2_51 : decode prog_25_method_6_code 51 = .ok (.if_icmp .ge 42, 3) := by decide +kernel
theorem d2_54 : decode prog_25_method_6_code 54 = .ok (.aload_n 0, 1) := by decide +kernel
theorem d2_55 : decode prog_25_method_6_code 55 = .ok (.iload 7, 2) := by decide +kernel
theorem d2_57 : decode prog_25_method_6_code 57 = .ok (.baload, 1) := by decide +kernel
theorem d2_58 : decode prog_25_method_6_code 58 = .ok (.iload_n 3, 1) := by decide +kernel
theorem d2_59 : decode prog_25_method_6_code 59 = .ok (.if_icmp .ne 28, 3) := by decide +kernel
theorem d2_62 : decode prog_25_method_6_code 62 = .ok (.aload 5, 2) := by decide +kernel
theorem d2_64 : decode prog_25_method_6_code 64 = .ok (.iconst 2, 1) := by decide +kernel
theorem d2_65 : decode prog_25_method_6_code 65 = .ok (.iload 6, 2) := by decide +kernel
theorem d2_67 : decode prog_25_method_6_code 67 = .ok (.imul, 1) := by decide +kernel
theorem d2_68 : decode prog_25_method_6_code 68 = .ok (.iconst 1, 1) := by decide +kernel
theorem d2_69 : decode prog_25_method_6_code 69 = .ok (.iadd, 1) := by decide +kernel
theorem d2_70 : decode prog_25_method_6_code 70 = .ok (.iload 7, 2) := by decide +kernel
theorem d2_72 : decode prog_25_method_6_code 72 = .ok (.iastore, 1) := by decide +kernel
theorem d2_73 : decode prog_25_method_6_code 73 = .ok (.iinc 6 1, 3) := by decide +kernel
theorem d2_76 : decode prog_25_method_6_code 76 = .ok (.aload 5, 2) := by decide +kernel
theorem d2_78 : decode prog_25_method_6_code 78 = .ok (.iconst 2, 1) := by decide +kernel
theorem d2_79 : decode prog_25_method_6_code 79 = .ok (.iload 6, 2) := by decide +kernel
theorem d2_81 : decode prog_25_method_6_code 81 = .ok (.imul, 1) := by decide +kernel
theorem d2_82 : decode prog_25_method_6_code 82 = .ok (.iload 7, 2) := by decide +kernel
theorem d2_84 : decode prog_25_method_6_code 84 = .ok (.iconst 1, 1) := by decide +kernel
theorem d2_85 : decode prog_25_method_6_code 85 = .ok (.iadd, 1) := by decide +kernel
theorem d2_86 : decode prog_25_method_6_code 86 = .ok (.iastore, 1) := by decide +kernel
theorem d2_87 : decode prog_25_method_6_code 87 = .ok (.iinc 7 1, 3) := by decide +kernel
theorem d2_90 : decode prog_25_method_6_code 90 = .ok (.goto (-42), 3) := by decide +kernel
theorem d2_93 : decode prog_25_method_6_code 93 = .ok (.aload 5, 2) := by decide +kernel
theorem d2_95 : decode prog_25_method_6_code 95 = .ok (.iconst 2, 1) := by decide +kernel
theorem d2_96 : decode prog_25_method_6_code 96 = .ok (.iload 6, 2) := by decide +kernel
theorem d2_98 : decode prog_25_method_6_code 98 = .ok (.imul, 1) := by decide +kernel
theorem d2_99 : decode prog_25_method_6_code 99 = .ok (.iconst 1, 1) := by decide +kernel
theorem d2_100 : decode prog_25_method_6_code 100 = .ok (.iadd, 1) := by decide +kernel
theorem d2_101 : decode prog_25_method_6_code 101 = .ok (.iload_n 2, 1) := by decide +kernel
theorem d2_102 : decode prog_25_method_6_code 102 = .ok (.iastore, 1) := by decide +kernel
theorem d2_103 : decode prog_25_method_6_code 103 = .ok (.aload 5, 2) := by decide +kernel
theorem d2_105 : decode prog_25_method_6_code 105 = .ok (.areturn, 1) := by decide +kernel
theorem pn_2 : plainFor (⟨"com/example/cuvette/cuvette/hl7/Er7", "split", "([BIIB)[I"⟩ : MethodName) = true := by first | exact plainFor_of_name (by first | (simp [plainName, overriddenIn]; done) | decide +kernel) | decide +kernel
theorem ef_2 (m : MethodId) (x0 : Addr) (x1 : Int32) (x2 : Int32) (x3 : Int32) : entryFrame m #[(.ref x0), (.int x1), (.int x2), (.int x3)] 8 = mkF m 0 #[.val (.ref x0), .val (.int x1), .val (.int x2), .val (.int x3), .unset, .unset, .unset, .unset] [] := by first | (simp [entryFrame, mkF, argsToLocals, Value.category, maxLocals]; done) | rfl
def f2_48 (p1 : Int32) (p2 : Int32) (p3 : Int32) (F : Nat → Int32) : Nat → Int32 → Int32 → Int32 → Nat → (Nat → Int32) → Nat × (Nat → Int32)
  | 0, _, _, _, _, _ => (0, fun _ => 0)
  | k + 1, g4_48, g6_48, g7_48, M5_48, F5_48 => (if g7_48 < p2 then (if (F g7_48.toNatClampNeg) = p3 then (f2_48 p1 p2 p3 F k g4_48 (g6_48 + (1 : Int32)) (g7_48 + (1 : Int32)) M5_48 (own_up (own_up F5_48 (((2 : Int32) * g6_48) + (1 : Int32)).toNatClampNeg g7_48) ((2 : Int32) * (g6_48 + (1 : Int32))).toNatClampNeg (g7_48 + (1 : Int32)))) else (f2_48 p1 p2 p3 F k g4_48 g6_48 (g7_48 + (1 : Int32)) M5_48 F5_48)) else (M5_48, (own_up F5_48 (((2 : Int32) * g6_48) + (1 : Int32)).toNatClampNeg p2)))
def f2_6 (p1 : Int32) (p2 : Int32) (p3 : Int32) (F : Nat → Int32) : Nat → Int32 → Int32 → Nat × (Nat → Int32)
  | 0, _, _ => (0, fun _ => 0)
  | k + 1, g4_6, g5_6 => (if g5_6 < p2 then (if (F g5_6.toNatClampNeg) = p3 then (f2_6 p1 p2 p3 F k (g4_6 + (1 : Int32)) (g5_6 + (1 : Int32))) else (f2_6 p1 p2 p3 F k g4_6 (g5_6 + (1 : Int32)))) else (f2_48 p1 p2 p3 F 10 g4_6 (0 : Int32) p1 ((2 : Int32) * g4_6).toNatClampNeg (own_up (fun _ => 0) 0 p1)))
def f2 (p1 : Int32) (p2 : Int32) (p3 : Int32) (F : Nat → Int32) : Nat × (Nat → Int32) := (f2_6 p1 p2 p3 F 10 (1 : Int32) p1)
set_option maxRecDepth 65536 in
set_option maxHeartbeats 40000000 in
theorem rm2 (l : Launch) (Z : State) (a0 : Array Value) (hw : ∀ d ∈ tables_1, d.before a0 Z = true) (ws : List Jvm.Cond) (o0 : Addr) (p1 : Int32) (p2 : Int32) (p3 : Int32) (n : Nat) (F : Nat → Int32) (h0 : Heap) (n0 : Nat) (Z0 : n0 ≤ h0.size) (A_o0 : own_A Z h0 o0 .byte n F) (hlo : ¬ p1 < 0) (hhi : p2.toNatClampNeg ≤ n) (hm : (p2.toInt - p1.toInt).toNat < 10) (hC : 0 ≤ own_cnt F p3 p2 10 p1 ∧ own_cnt F p3 p2 10 p1 ≤ 4) :
    MetFree l (⟨"com/example/cuvette/cuvette/hl7/Er7", "split", "([BIIB)[I"⟩ : MethodName) (head1 (Jvm.Cond.code (⟨"com/example/cuvette/cuvette/hl7/Er7", "split", "([BIIB)[I"⟩ : MethodName) prog_25_method_6_code 8 (some (.array .int)) :: ws) ({ frames := 0, cells := 1, slots := 10, locals := 0 } : Room)) (fun a U => a = #[(.ref o0), (.int p1), (.int p2), (.int p3)] ∧ Z.Warmed39 U.vm ∧ U.heap = h0) (fun _ _ _ _ _ => True) (fun _ U o U' => ∃ v L, o = .returned v ∧ own_GS n0 Z o0 n F (f2 p1 p2 p3 F) v U'.heap L ∧ FrameEnd U o U' L ({ frames := 0, cells := 1, slots := 10, locals := 0 } : Room).cells ({ frames := 0, cells := 1, slots := 10, locals := 0 } : Room).slots) := by
  refine MetFree.of_bodySF pn_2 hisR ?_
  intro p e s m args below meth c s₁ Bd hml0 hP hK
  obtain ⟨rfl, hZ, hh⟩ := hP
  have hx := Bd.exec
  have hby := Bd.bytes
  have hml : c.maxLocals = 8 := hml0
  have hown : s.vm.findClass "com/example/cuvette/cuvette/hl7/Er7" = some m.cls := findClass_of_methodNamed Bd.named
  have hlk : meth.locks = false := BodyLoose.notSynchronized Bd
  have X0 : Stand p l e ({ frames := 0, cells := 1, slots := 10, locals := 0 } : Room) s m #[(.ref o0), (.int p1), (.int p2), (.int p3)] below meth c s₁ [] 0 0 := Stand.of_body Bd
  have e0 : s₁.heap = h0 := by rw [← hh, Bd.state]; rfl
  have N0 := Fr.nil n0
  have zs0 : n0 ≤ s₁.heap.size := by rw [e0]; exact Z0
  have B48 : ∀ (k : Nat) (T : State) (locs : List Loc) (g4_48 : Int32) (r5_48 : Addr) (g6_48 : Int32) (g7_48 : Int32) (M5_48 : Nat) (F5_48 : Nat → Int32) (X : Stand p l e ({ frames := 0, cells := 1, slots := 10, locals := 0 } : Room) s m #[(.ref o0), (.int p1), (.int p2), (.int p3)] below meth c T locs 1 10) (N : Fr n0 locs) (zs : n0 ≤ T.heap.size) (G_r5_48 : n0 ≤ r5_48) (A_r5_48 : own_A Z T.heap r5_48 .int M5_48 F5_48) (B_o0 : own_A Z T.heap o0 .byte n F) (D_o0_r5_48 : o0 ≠ r5_48) (hk : (p2.toInt - g7_48.toInt).toNat < k) (hi : ¬ g7_48 < 0) (h6 : 0 ≤ g6_48.toInt) (h4 : g6_48.toInt + own_cnt F p3 p2 k g7_48 + 1 = g4_48.toInt) (hM : (M5_48 : Int) = 2 * g4_48.toInt) (hg : g4_48.toInt ≤ 5), own_W p e below s 1 10 (own_GS n0 Z o0 n F (f2_48 p1 p2 p3 F k g4_48 g6_48 g7_48 M5_48 F5_48)) T (mkF m 48 #[.val (.ref o0), .val (.int p1), .val (.int p2), .val (.int p3), .val (.int g4_48), .val (.ref r5_48), .val (.int g6_48), .val (.int g7_48)] []) := by
    intro k
    induction k with
    | zero =>
      intro T locs g4_48 r5_48 g6_48 g7_48 M5_48 F5_48 X N zs G_r5_48 A_r5_48 B_o0 D_o0_r5_48 hk hi h6 h4 hM hg
      exact absurd hk (Nat.not_lt_zero _)
    | succ k ih =>
      intro T locs g4_48 r5_48 g6_48 g7_48 M5_48 F5_48 X N zs G_r5_48 A_r5_48 B_o0 D_o0_r5_48 hk hi h6 h4 hM hg
      rw [f2_48]
      refine own_st (T' := T) (f' := (mkF m 50 #[.val (.ref o0), .val (.int p1), .val (.int p2), .val (.int p3), .val (.int g4_48), .val (.ref r5_48), .val (.int g6_48), .val (.int g7_48)] [(.int g7_48)])) ?_ (fun t q => XS.iload X.here hx rfl (hb hby d2_48) rfl q)
      refine own_st (T' := T) (f' := (mkF m 51 #[.val (.ref o0), .val (.int p1), .val (.int p2), .val (.int p3), .val (.int g4_48), .val (.ref r5_48), .val (.int g6_48), .val (.int g7_48)] [(.int p2), (.int g7_48)])) ?_ (fun t q => XS.iloadN X.here hx rfl (hb hby d2_50) rfl q)
      refine own_ite (fun hc51 => ?_) (fun hc51 => ?_)
      · refine own_st (T' := T) (f' := (mkF m 54 #[.val (.ref o0), .val (.int p1), .val (.int p2), .val (.int p3), .val (.int g4_48), .val (.ref r5_48), .val (.int g6_48), .val (.int g7_48)] [])) ?_ (fun t q => XS.icmpNo X.here hx rfl (hb hby d2_51) rfl (tlt hc51).2.1 q)
        refine own_st (T' := T) (f' := (mkF m 55 #[.val (.ref o0), .val (.int p1), .val (.int p2), .val (.int p3), .val (.int g4_48), .val (.ref r5_48), .val (.int g6_48), .val (.int g7_48)] [(.ref o0)])) ?_ (fun t q => XS.aloadN X.here hx rfl (hb hby d2_54) rfl rfl q)
        refine own_st (T' := T) (f' := (mkF m 57 #[.val (.ref o0), .val (.int p1), .val (.int p2), .val (.int p3), .val (.int g4_48), .val (.ref r5_48), .val (.int g6_48), .val (.int g7_48)] [(.int g7_48), (.ref o0)])) ?_ (fun t q => XS.iload X.here hx rfl (hb hby d2_55) rfl q)
        refine own_bald X hx hZ B_o0 (j := g7_48) (own_idx hi hc51 hhi) (hb hby d2_57) ?_
        show own_W _ _ _ _ _ _ _ T (mkF m 58 #[.val (.ref o0), .val (.int p1), .val (.int p2), .val (.int p3), .val (.int g4_48), .val (.ref r5_48), .val (.int g6_48), .val (.int g7_48)] [(.int (F g7_48.toNatClampNeg))])
        refine own_st (T' := T) (f' := (mkF m 59 #[.val (.ref o0), .val (.int p1), .val (.int p2), .val (.int p3), .val (.int g4_48), .val (.ref r5_48), .val (.int g6_48), .val (.int g7_48)] [(.int p3), (.int (F g7_48.toNatClampNeg))])) ?_ (fun t q => XS.iloadN X.here hx rfl (hb hby d2_58) rfl q)
        refine own_ite (fun hc59 => ?_) (fun hc59 => ?_)
        · refine own_st (T' := T) (f' := (mkF m 62 #[.val (.ref o0), .val (.int p1), .val (.int p2), .val (.int p3), .val (.int g4_48), .val (.ref r5_48), .val (.int g6_48), .val (.int g7_48)] [])) ?_ (fun t q => XS.icmpNo X.here hx rfl (hb hby d2_59) rfl (teq hc59).2 q)
          refine own_st (T' := T) (f' := (mkF m 64 #[.val (.ref o0), .val (.int p1), .val (.int p2), .val (.int p3), .val (.int g4_48), .val (.ref r5_48), .val (.int g6_48), .val (.int g7_48)] [(.ref r5_48)])) ?_ (fun t q => XS.aload X.here hx rfl (hb hby d2_62) rfl rfl q)
          refine own_st (T' := T) (f' := (mkF m 65 #[.val (.ref o0), .val (.int p1), .val (.int p2), .val (.int p3), .val (.int g4_48), .val (.ref r5_48), .val (.int g6_48), .val (.int g7_48)] [(.int (2 : Int32)), (.ref r5_48)])) ?_ (fun t q => XS.iconst X.here hx rfl (hb hby d2_64) q)
          refine own_st (T' := T) (f' := (mkF m 67 #[.val (.ref o0), .val (.int p1), .val (.int p2), .val (.int p3), .val (.int g4_48), .val (.ref r5_48), .val (.int g6_48), .val (.int g7_48)] [(.int g6_48), (.int (2 : Int32)), (.ref r5_48)])) ?_ (fun t q => XS.iload X.here hx rfl (hb hby d2_65) rfl q)
          refine own_st (T' := T) (f' := (mkF m 68 #[.val (.ref o0), .val (.int p1), .val (.int p2), .val (.int p3), .val (.int g4_48), .val (.ref r5_48), .val (.int g6_48), .val (.int g7_48)] [(.int ((2 : Int32) * g6_48)), (.ref r5_48)])) ?_ (fun t q => XS.imul X.here hx rfl (hb hby d2_67) rfl q)
          refine own_st (T' := T) (f' := (mkF m 69 #[.val (.ref o0), .val (.int p1), .val (.int p2), .val (.int p3), .val (.int g4_48), .val (.ref r5_48), .val (.int g6_48), .val (.int g7_48)] [(.int (1 : Int32)), (.int ((2 : Int32) * g6_48)), (.ref r5_48)])) ?_ (fun t q => XS.iconst X.here hx rfl (hb hby d2_68) q)
          refine own_st (T' := T) (f' := (mkF m 70 #[.val (.ref o0), .val (.int p1), .val (.int p2), .val (.int p3), .val (.int g4_48), .val (.ref r5_48), .val (.int g6_48), .val (.int g7_48)] [(.int (((2 : Int32) * g6_48) + (1 : Int32))), (.ref r5_48)])) ?_ (fun t q => XS.iadd X.here hx rfl (hb hby d2_69) rfl q)
          refine own_st (T' := T) (f' := (mkF m 72 #[.val (.ref o0), .val (.int p1), .val (.int p2), .val (.int p3), .val (.int g4_48), .val (.ref r5_48), .val (.int g6_48), .val (.int g7_48)] [(.int g7_48), (.int (((2 : Int32) * g6_48) + (1 : Int32))), (.ref r5_48)])) ?_ (fun t q => XS.iload X.here hx rfl (hb hby d2_70) rfl q)
          refine own_iast X hx hZ A_r5_48 (j := (((2 : Int32) * g6_48) + (1 : Int32))) (x := g7_48) (own_s72 hc51 hc59 h4 h6 hM hg) (hb hby d2_72) N G_r5_48 (fun T1 lo1 X1 N1 K1 A1_r5_48 => ?_)
          have A1_o0 := own_A.keep B_o0 K1 (ninS D_o0_r5_48 nin0)
          have zs1 : n0 ≤ T1.heap.size := Nat.le_trans zs K1.1
          show own_W _ _ _ _ _ _ _ T1 (mkF m 73 #[.val (.ref o0), .val (.int p1), .val (.int p2), .val (.int p3), .val (.int g4_48), .val (.ref r5_48), .val (.int g6_48), .val (.int g7_48)] [])
          refine own_st (T' := T1) (f' := (mkF m 76 #[.val (.ref o0), .val (.int p1), .val (.int p2), .val (.int p3), .val (.int g4_48), .val (.ref r5_48), .val (.int (g6_48 + (1 : Int32))), .val (.int g7_48)] [])) ?_ (fun t q => XS.iinc X1.here hx rfl (hb hby d2_73) rfl (l' := #[.val (.ref o0), .val (.int p1), .val (.int p2), .val (.int p3), .val (.int g4_48), .val (.ref r5_48), .val (.int (g6_48 + (1 : Int32))), .val (.int g7_48)]) rfl q)
          refine own_st (T' := T1) (f' := (mkF m 78 #[.val (.ref o0), .val (.int p1), .val (.int p2), .val (.int p3), .val (.int g4_48), .val (.ref r5_48), .val (.int (g6_48 + (1 : Int32))), .val (.int g7_48)] [(.ref r5_48)])) ?_ (fun t q => XS.aload X1.here hx rfl (hb hby d2_76) rfl rfl q)
          refine own_st (T' := T1) (f' := (mkF m 79 #[.val (.ref o0), .val (.int p1), .val (.int p2), .val (.int p3), .val (.int g4_48), .val (.ref r5_48), .val (.int (g6_48 + (1 : Int32))), .val (.int g7_48)] [(.int (2 : Int32)), (.ref r5_48)])) ?_ (fun t q => XS.iconst X1.here hx rfl (hb hby d2_78) q)
          refine own_st (T' := T1) (f' := (mkF m 81 #[.val (.ref o0), .val (.int p1), .val (.int p2), .val (.int p3), .val (.int g4_48), .val (.ref r5_48), .val (.int (g6_48 + (1 : Int32))), .val (.int g7_48)] [(.int (g6_48 + (1 : Int32))), (.int (2 : Int32)), (.ref r5_48)])) ?_ (fun t q => XS.iload X1.here hx rfl (hb hby d2_79) rfl q)
          refine own_st (T' := T1) (f' := (mkF m 82 #[.val (.ref o0), .val (.int p1), .val (.int p2), .val (.int p3), .val (.int g4_48), .val (.ref r5_48), .val (.int (g6_48 + (1 : Int32))), .val (.int g7_48)] [(.int ((2 : Int32) * (g6_48 + (1 : Int32)))), (.ref r5_48)])) ?_ (fun t q => XS.imul X1.here hx rfl (hb hby d2_81) rfl q)
          refine own_st (T' := T1) (f' := (mkF m 84 #[.val (.ref o0), .val (.int p1), .val (.int p2), .val (.int p3), .val (.int g4_48), .val (.ref r5_48), .val (.int (g6_48 + (1 : Int32))), .val (.int g7_48)] [(.int g7_48), (.int ((2 : Int32) * (g6_48 + (1 : Int32)))), (.ref r5_48)])) ?_ (fun t q => XS.iload X1.here hx rfl (hb hby d2_82) rfl q)
          refine own_st (T' := T1) (f' := (mkF m 85 #[.val (.ref o0), .val (.int p1), .val (.int p2), .val (.int p3), .val (.int g4_48), .val (.ref r5_48), .val (.int (g6_48 + (1 : Int32))), .val (.int g7_48)] [(.int (1 : Int32)), (.int g7_48), (.int ((2 : Int32) * (g6_48 + (1 : Int32)))), (.ref r5_48)])) ?_ (fun t q => XS.iconst X1.here hx rfl (hb hby d2_84) q)
          refine own_st (T' := T1) (f' := (mkF m 86 #[.val (.ref o0), .val (.int p1), .val (.int p2), .val (.int p3), .val (.int g4_48), .val (.ref r5_48), .val (.int (g6_48 + (1 : Int32))), .val (.int g7_48)] [(.int (g7_48 + (1 : Int32))), (.int ((2 : Int32) * (g6_48 + (1 : Int32)))), (.ref r5_48)])) ?_ (fun t q => XS.iadd X1.here hx rfl (hb hby d2_85) rfl q)
          refine own_iast X1 hx hZ A1_r5_48 (j := ((2 : Int32) * (g6_48 + (1 : Int32)))) (x := (g7_48 + (1 : Int32))) (own_s86 hc51 hc59 h4 h6 hM hg) (hb hby d2_86) N1 G_r5_48 (fun T2 lo2 X2 N2 K2 A2_r5_48 => ?_)
          have A2_o0 := own_A.keep A1_o0 K2 (ninS D_o0_r5_48 nin0)
          have zs2 : n0 ≤ T2.heap.size := Nat.le_trans zs1 K2.1
          show own_W _ _ _ _ _ _ _ T2 (mkF m 87 #[.val (.ref o0), .val (.int p1), .val (.int p2), .val (.int p3), .val (.int g4_48), .val (.ref r5_48), .val (.int (g6_48 + (1 : Int32))), .val (.int g7_48)] [])
          refine own_st (T' := T2) (f' := (mkF m 90 #[.val (.ref o0), .val (.int p1), .val (.int p2), .val (.int p3), .val (.int g4_48), .val (.ref r5_48), .val (.int (g6_48 + (1 : Int32))), .val (.int (g7_48 + (1 : Int32)))] [])) ?_ (fun t q => XS.iinc X2.here hx rfl (hb hby d2_87) rfl (l' := #[.val (.ref o0), .val (.int p1), .val (.int p2), .val (.int p3), .val (.int g4_48), .val (.ref r5_48), .val (.int (g6_48 + (1 : Int32))), .val (.int (g7_48 + (1 : Int32)))]) rfl q)
          refine own_st (T' := T2) (f' := (mkF m 48 #[.val (.ref o0), .val (.int p1), .val (.int p2), .val (.int p3), .val (.int g4_48), .val (.ref r5_48), .val (.int (g6_48 + (1 : Int32))), .val (.int (g7_48 + (1 : Int32)))] [])) ?_ (fun t q => XS.goto X2.here hx rfl (pc0 := 90) (pc' := 48) rfl (hb hby d2_90) (by decide) (by decide) q)
          exact ih T2 _ g4_48 r5_48 (g6_48 + (1 : Int32)) (g7_48 + (1 : Int32)) M5_48 (own_up (own_up F5_48 (((2 : Int32) * g6_48) + (1 : Int32)).toNatClampNeg g7_48) ((2 : Int32) * (g6_48 + (1 : Int32))).toNatClampNeg (g7_48 + (1 : Int32))) X2 N2 zs2 G_r5_48 A2_r5_48 A2_o0 D_o0_r5_48 (own_back hc51 hk) (own_nn hc51 hi) (own_k6 hc51 hc59 h6 hg h4) (own_k4a hc51 hc59 h6 hg h4) (hM) (hg)
        · refine own_st (T' := T) (f' := (mkF m 87 #[.val (.ref o0), .val (.int p1), .val (.int p2), .val (.int p3), .val (.int g4_48), .val (.ref r5_48), .val (.int g6_48), .val (.int g7_48)] [])) ?_ (fun t q => XS.icmpYes X.here hx rfl (pc0 := 59) (pc' := 87) rfl (hb hby d2_59) rfl (feq hc59).2 (by decide) (by decide) q)
          refine own_st (T' := T) (f' := (mkF m 90 #[.val (.ref o0), .val (.int p1), .val (.int p2), .val (.int p3), .val (.int g4_48), .val (.ref r5_48), .val (.int g6_48), .val (.int (g7_48 + (1 : Int32)))] [])) ?_ (fun t q => XS.iinc X.here hx rfl (hb hby d2_87) rfl (l' := #[.val (.ref o0), .val (.int p1), .val (.int p2), .val (.int p3), .val (.int g4_48), .val (.ref r5_48), .val (.int g6_48), .val (.int (g7_48 + (1 : Int32)))]) rfl q)
          refine own_st (T' := T) (f' := (mkF m 48 #[.val (.ref o0), .val (.int p1), .val (.int p2), .val (.int p3), .val (.int g4_48), .val (.ref r5_48), .val (.int g6_48), .val (.int (g7_48 + (1 : Int32)))] [])) ?_ (fun t q => XS.goto X.here hx rfl (pc0 := 90) (pc' := 48) rfl (hb hby d2_90) (by decide) (by decide) q)
          exact ih T _ g4_48 r5_48 g6_48 (g7_48 + (1 : Int32)) M5_48 F5_48 X N zs G_r5_48 A_r5_48 B_o0 D_o0_r5_48 (own_back hc51 hk) (own_nn hc51 hi) (h6) (own_k4b hc51 hc59 h4) (hM) (hg)
      · refine own_st (T' := T) (f' := (mkF m 93 #[.val (.ref o0), .val (.int p1), .val (.int p2), .val (.int p3), .val (.int g4_48), .val (.ref r5_48), .val (.int g6_48), .val (.int g7_48)] [])) ?_ (fun t q => XS.icmpYes X.here hx rfl (pc0 := 51) (pc' := 93) rfl (hb hby d2_51) rfl (flt hc51).2.1 (by decide) (by decide) q)
        refine own_st (T' := T) (f' := (mkF m 95 #[.val (.ref o0), .val (.int p1), .val (.int p2), .val (.int p3), .val (.int g4_48), .val (.ref r5_48), .val (.int g6_48), .val (.int g7_48)] [(.ref r5_48)])) ?_ (fun t q => XS.aload X.here hx rfl (hb hby d2_93) rfl rfl q)
        refine own_st (T' := T) (f' := (mkF m 96 #[.val (.ref o0), .val (.int p1), .val (.int p2), .val (.int p3), .val (.int g4_48), .val (.ref r5_48), .val (.int g6_48), .val (.int g7_48)] [(.int (2 : Int32)), (.ref r5_48)])) ?_ (fun t q => XS.iconst X.here hx rfl (hb hby d2_95) q)
        refine own_st (T' := T) (f' := (mkF m 98 #[.val (.ref o0), .val (.int p1), .val (.int p2), .val (.int p3), .val (.int g4_48), .val (.ref r5_48), .val (.int g6_48), .val (.int g7_48)] [(.int g6_48), (.int (2 : Int32)), (.ref r5_48)])) ?_ (fun t q => XS.iload X.here hx rfl (hb hby d2_96) rfl q)
        refine own_st (T' := T) (f' := (mkF m 99 #[.val (.ref o0), .val (.int p1), .val (.int p2), .val (.int p3), .val (.int g4_48), .val (.ref r5_48), .val (.int g6_48), .val (.int g7_48)] [(.int ((2 : Int32) * g6_48)), (.ref r5_48)])) ?_ (fun t q => XS.imul X.here hx rfl (hb hby d2_98) rfl q)
        refine own_st (T' := T) (f' := (mkF m 100 #[.val (.ref o0), .val (.int p1), .val (.int p2), .val (.int p3), .val (.int g4_48), .val (.ref r5_48), .val (.int g6_48), .val (.int g7_48)] [(.int (1 : Int32)), (.int ((2 : Int32) * g6_48)), (.ref r5_48)])) ?_ (fun t q => XS.iconst X.here hx rfl (hb hby d2_99) q)
        refine own_st (T' := T) (f' := (mkF m 101 #[.val (.ref o0), .val (.int p1), .val (.int p2), .val (.int p3), .val (.int g4_48), .val (.ref r5_48), .val (.int g6_48), .val (.int g7_48)] [(.int (((2 : Int32) * g6_48) + (1 : Int32))), (.ref r5_48)])) ?_ (fun t q => XS.iadd X.here hx rfl (hb hby d2_100) rfl q)
        refine own_st (T' := T) (f' := (mkF m 102 #[.val (.ref o0), .val (.int p1), .val (.int p2), .val (.int p3), .val (.int g4_48), .val (.ref r5_48), .val (.int g6_48), .val (.int g7_48)] [(.int p2), (.int (((2 : Int32) * g6_48) + (1 : Int32))), (.ref r5_48)])) ?_ (fun t q => XS.iloadN X.here hx rfl (hb hby d2_101) rfl q)
        refine own_iast X hx hZ A_r5_48 (j := (((2 : Int32) * g6_48) + (1 : Int32))) (x := p2) (own_s102 hc51 h4 h6 hM hg) (hb hby d2_102) N G_r5_48 (fun T3 lo3 X3 N3 K3 A3_r5_48 => ?_)
        have A3_o0 := own_A.keep B_o0 K3 (ninS D_o0_r5_48 nin0)
        have zs3 : n0 ≤ T3.heap.size := Nat.le_trans zs K3.1
        show own_W _ _ _ _ _ _ _ T3 (mkF m 103 #[.val (.ref o0), .val (.int p1), .val (.int p2), .val (.int p3), .val (.int g4_48), .val (.ref r5_48), .val (.int g6_48), .val (.int g7_48)] [])
        refine own_st (T' := T3) (f' := (mkF m 105 #[.val (.ref o0), .val (.int p1), .val (.int p2), .val (.int p3), .val (.int g4_48), .val (.ref r5_48), .val (.int g6_48), .val (.int g7_48)] [(.ref r5_48)])) ?_ (fun t q => XS.aload X3.here hx rfl (hb hby d2_103) rfl rfl q)
        exact own_retA X3 hx hlk (t := (.array .int)) Bd.returns rfl rfl (hb hby d2_105) (by decide) (by decide) ⟨_, rfl, N3, G_r5_48, D_o0_r5_48, A3_o0, A3_r5_48, own_mn hc51 h4 h6 hM hg⟩
  have B6 : ∀ (k : Nat) (T : State) (locs : List Loc) (g4_6 : Int32) (g5_6 : Int32) (X : Stand p l e ({ frames := 0, cells := 1, slots := 10, locals := 0 } : Room) s m #[(.ref o0), (.int p1), (.int p2), (.int p3)] below meth c T locs 0 0) (N : Fr n0 locs) (zs : n0 ≤ T.heap.size) (B_o0 : own_A Z T.heap o0 .byte n F) (hk : (p2.toInt - g5_6.toInt).toNat < k) (hi : ¬ g5_6 < 0) (hg : 1 ≤ g4_6.toInt) (h4 : g4_6.toInt + own_cnt F p3 p2 k g5_6 = 1 + own_cnt F p3 p2 10 p1), own_W p e below s 1 10 (own_GS n0 Z o0 n F (f2_6 p1 p2 p3 F k g4_6 g5_6)) T (mkF m 6 #[.val (.ref o0), .val (.int p1), .val (.int p2), .val (.int p3), .val (.int g4_6), .val (.int g5_6), .unset, .unset] []) := by
    intro k
    induction k with
    | zero =>
      intro T locs g4_6 g5_6 X N zs B_o0 hk hi hg h4
      exact absurd hk (Nat.not_lt_zero _)
    | succ k ih =>
      intro T locs g4_6 g5_6 X N zs B_o0 hk hi hg h4
      rw [f2_6]
      refine own_st (T' := T) (f' := (mkF m 8 #[.val (.ref o0), .val (.int p1), .val (.int p2), .val (.int p3), .val (.int g4_6), .val (.int g5_6), .unset, .unset] [(.int g5_6)])) ?_ (fun t q => XS.iload X.here hx rfl (hb hby d2_6) rfl q)
      refine own_st (T' := T) (f' := (mkF m 9 #[.val (.ref o0), .val (.int p1), .val (.int p2), .val (.int p3), .val (.int g4_6), .val (.int g5_6), .unset, .unset] [(.int p2), (.int g5_6)])) ?_ (fun t q => XS.iloadN X.here hx rfl (hb hby d2_8) rfl q)
      refine own_ite (fun hc9 => ?_) (fun hc9 => ?_)
      · refine own_st (T' := T) (f' := (mkF m 12 #[.val (.ref o0), .val (.int p1), .val (.int p2), .val (.int p3), .val (.int g4_6), .val (.int g5_6), .unset, .unset] [])) ?_ (fun t q => XS.icmpNo X.here hx rfl (hb hby d2_9) rfl (tlt hc9).2.1 q)
        refine own_st (T' := T) (f' := (mkF m 13 #[.val (.ref o0), .val (.int p1), .val (.int p2), .val (.int p3), .val (.int g4_6), .val (.int g5_6), .unset, .unset] [(.ref o0)])) ?_ (fun t q => XS.aloadN X.here hx rfl (hb hby d2_12) rfl rfl q)
        refine own_st (T' := T) (f' := (mkF m 15 #[.val (.ref o0), .val (.int p1), .val (.int p2), .val (.int p3), .val (.int g4_6), .val (.int g5_6), .unset, .unset] [(.int g5_6), (.ref o0)])) ?_ (fun t q => XS.iload X.here hx rfl (hb hby d2_13) rfl q)
        refine own_bald X hx hZ B_o0 (j := g5_6) (own_idx hi hc9 hhi) (hb hby d2_15) ?_
        show own_W _ _ _ _ _ _ _ T (mkF m 16 #[.val (.ref o0), .val (.int p1), .val (.int p2), .val (.int p3), .val (.int g4_6), .val (.int g5_6), .unset, .unset] [(.int (F g5_6.toNatClampNeg))])
        refine own_st (T' := T) (f' := (mkF m 17 #[.val (.ref o0), .val (.int p1), .val (.int p2), .val (.int p3), .val (.int g4_6), .val (.int g5_6), .unset, .unset] [(.int p3), (.int (F g5_6.toNatClampNeg))])) ?_ (fun t q => XS.iloadN X.here hx rfl (hb hby d2_16) rfl q)
        refine own_ite (fun hc17 => ?_) (fun hc17 => ?_)
        · refine own_st (T' := T) (f' := (mkF m 20 #[.val (.ref o0), .val (.int p1), .val (.int p2), .val (.int p3), .val (.int g4_6), .val (.int g5_6), .unset, .unset] [])) ?_ (fun t q => XS.icmpNo X.here hx rfl (hb hby d2_17) rfl (teq hc17).2 q)
          refine own_st (T' := T) (f' := (mkF m 23 #[.val (.ref o0), .val (.int p1), .val (.int p2), .val (.int p3), .val (.int (g4_6 + (1 : Int32))), .val (.int g5_6), .unset, .unset] [])) ?_ (fun t q => XS.iinc X.here hx rfl (hb hby d2_20) rfl (l' := #[.val (.ref o0), .val (.int p1), .val (.int p2), .val (.int p3), .val (.int (g4_6 + (1 : Int32))), .val (.int g5_6), .unset, .unset]) rfl q)
          refine own_st (T' := T) (f' := (mkF m 26 #[.val (.ref o0), .val (.int p1), .val (.int p2), .val (.int p3), .val (.int (g4_6 + (1 : Int32))), .val (.int (g5_6 + (1 : Int32))), .unset, .unset] [])) ?_ (fun t q => XS.iinc X.here hx rfl (hb hby d2_23) rfl (l' := #[.val (.ref o0), .val (.int p1), .val (.int p2), .val (.int p3), .val (.int (g4_6 + (1 : Int32))), .val (.int (g5_6 + (1 : Int32))), .unset, .unset]) rfl q)
          refine own_st (T' := T) (f' := (mkF m 6 #[.val (.ref o0), .val (.int p1), .val (.int p2), .val (.int p3), .val (.int (g4_6 + (1 : Int32))), .val (.int (g5_6 + (1 : Int32))), .unset, .unset] [])) ?_ (fun t q => XS.goto X.here hx rfl (pc0 := 26) (pc' := 6) rfl (hb hby d2_26) (by decide) (by decide) q)
          exact ih T _ (g4_6 + (1 : Int32)) (g5_6 + (1 : Int32)) X N zs B_o0 (own_back hc9 hk) (own_nn hc9 hi) (own_hg hc9 hc17 hg hC.2 h4) (own_h4a hc9 hc17 hg hC.2 h4)
        · refine own_st (T' := T) (f' := (mkF m 23 #[.val (.ref o0), .val (.int p1), .val (.int p2), .val (.int p3), .val (.int g4_6), .val (.int g5_6), .unset, .unset] [])) ?_ (fun t q => XS.icmpYes X.here hx rfl (pc0 := 17) (pc' := 23) rfl (hb hby d2_17) rfl (feq hc17).2 (by decide) (by decide) q)
          refine own_st (T' := T) (f' := (mkF m 26 #[.val (.ref o0), .val (.int p1), .val (.int p2), .val (.int p3), .val (.int g4_6), .val (.int (g5_6 + (1 : Int32))), .unset, .unset] [])) ?_ (fun t q => XS.iinc X.here hx rfl (hb hby d2_23) rfl (l' := #[.val (.ref o0), .val (.int p1), .val (.int p2), .val (.int p3), .val (.int g4_6), .val (.int (g5_6 + (1 : Int32))), .unset, .unset]) rfl q)
          refine own_st (T' := T) (f' := (mkF m 6 #[.val (.ref o0), .val (.int p1), .val (.int p2), .val (.int p3), .val (.int g4_6), .val (.int (g5_6 + (1 : Int32))), .unset, .unset] [])) ?_ (fun t q => XS.goto X.here hx rfl (pc0 := 26) (pc' := 6) rfl (hb hby d2_26) (by decide) (by decide) q)
          exact ih T _ g4_6 (g5_6 + (1 : Int32)) X N zs B_o0 (own_back hc9 hk) (own_nn hc9 hi) (hg) (own_h4b hc9 hc17 h4)
      · refine own_st (T' := T) (f' := (mkF m 29 #[.val (.ref o0), .val (.int p1), .val (.int p2), .val (.int p3), .val (.int g4_6), .val (.int g5_6), .unset, .unset] [])) ?_ (fun t q => XS.icmpYes X.here hx rfl (pc0 := 9) (pc' := 29) rfl (hb hby d2_9) rfl (flt hc9).2.1 (by decide) (by decide) q)
        refine own_st (T' := T) (f' := (mkF m 30 #[.val (.ref o0), .val (.int p1), .val (.int p2), .val (.int p3), .val (.int g4_6), .val (.int g5_6), .unset, .unset] [(.int (2 : Int32))])) ?_ (fun t q => XS.iconst X.here hx rfl (hb hby d2_29) q)
        refine own_st (T' := T) (f' := (mkF m 32 #[.val (.ref o0), .val (.int p1), .val (.int p2), .val (.int p3), .val (.int g4_6), .val (.int g5_6), .unset, .unset] [(.int g4_6), (.int (2 : Int32))])) ?_ (fun t q => XS.iload X.here hx rfl (hb hby d2_30) rfl q)
        refine own_st (T' := T) (f' := (mkF m 33 #[.val (.ref o0), .val (.int p1), .val (.int p2), .val (.int p3), .val (.int g4_6), .val (.int g5_6), .unset, .unset] [(.int ((2 : Int32) * g4_6))])) ?_ (fun t q => XS.imul X.here hx rfl (hb hby d2_32) rfl q)
        refine own_newI X hx hZ (hw _ (List.mem_of_getElem? (i := 10) rfl)) (z := ((2 : Int32) * g4_6)) (own_z1 hC (own_ex hc9 h4)) (cap := 10) (own_z2 hC (own_ex hc9 h4)) (by decide) (by decide) (by decide) (hb hby d2_33) (fun T4 b4 X4 ge4 E4 A4_b4 => ?_)
        have D4_o0 : o0 ≠ b4 := Nat.ne_of_lt (Nat.lt_of_lt_of_le B_o0.lt ge4)
        have A4_o0 := own_A.ext B_o0 E4
        have G4 : n0 ≤ b4 := Nat.le_trans zs ge4
        have zs4 : n0 ≤ T4.heap.size := Nat.le_trans zs E4.1
        show own_W _ _ _ _ _ _ _ T4 (mkF m 35 #[.val (.ref o0), .val (.int p1), .val (.int p2), .val (.int p3), .val (.int g4_6), .val (.int g5_6), .unset, .unset] [(.ref b4)])
        refine own_st (T' := T4) (f' := (mkF m 37 #[.val (.ref o0), .val (.int p1), .val (.int p2), .val (.int p3), .val (.int g4_6), .val (.ref b4), .unset, .unset] [])) ?_ (fun t q => XS.astore X4.here hx rfl (hb hby d2_35) rfl rfl (l' := #[.val (.ref o0), .val (.int p1), .val (.int p2), .val (.int p3), .val (.int g4_6), .val (.ref b4), .unset, .unset]) rfl q)
        refine own_st (T' := T4) (f' := (mkF m 38 #[.val (.ref o0), .val (.int p1), .val (.int p2), .val (.int p3), .val (.int g4_6), .val (.ref b4), .unset, .unset] [(.int (0 : Int32))])) ?_ (fun t q => XS.iconst X4.here hx rfl (hb hby d2_37) q)
        refine own_st (T' := T4) (f' := (mkF m 40 #[.val (.ref o0), .val (.int p1), .val (.int p2), .val (.int p3), .val (.int g4_6), .val (.ref b4), .val (.int (0 : Int32)), .unset] [])) ?_ (fun t q => XS.istore X4.here hx rfl (hb hby d2_38) rfl (l' := #[.val (.ref o0), .val (.int p1), .val (.int p2), .val (.int p3), .val (.int g4_6), .val (.ref b4), .val (.int (0 : Int32)), .unset]) rfl q)
        refine own_st (T' := T4) (f' := (mkF m 42 #[.val (.ref o0), .val (.int p1), .val (.int p2), .val (.int p3), .val (.int g4_6), .val (.ref b4), .val (.int (0 : Int32)), .unset] [(.ref b4)])) ?_ (fun t q => XS.aload X4.here hx rfl (hb hby d2_40) rfl rfl q)
        refine own_st (T' := T4) (f' := (mkF m 43 #[.val (.ref o0), .val (.int p1), .val (.int p2), .val (.int p3), .val (.int g4_6), .val (.ref b4), .val (.int (0 : Int32)), .unset] [(.int (0 : Int32)), (.ref b4)])) ?_ (fun t q => XS.iconst X4.here hx rfl (hb hby d2_42) q)
        refine own_st (T' := T4) (f' := (mkF m 44 #[.val (.ref o0), .val (.int p1), .val (.int p2), .val (.int p3), .val (.int g4_6), .val (.ref b4), .val (.int (0 : Int32)), .unset] [(.int p1), (.int (0 : Int32)), (.ref b4)])) ?_ (fun t q => XS.iloadN X4.here hx rfl (hb hby d2_43) rfl q)
        refine own_iast X4 hx hZ A4_b4 (j := (0 : Int32)) (x := p1) (own_z3 hC (own_ex hc9 h4)) (hb hby d2_44) N G4 (fun T5 lo5 X5 N5 K5 A5_b4 => ?_)
        have A5_o0 := own_A.keep A4_o0 K5 (ninS D4_o0 nin0)
        have zs5 : n0 ≤ T5.heap.size := Nat.le_trans zs4 K5.1
        show own_W _ _ _ _ _ _ _ T5 (mkF m 45 #[.val (.ref o0), .val (.int p1), .val (.int p2), .val (.int p3), .val (.int g4_6), .val (.ref b4), .val (.int (0 : Int32)), .unset] [])
        refine own_st (T' := T5) (f' := (mkF m 46 #[.val (.ref o0), .val (.int p1), .val (.int p2), .val (.int p3), .val (.int g4_6), .val (.ref b4), .val (.int (0 : Int32)), .unset] [(.int p1)])) ?_ (fun t q => XS.iloadN X5.here hx rfl (hb hby d2_45) rfl q)
        refine own_st (T' := T5) (f' := (mkF m 48 #[.val (.ref o0), .val (.int p1), .val (.int p2), .val (.int p3), .val (.int g4_6), .val (.ref b4), .val (.int (0 : Int32)), .val (.int p1)] [])) ?_ (fun t q => XS.istore X5.here hx rfl (hb hby d2_46) rfl (l' := #[.val (.ref o0), .val (.int p1), .val (.int p2), .val (.int p3), .val (.int g4_6), .val (.ref b4), .val (.int (0 : Int32)), .val (.int p1)]) rfl q)
        exact B48 10 T5 _ g4_6 b4 (0 : Int32) p1 ((2 : Int32) * g4_6).toNatClampNeg (own_up (fun _ => 0) 0 p1) X5 N5 zs5 G4 A5_b4 A5_o0 D4_o0 (hm) (hlo) (by decide) (own_z6 (own_ex hc9 h4)) (own_z4 hC (own_ex hc9 h4)) (own_z5 hC (own_ex hc9 h4))
  show own_W p e below s 1 10 (own_GS n0 Z o0 n F (f2 p1 p2 p3 F)) s₁ (entryFrame m #[(.ref o0), (.int p1), (.int p2), (.int p3)] 8)
  refine own_to (ef_2 m o0 p1 p2 p3) ?_
  unfold f2
  refine own_st (T' := s₁) (f' := (mkF m 1 #[.val (.ref o0), .val (.int p1), .val (.int p2), .val (.int p3), .unset, .unset, .unset, .unset] [(.int (1 : Int32))])) ?_ (fun t q => XS.iconst X0.here hx rfl (hb hby d2_0) q)
  refine own_st (T' := s₁) (f' := (mkF m 3 #[.val (.ref o0), .val (.int p1), .val (.int p2), .val (.int p3), .val (.int (1 : Int32)), .unset, .unset, .unset] [])) ?_ (fun t q => XS.istore X0.here hx rfl (hb hby d2_1) rfl (l' := #[.val (.ref o0), .val (.int p1), .val (.int p2), .val (.int p3), .val (.int (1 : Int32)), .unset, .unset, .unset]) rfl q)
  refine own_st (T' := s₁) (f' := (mkF m 4 #[.val (.ref o0), .val (.int p1), .val (.int p2), .val (.int p3), .val (.int (1 : Int32)), .unset, .unset, .unset] [(.int p1)])) ?_ (fun t q => XS.iloadN X0.here hx rfl (hb hby d2_3) rfl q)
  refine own_st (T' := s₁) (f' := (mkF m 6 #[.val (.ref o0), .val (.int p1), .val (.int p2), .val (.int p3), .val (.int (1 : Int32)), .val (.int p1), .unset, .unset] [])) ?_ (fun t q => XS.istore X0.here hx rfl (hb hby d2_4) rfl (l' := #[.val (.ref o0), .val (.int p1), .val (.int p2), .val (.int p3), .val (.int (1 : Int32)), .val (.int p1), .unset, .unset]) rfl q)
  exact B6 10 s₁ _ (1 : Int32) p1 X0 N0 zs0 (own_A.eq A_o0 e0) (hm) (hlo) (by decide) (rfl)
theorem pd_0 : parseMethodDescriptor "([BIIIB)Z" = some ⟨[(.array .byte), .int, .int, .int, .byte], some .boolean⟩ := by decide +kernel
theorem d3_0 : decode method_5_code 0 = .ok (.aload_n 1, 1) := by decide +kernel
theorem d3_1 : decode method_5_code 1 = .ok (.arraylength, 1) := by decide +kernel
theorem d3_2 : decode method_5_code 2 = .ok (.iconst 2, 1) := by decide +kernel
theorem d3_3 : decode method_5_code 3 = .ok (.idiv, 1) := by decide +kernel
theorem d3_4 : decode method_5_code 4 = .ok (.iconst 1, 1) := by decide +kernel
theorem d3_5 : decode method_5_code 5 = .ok (.isub, 1) := by decide +kernel
theorem d3_6 : decode method_5_code 6 = .ok (.istore 6, 2) := by decide +kernel
theorem d3_8 : decode method_5_code 8 = .ok (.iload_n 2, 1) := by decide +kernel
theorem d3_9 : decode method_5_code 9 = .ok (.iload 6, 2) := by decide +kernel
theorem d3_11 : decode method_5_code 11 = .ok (.if_icmp .le 5, 3) := by decide +kernel
theorem d3_14 : decode method_5_code 14 = .ok (.iconst 1, 1) := by decide +kernel
theorem d3_15 : decode method_5_code 15 = .ok (.ireturn, 1) := by decide +kernel
theorem d3_16 : decode method_5_code 16 = .ok (.aload_n 1, 1) := by decide +kernel
theorem d3_17 : decode method_5_code 17 = .ok (.iconst 2, 1) := by decide +kernel
theorem d3_18 : decode method_5_code 18 = .ok (.iload_n 2, 1) := by decide +kernel
theorem d3_19 : decode method_5_code 19 = .ok (.imul, 1) := by decide +kernel
theorem d3_20 : decode method_5_code 20 = .ok (.iaload, 1) := by decide +kernel
theorem d3_21 : decode method_5_code 21 = .ok (.istore 7, 2) := by decide +kernel
theorem d3_23 : decode method_5_code 23 = .ok (.aload_n 1, 1) := by decide +kernel
theorem d3_24 : decode method_5_code 24 = .ok (.iconst 2, 1) := by decide +kernel
theorem d3_25 : decode method_5_code 25 = .ok (.iload_n 2, 1) := by decide +kernel
theorem d3_26 : decode method_5_code 26 = .ok (.imul, 1) := by decide +kernel
theorem d3_27 : decode method_5_code 27 = .ok (.iconst 1, 1) := by decide +kernel
theorem d3_28 : decode method_5_code 28 = .ok (.iadd, 1) := by decide +kernel
theorem d3_29 : decode method_5_code 29 = .ok (.iaload, 1) := by decide +kernel
theorem d3_30 : decode method_5_code 30 = .ok (.istore 8, 2) := by decide +kernel
theorem d3_32 : decode method_5_code 32 = .ok (.iload 7, 2) := by decide +kernel
theorem d3_34 : decode method_5_code 34 = .ok (.iload 4, 2) := by decide +kernel
theorem d3_36 : decode method_5_code 36 = .ok (.if_icmp .lt 17, 3) := by decide +kernel
theorem d3_39 : decode method_5_code 39 = .ok (.iload 7, 2) := by decide +kernel
theorem d3_41 : decode method_5_code 41 = .ok (.iload 8, 2) := by decide +kernel
theorem d3_43 : decode method_5_code 43 = .ok (.if_icmp .gt 10, 3) := by decide +kernel
theorem d3_46 : decode method_5_code 46 = .ok (.iload 8, 2) := by decide +kernel
theorem d3_48 : decode method_5_code 48 = .ok (.iload 5, 2) := by decide +kernel
theorem d3_50 : decode method_5_code 50 = .ok (.if_icmp .le 5, 3) := by decide +kernel
theorem d3_53 : decode method_5_code 53 = .ok (.iconst 0, 1) := by decide +kernel
theorem d3_54 : decode method_5_code 54 = .ok (.ireturn, 1) := by decide +kernel
theorem d3_55 : decode method_5_code 55 = .ok (.aload_n 0, 1) := by decide +kernel
theorem d3_56 : decode method_5_code 56 = .ok (.iload 7, 2) := by decide +kernel
theorem d3_58 : decode method_5_code 58 = .ok (.iload 8, 2) := by decide +kernel
theorem d3_60 : decode method_5_code 60 = .ok (.iconst 0, 1) := by decide +kernel
theorem d3_61 : decode method_5_code 61 = .ok (.iload_n 3, 1) := by decide +kernel
theorem d3_62 : decode method_5_code 62 = .ok (.invokestatic 24, 3) := by decide +kernel
theorem d3_65 : decode method_5_code 65 = .ok (.ifCond .ne 42, 3) := by decide +kernel
theorem d3_68 : decode method_5_code 68 = .ok (.aload_n 0, 1) := by decide +kernel
theorem d3_69 : decode method_5_code 69 = .ok (.iload 7, 2) := by decide +kernel
theorem d3_71 : decode method_5_code 71 = .ok (.iload 8, 2) := by decide +kernel
theorem d3_73 : decode method_5_code 73 = .ok (.iconst 1, 1) := by decide +kernel
theorem d3_74 : decode method_5_code 74 = .ok (.iload_n 3, 1) := by decide +kernel
theorem d3_75 : decode method_5_code 75 = .ok (.invokestatic 24, 3) := by decide +kernel
theorem d3_78 : decode method_5_code 78 = .ok (.ifCond .ne 29, 3) := by decide +kernel
theorem d3_81 : decode method_5_code 81 = .ok (.aload_n 0, 1) := by decide +kernel
theorem d3_82 : decode method_5_code 82 = .ok (.iload 7, 2) := by decide +kernel
theorem d3_84 : decode method_5_code 84 = .ok (.iload 8, 2) := by decide +kernel
theorem d3_86 : decode method_5_code 86 = .ok (.iconst 2, 1) := by decide +kernel
theorem d3_87 : decode method_5_code 87 = .ok (.iload_n 3, 1) := by decide +kernel
theorem d3_88 : decode method_5_code 88 = .ok (.invokestatic 24, 3) := by decide +kernel
theorem d3_91 : decode method_5_code 91 = .ok (.ifCond .ne 16, 3) := by decide +kernel
theorem d3_94 : decode method_5_code 94 = .ok (.aload_n 0, 1) := by decide +kernel
theorem d3_95 : decode method_5_code 95 = .ok (.iload 7, 2) := by decide +kernel
theorem d3_97 : decode method_5_code 97 = .ok (.iload 8, 2) := by decide +kernel
theorem d3_99 : decode method_5_code 99 = .ok (.iconst 3, 1) := by decide +kernel
theorem d3_100 : decode method_5_code 100 = .ok (.iload_n 3, 1) := by decide +kernel
theorem d3_101 : decode method_5_code 101 = .ok (.invokestatic 24, 3) := by decide +kernel
theorem d3_104 : decode method_5_code 104 = .ok (.ifCond .eq 5, 3) := by decide +kernel
theorem d3_107 : decode method_5_code 107 = .ok (.iconst 0, 1) := by decide +kernel
theorem d3_108 : decode method_5_code 108 = .ok (.ireturn, 1) := by decide +kernel
theorem d3_109 : decode method_5_code 109 = .ok (.iload_n 2, 1) := by decide +kernel
theorem d3_110 : decode method_5_code 110 = .ok (.iload 6, 2) := by decide +kernel
theorem d3_112 : decode method_5_code 112 = .ok (.if_icmp .ge 38, 3) := by decide +kernel
theorem d3_115 : decode method_5_code 115 = .ok (.iload 8, 2) := by decide +kernel
theorem d3_117 : decode method_5_code 117 = .ok (.iload 5, 2) := by decide +kernel
theorem d3_119 : decode method_5_code 119 = .ok (.if_icmp .lt 5, 3) := by decide +kernel
theorem d3_122 : decode method_5_code 122 = .ok (.iconst 0, 1) := by decide +kernel
theorem d3_123 : decode method_5_code 123 = .ok (.ireturn, 1) := by decide +kernel
theorem d3_124 : decode method_5_code 124 = .ok (.aload_n 0, 1) := by decide +kernel
theorem d3_125 : decode method_5_code 125 = .ok (.iload 8, 2) := by decide +kernel
theorem d3_127 : decode method_5_code 127 = .ok (.baload, 1) := by decide +kernel
theorem d3_128 : decode method_5_code 128 = .ok (.iload_n 3, 1) := by decide +kernel
theorem d3_129 : decode method_5_code 129 = .ok (.if_icmp .eq 5, 3) := by decide +kernel
theorem d3_132 : decode method_5_code 132 = .ok (.iconst 0, 1) := by decide +kernel
theorem d3_133 : decode method_5_code 133 = .ok (.ireturn, 1) := by decide +kernel
theorem d3_134 : decode method_5_code 134 = .ok (.aload_n 1, 1) := by decide +kernel
theorem d3_135 : decode method_5_code 135 = .ok (.iconst 2, 1) := by decide +kernel
theorem d3_136 : decode method_5_code 136 = .ok (.iload_n 2, 1) := by decide +kernel
theorem d3_137 : decode method_5_code 137 = .ok (.imul, 1) := by decide +kernel
theorem d3_138 : decode method_5_code 138 = .ok (.iconst 2, 1) := by decide +kernel
theorem d3_139 : decode method_5_code 139 = .ok (.iadd, 1) := by decide +kernel
theorem d3_140 : decode method_5_code 140 = .ok (.iaload, 1) := by decide +kernel
theorem d3_141 : decode method_5_code 141 = .ok (.iload 8, 2) := by decide +kernel
theorem d3_143 : decode method_5_code 143 = .ok (.iconst 1, 1) := by decide +kernel
theorem d3_144 : decode method_5_code 144 = .ok (.iadd, 1) := by decide +kernel
theorem d3_145 : decode method_5_code 145 = .ok (.if_icmp .eq 5, 3) := by decide +kernel
theorem d3_148 : decode method_5_code 148 = .ok (.iconst 0, 1) := by decide +kernel
theorem d3_149 : decode method_5_code 149 = .ok (.ireturn, 1) := by decide +kernel
theorem d3_150 : decode method_5_code 150 = .ok (.iconst 1, 1) := by decide +kernel
theorem d3_151 : decode method_5_code 151 = .ok (.ireturn, 1) := by decide +kernel
theorem pn_3 : plainFor (⟨"com/example/cuvette/cuvette/hl7/Er7SplitPinLaw", "piece", "([B[IIBII)Z"⟩ : MethodName) = true := by first | exact plainFor_of_name (by first | (simp [plainName, overriddenIn]; done) | decide +kernel) | decide +kernel
theorem ef_3 (m : MethodId) (x0 : Addr) (x1 : Addr) (x2 : Int32) (x3 : Int32) (x4 : Int32) (x5 : Int32) : entryFrame m #[(.ref x0), (.ref x1), (.int x2), (.int x3), (.int x4), (.int x5)] 9 = mkF m 0 #[.val (.ref x0), .val (.ref x1), .val (.int x2), .val (.int x3), .val (.int x4), .val (.int x5), .unset, .unset, .unset] [] := by first | (simp [entryFrame, mkF, argsToLocals, Value.category, maxLocals]; done) | rfl
def ql (p2 : Int32) (p3 : Int32) (p4 : Int32) (p5 : Int32) (n : Nat) (F : Nat → Int32) (M : Nat) (R : Nat → Int32) : Int32 := (((Int32.ofNat M) / (2 : Int32)) - (1 : Int32))
def qlo (p2 : Int32) (p3 : Int32) (p4 : Int32) (p5 : Int32) (n : Nat) (F : Nat → Int32) (M : Nat) (R : Nat → Int32) : Int32 := (R ((2 : Int32) * p2).toNatClampNeg)
def qhi (p2 : Int32) (p3 : Int32) (p4 : Int32) (p5 : Int32) (n : Nat) (F : Nat → Int32) (M : Nat) (R : Nat → Int32) : Int32 := (R (((2 : Int32) * p2) + (1 : Int32)).toNatClampNeg)
def f3 (p2 : Int32) (p3 : Int32) (p4 : Int32) (p5 : Int32) (n : Nat) (F : Nat → Int32) (M : Nat) (R : Nat → Int32) : Int32 := (if (ql p2 p3 p4 p5 n F M R) < p2 then (1 : Int32) else (if (qlo p2 p3 p4 p5 n F M R) < p4 then (0 : Int32) else (if (qhi p2 p3 p4 p5 n F M R) < (qlo p2 p3 p4 p5 n F M R) then (0 : Int32) else (if p5 < (qhi p2 p3 p4 p5 n F M R) then (0 : Int32) else (if (f4 (qlo p2 p3 p4 p5 n F M R) (qhi p2 p3 p4 p5 n F M R) (0 : Int32) p3 F) = (0 : Int32) then (if (f4 (qlo p2 p3 p4 p5 n F M R) (qhi p2 p3 p4 p5 n F M R) (1 : Int32) p3 F) = (0 : Int32) then (if (f4 (qlo p2 p3 p4 p5 n F M R) (qhi p2 p3 p4 p5 n F M R) (2 : Int32) p3 F) = (0 : Int32) then (if (f4 (qlo p2 p3 p4 p5 n F M R) (qhi p2 p3 p4 p5 n F M R) (3 : Int32) p3 F) = (0 : Int32) then (if p2 < (ql p2 p3 p4 p5 n F M R) then (if (qhi p2 p3 p4 p5 n F M R) < p5 then (if (F (qhi p2 p3 p4 p5 n F M R).toNatClampNeg) = p3 then (if (R (((2 : Int32) * p2) + (2 : Int32)).toNatClampNeg) = ((qhi p2 p3 p4 p5 n F M R) + (1 : Int32)) then (1 : Int32) else (0 : Int32)) else (0 : Int32)) else (0 : Int32)) else (1 : Int32)) else (0 : Int32)) else (0 : Int32)) else (0 : Int32)) else (0 : Int32))))))
set_option maxRecDepth 65536 in
set_option maxHeartbeats 40000000 in
theorem rm3 (l : Launch) (Z : State) (a0 : Array Value) (hw : ∀ d ∈ tables_1, d.before a0 Z = true) (ws : List Jvm.Cond) (o0 : Addr) (o1 : Addr) (p2 : Int32) (p3 : Int32) (p4 : Int32) (p5 : Int32) (n : Nat) (F : Nat → Int32) (M : Nat) (R : Nat → Int32) (h0 : Heap) (n0 : Nat) (A_o0 : own_A Z h0 o0 .byte n F) (A_o1 : own_A Z h0 o1 .int M R) (hk0 : 0 ≤ p2.toInt) (hk4 : p2.toInt ≤ 4) (hM : M ≤ 10) (hst : ¬ p4 < 0) (hen : p5.toNatClampNeg ≤ n) (hn : n = 4) :
    MetFree l (⟨"com/example/cuvette/cuvette/hl7/Er7SplitPinLaw", "piece", "([B[IIBII)Z"⟩ : MethodName) (head1 (Jvm.Cond.code (⟨"com/example/cuvette/cuvette/hl7/Er7SplitPinLaw", "piece", "([B[IIBII)Z"⟩ : MethodName) method_5_code 9 (some .boolean) :: ws) ({ frames := 1, cells := 0, slots := 0, locals := 20 } : Room)) (fun a U => a = #[(.ref o0), (.ref o1), (.int p2), (.int p3), (.int p4), (.int p5)] ∧ Z.Warmed39 U.vm ∧ U.heap = h0) (fun _ _ _ _ _ => True) (fun _ U o U' => ∃ v L, o = .returned v ∧ own_GI n0 (fun h => h = h0) (f3 p2 p3 p4 p5 n F M R) v U'.heap L ∧ FrameEnd U o U' L ({ frames := 1, cells := 0, slots := 0, locals := 20 } : Room).cells ({ frames := 1, cells := 0, slots := 0, locals := 20 } : Room).slots) := by
  refine MetFree.of_bodySF pn_3 hisR ?_
  intro p e s m args below meth c s₁ Bd hml0 hP hK
  obtain ⟨rfl, hZ, hh⟩ := hP
  have hx := Bd.exec
  have hby := Bd.bytes
  have hml : c.maxLocals = 9 := hml0
  have hown : s.vm.findClass "com/example/cuvette/cuvette/hl7/Er7SplitPinLaw" = some m.cls := findClass_of_methodNamed Bd.named
  have hlk : meth.locks = false := BodyLoose.notSynchronized Bd
  have X0 : Stand p l e ({ frames := 1, cells := 0, slots := 0, locals := 20 } : Room) s m #[(.ref o0), (.ref o1), (.int p2), (.int p3), (.int p4), (.int p5)] below meth c s₁ [] 0 0 := Stand.of_body Bd
  have e0 : s₁.heap = h0 := by rw [← hh, Bd.state]; rfl
  have N0 := Fr.nil n0
  show own_W p e below s 0 0 (own_GI n0 (fun h => h = h0) (f3 p2 p3 p4 p5 n F M R)) s₁ (entryFrame m #[(.ref o0), (.ref o1), (.int p2), (.int p3), (.int p4), (.int p5)] 9)
  refine own_to (ef_3 m o0 o1 p2 p3 p4 p5) ?_
  unfold f3
  refine own_st (T' := s₁) (f' := (mkF m 1 #[.val (.ref o0), .val (.ref o1), .val (.int p2), .val (.int p3), .val (.int p4), .val (.int p5), .unset, .unset, .unset] [(.ref o1)])) ?_ (fun t q => XS.aloadN X0.here hx rfl (hb hby d3_0) rfl rfl q)
  refine own_alen X0 hx hZ (own_A.eq A_o1 e0) (hb hby d3_1) ?_
  show own_W _ _ _ _ _ _ _ s₁ (mkF m 2 #[.val (.ref o0), .val (.ref o1), .val (.int p2), .val (.int p3), .val (.int p4), .val (.int p5), .unset, .unset, .unset] [(.int (Int32.ofNat M))])
  refine own_st (T' := s₁) (f' := (mkF m 3 #[.val (.ref o0), .val (.ref o1), .val (.int p2), .val (.int p3), .val (.int p4), .val (.int p5), .unset, .unset, .unset] [(.int (2 : Int32)), (.int (Int32.ofNat M))])) ?_ (fun t q => XS.iconst X0.here hx rfl (hb hby d3_2) q)
  refine own_st (T' := s₁) (f' := (mkF m 4 #[.val (.ref o0), .val (.ref o1), .val (.int p2), .val (.int p3), .val (.int p4), .val (.int p5), .unset, .unset, .unset] [(.int ((Int32.ofNat M) / (2 : Int32)))])) ?_ (fun t q => XS.idiv X0.here hx rfl (hb hby d3_3) rfl (by decide) q)
  refine own_st (T' := s₁) (f' := (mkF m 5 #[.val (.ref o0), .val (.ref o1), .val (.int p2), .val (.int p3), .val (.int p4), .val (.int p5), .unset, .unset, .unset] [(.int (1 : Int32)), (.int ((Int32.ofNat M) / (2 : Int32)))])) ?_ (fun t q => XS.iconst X0.here hx rfl (hb hby d3_4) q)
  refine own_st (T' := s₁) (f' := (mkF m 6 #[.val (.ref o0), .val (.ref o1), .val (.int p2), .val (.int p3), .val (.int p4), .val (.int p5), .unset, .unset, .unset] [(.int (((Int32.ofNat M) / (2 : Int32)) - (1 : Int32)))])) ?_ (fun t q => XS.isub X0.here hx rfl (hb hby d3_5) rfl q)
  refine own_st (T' := s₁) (f' := (mkF m 8 #[.val (.ref o0), .val (.ref o1), .val (.int p2), .val (.int p3), .val (.int p4), .val (.int p5), .val (.int (ql p2 p3 p4 p5 n F M R)), .unset, .unset] [])) ?_ (fun t q => XS.istore X0.here hx rfl (hb hby d3_6) rfl (l' := #[.val (.ref o0), .val (.ref o1), .val (.int p2), .val (.int p3), .val (.int p4), .val (.int p5), .val (.int (ql p2 p3 p4 p5 n F M R)), .unset, .unset]) rfl q)
  refine own_st (T' := s₁) (f' := (mkF m 9 #[.val (.ref o0), .val (.ref o1), .val (.int p2), .val (.int p3), .val (.int p4), .val (.int p5), .val (.int (ql p2 p3 p4 p5 n F M R)), .unset, .unset] [(.int p2)])) ?_ (fun t q => XS.iloadN X0.here hx rfl (hb hby d3_8) rfl q)
  refine own_st (T' := s₁) (f' := (mkF m 11 #[.val (.ref o0), .val (.ref o1), .val (.int p2), .val (.int p3), .val (.int p4), .val (.int p5), .val (.int (ql p2 p3 p4 p5 n F M R)), .unset, .unset] [(.int (ql p2 p3 p4 p5 n F M R)), (.int p2)])) ?_ (fun t q => XS.iload X0.here hx rfl (hb hby d3_9) rfl q)
  refine own_ite (fun hc11 => ?_) (fun hc11 => ?_)
  · refine own_st (T' := s₁) (f' := (mkF m 14 #[.val (.ref o0), .val (.ref o1), .val (.int p2), .val (.int p3), .val (.int p4), .val (.int p5), .val (.int (ql p2 p3 p4 p5 n F M R)), .unset, .unset] [])) ?_ (fun t q => XS.icmpNo X0.here hx rfl (hb hby d3_11) rfl (tlt hc11).2.2.2 q)
    refine own_st (T' := s₁) (f' := (mkF m 15 #[.val (.ref o0), .val (.ref o1), .val (.int p2), .val (.int p3), .val (.int p4), .val (.int p5), .val (.int (ql p2 p3 p4 p5 n F M R)), .unset, .unset] [(.int (1 : Int32))])) ?_ (fun t q => XS.iconst X0.here hx rfl (hb hby d3_14) q)
    exact own_retN X0 hx hlk (t := .boolean) Bd.returns (by simp) (hb hby d3_15) (by decide) (by decide) ⟨rfl, N0, e0⟩
  · refine own_st (T' := s₁) (f' := (mkF m 16 #[.val (.ref o0), .val (.ref o1), .val (.int p2), .val (.int p3), .val (.int p4), .val (.int p5), .val (.int (ql p2 p3 p4 p5 n F M R)), .unset, .unset] [])) ?_ (fun t q => XS.icmpYes X0.here hx rfl (pc0 := 11) (pc' := 16) rfl (hb hby d3_11) rfl (flt hc11).2.2.2 (by decide) (by decide) q)
    refine own_st (T' := s₁) (f' := (mkF m 17 #[.val (.ref o0), .val (.ref o1), .val (.int p2), .val (.int p3), .val (.int p4), .val (.int p5), .val (.int (ql p2 p3 p4 p5 n F M R)), .unset, .unset] [(.ref o1)])) ?_ (fun t q => XS.aloadN X0.here hx rfl (hb hby d3_16) rfl rfl q)
    refine own_st (T' := s₁) (f' := (mkF m 18 #[.val (.ref o0), .val (.ref o1), .val (.int p2), .val (.int p3), .val (.int p4), .val (.int p5), .val (.int (ql p2 p3 p4 p5 n F M R)), .unset, .unset] [(.int (2 : Int32)), (.ref o1)])) ?_ (fun t q => XS.iconst X0.here hx rfl (hb hby d3_17) q)
    refine own_st (T' := s₁) (f' := (mkF m 19 #[.val (.ref o0), .val (.ref o1), .val (.int p2), .val (.int p3), .val (.int p4), .val (.int p5), .val (.int (ql p2 p3 p4 p5 n F M R)), .unset, .unset] [(.int p2), (.int (2 : Int32)), (.ref o1)])) ?_ (fun t q => XS.iloadN X0.here hx rfl (hb hby d3_18) rfl q)
    refine own_st (T' := s₁) (f' := (mkF m 20 #[.val (.ref o0), .val (.ref o1), .val (.int p2), .val (.int p3), .val (.int p4), .val (.int p5), .val (.int (ql p2 p3 p4 p5 n F M R)), .unset, .unset] [(.int ((2 : Int32) * p2)), (.ref o1)])) ?_ (fun t q => XS.imul X0.here hx rfl (hb hby d3_19) rfl q)
    refine own_iald X0 hx hZ (own_A.eq A_o1 e0) (j := ((2 : Int32) * p2)) (own_pa hM hk0 hk4 hc11) (hb hby d3_20) ?_
    show own_W _ _ _ _ _ _ _ s₁ (mkF m 21 #[.val (.ref o0), .val (.ref o1), .val (.int p2), .val (.int p3), .val (.int p4), .val (.int p5), .val (.int (ql p2 p3 p4 p5 n F M R)), .unset, .unset] [(.int (R ((2 : Int32) * p2).toNatClampNeg))])
    refine own_st (T' := s₁) (f' := (mkF m 23 #[.val (.ref o0), .val (.ref o1), .val (.int p2), .val (.int p3), .val (.int p4), .val (.int p5), .val (.int (ql p2 p3 p4 p5 n F M R)), .val (.int (qlo p2 p3 p4 p5 n F M R)), .unset] [])) ?_ (fun t q => XS.istore X0.here hx rfl (hb hby d3_21) rfl (l' := #[.val (.ref o0), .val (.ref o1), .val (.int p2), .val (.int p3), .val (.int p4), .val (.int p5), .val (.int (ql p2 p3 p4 p5 n F M R)), .val (.int (qlo p2 p3 p4 p5 n F M R)), .unset]) rfl q)
    refine own_st (T' := s₁) (f' := (mkF m 24 #[.val (.ref o0), .val (.ref o1), .val (.int p2), .val (.int p3), .val (.int p4), .val (.int p5), .val (.int (ql p2 p3 p4 p5 n F M R)), .val (.int (qlo p2 p3 p4 p5 n F M R)), .unset] [(.ref o1)])) ?_ (fun t q => XS.aloadN X0.here hx rfl (hb hby d3_23) rfl rfl q)
    refine own_st (T' := s₁) (f' := (mkF m 25 #[.val (.ref o0), .val (.ref o1), .val (.int p2), .val (.int p3), .val (.int p4), .val (.int p5), .val (.int (ql p2 p3 p4 p5 n F M R)), .val (.int (qlo p2 p3 p4 p5 n F M R)), .unset] [(.int (2 : Int32)), (.ref o1)])) ?_ (fun t q => XS.iconst X0.here hx rfl (hb hby d3_24) q)
    refine own_st (T' := s₁) (f' := (mkF m 26 #[.val (.ref o0), .val (.ref o1), .val (.int p2), .val (.int p3), .val (.int p4), .val (.int p5), .val (.int (ql p2 p3 p4 p5 n F M R)), .val (.int (qlo p2 p3 p4 p5 n F M R)), .unset] [(.int p2), (.int (2 : Int32)), (.ref o1)])) ?_ (fun t q => XS.iloadN X0.here hx rfl (hb hby d3_25) rfl q)
    refine own_st (T' := s₁) (f' := (mkF m 27 #[.val (.ref o0), .val (.ref o1), .val (.int p2), .val (.int p3), .val (.int p4), .val (.int p5), .val (.int (ql p2 p3 p4 p5 n F M R)), .val (.int (qlo p2 p3 p4 p5 n F M R)), .unset] [(.int ((2 : Int32) * p2)), (.ref o1)])) ?_ (fun t q => XS.imul X0.here hx rfl (hb hby d3_26) rfl q)
    refine own_st (T' := s₁) (f' := (mkF m 28 #[.val (.ref o0), .val (.ref o1), .val (.int p2), .val (.int p3), .val (.int p4), .val (.int p5), .val (.int (ql p2 p3 p4 p5 n F M R)), .val (.int (qlo p2 p3 p4 p5 n F M R)), .unset] [(.int (1 : Int32)), (.int ((2 : Int32) * p2)), (.ref o1)])) ?_ (fun t q => XS.iconst X0.here hx rfl (hb hby d3_27) q)
    refine own_st (T' := s₁) (f' := (mkF m 29 #[.val (.ref o0), .val (.ref o1), .val (.int p2), .val (.int p3), .val (.int p4), .val (.int p5), .val (.int (ql p2 p3 p4 p5 n F M R)), .val (.int (qlo p2 p3 p4 p5 n F M R)), .unset] [(.int (((2 : Int32) * p2) + (1 : Int32))), (.ref o1)])) ?_ (fun t q => XS.iadd X0.here hx rfl (hb hby d3_28) rfl q)
    refine own_iald X0 hx hZ (own_A.eq A_o1 e0) (j := (((2 : Int32) * p2) + (1 : Int32))) (own_pb hM hk0 hk4 hc11) (hb hby d3_29) ?_
    show own_W _ _ _ _ _ _ _ s₁ (mkF m 30 #[.val (.ref o0), .val (.ref o1), .val (.int p2), .val (.int p3), .val (.int p4), .val (.int p5), .val (.int (ql p2 p3 p4 p5 n F M R)), .val (.int (qlo p2 p3 p4 p5 n F M R)), .unset] [(.int (R (((2 : Int32) * p2) + (1 : Int32)).toNatClampNeg))])
    refine own_st (T' := s₁) (f' := (mkF m 32 #[.val (.ref o0), .val (.ref o1), .val (.int p2), .val (.int p3), .val (.int p4), .val (.int p5), .val (.int (ql p2 p3 p4 p5 n F M R)), .val (.int (qlo p2 p3 p4 p5 n F M R)), .val (.int (qhi p2 p3 p4 p5 n F M R))] [])) ?_ (fun t q => XS.istore X0.here hx rfl (hb hby d3_30) rfl (l' := #[.val (.ref o0), .val (.ref o1), .val (.int p2), .val (.int p3), .val (.int p4), .val (.int p5), .val (.int (ql p2 p3 p4 p5 n F M R)), .val (.int (qlo p2 p3 p4 p5 n F M R)), .val (.int (qhi p2 p3 p4 p5 n F M R))]) rfl q)
    refine own_st (T' := s₁) (f' := (mkF m 34 #[.val (.ref o0), .val (.ref o1), .val (.int p2), .val (.int p3), .val (.int p4), .val (.int p5), .val (.int (ql p2 p3 p4 p5 n F M R)), .val (.int (qlo p2 p3 p4 p5 n F M R)), .val (.int (qhi p2 p3 p4 p5 n F M R))] [(.int (qlo p2 p3 p4 p5 n F M R))])) ?_ (fun t q => XS.iload X0.here hx rfl (hb hby d3_32) rfl q)
    refine own_st (T' := s₁) (f' := (mkF m 36 #[.val (.ref o0), .val (.ref o1), .val (.int p2), .val (.int p3), .val (.int p4), .val (.int p5), .val (.int (ql p2 p3 p4 p5 n F M R)), .val (.int (qlo p2 p3 p4 p5 n F M R)), .val (.int (qhi p2 p3 p4 p5 n F M R))] [(.int p4), (.int (qlo p2 p3 p4 p5 n F M R))])) ?_ (fun t q => XS.iload X0.here hx rfl (hb hby d3_34) rfl q)
    refine own_ite (fun hc36 => ?_) (fun hc36 => ?_)
    · refine own_st (T' := s₁) (f' := (mkF m 53 #[.val (.ref o0), .val (.ref o1), .val (.int p2), .val (.int p3), .val (.int p4), .val (.int p5), .val (.int (ql p2 p3 p4 p5 n F M R)), .val (.int (qlo p2 p3 p4 p5 n F M R)), .val (.int (qhi p2 p3 p4 p5 n F M R))] [])) ?_ (fun t q => XS.icmpYes X0.here hx rfl (pc0 := 36) (pc' := 53) rfl (hb hby d3_36) rfl (tlt hc36).1 (by decide) (by decide) q)
      refine own_st (T' := s₁) (f' := (mkF m 54 #[.val (.ref o0), .val (.ref o1), .val (.int p2), .val (.int p3), .val (.int p4), .val (.int p5), .val (.int (ql p2 p3 p4 p5 n F M R)), .val (.int (qlo p2 p3 p4 p5 n F M R)), .val (.int (qhi p2 p3 p4 p5 n F M R))] [(.int (0 : Int32))])) ?_ (fun t q => XS.iconst X0.here hx rfl (hb hby d3_53) q)
      exact own_retN X0 hx hlk (t := .boolean) Bd.returns (by simp) (hb hby d3_54) (by decide) (by decide) ⟨rfl, N0, e0⟩
    · refine own_st (T' := s₁) (f' := (mkF m 39 #[.val (.ref o0), .val (.ref o1), .val (.int p2), .val (.int p3), .val (.int p4), .val (.int p5), .val (.int (ql p2 p3 p4 p5 n F M R)), .val (.int (qlo p2 p3 p4 p5 n F M R)), .val (.int (qhi p2 p3 p4 p5 n F M R))] [])) ?_ (fun t q => XS.icmpNo X0.here hx rfl (hb hby d3_36) rfl (flt hc36).1 q)
      refine own_st (T' := s₁) (f' := (mkF m 41 #[.val (.ref o0), .val (.ref o1), .val (.int p2), .val (.int p3), .val (.int p4), .val (.int p5), .val (.int (ql p2 p3 p4 p5 n F M R)), .val (.int (qlo p2 p3 p4 p5 n F M R)), .val (.int (qhi p2 p3 p4 p5 n F M R))] [(.int (qlo p2 p3 p4 p5 n F M R))])) ?_ (fun t q => XS.iload X0.here hx rfl (hb hby d3_39) rfl q)
      refine own_st (T' := s₁) (f' := (mkF m 43 #[.val (.ref o0), .val (.ref o1), .val (.int p2), .val (.int p3), .val (.int p4), .val (.int p5), .val (.int (ql p2 p3 p4 p5 n F M R)), .val (.int (qlo p2 p3 p4 p5 n F M R)), .val (.int (qhi p2 p3 p4 p5 n F M R))] [(.int (qhi p2 p3 p4 p5 n F M R)), (.int (qlo p2 p3 p4 p5 n F M R))])) ?_ (fun t q => XS.iload X0.here hx rfl (hb hby d3_41) rfl q)
      refine own_ite (fun hc43 => ?_) (fun hc43 => ?_)
      · refine own_st (T' := s₁) (f' := (mkF m 53 #[.val (.ref o0), .val (.ref o1), .val (.int p2), .val (.int p3), .val (.int p4), .val (.int p5), .val (.int (ql p2 p3 p4 p5 n F M R)), .val (.int (qlo p2 p3 p4 p5 n F M R)), .val (.int (qhi p2 p3 p4 p5 n F M R))] [])) ?_ (fun t q => XS.icmpYes X0.here hx rfl (pc0 := 43) (pc' := 53) rfl (hb hby d3_43) rfl (tlt hc43).2.2.1 (by decide) (by decide) q)
        refine own_st (T' := s₁) (f' := (mkF m 54 #[.val (.ref o0), .val (.ref o1), .val (.int p2), .val (.int p3), .val (.int p4), .val (.int p5), .val (.int (ql p2 p3 p4 p5 n F M R)), .val (.int (qlo p2 p3 p4 p5 n F M R)), .val (.int (qhi p2 p3 p4 p5 n F M R))] [(.int (0 : Int32))])) ?_ (fun t q => XS.iconst X0.here hx rfl (hb hby d3_53) q)
        exact own_retN X0 hx hlk (t := .boolean) Bd.returns (by simp) (hb hby d3_54) (by decide) (by decide) ⟨rfl, N0, e0⟩
      · refine own_st (T' := s₁) (f' := (mkF m 46 #[.val (.ref o0), .val (.ref o1), .val (.int p2), .val (.int p3), .val (.int p4), .val (.int p5), .val (.int (ql p2 p3 p4 p5 n F M R)), .val (.int (qlo p2 p3 p4 p5 n F M R)), .val (.int (qhi p2 p3 p4 p5 n F M R))] [])) ?_ (fun t q => XS.icmpNo X0.here hx rfl (hb hby d3_43) rfl (flt hc43).2.2.1 q)
        refine own_st (T' := s₁) (f' := (mkF m 48 #[.val (.ref o0), .val (.ref o1), .val (.int p2), .val (.int p3), .val (.int p4), .val (.int p5), .val (.int (ql p2 p3 p4 p5 n F M R)), .val (.int (qlo p2 p3 p4 p5 n F M R)), .val (.int (qhi p2 p3 p4 p5 n F M R))] [(.int (qhi p2 p3 p4 p5 n F M R))])) ?_ (fun t q => XS.iload X0.here hx rfl (hb hby d3_46) rfl q)
        refine own_st (T' := s₁) (f' := (mkF m 50 #[.val (.ref o0), .val (.ref o1), .val (.int p2), .val (.int p3), .val (.int p4), .val (.int p5), .val (.int (ql p2 p3 p4 p5 n F M R)), .val (.int (qlo p2 p3 p4 p5 n F M R)), .val (.int (qhi p2 p3 p4 p5 n F M R))] [(.int p5), (.int (qhi p2 p3 p4 p5 n F M R))])) ?_ (fun t q => XS.iload X0.here hx rfl (hb hby d3_48) rfl q)
        refine own_ite (fun hc50 => ?_) (fun hc50 => ?_)
        · refine own_st (T' := s₁) (f' := (mkF m 53 #[.val (.ref o0), .val (.ref o1), .val (.int p2), .val (.int p3), .val (.int p4), .val (.int p5), .val (.int (ql p2 p3 p4 p5 n F M R)), .val (.int (qlo p2 p3 p4 p5 n F M R)), .val (.int (qhi p2 p3 p4 p5 n F M R))] [])) ?_ (fun t q => XS.icmpNo X0.here hx rfl (hb hby d3_50) rfl (tlt hc50).2.2.2 q)
          refine own_st (T' := s₁) (f' := (mkF m 54 #[.val (.ref o0), .val (.ref o1), .val (.int p2), .val (.int p3), .val (.int p4), .val (.int p5), .val (.int (ql p2 p3 p4 p5 n F M R)), .val (.int (qlo p2 p3 p4 p5 n F M R)), .val (.int (qhi p2 p3 p4 p5 n F M R))] [(.int (0 : Int32))])) ?_ (fun t q => XS.iconst X0.here hx rfl (hb hby d3_53) q)
          exact own_retN X0 hx hlk (t := .boolean) Bd.returns (by simp) (hb hby d3_54) (by decide) (by decide) ⟨rfl, N0, e0⟩
        · refine own_st (T' := s₁) (f' := (mkF m 55 #[.val (.ref o0), .val (.ref o1), .val (.int p2), .val (.int p3), .val (.int p4), .val (.int p5), .val (.int (ql p2 p3 p4 p5 n F M R)), .val (.int (qlo p2 p3 p4 p5 n F M R)), .val (.int (qhi p2 p3 p4 p5 n F M R))] [])) ?_ (fun t q => XS.icmpYes X0.here hx rfl (pc0 := 50) (pc' := 55) rfl (hb hby d3_50) rfl (flt hc50).2.2.2 (by decide) (by decide) q)
          refine own_st (T' := s₁) (f' := (mkF m 56 #[.val (.ref o0), .val (.ref o1), .val (.int p2), .val (.int p3), .val (.int p4), .val (.int p5), .val (.int (ql p2 p3 p4 p5 n F M R)), .val (.int (qlo p2 p3 p4 p5 n F M R)), .val (.int (qhi p2 p3 p4 p5 n F M R))] [(.ref o0)])) ?_ (fun t q => XS.aloadN X0.here hx rfl (hb hby d3_55) rfl rfl q)
          refine own_st (T' := s₁) (f' := (mkF m 58 #[.val (.ref o0), .val (.ref o1), .val (.int p2), .val (.int p3), .val (.int p4), .val (.int p5), .val (.int (ql p2 p3 p4 p5 n F M R)), .val (.int (qlo p2 p3 p4 p5 n F M R)), .val (.int (qhi p2 p3 p4 p5 n F M R))] [(.int (qlo p2 p3 p4 p5 n F M R)), (.ref o0)])) ?_ (fun t q => XS.iload X0.here hx rfl (hb hby d3_56) rfl q)
          refine own_st (T' := s₁) (f' := (mkF m 60 #[.val (.ref o0), .val (.ref o1), .val (.int p2), .val (.int p3), .val (.int p4), .val (.int p5), .val (.int (ql p2 p3 p4 p5 n F M R)), .val (.int (qlo p2 p3 p4 p5 n F M R)), .val (.int (qhi p2 p3 p4 p5 n F M R))] [(.int (qhi p2 p3 p4 p5 n F M R)), (.int (qlo p2 p3 p4 p5 n F M R)), (.ref o0)])) ?_ (fun t q => XS.iload X0.here hx rfl (hb hby d3_58) rfl q)
          refine own_st (T' := s₁) (f' := (mkF m 61 #[.val (.ref o0), .val (.ref o1), .val (.int p2), .val (.int p3), .val (.int p4), .val (.int p5), .val (.int (ql p2 p3 p4 p5 n F M R)), .val (.int (qlo p2 p3 p4 p5 n F M R)), .val (.int (qhi p2 p3 p4 p5 n F M R))] [(.int (0 : Int32)), (.int (qhi p2 p3 p4 p5 n F M R)), (.int (qlo p2 p3 p4 p5 n F M R)), (.ref o0)])) ?_ (fun t q => XS.iconst X0.here hx rfl (hb hby d3_60) q)
          refine own_st (T' := s₁) (f' := (mkF m 62 #[.val (.ref o0), .val (.ref o1), .val (.int p2), .val (.int p3), .val (.int p4), .val (.int p5), .val (.int (ql p2 p3 p4 p5 n F M R)), .val (.int (qlo p2 p3 p4 p5 n F M R)), .val (.int (qhi p2 p3 p4 p5 n F M R))] [(.int p3), (.int (0 : Int32)), (.int (qhi p2 p3 p4 p5 n F M R)), (.int (qlo p2 p3 p4 p5 n F M R)), (.ref o0)])) ?_ (fun t q => XS.iloadN X0.here hx rfl (hb hby d3_61) rfl q)
          obtain ⟨_, _, ⟨T1, L1, k1, n1⟩, -, X1, ⟨Lc1, hQ1, l1, y1, z1⟩, st1⟩ := Jvm.LawKit.callS X0 hx (y := (⟨"com/example/cuvette/cuvette/hl7/Er7SplitPinLaw", "sepIn", "([BIIIB)Z"⟩ : MethodName)) hown (mvT hZ (hw _ (List.mem_of_getElem? (i := 14) rfl))) (mvT hZ (hw _ (List.mem_of_getElem? (i := 15) rfl))) (mvT hZ (hw _ (List.mem_of_getElem? (i := 4) rfl))) (mvT hZ (hw _ (List.mem_of_getElem? (i := 16) rfl))) (by decide) (backOf (W := 0) (rm4 l Z a0 hw [] o0 (qlo p2 p3 p4 p5 n F M R) (qhi p2 p3 p4 p5 n F M R) (0 : Int32) p3 n F h0 n0 A_o0 ⟨by decide, by rw [hn]; decide⟩) hZ (hw _ (List.mem_of_getElem? (i := 16) rfl)) (hw _ (List.mem_of_getElem? (i := 4) rfl)) (by decide) (by decide)) (g := (mkF m 62 #[.val (.ref o0), .val (.ref o1), .val (.int p2), .val (.int p3), .val (.int p4), .val (.int p5), .val (.int (ql p2 p3 p4 p5 n F M R)), .val (.int (qlo p2 p3 p4 p5 n F M R)), .val (.int (qhi p2 p3 p4 p5 n F M R))] [(.int p3), (.int (0 : Int32)), (.int (qhi p2 p3 p4 p5 n F M R)), (.int (qlo p2 p3 p4 p5 n F M R)), (.ref o0)])) rfl (by rw [hml]; rfl) (argsL := [(.ref o0), (.int (qlo p2 p3 p4 p5 n F M R)), (.int (qhi p2 p3 p4 p5 n F M R)), (.int (0 : Int32)), (.int p3)]) (rest := []) (lenOf pd_0 rfl) rfl (by show 2 * 0 + _ ≤ _; exact Nat.le_of_eq rfl) (hb hby d3_62) (fun _ _ => ⟨rfl, e0, (Nat.le_of_ble_eq_true rfl), (Nat.le_of_ble_eq_true rfl)⟩)
          dsimp only [Pt.U, Pt.locs, Pt.cells, Pt.slots] at X1 l1 y1 z1 st1 hQ1
          subst l1 y1 z1
          obtain ⟨rfl, N1q, e1⟩ := hQ1
          have N1 := Fr.app N0 N1q
          refine own_st (T' := T1) (f' := (mkF m 65 #[.val (.ref o0), .val (.ref o1), .val (.int p2), .val (.int p3), .val (.int p4), .val (.int p5), .val (.int (ql p2 p3 p4 p5 n F M R)), .val (.int (qlo p2 p3 p4 p5 n F M R)), .val (.int (qhi p2 p3 p4 p5 n F M R))] [(.int (f4 (qlo p2 p3 p4 p5 n F M R) (qhi p2 p3 p4 p5 n F M R) (0 : Int32) p3 F))])) ?_ (fun t q => st1 _ q)
          refine own_ite (fun hc65 => ?_) (fun hc65 => ?_)
          · refine own_st (T' := T1) (f' := (mkF m 68 #[.val (.ref o0), .val (.ref o1), .val (.int p2), .val (.int p3), .val (.int p4), .val (.int p5), .val (.int (ql p2 p3 p4 p5 n F M R)), .val (.int (qlo p2 p3 p4 p5 n F M R)), .val (.int (qhi p2 p3 p4 p5 n F M R))] [])) ?_ (fun t q => XS.ifNo X1.here hx rfl (hb hby d3_65) rfl ((if0 _ _).trans (teq hc65).2) q)
            refine own_st (T' := T1) (f' := (mkF m 69 #[.val (.ref o0), .val (.ref o1), .val (.int p2), .val (.int p3), .val (.int p4), .val (.int p5), .val (.int (ql p2 p3 p4 p5 n F M R)), .val (.int (qlo p2 p3 p4 p5 n F M R)), .val (.int (qhi p2 p3 p4 p5 n F M R))] [(.ref o0)])) ?_ (fun t q => XS.aloadN X1.here hx rfl (hb hby d3_68) rfl rfl q)
            refine own_st (T' := T1) (f' := (mkF m 71 #[.val (.ref o0), .val (.ref o1), .val (.int p2), .val (.int p3), .val (.int p4), .val (.int p5), .val (.int (ql p2 p3 p4 p5 n F M R)), .val (.int (qlo p2 p3 p4 p5 n F M R)), .val (.int (qhi p2 p3 p4 p5 n F M R))] [(.int (qlo p2 p3 p4 p5 n F M R)), (.ref o0)])) ?_ (fun t q => XS.iload X1.here hx rfl (hb hby d3_69) rfl q)
            refine own_st (T' := T1) (f' := (mkF m 73 #[.val (.ref o0), .val (.ref o1), .val (.int p2), .val (.int p3), .val (.int p4), .val (.int p5), .val (.int (ql p2 p3 p4 p5 n F M R)), .val (.int (qlo p2 p3 p4 p5 n F M R)), .val (.int (qhi p2 p3 p4 p5 n F M R))] [(.int (qhi p2 p3 p4 p5 n F M R)), (.int (qlo p2 p3 p4 p5 n F M R)), (.ref o0)])) ?_ (fun t q => XS.iload X1.here hx rfl (hb hby d3_71) rfl q)
            refine own_st (T' := T1) (f' := (mkF m 74 #[.val (.ref o0), .val (.ref o1), .val (.int p2), .val (.int p3), .val (.int p4), .val (.int p5), .val (.int (ql p2 p3 p4 p5 n F M R)), .val (.int (qlo p2 p3 p4 p5 n F M R)), .val (.int (qhi p2 p3 p4 p5 n F M R))] [(.int (1 : Int32)), (.int (qhi p2 p3 p4 p5 n F M R)), (.int (qlo p2 p3 p4 p5 n F M R)), (.ref o0)])) ?_ (fun t q => XS.iconst X1.here hx rfl (hb hby d3_73) q)
            refine own_st (T' := T1) (f' := (mkF m 75 #[.val (.ref o0), .val (.ref o1), .val (.int p2), .val (.int p3), .val (.int p4), .val (.int p5), .val (.int (ql p2 p3 p4 p5 n F M R)), .val (.int (qlo p2 p3 p4 p5 n F M R)), .val (.int (qhi p2 p3 p4 p5 n F M R))] [(.int p3), (.int (1 : Int32)), (.int (qhi p2 p3 p4 p5 n F M R)), (.int (qlo p2 p3 p4 p5 n F M R)), (.ref o0)])) ?_ (fun t q => XS.iloadN X1.here hx rfl (hb hby d3_74) rfl q)
            obtain ⟨_, _, ⟨T2, L2, k2, n2⟩, -, X2, ⟨Lc2, hQ2, l2, y2, z2⟩, st2⟩ := Jvm.LawKit.callS X1 hx (y := (⟨"com/example/cuvette/cuvette/hl7/Er7SplitPinLaw", "sepIn", "([BIIIB)Z"⟩ : MethodName)) hown (mvT hZ (hw _ (List.mem_of_getElem? (i := 14) rfl))) (mvT hZ (hw _ (List.mem_of_getElem? (i := 15) rfl))) (mvT hZ (hw _ (List.mem_of_getElem? (i := 4) rfl))) (mvT hZ (hw _ (List.mem_of_getElem? (i := 16) rfl))) (by decide) (backOf (W := 0) (rm4 l Z a0 hw [] o0 (qlo p2 p3 p4 p5 n F M R) (qhi p2 p3 p4 p5 n F M R) (1 : Int32) p3 n F h0 n0 A_o0 ⟨by decide, by rw [hn]; decide⟩) hZ (hw _ (List.mem_of_getElem? (i := 16) rfl)) (hw _ (List.mem_of_getElem? (i := 4) rfl)) (by decide) (by decide)) (g := (mkF m 75 #[.val (.ref o0), .val (.ref o1), .val (.int p2), .val (.int p3), .val (.int p4), .val (.int p5), .val (.int (ql p2 p3 p4 p5 n F M R)), .val (.int (qlo p2 p3 p4 p5 n F M R)), .val (.int (qhi p2 p3 p4 p5 n F M R))] [(.int p3), (.int (1 : Int32)), (.int (qhi p2 p3 p4 p5 n F M R)), (.int (qlo p2 p3 p4 p5 n F M R)), (.ref o0)])) rfl (by rw [hml]; rfl) (argsL := [(.ref o0), (.int (qlo p2 p3 p4 p5 n F M R)), (.int (qhi p2 p3 p4 p5 n F M R)), (.int (1 : Int32)), (.int p3)]) (rest := []) (lenOf pd_0 rfl) rfl (by show 2 * 0 + _ ≤ _; exact Nat.le_of_eq rfl) (hb hby d3_75) (fun _ _ => ⟨rfl, e1, (Nat.le_of_ble_eq_true rfl), (Nat.le_of_ble_eq_true rfl)⟩)
            dsimp only [Pt.U, Pt.locs, Pt.cells, Pt.slots] at X2 l2 y2 z2 st2 hQ2
            subst l2 y2 z2
            obtain ⟨rfl, N2q, e2⟩ := hQ2
            have N2 := Fr.app N1 N2q
            refine own_st (T' := T2) (f' := (mkF m 78 #[.val (.ref o0), .val (.ref o1), .val (.int p2), .val (.int p3), .val (.int p4), .val (.int p5), .val (.int (ql p2 p3 p4 p5 n F M R)), .val (.int (qlo p2 p3 p4 p5 n F M R)), .val (.int (qhi p2 p3 p4 p5 n F M R))] [(.int (f4 (qlo p2 p3 p4 p5 n F M R) (qhi p2 p3 p4 p5 n F M R) (1 : Int32) p3 F))])) ?_ (fun t q => st2 _ q)
            refine own_ite (fun hc78 => ?_) (fun hc78 => ?_)
            · refine own_st (T' := T2) (f' := (mkF m 81 #[.val (.ref o0), .val (.ref o1), .val (.int p2), .val (.int p3), .val (.int p4), .val (.int p5), .val (.int (ql p2 p3 p4 p5 n F M R)), .val (.int (qlo p2 p3 p4 p5 n F M R)), .val (.int (qhi p2 p3 p4 p5 n F M R))] [])) ?_ (fun t q => XS.ifNo X2.here hx rfl (hb hby d3_78) rfl ((if0 _ _).trans (teq hc78).2) q)
              refine own_st (T' := T2) (f' := (mkF m 82 #[.val (.ref o0), .val (.ref o1), .val (.int p2), .val (.int p3), .val (.int p4), .val (.int p5), .val (.int (ql p2 p3 p4 p5 n F M R)), .val (.int (qlo p2 p3 p4 p5 n F M R)), .val (.int (qhi p2 p3 p4 p5 n F M R))] [(.ref o0)])) ?_ (fun t q => XS.aloadN X2.here hx rfl (hb hby d3_81) rfl rfl q)
              refine own_st (T' := T2) (f' := (mkF m 84 #[.val (.ref o0), .val (.ref o1), .val (.int p2), .val (.int p3), .val (.int p4), .val (.int p5), .val (.int (ql p2 p3 p4 p5 n F M R)), .val (.int (qlo p2 p3 p4 p5 n F M R)), .val (.int (qhi p2 p3 p4 p5 n F M R))] [(.int (qlo p2 p3 p4 p5 n F M R)), (.ref o0)])) ?_ (fun t q => XS.iload X2.here hx rfl (hb hby d3_82) rfl q)
              refine own_st (T' := T2) (f' := (mkF m 86 #[.val (.ref o0), .val (.ref o1), .val (.int p2), .val (.int p3), .val (.int p4), .val (.int p5), .val (.int (ql p2 p3 p4 p5 n F M R)), .val (.int (qlo p2 p3 p4 p5 n F M R)), .val (.int (qhi p2 p3 p4 p5 n F M R))] [(.int (qhi p2 p3 p4 p5 n F M R)), (.int (qlo p2 p3 p4 p5 n F M R)), (.ref o0)])) ?_ (fun t q => XS.iload X2.here hx rfl (hb hby d3_84) rfl q)
              refine own_st (T' := T2) (f' := (mkF m 87 #[.val (.ref o0), .val (.ref o1), .val (.int p2), .val (.int p3), .val (.int p4), .val (.int p5), .val (.int (ql p2 p3 p4 p5 n F M R)), .val (.int (qlo p2 p3 p4 p5 n F M R)), .val (.int (qhi p2 p3 p4 p5 n F M R))] [(.int (2 : Int32)), (.int (qhi p2 p3 p4 p5 n F M R)), (.int (qlo p2 p3 p4 p5 n F M R)), (.ref o0)])) ?_ (fun t q => XS.iconst X2.here hx rfl (hb hby d3_86) q)
              refine own_st (T' := T2) (f' := (mkF m 88 #[.val (.ref o0), .val (.ref o1), .val (.int p2), .val (.int p3), .val (.int p4), .val (.int p5), .val (.int (ql p2 p3 p4 p5 n F M R)), .val (.int (qlo p2 p3 p4 p5 n F M R)), .val (.int (qhi p2 p3 p4 p5 n F M R))] [(.int p3), (.int (2 : Int32)), (.int (qhi p2 p3 p4 p5 n F M R)), (.int (qlo p2 p3 p4 p5 n F M R)), (.ref o0)])) ?_ (fun t q => XS.iloadN X2.here hx rfl (hb hby d3_87) rfl q)
              obtain ⟨_, _, ⟨T3, L3, k3, n3⟩, -, X3, ⟨Lc3, hQ3, l3, y3, z3⟩, st3⟩ := Jvm.LawKit.callS X2 hx (y := (⟨"com/example/cuvette/cuvette/hl7/Er7SplitPinLaw", "sepIn", "([BIIIB)Z"⟩ : MethodName)) hown (mvT hZ (hw _ (List.mem_of_getElem? (i := 14) rfl))) (mvT hZ (hw _ (List.mem_of_getElem? (i := 15) rfl))) (mvT hZ (hw _ (List.mem_of_getElem? (i := 4) rfl))) (mvT hZ (hw _ (List.mem_of_getElem? (i := 16) rfl))) (by decide) (backOf (W := 0) (rm4 l Z a0 hw [] o0 (qlo p2 p3 p4 p5 n F M R) (qhi p2 p3 p4 p5 n F M R) (2 : Int32) p3 n F h0 n0 A_o0 ⟨by decide, by rw [hn]; decide⟩) hZ (hw _ (List.mem_of_getElem? (i := 16) rfl)) (hw _ (List.mem_of_getElem? (i := 4) rfl)) (by decide) (by decide)) (g := (mkF m 88 #[.val (.ref o0), .val (.ref o1), .val (.int p2), .val (.int p3), .val (.int p4), .val (.int p5), .val (.int (ql p2 p3 p4 p5 n F M R)), .val (.int (qlo p2 p3 p4 p5 n F M R)), .val (.int (qhi p2 p3 p4 p5 n F M R))] [(.int p3), (.int (2 : Int32)), (.int (qhi p2 p3 p4 p5 n F M R)), (.int (qlo p2 p3 p4 p5 n F M R)), (.ref o0)])) rfl (by rw [hml]; rfl) (argsL := [(.ref o0), (.int (qlo p2 p3 p4 p5 n F M R)), (.int (qhi p2 p3 p4 p5 n F M R)), (.int (2 : Int32)), (.int p3)]) (rest := []) (lenOf pd_0 rfl) rfl (by show 2 * 0 + _ ≤ _; exact Nat.le_of_eq rfl) (hb hby d3_88) (fun _ _ => ⟨rfl, e2, (Nat.le_of_ble_eq_true rfl), (Nat.le_of_ble_eq_true rfl)⟩)
              dsimp only [Pt.U, Pt.locs, Pt.cells, Pt.slots] at X3 l3 y3 z3 st3 hQ3
              subst l3 y3 z3
              obtain ⟨rfl, N3q, e3⟩ := hQ3
              have N3 := Fr.app N2 N3q
              refine own_st (T' := T3) (f' := (mkF m 91 #[.val (.ref o0), .val (.ref o1), .val (.int p2), .val (.int p3), .val (.int p4), .val (.int p5), .val (.int (ql p2 p3 p4 p5 n F M R)), .val (.int (qlo p2 p3 p4 p5 n F M R)), .val (.int (qhi p2 p3 p4 p5 n F M R))] [(.int (f4 (qlo p2 p3 p4 p5 n F M R) (qhi p2 p3 p4 p5 n F M R) (2 : Int32) p3 F))])) ?_ (fun t q => st3 _ q)
              refine own_ite (fun hc91 => ?_) (fun hc91 => ?_)
              · refine own_st (T' := T3) (f' := (mkF m 94 #[.val (.ref o0), .val (.ref o1), .val (.int p2), .val (.int p3), .val (.int p4), .val (.int p5), .val (.int (ql p2 p3 p4 p5 n F M R)), .val (.int (qlo p2 p3 p4 p5 n F M R)), .val (.int (qhi p2 p3 p4 p5 n F M R))] [])) ?_ (fun t q => XS.ifNo X3.here hx rfl (hb hby d3_91) rfl ((if0 _ _).trans (teq hc91).2) q)
                refine own_st (T' := T3) (f' := (mkF m 95 #[.val (.ref o0), .val (.ref o1), .val (.int p2), .val (.int p3), .val (.int p4), .val (.int p5), .val (.int (ql p2 p3 p4 p5 n F M R)), .val (.int (qlo p2 p3 p4 p5 n F M R)), .val (.int (qhi p2 p3 p4 p5 n F M R))] [(.ref o0)])) ?_ (fun t q => XS.aloadN X3.here hx rfl (hb hby d3_94) rfl rfl q)
                refine own_st (T' := T3) (f' := (mkF m 97 #[.val (.ref o0), .val (.ref o1), .val (.int p2), .val (.int p3), .val (.int p4), .val (.int p5), .val (.int (ql p2 p3 p4 p5 n F M R)), .val (.int (qlo p2 p3 p4 p5 n F M R)), .val (.int (qhi p2 p3 p4 p5 n F M R))] [(.int (qlo p2 p3 p4 p5 n F M R)), (.ref o0)])) ?_ (fun t q => XS.iload X3.here hx rfl (hb hby d3_95) rfl q)
                refine own_st (T' := T3) (f' := (mkF m 99 #[.val (.ref o0), .val (.ref o1), .val (.int p2), .val (.int p3), .val (.int p4), .val (.int p5), .val (.int (ql p2 p3 p4 p5 n F M R)), .val (.int (qlo p2 p3 p4 p5 n F M R)), .val (.int (qhi p2 p3 p4 p5 n F M R))] [(.int (qhi p2 p3 p4 p5 n F M R)), (.int (qlo p2 p3 p4 p5 n F M R)), (.ref o0)])) ?_ (fun t q => XS.iload X3.here hx rfl (hb hby d3_97) rfl q)
                refine own_st (T' := T3) (f' := (mkF m 100 #[.val (.ref o0), .val (.ref o1), .val (.int p2), .val (.int p3), .val (.int p4), .val (.int p5), .val (.int (ql p2 p3 p4 p5 n F M R)), .val (.int (qlo p2 p3 p4 p5 n F M R)), .val (.int (qhi p2 p3 p4 p5 n F M R))] [(.int (3 : Int32)), (.int (qhi p2 p3 p4 p5 n F M R)), (.int (qlo p2 p3 p4 p5 n F M R)), (.ref o0)])) ?_ (fun t q => XS.iconst X3.here hx rfl (hb hby d3_99) q)
                refine own_st (T' := T3) (f' := (mkF m 101 #[.val (.ref o0), .val (.ref o1), .val (.int p2), .val (.int p3), .val (.int p4), .val (.int p5), .val (.int (ql p2 p3 p4 p5 n F M R)), .val (.int (qlo p2 p3 p4 p5 n F M R)), .val (.int (qhi p2 p3 p4 p5 n F M R))] [(.int p3), (.int (3 : Int32)), (.int (qhi p2 p3 p4 p5 n F M R)), (.int (qlo p2 p3 p4 p5 n F M R)), (.ref o0)])) ?_ (fun t q => XS.iloadN X3.here hx rfl (hb hby d3_100) rfl q)
                obtain ⟨_, _, ⟨T4, L4, k4, n4⟩, -, X4, ⟨Lc4, hQ4, l4, y4, z4⟩, st4⟩ := Jvm.LawKit.callS X3 hx (y := (⟨"com/example/cuvette/cuvette/hl7/Er7SplitPinLaw", "sepIn", "([BIIIB)Z"⟩ : MethodName)) hown (mvT hZ (hw _ (List.mem_of_getElem? (i := 14) rfl))) (mvT hZ (hw _ (List.mem_of_getElem? (i := 15) rfl))) (mvT hZ (hw _ (List.mem_of_getElem? (i := 4) rfl))) (mvT hZ (hw _ (List.mem_of_getElem? (i := 16) rfl))) (by decide) (backOf (W := 0) (rm4 l Z a0 hw [] o0 (qlo p2 p3 p4 p5 n F M R) (qhi p2 p3 p4 p5 n F M R) (3 : Int32) p3 n F h0 n0 A_o0 ⟨by decide, by rw [hn]; decide⟩) hZ (hw _ (List.mem_of_getElem? (i := 16) rfl)) (hw _ (List.mem_of_getElem? (i := 4) rfl)) (by decide) (by decide)) (g := (mkF m 101 #[.val (.ref o0), .val (.ref o1), .val (.int p2), .val (.int p3), .val (.int p4), .val (.int p5), .val (.int (ql p2 p3 p4 p5 n F M R)), .val (.int (qlo p2 p3 p4 p5 n F M R)), .val (.int (qhi p2 p3 p4 p5 n F M R))] [(.int p3), (.int (3 : Int32)), (.int (qhi p2 p3 p4 p5 n F M R)), (.int (qlo p2 p3 p4 p5 n F M R)), (.ref o0)])) rfl (by rw [hml]; rfl) (argsL := [(.ref o0), (.int (qlo p2 p3 p4 p5 n F M R)), (.int (qhi p2 p3 p4 p5 n F M R)), (.int (3 : Int32)), (.int p3)]) (rest := []) (lenOf pd_0 rfl) rfl (by show 2 * 0 + _ ≤ _; exact Nat.le_of_eq rfl) (hb hby d3_101) (fun _ _ => ⟨rfl, e3, (Nat.le_of_ble_eq_true rfl), (Nat.le_of_ble_eq_true rfl)⟩)
                dsimp only [Pt.U, Pt.locs, Pt.cells, Pt.slots] at X4 l4 y4 z4 st4 hQ4
                subst l4 y4 z4
                obtain ⟨rfl, N4q, e4⟩ := hQ4
                have N4 := Fr.app N3 N4q
                refine own_st (T' := T4) (f' := (mkF m 104 #[.val (.ref o0), .val (.ref o1), .val (.int p2), .val (.int p3), .val (.int p4), .val (.int p5), .val (.int (ql p2 p3 p4 p5 n F M R)), .val (.int (qlo p2 p3 p4 p5 n F M R)), .val (.int (qhi p2 p3 p4 p5 n F M R))] [(.int (f4 (qlo p2 p3 p4 p5 n F M R) (qhi p2 p3 p4 p5 n F M R) (3 : Int32) p3 F))])) ?_ (fun t q => st4 _ q)
                refine own_ite (fun hc104 => ?_) (fun hc104 => ?_)
                · refine own_st (T' := T4) (f' := (mkF m 109 #[.val (.ref o0), .val (.ref o1), .val (.int p2), .val (.int p3), .val (.int p4), .val (.int p5), .val (.int (ql p2 p3 p4 p5 n F M R)), .val (.int (qlo p2 p3 p4 p5 n F M R)), .val (.int (qhi p2 p3 p4 p5 n F M R))] [])) ?_ (fun t q => XS.ifYes X4.here hx rfl (pc0 := 104) (pc' := 109) rfl (hb hby d3_104) rfl ((if0 _ _).trans (teq hc104).1) (by decide) (by decide) q)
                  refine own_st (T' := T4) (f' := (mkF m 110 #[.val (.ref o0), .val (.ref o1), .val (.int p2), .val (.int p3), .val (.int p4), .val (.int p5), .val (.int (ql p2 p3 p4 p5 n F M R)), .val (.int (qlo p2 p3 p4 p5 n F M R)), .val (.int (qhi p2 p3 p4 p5 n F M R))] [(.int p2)])) ?_ (fun t q => XS.iloadN X4.here hx rfl (hb hby d3_109) rfl q)
                  refine own_st (T' := T4) (f' := (mkF m 112 #[.val (.ref o0), .val (.ref o1), .val (.int p2), .val (.int p3), .val (.int p4), .val (.int p5), .val (.int (ql p2 p3 p4 p5 n F M R)), .val (.int (qlo p2 p3 p4 p5 n F M R)), .val (.int (qhi p2 p3 p4 p5 n F M R))] [(.int (ql p2 p3 p4 p5 n F M R)), (.int p2)])) ?_ (fun t q => XS.iload X4.here hx rfl (hb hby d3_110) rfl q)
                  refine own_ite (fun hc112 => ?_) (fun hc112 => ?_)
                  · refine own_st (T' := T4) (f' := (mkF m 115 #[.val (.ref o0), .val (.ref o1), .val (.int p2), .val (.int p3), .val (.int p4), .val (.int p5), .val (.int (ql p2 p3 p4 p5 n F M R)), .val (.int (qlo p2 p3 p4 p5 n F M R)), .val (.int (qhi p2 p3 p4 p5 n F M R))] [])) ?_ (fun t q => XS.icmpNo X4.here hx rfl (hb hby d3_112) rfl (tlt hc112).2.1 q)
                    refine own_st (T' := T4) (f' := (mkF m 117 #[.val (.ref o0), .val (.ref o1), .val (.int p2), .val (.int p3), .val (.int p4), .val (.int p5), .val (.int (ql p2 p3 p4 p5 n F M R)), .val (.int (qlo p2 p3 p4 p5 n F M R)), .val (.int (qhi p2 p3 p4 p5 n F M R))] [(.int (qhi p2 p3 p4 p5 n F M R))])) ?_ (fun t q => XS.iload X4.here hx rfl (hb hby d3_115) rfl q)
                    refine own_st (T' := T4) (f' := (mkF m 119 #[.val (.ref o0), .val (.ref o1), .val (.int p2), .val (.int p3), .val (.int p4), .val (.int p5), .val (.int (ql p2 p3 p4 p5 n F M R)), .val (.int (qlo p2 p3 p4 p5 n F M R)), .val (.int (qhi p2 p3 p4 p5 n F M R))] [(.int p5), (.int (qhi p2 p3 p4 p5 n F M R))])) ?_ (fun t q => XS.iload X4.here hx rfl (hb hby d3_117) rfl q)
                    refine own_ite (fun hc119 => ?_) (fun hc119 => ?_)
                    · refine own_st (T' := T4) (f' := (mkF m 124 #[.val (.ref o0), .val (.ref o1), .val (.int p2), .val (.int p3), .val (.int p4), .val (.int p5), .val (.int (ql p2 p3 p4 p5 n F M R)), .val (.int (qlo p2 p3 p4 p5 n F M R)), .val (.int (qhi p2 p3 p4 p5 n F M R))] [])) ?_ (fun t q => XS.icmpYes X4.here hx rfl (pc0 := 119) (pc' := 124) rfl (hb hby d3_119) rfl (tlt hc119).1 (by decide) (by decide) q)
                      refine own_st (T' := T4) (f' := (mkF m 125 #[.val (.ref o0), .val (.ref o1), .val (.int p2), .val (.int p3), .val (.int p4), .val (.int p5), .val (.int (ql p2 p3 p4 p5 n F M R)), .val (.int (qlo p2 p3 p4 p5 n F M R)), .val (.int (qhi p2 p3 p4 p5 n F M R))] [(.ref o0)])) ?_ (fun t q => XS.aloadN X4.here hx rfl (hb hby d3_124) rfl rfl q)
                      refine own_st (T' := T4) (f' := (mkF m 127 #[.val (.ref o0), .val (.ref o1), .val (.int p2), .val (.int p3), .val (.int p4), .val (.int p5), .val (.int (ql p2 p3 p4 p5 n F M R)), .val (.int (qlo p2 p3 p4 p5 n F M R)), .val (.int (qhi p2 p3 p4 p5 n F M R))] [(.int (qhi p2 p3 p4 p5 n F M R)), (.ref o0)])) ?_ (fun t q => XS.iload X4.here hx rfl (hb hby d3_125) rfl q)
                      refine own_bald X4 hx hZ (own_A.eq A_o0 e4) (j := (qhi p2 p3 p4 p5 n F M R)) (own_phi hst hc36 hc43 hc119 hen) (hb hby d3_127) ?_
                      show own_W _ _ _ _ _ _ _ T4 (mkF m 128 #[.val (.ref o0), .val (.ref o1), .val (.int p2), .val (.int p3), .val (.int p4), .val (.int p5), .val (.int (ql p2 p3 p4 p5 n F M R)), .val (.int (qlo p2 p3 p4 p5 n F M R)), .val (.int (qhi p2 p3 p4 p5 n F M R))] [(.int (F (qhi p2 p3 p4 p5 n F M R).toNatClampNeg))])
                      refine own_st (T' := T4) (f' := (mkF m 129 #[.val (.ref o0), .val (.ref o1), .val (.int p2), .val (.int p3), .val (.int p4), .val (.int p5), .val (.int (ql p2 p3 p4 p5 n F M R)), .val (.int (qlo p2 p3 p4 p5 n F M R)), .val (.int (qhi p2 p3 p4 p5 n F M R))] [(.int p3), (.int (F (qhi p2 p3 p4 p5 n F M R).toNatClampNeg))])) ?_ (fun t q => XS.iloadN X4.here hx rfl (hb hby d3_128) rfl q)
                      refine own_ite (fun hc129 => ?_) (fun hc129 => ?_)
                      · refine own_st (T' := T4) (f' := (mkF m 134 #[.val (.ref o0), .val (.ref o1), .val (.int p2), .val (.int p3), .val (.int p4), .val (.int p5), .val (.int (ql p2 p3 p4 p5 n F M R)), .val (.int (qlo p2 p3 p4 p5 n F M R)), .val (.int (qhi p2 p3 p4 p5 n F M R))] [])) ?_ (fun t q => XS.icmpYes X4.here hx rfl (pc0 := 129) (pc' := 134) rfl (hb hby d3_129) rfl (teq hc129).1 (by decide) (by decide) q)
                        refine own_st (T' := T4) (f' := (mkF m 135 #[.val (.ref o0), .val (.ref o1), .val (.int p2), .val (.int p3), .val (.int p4), .val (.int p5), .val (.int (ql p2 p3 p4 p5 n F M R)), .val (.int (qlo p2 p3 p4 p5 n F M R)), .val (.int (qhi p2 p3 p4 p5 n F M R))] [(.ref o1)])) ?_ (fun t q => XS.aloadN X4.here hx rfl (hb hby d3_134) rfl rfl q)
                        refine own_st (T' := T4) (f' := (mkF m 136 #[.val (.ref o0), .val (.ref o1), .val (.int p2), .val (.int p3), .val (.int p4), .val (.int p5), .val (.int (ql p2 p3 p4 p5 n F M R)), .val (.int (qlo p2 p3 p4 p5 n F M R)), .val (.int (qhi p2 p3 p4 p5 n F M R))] [(.int (2 : Int32)), (.ref o1)])) ?_ (fun t q => XS.iconst X4.here hx rfl (hb hby d3_135) q)
                        refine own_st (T' := T4) (f' := (mkF m 137 #[.val (.ref o0), .val (.ref o1), .val (.int p2), .val (.int p3), .val (.int p4), .val (.int p5), .val (.int (ql p2 p3 p4 p5 n F M R)), .val (.int (qlo p2 p3 p4 p5 n F M R)), .val (.int (qhi p2 p3 p4 p5 n F M R))] [(.int p2), (.int (2 : Int32)), (.ref o1)])) ?_ (fun t q => XS.iloadN X4.here hx rfl (hb hby d3_136) rfl q)
                        refine own_st (T' := T4) (f' := (mkF m 138 #[.val (.ref o0), .val (.ref o1), .val (.int p2), .val (.int p3), .val (.int p4), .val (.int p5), .val (.int (ql p2 p3 p4 p5 n F M R)), .val (.int (qlo p2 p3 p4 p5 n F M R)), .val (.int (qhi p2 p3 p4 p5 n F M R))] [(.int ((2 : Int32) * p2)), (.ref o1)])) ?_ (fun t q => XS.imul X4.here hx rfl (hb hby d3_137) rfl q)
                        refine own_st (T' := T4) (f' := (mkF m 139 #[.val (.ref o0), .val (.ref o1), .val (.int p2), .val (.int p3), .val (.int p4), .val (.int p5), .val (.int (ql p2 p3 p4 p5 n F M R)), .val (.int (qlo p2 p3 p4 p5 n F M R)), .val (.int (qhi p2 p3 p4 p5 n F M R))] [(.int (2 : Int32)), (.int ((2 : Int32) * p2)), (.ref o1)])) ?_ (fun t q => XS.iconst X4.here hx rfl (hb hby d3_138) q)
                        refine own_st (T' := T4) (f' := (mkF m 140 #[.val (.ref o0), .val (.ref o1), .val (.int p2), .val (.int p3), .val (.int p4), .val (.int p5), .val (.int (ql p2 p3 p4 p5 n F M R)), .val (.int (qlo p2 p3 p4 p5 n F M R)), .val (.int (qhi p2 p3 p4 p5 n F M R))] [(.int (((2 : Int32) * p2) + (2 : Int32))), (.ref o1)])) ?_ (fun t q => XS.iadd X4.here hx rfl (hb hby d3_139) rfl q)
                        refine own_iald X4 hx hZ (own_A.eq A_o1 e4) (j := (((2 : Int32) * p2) + (2 : Int32))) (own_pc hM hk0 hk4 hc112) (hb hby d3_140) ?_
                        show own_W _ _ _ _ _ _ _ T4 (mkF m 141 #[.val (.ref o0), .val (.ref o1), .val (.int p2), .val (.int p3), .val (.int p4), .val (.int p5), .val (.int (ql p2 p3 p4 p5 n F M R)), .val (.int (qlo p2 p3 p4 p5 n F M R)), .val (.int (qhi p2 p3 p4 p5 n F M R))] [(.int (R (((2 : Int32) * p2) + (2 : Int32)).toNatClampNeg))])
                        refine own_st (T' := T4) (f' := (mkF m 143 #[.val (.ref o0), .val (.ref o1), .val (.int p2), .val (.int p3), .val (.int p4), .val (.int p5), .val (.int (ql p2 p3 p4 p5 n F M R)), .val (.int (qlo p2 p3 p4 p5 n F M R)), .val (.int (qhi p2 p3 p4 p5 n F M R))] [(.int (qhi p2 p3 p4 p5 n F M R)), (.int (R (((2 : Int32) * p2) + (2 : Int32)).toNatClampNeg))])) ?_ (fun t q => XS.iload X4.here hx rfl (hb hby d3_141) rfl q)
                        refine own_st (T' := T4) (f' := (mkF m 144 #[.val (.ref o0), .val (.ref o1), .val (.int p2), .val (.int p3), .val (.int p4), .val (.int p5), .val (.int (ql p2 p3 p4 p5 n F M R)), .val (.int (qlo p2 p3 p4 p5 n F M R)), .val (.int (qhi p2 p3 p4 p5 n F M R))] [(.int (1 : Int32)), (.int (qhi p2 p3 p4 p5 n F M R)), (.int (R (((2 : Int32) * p2) + (2 : Int32)).toNatClampNeg))])) ?_ (fun t q => XS.iconst X4.here hx rfl (hb hby d3_143) q)
                        refine own_st (T' := T4) (f' := (mkF m 145 #[.val (.ref o0), .val (.ref o1), .val (.int p2), .val (.int p3), .val (.int p4), .val (.int p5), .val (.int (ql p2 p3 p4 p5 n F M R)), .val (.int (qlo p2 p3 p4 p5 n F M R)), .val (.int (qhi p2 p3 p4 p5 n F M R))] [(.int ((qhi p2 p3 p4 p5 n F M R) + (1 : Int32))), (.int (R (((2 : Int32) * p2) + (2 : Int32)).toNatClampNeg))])) ?_ (fun t q => XS.iadd X4.here hx rfl (hb hby d3_144) rfl q)
                        refine own_ite (fun hc145 => ?_) (fun hc145 => ?_)
                        · refine own_st (T' := T4) (f' := (mkF m 150 #[.val (.ref o0), .val (.ref o1), .val (.int p2), .val (.int p3), .val (.int p4), .val (.int p5), .val (.int (ql p2 p3 p4 p5 n F M R)), .val (.int (qlo p2 p3 p4 p5 n F M R)), .val (.int (qhi p2 p3 p4 p5 n F M R))] [])) ?_ (fun t q => XS.icmpYes X4.here hx rfl (pc0 := 145) (pc' := 150) rfl (hb hby d3_145) rfl (teq hc145).1 (by decide) (by decide) q)
                          refine own_st (T' := T4) (f' := (mkF m 151 #[.val (.ref o0), .val (.ref o1), .val (.int p2), .val (.int p3), .val (.int p4), .val (.int p5), .val (.int (ql p2 p3 p4 p5 n F M R)), .val (.int (qlo p2 p3 p4 p5 n F M R)), .val (.int (qhi p2 p3 p4 p5 n F M R))] [(.int (1 : Int32))])) ?_ (fun t q => XS.iconst X4.here hx rfl (hb hby d3_150) q)
                          exact own_retN X4 hx hlk (t := .boolean) Bd.returns (by simp) (hb hby d3_151) (by decide) (by decide) ⟨rfl, N4, e4⟩
                        · refine own_st (T' := T4) (f' := (mkF m 148 #[.val (.ref o0), .val (.ref o1), .val (.int p2), .val (.int p3), .val (.int p4), .val (.int p5), .val (.int (ql p2 p3 p4 p5 n F M R)), .val (.int (qlo p2 p3 p4 p5 n F M R)), .val (.int (qhi p2 p3 p4 p5 n F M R))] [])) ?_ (fun t q => XS.icmpNo X4.here hx rfl (hb hby d3_145) rfl (feq hc145).1 q)
                          refine own_st (T' := T4) (f' := (mkF m 149 #[.val (.ref o0), .val (.ref o1), .val (.int p2), .val (.int p3), .val (.int p4), .val (.int p5), .val (.int (ql p2 p3 p4 p5 n F M R)), .val (.int (qlo p2 p3 p4 p5 n F M R)), .val (.int (qhi p2 p3 p4 p5 n F M R))] [(.int (0 : Int32))])) ?_ (fun t q => XS.iconst X4.here hx rfl (hb hby d3_148) q)
                          exact own_retN X4 hx hlk (t := .boolean) Bd.returns (by simp) (hb hby d3_149) (by decide) (by decide) ⟨rfl, N4, e4⟩
                      · refine own_st (T' := T4) (f' := (mkF m 132 #[.val (.ref o0), .val (.ref o1), .val (.int p2), .val (.int p3), .val (.int p4), .val (.int p5), .val (.int (ql p2 p3 p4 p5 n F M R)), .val (.int (qlo p2 p3 p4 p5 n F M R)), .val (.int (qhi p2 p3 p4 p5 n F M R))] [])) ?_ (fun t q => XS.icmpNo X4.here hx rfl (hb hby d3_129) rfl (feq hc129).1 q)
                        refine own_st (T' := T4) (f' := (mkF m 133 #[.val (.ref o0), .val (.ref o1), .val (.int p2), .val (.int p3), .val (.int p4), .val (.int p5), .val (.int (ql p2 p3 p4 p5 n F M R)), .val (.int (qlo p2 p3 p4 p5 n F M R)), .val (.int (qhi p2 p3 p4 p5 n F M R))] [(.int (0 : Int32))])) ?_ (fun t q => XS.iconst X4.here hx rfl (hb hby d3_132) q)
                        exact own_retN X4 hx hlk (t := .boolean) Bd.returns (by simp) (hb hby d3_133) (by decide) (by decide) ⟨rfl, N4, e4⟩
                    · refine own_st (T' := T4) (f' := (mkF m 122 #[.val (.ref o0), .val (.ref o1), .val (.int p2), .val (.int p3), .val (.int p4), .val (.int p5), .val (.int (ql p2 p3 p4 p5 n F M R)), .val (.int (qlo p2 p3 p4 p5 n F M R)), .val (.int (qhi p2 p3 p4 p5 n F M R))] [])) ?_ (fun t q => XS.icmpNo X4.here hx rfl (hb hby d3_119) rfl (flt hc119).1 q)
                      refine own_st (T' := T4) (f' := (mkF m 123 #[.val (.ref o0), .val (.ref o1), .val (.int p2), .val (.int p3), .val (.int p4), .val (.int p5), .val (.int (ql p2 p3 p4 p5 n F M R)), .val (.int (qlo p2 p3 p4 p5 n F M R)), .val (.int (qhi p2 p3 p4 p5 n F M R))] [(.int (0 : Int32))])) ?_ (fun t q => XS.iconst X4.here hx rfl (hb hby d3_122) q)
                      exact own_retN X4 hx hlk (t := .boolean) Bd.returns (by simp) (hb hby d3_123) (by decide) (by decide) ⟨rfl, N4, e4⟩
                  · refine own_st (T' := T4) (f' := (mkF m 150 #[.val (.ref o0), .val (.ref o1), .val (.int p2), .val (.int p3), .val (.int p4), .val (.int p5), .val (.int (ql p2 p3 p4 p5 n F M R)), .val (.int (qlo p2 p3 p4 p5 n F M R)), .val (.int (qhi p2 p3 p4 p5 n F M R))] [])) ?_ (fun t q => XS.icmpYes X4.here hx rfl (pc0 := 112) (pc' := 150) rfl (hb hby d3_112) rfl (flt hc112).2.1 (by decide) (by decide) q)
                    refine own_st (T' := T4) (f' := (mkF m 151 #[.val (.ref o0), .val (.ref o1), .val (.int p2), .val (.int p3), .val (.int p4), .val (.int p5), .val (.int (ql p2 p3 p4 p5 n F M R)), .val (.int (qlo p2 p3 p4 p5 n F M R)), .val (.int (qhi p2 p3 p4 p5 n F M R))] [(.int (1 : Int32))])) ?_ (fun t q => XS.iconst X4.here hx rfl (hb hby d3_150) q)
                    exact own_retN X4 hx hlk (t := .boolean) Bd.returns (by simp) (hb hby d3_151) (by decide) (by decide) ⟨rfl, N4, e4⟩
                · refine own_st (T' := T4) (f' := (mkF m 107 #[.val (.ref o0), .val (.ref o1), .val (.int p2), .val (.int p3), .val (.int p4), .val (.int p5), .val (.int (ql p2 p3 p4 p5 n F M R)), .val (.int (qlo p2 p3 p4 p5 n F M R)), .val (.int (qhi p2 p3 p4 p5 n F M R))] [])) ?_ (fun t q => XS.ifNo X4.here hx rfl (hb hby d3_104) rfl ((if0 _ _).trans (feq hc104).1) q)
                  refine own_st (T' := T4) (f' := (mkF m 108 #[.val (.ref o0), .val (.ref o1), .val (.int p2), .val (.int p3), .val (.int p4), .val (.int p5), .val (.int (ql p2 p3 p4 p5 n F M R)), .val (.int (qlo p2 p3 p4 p5 n F M R)), .val (.int (qhi p2 p3 p4 p5 n F M R))] [(.int (0 : Int32))])) ?_ (fun t q => XS.iconst X4.here hx rfl (hb hby d3_107) q)
                  exact own_retN X4 hx hlk (t := .boolean) Bd.returns (by simp) (hb hby d3_108) (by decide) (by decide) ⟨rfl, N4, e4⟩
              · refine own_st (T' := T3) (f' := (mkF m 107 #[.val (.ref o0), .val (.ref o1), .val (.int p2), .val (.int p3), .val (.int p4), .val (.int p5), .val (.int (ql p2 p3 p4 p5 n F M R)), .val (.int (qlo p2 p3 p4 p5 n F M R)), .val (.int (qhi p2 p3 p4 p5 n F M R))] [])) ?_ (fun t q => XS.ifYes X3.here hx rfl (pc0 := 91) (pc' := 107) rfl (hb hby d3_91) rfl ((if0 _ _).trans (feq hc91).2) (by decide) (by decide) q)
                refine own_st (T' := T3) (f' := (mkF m 108 #[.val (.ref o0), .val (.ref o1), .val (.int p2), .val (.int p3), .val (.int p4), .val (.int p5), .val (.int (ql p2 p3 p4 p5 n F M R)), .val (.int (qlo p2 p3 p4 p5 n F M R)), .val (.int (qhi p2 p3 p4 p5 n F M R))] [(.int (0 : Int32))])) ?_ (fun t q => XS.iconst X3.here hx rfl (hb hby d3_107) q)
                exact own_retN X3 hx hlk (t := .boolean) Bd.returns (by simp) (hb hby d3_108) (by decide) (by decide) ⟨rfl, N3, e3⟩
            · refine own_st (T' := T2) (f' := (mkF m 107 #[.val (.ref o0), .val (.ref o1), .val (.int p2), .val (.int p3), .val (.int p4), .val (.int p5), .val (.int (ql p2 p3 p4 p5 n F M R)), .val (.int (qlo p2 p3 p4 p5 n F M R)), .val (.int (qhi p2 p3 p4 p5 n F M R))] [])) ?_ (fun t q => XS.ifYes X2.here hx rfl (pc0 := 78) (pc' := 107) rfl (hb hby d3_78) rfl ((if0 _ _).trans (feq hc78).2) (by decide) (by decide) q)
              refine own_st (T' := T2) (f' := (mkF m 108 #[.val (.ref o0), .val (.ref o1), .val (.int p2), .val (.int p3), .val (.int p4), .val (.int p5), .val (.int (ql p2 p3 p4 p5 n F M R)), .val (.int (qlo p2 p3 p4 p5 n F M R)), .val (.int (qhi p2 p3 p4 p5 n F M R))] [(.int (0 : Int32))])) ?_ (fun t q => XS.iconst X2.here hx rfl (hb hby d3_107) q)
              exact own_retN X2 hx hlk (t := .boolean) Bd.returns (by simp) (hb hby d3_108) (by decide) (by decide) ⟨rfl, N2, e2⟩
          · refine own_st (T' := T1) (f' := (mkF m 107 #[.val (.ref o0), .val (.ref o1), .val (.int p2), .val (.int p3), .val (.int p4), .val (.int p5), .val (.int (ql p2 p3 p4 p5 n F M R)), .val (.int (qlo p2 p3 p4 p5 n F M R)), .val (.int (qhi p2 p3 p4 p5 n F M R))] [])) ?_ (fun t q => XS.ifYes X1.here hx rfl (pc0 := 65) (pc' := 107) rfl (hb hby d3_65) rfl ((if0 _ _).trans (feq hc65).2) (by decide) (by decide) q)
            refine own_st (T' := T1) (f' := (mkF m 108 #[.val (.ref o0), .val (.ref o1), .val (.int p2), .val (.int p3), .val (.int p4), .val (.int p5), .val (.int (ql p2 p3 p4 p5 n F M R)), .val (.int (qlo p2 p3 p4 p5 n F M R)), .val (.int (qhi p2 p3 p4 p5 n F M R))] [(.int (0 : Int32))])) ?_ (fun t q => XS.iconst X1.here hx rfl (hb hby d3_107) q)
            exact own_retN X1 hx hlk (t := .boolean) Bd.returns (by simp) (hb hby d3_108) (by decide) (by decide) ⟨rfl, N1, e1⟩
theorem pd_1 : parseMethodDescriptor "([BIIIB)I" = some ⟨[(.array .byte), .int, .int, .int, .byte], some .int⟩ := by decide +kernel
theorem pd_2 : parseMethodDescriptor "([BIIB)[I" = some ⟨[(.array .byte), .int, .int, .byte], some (.array .int)⟩ := by decide +kernel
theorem pd_3 : parseMethodDescriptor "([B[IIBII)Z" = some ⟨[(.array .byte), (.array .int), .int, .byte, .int, .int], some .boolean⟩ := by decide +kernel
theorem pn_0 : plainFor x = true := by first | exact plainFor_of_name (by first | (simp [plainName, overriddenIn]; done) | decide +kernel) | decide +kernel
theorem ef_0 (m : MethodId) (x0 : Int32) (x1 : Int32) (x2 : Int32) (x3 : Int32) (x4 : Int32) : entryFrame m #[(.int x0), (.int x1), (.int x2), (.int x3), (.int x4)] maxLocals = mkF m 0 #[.val (.int x0), .val (.int x1), .val (.int x2), .val (.int x3), .val (.int x4), .unset, .unset, .unset, .unset, .unset, .unset] [] := by first | (simp [entryFrame, mkF, argsToLocals, Value.category, maxLocals]; done) | rfl
def vb (p0 : Int32) (p1 : Int32) (p2 : Int32) (p3 : Int32) (p4 : Int32) : Int32 := (p2.toInt8.toInt32)
def vF (p0 : Int32) (p1 : Int32) (p2 : Int32) (p3 : Int32) (p4 : Int32) (g100_86 : Int32) (F6_86 : Nat → Int32) : Nat → Int32 := (own_up F6_86 3 (nar .byte g100_86))
def vs (p0 : Int32) (p1 : Int32) (p2 : Int32) (p3 : Int32) (p4 : Int32) : Int32 := ((p3 &&& (2147483647 : Int32)) - ((p3 &&& (2147483647 : Int32)) / (5 : Int32)) * (5 : Int32))
def ve (p0 : Int32) (p1 : Int32) (p2 : Int32) (p3 : Int32) (p4 : Int32) : Int32 := ((vs p0 p1 p2 p3 p4) + ((p4 &&& (2147483647 : Int32)) - ((p4 &&& (2147483647 : Int32)) / ((5 : Int32) - (vs p0 p1 p2 p3 p4))) * ((5 : Int32) - (vs p0 p1 p2 p3 p4))))
def f0_86 (p0 : Int32) (p1 : Int32) (p2 : Int32) (p3 : Int32) (p4 : Int32) (g100_86 : Int32) (F6_86 : Nat → Int32) : Int32 := (if (Int32.ofNat (f2 (vs p0 p1 p2 p3 p4) (ve p0 p1 p2 p3 p4) (vb p0 p1 p2 p3 p4) (vF p0 p1 p2 p3 p4 g100_86 F6_86)).1) = ((2 : Int32) * (((((f1 (0 : Int32) (vs p0 p1 p2 p3 p4) (ve p0 p1 p2 p3 p4) (vb p0 p1 p2 p3 p4) (vF p0 p1 p2 p3 p4 g100_86 F6_86)) + (f1 (1 : Int32) (vs p0 p1 p2 p3 p4) (ve p0 p1 p2 p3 p4) (vb p0 p1 p2 p3 p4) (vF p0 p1 p2 p3 p4 g100_86 F6_86))) + (f1 (2 : Int32) (vs p0 p1 p2 p3 p4) (ve p0 p1 p2 p3 p4) (vb p0 p1 p2 p3 p4) (vF p0 p1 p2 p3 p4 g100_86 F6_86))) + (f1 (3 : Int32) (vs p0 p1 p2 p3 p4) (ve p0 p1 p2 p3 p4) (vb p0 p1 p2 p3 p4) (vF p0 p1 p2 p3 p4 g100_86 F6_86))) + (1 : Int32))) then (if ((f2 (vs p0 p1 p2 p3 p4) (ve p0 p1 p2 p3 p4) (vb p0 p1 p2 p3 p4) (vF p0 p1 p2 p3 p4 g100_86 F6_86)).2 0) = (vs p0 p1 p2 p3 p4) then (if ((f2 (vs p0 p1 p2 p3 p4) (ve p0 p1 p2 p3 p4) (vb p0 p1 p2 p3 p4) (vF p0 p1 p2 p3 p4 g100_86 F6_86)).2 ((Int32.ofNat (f2 (vs p0 p1 p2 p3 p4) (ve p0 p1 p2 p3 p4) (vb p0 p1 p2 p3 p4) (vF p0 p1 p2 p3 p4 g100_86 F6_86)).1) - (1 : Int32)).toNatClampNeg) = (ve p0 p1 p2 p3 p4) then (if (f3 (0 : Int32) (vb p0 p1 p2 p3 p4) (vs p0 p1 p2 p3 p4) (ve p0 p1 p2 p3 p4) 4 (vF p0 p1 p2 p3 p4 g100_86 F6_86) (f2 (vs p0 p1 p2 p3 p4) (ve p0 p1 p2 p3 p4) (vb p0 p1 p2 p3 p4) (vF p0 p1 p2 p3 p4 g100_86 F6_86)).1 (f2 (vs p0 p1 p2 p3 p4) (ve p0 p1 p2 p3 p4) (vb p0 p1 p2 p3 p4) (vF p0 p1 p2 p3 p4 g100_86 F6_86)).2) = (0 : Int32) then (0 : Int32) else (if (f3 (1 : Int32) (vb p0 p1 p2 p3 p4) (vs p0 p1 p2 p3 p4) (ve p0 p1 p2 p3 p4) 4 (vF p0 p1 p2 p3 p4 g100_86 F6_86) (f2 (vs p0 p1 p2 p3 p4) (ve p0 p1 p2 p3 p4) (vb p0 p1 p2 p3 p4) (vF p0 p1 p2 p3 p4 g100_86 F6_86)).1 (f2 (vs p0 p1 p2 p3 p4) (ve p0 p1 p2 p3 p4) (vb p0 p1 p2 p3 p4) (vF p0 p1 p2 p3 p4 g100_86 F6_86)).2) = (0 : Int32) then (0 : Int32) else (if (f3 (2 : Int32) (vb p0 p1 p2 p3 p4) (vs p0 p1 p2 p3 p4) (ve p0 p1 p2 p3 p4) 4 (vF p0 p1 p2 p3 p4 g100_86 F6_86) (f2 (vs p0 p1 p2 p3 p4) (ve p0 p1 p2 p3 p4) (vb p0 p1 p2 p3 p4) (vF p0 p1 p2 p3 p4 g100_86 F6_86)).1 (f2 (vs p0 p1 p2 p3 p4) (ve p0 p1 p2 p3 p4) (vb p0 p1 p2 p3 p4) (vF p0 p1 p2 p3 p4 g100_86 F6_86)).2) = (0 : Int32) then (0 : Int32) else (if (f3 (3 : Int32) (vb p0 p1 p2 p3 p4) (vs p0 p1 p2 p3 p4) (ve p0 p1 p2 p3 p4) 4 (vF p0 p1 p2 p3 p4 g100_86 F6_86) (f2 (vs p0 p1 p2 p3 p4) (ve p0 p1 p2 p3 p4) (vb p0 p1 p2 p3 p4) (vF p0 p1 p2 p3 p4 g100_86 F6_86)).1 (f2 (vs p0 p1 p2 p3 p4) (ve p0 p1 p2 p3 p4) (vb p0 p1 p2 p3 p4) (vF p0 p1 p2 p3 p4 g100_86 F6_86)).2) = (0 : Int32) then (0 : Int32) else (if (f3 (4 : Int32) (vb p0 p1 p2 p3 p4) (vs p0 p1 p2 p3 p4) (ve p0 p1 p2 p3 p4) 4 (vF p0 p1 p2 p3 p4 g100_86 F6_86) (f2 (vs p0 p1 p2 p3 p4) (ve p0 p1 p2 p3 p4) (vb p0 p1 p2 p3 p4) (vF p0 p1 p2 p3 p4 g100_86 F6_86)).1 (f2 (vs p0 p1 p2 p3 p4) (ve p0 p1 p2 p3 p4) (vb p0 p1 p2 p3 p4) (vF p0 p1 p2 p3 p4 g100_86 F6_86)).2) = (0 : Int32) then (0 : Int32) else (1 : Int32)))))) else (0 : Int32)) else (0 : Int32)) else (0 : Int32))
def f0_65 (p0 : Int32) (p1 : Int32) (p2 : Int32) (p3 : Int32) (p4 : Int32) (g100_65 : Int32) (F6_65 : Nat → Int32) : Int32 := (if (p1 &&& (8 : Int32)) = (0 : Int32) then (f0_86 p0 p1 p2 p3 p4 ((p0 >>> ((24 : Int32) &&& 31)).toInt8.toInt32) (own_up F6_65 2 (nar .byte g100_65))) else (f0_86 p0 p1 p2 p3 p4 (vb p0 p1 p2 p3 p4) (own_up F6_65 2 (nar .byte g100_65))))
def f0_45 (p0 : Int32) (p1 : Int32) (p2 : Int32) (p3 : Int32) (p4 : Int32) (g100_45 : Int32) (F6_45 : Nat → Int32) : Int32 := (if (p1 &&& (4 : Int32)) = (0 : Int32) then (f0_65 p0 p1 p2 p3 p4 ((p0 >>> ((16 : Int32) &&& 31)).toInt8.toInt32) (own_up F6_45 1 (nar .byte g100_45))) else (f0_65 p0 p1 p2 p3 p4 (vb p0 p1 p2 p3 p4) (own_up F6_45 1 (nar .byte g100_45))))
def f0_25 (p0 : Int32) (p1 : Int32) (p2 : Int32) (p3 : Int32) (p4 : Int32) (g100_25 : Int32) (F6_25 : Nat → Int32) : Int32 := (if (p1 &&& (2 : Int32)) = (0 : Int32) then (f0_45 p0 p1 p2 p3 p4 ((p0 >>> ((8 : Int32) &&& 31)).toInt8.toInt32) (own_up F6_25 0 (nar .byte g100_25))) else (f0_45 p0 p1 p2 p3 p4 (vb p0 p1 p2 p3 p4) (own_up F6_25 0 (nar .byte g100_25))))
def f0 (p0 : Int32) (p1 : Int32) (p2 : Int32) (p3 : Int32) (p4 : Int32) : Int32 := (if (p1 &&& (1 : Int32)) = (0 : Int32) then (f0_25 p0 p1 p2 p3 p4 (p0.toInt8.toInt32) (fun _ => 0)) else (f0_25 p0 p1 p2 p3 p4 (vb p0 p1 p2 p3 p4) (fun _ => 0)))
theorem own_s (p0 p1 p2 p3 p4 : Int32) : 0 ≤ (vs p0 p1 p2 p3 p4).toInt ∧ (vs p0 p1 p2 p3 p4).toInt < 5 := own_rb p3 5 (by decide)
theorem own_5s (p0 p1 p2 p3 p4 : Int32) : ((5 : Int32) - vs p0 p1 p2 p3 p4).toInt = 5 - (vs p0 p1 p2 p3 p4).toInt := by
  have h := own_s p0 p1 p2 p3 p4
  have k : (5 : Int32).toInt = 5 := rfl
  rw [Jvm.Kit.i32_sub (by omega) (by omega), k]
theorem own_nz (p0 p1 p2 p3 p4 : Int32) : ((5 : Int32) - vs p0 p1 p2 p3 p4) ≠ 0 := by
  intro q
  have h := congrArg Int32.toInt q
  rw [own_5s, show (0 : Int32).toInt = 0 from rfl] at h
  have := own_s p0 p1 p2 p3 p4
  omega
theorem own_e (p0 p1 p2 p3 p4 : Int32) : (vs p0 p1 p2 p3 p4).toInt ≤ (ve p0 p1 p2 p3 p4).toInt ∧ (ve p0 p1 p2 p3 p4).toInt < 5 := by
  have h := own_s p0 p1 p2 p3 p4
  have h5 := own_5s p0 p1 p2 p3 p4
  have h3 := own_rb p4 (5 - vs p0 p1 p2 p3 p4) (by omega)
  have he : (ve p0 p1 p2 p3 p4).toInt = (vs p0 p1 p2 p3 p4).toInt + (own_r p4 (5 - vs p0 p1 p2 p3 p4)).toInt := by
    show (vs p0 p1 p2 p3 p4 + own_r p4 (5 - vs p0 p1 p2 p3 p4)).toInt = _
    exact Jvm.Kit.i32_add (by omega) (by omega)
  omega
theorem own_p1 (p0 p1 p2 p3 p4 : Int32) : ¬ vs p0 p1 p2 p3 p4 < 0 := by
  have h := own_s p0 p1 p2 p3 p4
  rw [Int32.lt_iff_toInt_lt, show (0 : Int32).toInt = 0 from rfl]; omega
theorem own_p2 (p0 p1 p2 p3 p4 : Int32) : (ve p0 p1 p2 p3 p4).toNatClampNeg ≤ 4 := by
  have h := own_e p0 p1 p2 p3 p4
  rw [Int32.toNatClampNeg]; omega
theorem own_p3 (p0 p1 p2 p3 p4 : Int32) : ((ve p0 p1 p2 p3 p4).toInt - (vs p0 p1 p2 p3 p4).toInt).toNat < 10 := by
  have h := own_e p0 p1 p2 p3 p4
  have h' := own_s p0 p1 p2 p3 p4
  omega
theorem own_p4 (p0 p1 p2 p3 p4 : Int32) (F : Nat → Int32) (b : Int32) : 0 ≤ own_cnt F b (ve p0 p1 p2 p3 p4) 10 (vs p0 p1 p2 p3 p4) ∧ own_cnt F b (ve p0 p1 p2 p3 p4) 10 (vs p0 p1 p2 p3 p4) ≤ 4 := by
  have h := own_e p0 p1 p2 p3 p4
  have h' := own_s p0 p1 p2 p3 p4
  have h1 := own_cnt_nn F b (ve p0 p1 p2 p3 p4) 10 (vs p0 p1 p2 p3 p4)
  have h2 := own_cnt_le F b (ve p0 p1 p2 p3 p4) 10 (vs p0 p1 p2 p3 p4)
  omega
set_option maxRecDepth 65536 in
set_option maxHeartbeats 40000000 in
theorem rm0 (l : Launch) (Z : State) (a0 : Array Value) (hw : ∀ d ∈ tables_1, d.before a0 Z = true) (ws : List Jvm.Cond) (p0 : Int32) (p1 : Int32) (p2 : Int32) (p3 : Int32) (p4 : Int32) (h0 : Heap) (n0 : Nat) (Z0 : n0 ≤ h0.size) :
    MetFree l x (head1 (Jvm.Cond.code x code maxLocals ret :: ws) room_1) (fun a U => a = #[(.int p0), (.int p1), (.int p2), (.int p3), (.int p4)] ∧ Z.Warmed39 U.vm ∧ U.heap = h0) (fun _ _ _ _ _ => True) (fun _ U o U' => ∃ v L, o = .returned v ∧ own_GI n0 (fun _ => True) (f0 p0 p1 p2 p3 p4) v U'.heap L ∧ FrameEnd U o U' L 2 14) := by
  refine MetFree.of_bodySF pn_0 hisR ?_
  intro p e s m args below meth c s₁ Bd hml0 hP hK
  obtain ⟨rfl, hZ, hh⟩ := hP
  have hx := Bd.exec
  have hby := Bd.bytes
  have hml : c.maxLocals = 11 := hml0
  have hown : s.vm.findClass "com/example/cuvette/cuvette/hl7/Er7SplitPinLaw" = some m.cls := findClass_of_methodNamed Bd.named
  have hlk : meth.locks = false := BodyLoose.notSynchronized Bd
  have X0 : Stand p l e room_1 s m #[(.int p0), (.int p1), (.int p2), (.int p3), (.int p4)] below meth c s₁ [] 0 0 := Stand.of_body Bd
  have e0 : s₁.heap = h0 := by rw [← hh, Bd.state]; rfl
  have N0 := Fr.nil n0
  have zs0 : n0 ≤ s₁.heap.size := by rw [e0]; exact Z0
  have B86 : ∀ (T : State) (locs : List Loc) (r6_86 : Addr) (g100_86 : Int32) (F6_86 : Nat → Int32) (X : Stand p l e room_1 s m #[(.int p0), (.int p1), (.int p2), (.int p3), (.int p4)] below meth c T locs 1 4) (N : Fr n0 locs) (zs : n0 ≤ T.heap.size) (G_r6_86 : n0 ≤ r6_86) (A_r6_86 : own_A Z T.heap r6_86 .byte 4 F6_86), own_W p e below s 2 14 (own_GI n0 (fun _ => True) (f0_86 p0 p1 p2 p3 p4 g100_86 F6_86)) T (mkF m 86 #[.val (.int p0), .val (.int p1), .val (.int p2), .val (.int p3), .val (.int p4), .val (.int (vb p0 p1 p2 p3 p4)), .val (.ref r6_86), .unset, .unset, .unset, .unset] [(.int g100_86), (.int (3 : Int32)), (.ref r6_86)]) := by
    intro T locs r6_86 g100_86 F6_86 X N zs G_r6_86 A_r6_86
    unfold f0_86
    refine own_bast X hx hZ A_r6_86 (j := (3 : Int32)) (x := g100_86) ⟨by decide, by decide⟩ (hb hby at_86) N G_r6_86 (fun T1 lo1 X1 N1 K1 A1_r6_86 => ?_)
    have zs1 : n0 ≤ T1.heap.size := Nat.le_trans zs K1.1
    show own_W _ _ _ _ _ _ _ T1 (mkF m 87 #[.val (.int p0), .val (.int p1), .val (.int p2), .val (.int p3), .val (.int p4), .val (.int (vb p0 p1 p2 p3 p4)), .val (.ref r6_86), .unset, .unset, .unset, .unset] [])
    refine own_st (T' := T1) (f' := (mkF m 88 #[.val (.int p0), .val (.int p1), .val (.int p2), .val (.int p3), .val (.int p4), .val (.int (vb p0 p1 p2 p3 p4)), .val (.ref r6_86), .unset, .unset, .unset, .unset] [(.int p3)])) ?_ (fun t q => XS.iloadN X1.here hx rfl (hb hby at_87) rfl q)
    refine own_st (T' := T1) (f' := (mkF m 90 #[.val (.int p0), .val (.int p1), .val (.int p2), .val (.int p3), .val (.int p4), .val (.int (vb p0 p1 p2 p3 p4)), .val (.ref r6_86), .unset, .unset, .unset, .unset] [(.int (2147483647 : Int32)), (.int p3)])) ?_ (fun t q => X1.ldcInt hx hown (mvT hZ (hw _ (List.mem_of_getElem? (i := 1) rfl))) (g := (mkF m 88 #[.val (.int p0), .val (.int p1), .val (.int p2), .val (.int p3), .val (.int p4), .val (.int (vb p0 p1 p2 p3 p4)), .val (.ref r6_86), .unset, .unset, .unset, .unset] [(.int p3)])) rfl (hb hby at_88) _ q)
    refine own_st (T' := T1) (f' := (mkF m 91 #[.val (.int p0), .val (.int p1), .val (.int p2), .val (.int p3), .val (.int p4), .val (.int (vb p0 p1 p2 p3 p4)), .val (.ref r6_86), .unset, .unset, .unset, .unset] [(.int (p3 &&& (2147483647 : Int32)))])) ?_ (fun t q => XS.iand X1.here hx rfl (hb hby at_90) rfl q)
    refine own_st (T' := T1) (f' := (mkF m 92 #[.val (.int p0), .val (.int p1), .val (.int p2), .val (.int p3), .val (.int p4), .val (.int (vb p0 p1 p2 p3 p4)), .val (.ref r6_86), .unset, .unset, .unset, .unset] [(.int (5 : Int32)), (.int (p3 &&& (2147483647 : Int32)))])) ?_ (fun t q => XS.iconst X1.here hx rfl (hb hby at_91) q)
    refine own_st (T' := T1) (f' := (mkF m 93 #[.val (.int p0), .val (.int p1), .val (.int p2), .val (.int p3), .val (.int p4), .val (.int (vb p0 p1 p2 p3 p4)), .val (.ref r6_86), .unset, .unset, .unset, .unset] [(.int ((p3 &&& (2147483647 : Int32)) - ((p3 &&& (2147483647 : Int32)) / (5 : Int32)) * (5 : Int32)))])) ?_ (fun t q => XS.irem X1.here hx rfl (hb hby at_92) rfl (by decide) q)
    refine own_st (T' := T1) (f' := (mkF m 95 #[.val (.int p0), .val (.int p1), .val (.int p2), .val (.int p3), .val (.int p4), .val (.int (vb p0 p1 p2 p3 p4)), .val (.ref r6_86), .val (.int (vs p0 p1 p2 p3 p4)), .unset, .unset, .unset] [])) ?_ (fun t q => XS.istore X1.here hx rfl (hb hby at_93) rfl (l' := #[.val (.int p0), .val (.int p1), .val (.int p2), .val (.int p3), .val (.int p4), .val (.int (vb p0 p1 p2 p3 p4)), .val (.ref r6_86), .val (.int (vs p0 p1 p2 p3 p4)), .unset, .unset, .unset]) rfl q)
    refine own_st (T' := T1) (f' := (mkF m 97 #[.val (.int p0), .val (.int p1), .val (.int p2), .val (.int p3), .val (.int p4), .val (.int (vb p0 p1 p2 p3 p4)), .val (.ref r6_86), .val (.int (vs p0 p1 p2 p3 p4)), .unset, .unset, .unset] [(.int (vs p0 p1 p2 p3 p4))])) ?_ (fun t q => XS.iload X1.here hx rfl (hb hby at_95) rfl q)
    refine own_st (T' := T1) (f' := (mkF m 99 #[.val (.int p0), .val (.int p1), .val (.int p2), .val (.int p3), .val (.int p4), .val (.int (vb p0 p1 p2 p3 p4)), .val (.ref r6_86), .val (.int (vs p0 p1 p2 p3 p4)), .unset, .unset, .unset] [(.int p4), (.int (vs p0 p1 p2 p3 p4))])) ?_ (fun t q => XS.iload X1.here hx rfl (hb hby at_97) rfl q)
    refine own_st (T' := T1) (f' := (mkF m 101 #[.val (.int p0), .val (.int p1), .val (.int p2), .val (.int p3), .val (.int p4), .val (.int (vb p0 p1 p2 p3 p4)), .val (.ref r6_86), .val (.int (vs p0 p1 p2 p3 p4)), .unset, .unset, .unset] [(.int (2147483647 : Int32)), (.int p4), (.int (vs p0 p1 p2 p3 p4))])) ?_ (fun t q => X1.ldcInt hx hown (mvT hZ (hw _ (List.mem_of_getElem? (i := 1) rfl))) (g := (mkF m 99 #[.val (.int p0), .val (.int p1), .val (.int p2), .val (.int p3), .val (.int p4), .val (.int (vb p0 p1 p2 p3 p4)), .val (.ref r6_86), .val (.int (vs p0 p1 p2 p3 p4)), .unset, .unset, .unset] [(.int p4), (.int (vs p0 p1 p2 p3 p4))])) rfl (hb hby at_99) _ q)
    refine own_st (T' := T1) (f' := (mkF m 102 #[.val (.int p0), .val (.int p1), .val (.int p2), .val (.int p3), .val (.int p4), .val (.int (vb p0 p1 p2 p3 p4)), .val (.ref r6_86), .val (.int (vs p0 p1 p2 p3 p4)), .unset, .unset, .unset] [(.int (p4 &&& (2147483647 : Int32))), (.int (vs p0 p1 p2 p3 p4))])) ?_ (fun t q => XS.iand X1.here hx rfl (hb hby at_101) rfl q)
    refine own_st (T' := T1) (f' := (mkF m 103 #[.val (.int p0), .val (.int p1), .val (.int p2), .val (.int p3), .val (.int p4), .val (.int (vb p0 p1 p2 p3 p4)), .val (.ref r6_86), .val (.int (vs p0 p1 p2 p3 p4)), .unset, .unset, .unset] [(.int (5 : Int32)), (.int (p4 &&& (2147483647 : Int32))), (.int (vs p0 p1 p2 p3 p4))])) ?_ (fun t q => XS.iconst X1.here hx rfl (hb hby at_102) q)
    refine own_st (T' := T1) (f' := (mkF m 105 #[.val (.int p0), .val (.int p1), .val (.int p2), .val (.int p3), .val (.int p4), .val (.int (vb p0 p1 p2 p3 p4)), .val (.ref r6_86), .val (.int (vs p0 p1 p2 p3 p4)), .unset, .unset, .unset] [(.int (vs p0 p1 p2 p3 p4)), (.int (5 : Int32)), (.int (p4 &&& (2147483647 : Int32))), (.int (vs p0 p1 p2 p3 p4))])) ?_ (fun t q => XS.iload X1.here hx rfl (hb hby at_103) rfl q)
    refine own_st (T' := T1) (f' := (mkF m 106 #[.val (.int p0), .val (.int p1), .val (.int p2), .val (.int p3), .val (.int p4), .val (.int (vb p0 p1 p2 p3 p4)), .val (.ref r6_86), .val (.int (vs p0 p1 p2 p3 p4)), .unset, .unset, .unset] [(.int ((5 : Int32) - (vs p0 p1 p2 p3 p4))), (.int (p4 &&& (2147483647 : Int32))), (.int (vs p0 p1 p2 p3 p4))])) ?_ (fun t q => XS.isub X1.here hx rfl (hb hby at_105) rfl q)
    refine own_st (T' := T1) (f' := (mkF m 107 #[.val (.int p0), .val (.int p1), .val (.int p2), .val (.int p3), .val (.int p4), .val (.int (vb p0 p1 p2 p3 p4)), .val (.ref r6_86), .val (.int (vs p0 p1 p2 p3 p4)), .unset, .unset, .unset] [(.int ((p4 &&& (2147483647 : Int32)) - ((p4 &&& (2147483647 : Int32)) / ((5 : Int32) - (vs p0 p1 p2 p3 p4))) * ((5 : Int32) - (vs p0 p1 p2 p3 p4)))), (.int (vs p0 p1 p2 p3 p4))])) ?_ (fun t q => XS.irem X1.here hx rfl (hb hby at_106) rfl (own_nz p0 p1 p2 p3 p4) q)
    refine own_st (T' := T1) (f' := (mkF m 108 #[.val (.int p0), .val (.int p1), .val (.int p2), .val (.int p3), .val (.int p4), .val (.int (vb p0 p1 p2 p3 p4)), .val (.ref r6_86), .val (.int (vs p0 p1 p2 p3 p4)), .unset, .unset, .unset] [(.int ((vs p0 p1 p2 p3 p4) + ((p4 &&& (2147483647 : Int32)) - ((p4 &&& (2147483647 : Int32)) / ((5 : Int32) - (vs p0 p1 p2 p3 p4))) * ((5 : Int32) - (vs p0 p1 p2 p3 p4)))))])) ?_ (fun t q => XS.iadd X1.here hx rfl (hb hby at_107) rfl q)
    refine own_st (T' := T1) (f' := (mkF m 110 #[.val (.int p0), .val (.int p1), .val (.int p2), .val (.int p3), .val (.int p4), .val (.int (vb p0 p1 p2 p3 p4)), .val (.ref r6_86), .val (.int (vs p0 p1 p2 p3 p4)), .val (.int (ve p0 p1 p2 p3 p4)), .unset, .unset] [])) ?_ (fun t q => XS.istore X1.here hx rfl (hb hby at_108) rfl (l' := #[.val (.int p0), .val (.int p1), .val (.int p2), .val (.int p3), .val (.int p4), .val (.int (vb p0 p1 p2 p3 p4)), .val (.ref r6_86), .val (.int (vs p0 p1 p2 p3 p4)), .val (.int (ve p0 p1 p2 p3 p4)), .unset, .unset]) rfl q)
    refine own_st (T' := T1) (f' := (mkF m 112 #[.val (.int p0), .val (.int p1), .val (.int p2), .val (.int p3), .val (.int p4), .val (.int (vb p0 p1 p2 p3 p4)), .val (.ref r6_86), .val (.int (vs p0 p1 p2 p3 p4)), .val (.int (ve p0 p1 p2 p3 p4)), .unset, .unset] [(.ref r6_86)])) ?_ (fun t q => XS.aload X1.here hx rfl (hb hby at_110) rfl rfl q)
    refine own_st (T' := T1) (f' := (mkF m 113 #[.val (.int p0), .val (.int p1), .val (.int p2), .val (.int p3), .val (.int p4), .val (.int (vb p0 p1 p2 p3 p4)), .val (.ref r6_86), .val (.int (vs p0 p1 p2 p3 p4)), .val (.int (ve p0 p1 p2 p3 p4)), .unset, .unset] [(.int (0 : Int32)), (.ref r6_86)])) ?_ (fun t q => XS.iconst X1.here hx rfl (hb hby at_112) q)
    refine own_st (T' := T1) (f' := (mkF m 115 #[.val (.int p0), .val (.int p1), .val (.int p2), .val (.int p3), .val (.int p4), .val (.int (vb p0 p1 p2 p3 p4)), .val (.ref r6_86), .val (.int (vs p0 p1 p2 p3 p4)), .val (.int (ve p0 p1 p2 p3 p4)), .unset, .unset] [(.int (vs p0 p1 p2 p3 p4)), (.int (0 : Int32)), (.ref r6_86)])) ?_ (fun t q => XS.iload X1.here hx rfl (hb hby at_113) rfl q)
    refine own_st (T' := T1) (f' := (mkF m 117 #[.val (.int p0), .val (.int p1), .val (.int p2), .val (.int p3), .val (.int p4), .val (.int (vb p0 p1 p2 p3 p4)), .val (.ref r6_86), .val (.int (vs p0 p1 p2 p3 p4)), .val (.int (ve p0 p1 p2 p3 p4)), .unset, .unset] [(.int (ve p0 p1 p2 p3 p4)), (.int (vs p0 p1 p2 p3 p4)), (.int (0 : Int32)), (.ref r6_86)])) ?_ (fun t q => XS.iload X1.here hx rfl (hb hby at_115) rfl q)
    refine own_st (T' := T1) (f' := (mkF m 119 #[.val (.int p0), .val (.int p1), .val (.int p2), .val (.int p3), .val (.int p4), .val (.int (vb p0 p1 p2 p3 p4)), .val (.ref r6_86), .val (.int (vs p0 p1 p2 p3 p4)), .val (.int (ve p0 p1 p2 p3 p4)), .unset, .unset] [(.int (vb p0 p1 p2 p3 p4)), (.int (ve p0 p1 p2 p3 p4)), (.int (vs p0 p1 p2 p3 p4)), (.int (0 : Int32)), (.ref r6_86)])) ?_ (fun t q => XS.iload X1.here hx rfl (hb hby at_117) rfl q)
    obtain ⟨_, _, ⟨T2, L2, k2, n2⟩, -, X2, ⟨Lc2, hQ2, l2, y2, z2⟩, st2⟩ := Jvm.LawKit.callS X1 hx (y := (⟨"com/example/cuvette/cuvette/hl7/Er7SplitPinLaw", "sepAt", "([BIIIB)I"⟩ : MethodName)) hown (mvT hZ (hw _ (List.mem_of_getElem? (i := 2) rfl))) (mvT hZ (hw _ (List.mem_of_getElem? (i := 3) rfl))) (mvT hZ (hw _ (List.mem_of_getElem? (i := 4) rfl))) (mvT hZ (hw _ (List.mem_of_getElem? (i := 5) rfl))) (by decide) (backOf (W := 0) (rm1 l Z a0 hw [] r6_86 (0 : Int32) (vs p0 p1 p2 p3 p4) (ve p0 p1 p2 p3 p4) (vb p0 p1 p2 p3 p4) 4 (vF p0 p1 p2 p3 p4 g100_86 F6_86) T1.heap n0 A1_r6_86 ⟨by decide, by decide⟩) hZ (hw _ (List.mem_of_getElem? (i := 5) rfl)) (hw _ (List.mem_of_getElem? (i := 4) rfl)) (by decide) (by decide)) (g := (mkF m 119 #[.val (.int p0), .val (.int p1), .val (.int p2), .val (.int p3), .val (.int p4), .val (.int (vb p0 p1 p2 p3 p4)), .val (.ref r6_86), .val (.int (vs p0 p1 p2 p3 p4)), .val (.int (ve p0 p1 p2 p3 p4)), .unset, .unset] [(.int (vb p0 p1 p2 p3 p4)), (.int (ve p0 p1 p2 p3 p4)), (.int (vs p0 p1 p2 p3 p4)), (.int (0 : Int32)), (.ref r6_86)])) rfl (by rw [hml]; rfl) (argsL := [(.ref r6_86), (.int (0 : Int32)), (.int (vs p0 p1 p2 p3 p4)), (.int (ve p0 p1 p2 p3 p4)), (.int (vb p0 p1 p2 p3 p4))]) (rest := []) (lenOf pd_1 rfl) rfl (by show 2 * 0 + _ ≤ _; exact Nat.le_of_eq rfl) (hb hby at_119) (fun _ _ => ⟨rfl, rfl, (Nat.le_of_ble_eq_true rfl), (Nat.le_of_ble_eq_true rfl)⟩)
    dsimp only [Pt.U, Pt.locs, Pt.cells, Pt.slots] at X2 l2 y2 z2 st2 hQ2
    subst l2 y2 z2
    obtain ⟨rfl, N2q, e2⟩ := hQ2
    have N2 := Fr.app N1 N2q
    have zs2 : n0 ≤ T2.heap.size := by rw [e2]; exact zs1
    have A2_r6_86 := own_A.eq A1_r6_86 e2
    refine own_st (T' := T2) (f' := (mkF m 122 #[.val (.int p0), .val (.int p1), .val (.int p2), .val (.int p3), .val (.int p4), .val (.int (vb p0 p1 p2 p3 p4)), .val (.ref r6_86), .val (.int (vs p0 p1 p2 p3 p4)), .val (.int (ve p0 p1 p2 p3 p4)), .unset, .unset] [(.int (f1 (0 : Int32) (vs p0 p1 p2 p3 p4) (ve p0 p1 p2 p3 p4) (vb p0 p1 p2 p3 p4) (vF p0 p1 p2 p3 p4 g100_86 F6_86)))])) ?_ (fun t q => st2 _ q)
    refine own_st (T' := T2) (f' := (mkF m 124 #[.val (.int p0), .val (.int p1), .val (.int p2), .val (.int p3), .val (.int p4), .val (.int (vb p0 p1 p2 p3 p4)), .val (.ref r6_86), .val (.int (vs p0 p1 p2 p3 p4)), .val (.int (ve p0 p1 p2 p3 p4)), .unset, .unset] [(.ref r6_86), (.int (f1 (0 : Int32) (vs p0 p1 p2 p3 p4) (ve p0 p1 p2 p3 p4) (vb p0 p1 p2 p3 p4) (vF p0 p1 p2 p3 p4 g100_86 F6_86)))])) ?_ (fun t q => XS.aload X2.here hx rfl (hb hby at_122) rfl rfl q)
    refine own_st (T' := T2) (f' := (mkF m 125 #[.val (.int p0), .val (.int p1), .val (.int p2), .val (.int p3), .val (.int p4), .val (.int (vb p0 p1 p2 p3 p4)), .val (.ref r6_86), .val (.int (vs p0 p1 p2 p3 p4)), .val (.int (ve p0 p1 p2 p3 p4)), .unset, .unset] [(.int (1 : Int32)), (.ref r6_86), (.int (f1 (0 : Int32) (vs p0 p1 p2 p3 p4) (ve p0 p1 p2 p3 p4) (vb p0 p1 p2 p3 p4) (vF p0 p1 p2 p3 p4 g100_86 F6_86)))])) ?_ (fun t q => XS.iconst X2.here hx rfl (hb hby at_124) q)
    refine own_st (T' := T2) (f' := (mkF m 127 #[.val (.int p0), .val (.int p1), .val (.int p2), .val (.int p3), .val (.int p4), .val (.int (vb p0 p1 p2 p3 p4)), .val (.ref r6_86), .val (.int (vs p0 p1 p2 p3 p4)), .val (.int (ve p0 p1 p2 p3 p4)), .unset, .unset] [(.int (vs p0 p1 p2 p3 p4)), (.int (1 : Int32)), (.ref r6_86), (.int (f1 (0 : Int32) (vs p0 p1 p2 p3 p4) (ve p0 p1 p2 p3 p4) (vb p0 p1 p2 p3 p4) (vF p0 p1 p2 p3 p4 g100_86 F6_86)))])) ?_ (fun t q => XS.iload X2.here hx rfl (hb hby at_125) rfl q)
    refine own_st (T' := T2) (f' := (mkF m 129 #[.val (.int p0), .val (.int p1), .val (.int p2), .val (.int p3), .val (.int p4), .val (.int (vb p0 p1 p2 p3 p4)), .val (.ref r6_86), .val (.int (vs p0 p1 p2 p3 p4)), .val (.int (ve p0 p1 p2 p3 p4)), .unset, .unset] [(.int (ve p0 p1 p2 p3 p4)), (.int (vs p0 p1 p2 p3 p4)), (.int (1 : Int32)), (.ref r6_86), (.int (f1 (0 : Int32) (vs p0 p1 p2 p3 p4) (ve p0 p1 p2 p3 p4) (vb p0 p1 p2 p3 p4) (vF p0 p1 p2 p3 p4 g100_86 F6_86)))])) ?_ (fun t q => XS.iload X2.here hx rfl (hb hby at_127) rfl q)
    refine own_st (T' := T2) (f' := (mkF m 131 #[.val (.int p0), .val (.int p1), .val (.int p2), .val (.int p3), .val (.int p4), .val (.int (vb p0 p1 p2 p3 p4)), .val (.ref r6_86), .val (.int (vs p0 p1 p2 p3 p4)), .val (.int (ve p0 p1 p2 p3 p4)), .unset, .unset] [(.int (vb p0 p1 p2 p3 p4)), (.int (ve p0 p1 p2 p3 p4)), (.int (vs p0 p1 p2 p3 p4)), (.int (1 : Int32)), (.ref r6_86), (.int (f1 (0 : Int32) (vs p0 p1 p2 p3 p4) (ve p0 p1 p2 p3 p4) (vb p0 p1 p2 p3 p4) (vF p0 p1 p2 p3 p4 g100_86 F6_86)))])) ?_ (fun t q => XS.iload X2.here hx rfl (hb hby at_129) rfl q)
    obtain ⟨_, _, ⟨T3, L3, k3, n3⟩, -, X3, ⟨Lc3, hQ3, l3, y3, z3⟩, st3⟩ := Jvm.LawKit.callS X2 hx (y := (⟨"com/example/cuvette/cuvette/hl7/Er7SplitPinLaw", "sepAt", "([BIIIB)I"⟩ : MethodName)) hown (mvT hZ (hw _ (List.mem_of_getElem? (i := 2) rfl))) (mvT hZ (hw _ (List.mem_of_getElem? (i := 3) rfl))) (mvT hZ (hw _ (List.mem_of_getElem? (i := 4) rfl))) (mvT hZ (hw _ (List.mem_of_getElem? (i := 5) rfl))) (by decide) (backOf (W := 1) (rm1 l Z a0 hw [] r6_86 (1 : Int32) (vs p0 p1 p2 p3 p4) (ve p0 p1 p2 p3 p4) (vb p0 p1 p2 p3 p4) 4 (vF p0 p1 p2 p3 p4 g100_86 F6_86) T2.heap n0 A2_r6_86 ⟨by decide, by decide⟩) hZ (hw _ (List.mem_of_getElem? (i := 5) rfl)) (hw _ (List.mem_of_getElem? (i := 4) rfl)) (by decide) (by decide)) (g := (mkF m 131 #[.val (.int p0), .val (.int p1), .val (.int p2), .val (.int p3), .val (.int p4), .val (.int (vb p0 p1 p2 p3 p4)), .val (.ref r6_86), .val (.int (vs p0 p1 p2 p3 p4)), .val (.int (ve p0 p1 p2 p3 p4)), .unset, .unset] [(.int (vb p0 p1 p2 p3 p4)), (.int (ve p0 p1 p2 p3 p4)), (.int (vs p0 p1 p2 p3 p4)), (.int (1 : Int32)), (.ref r6_86), (.int (f1 (0 : Int32) (vs p0 p1 p2 p3 p4) (ve p0 p1 p2 p3 p4) (vb p0 p1 p2 p3 p4) (vF p0 p1 p2 p3 p4 g100_86 F6_86)))])) rfl (by rw [hml]; rfl) (argsL := [(.ref r6_86), (.int (1 : Int32)), (.int (vs p0 p1 p2 p3 p4)), (.int (ve p0 p1 p2 p3 p4)), (.int (vb p0 p1 p2 p3 p4))]) (rest := [(.int (f1 (0 : Int32) (vs p0 p1 p2 p3 p4) (ve p0 p1 p2 p3 p4) (vb p0 p1 p2 p3 p4) (vF p0 p1 p2 p3 p4 g100_86 F6_86)))]) (lenOf pd_1 rfl) rfl (by show 2 * 0 + _ ≤ _; exact Nat.le_of_eq rfl) (hb hby at_131) (fun _ _ => ⟨rfl, rfl, (Nat.le_of_ble_eq_true rfl), (Nat.le_of_ble_eq_true rfl)⟩)
    dsimp only [Pt.U, Pt.locs, Pt.cells, Pt.slots] at X3 l3 y3 z3 st3 hQ3
    subst l3 y3 z3
    obtain ⟨rfl, N3q, e3⟩ := hQ3
    have N3 := Fr.app N2 N3q
    have zs3 : n0 ≤ T3.heap.size := by rw [e3]; exact zs2
    have A3_r6_86 := own_A.eq A2_r6_86 e3
    refine own_st (T' := T3) (f' := (mkF m 134 #[.val (.int p0), .val (.int p1), .val (.int p2), .val (.int p3), .val (.int p4), .val (.int (vb p0 p1 p2 p3 p4)), .val (.ref r6_86), .val (.int (vs p0 p1 p2 p3 p4)), .val (.int (ve p0 p1 p2 p3 p4)), .unset, .unset] [(.int (f1 (1 : Int32) (vs p0 p1 p2 p3 p4) (ve p0 p1 p2 p3 p4) (vb p0 p1 p2 p3 p4) (vF p0 p1 p2 p3 p4 g100_86 F6_86))), (.int (f1 (0 : Int32) (vs p0 p1 p2 p3 p4) (ve p0 p1 p2 p3 p4) (vb p0 p1 p2 p3 p4) (vF p0 p1 p2 p3 p4 g100_86 F6_86)))])) ?_ (fun t q => st3 _ q)
    refine own_st (T' := T3) (f' := (mkF m 135 #[.val (.int p0), .val (.int p1), .val (.int p2), .val (.int p3), .val (.int p4), .val (.int (vb p0 p1 p2 p3 p4)), .val (.ref r6_86), .val (.int (vs p0 p1 p2 p3 p4)), .val (.int (ve p0 p1 p2 p3 p4)), .unset, .unset] [(.int ((f1 (0 : Int32) (vs p0 p1 p2 p3 p4) (ve p0 p1 p2 p3 p4) (vb p0 p1 p2 p3 p4) (vF p0 p1 p2 p3 p4 g100_86 F6_86)) + (f1 (1 : Int32) (vs p0 p1 p2 p3 p4) (ve p0 p1 p2 p3 p4) (vb p0 p1 p2 p3 p4) (vF p0 p1 p2 p3 p4 g100_86 F6_86))))])) ?_ (fun t q => XS.iadd X3.here hx rfl (hb hby at_134) rfl q)
    refine own_st (T' := T3) (f' := (mkF m 137 #[.val (.int p0), .val (.int p1), .val (.int p2), .val (.int p3), .val (.int p4), .val (.int (vb p0 p1 p2 p3 p4)), .val (.ref r6_86), .val (.int (vs p0 p1 p2 p3 p4)), .val (.int (ve p0 p1 p2 p3 p4)), .unset, .unset] [(.ref r6_86), (.int ((f1 (0 : Int32) (vs p0 p1 p2 p3 p4) (ve p0 p1 p2 p3 p4) (vb p0 p1 p2 p3 p4) (vF p0 p1 p2 p3 p4 g100_86 F6_86)) + (f1 (1 : Int32) (vs p0 p1 p2 p3 p4) (ve p0 p1 p2 p3 p4) (vb p0 p1 p2 p3 p4) (vF p0 p1 p2 p3 p4 g100_86 F6_86))))])) ?_ (fun t q => XS.aload X3.here hx rfl (hb hby at_135) rfl rfl q)
    refine own_st (T' := T3) (f' := (mkF m 138 #[.val (.int p0), .val (.int p1), .val (.int p2), .val (.int p3), .val (.int p4), .val (.int (vb p0 p1 p2 p3 p4)), .val (.ref r6_86), .val (.int (vs p0 p1 p2 p3 p4)), .val (.int (ve p0 p1 p2 p3 p4)), .unset, .unset] [(.int (2 : Int32)), (.ref r6_86), (.int ((f1 (0 : Int32) (vs p0 p1 p2 p3 p4) (ve p0 p1 p2 p3 p4) (vb p0 p1 p2 p3 p4) (vF p0 p1 p2 p3 p4 g100_86 F6_86)) + (f1 (1 : Int32) (vs p0 p1 p2 p3 p4) (ve p0 p1 p2 p3 p4) (vb p0 p1 p2 p3 p4) (vF p0 p1 p2 p3 p4 g100_86 F6_86))))])) ?_ (fun t q => XS.iconst X3.here hx rfl (hb hby at_137) q)
    refine own_st (T' := T3) (f' := (mkF m 140 #[.val (.int p0), .val (.int p1), .val (.int p2), .val (.int p3), .val (.int p4), .val (.int (vb p0 p1 p2 p3 p4)), .val (.ref r6_86), .val (.int (vs p0 p1 p2 p3 p4)), .val (.int (ve p0 p1 p2 p3 p4)), .unset, .unset] [(.int (vs p0 p1 p2 p3 p4)), (.int (2 : Int32)), (.ref r6_86), (.int ((f1 (0 : Int32) (vs p0 p1 p2 p3 p4) (ve p0 p1 p2 p3 p4) (vb p0 p1 p2 p3 p4) (vF p0 p1 p2 p3 p4 g100_86 F6_86)) + (f1 (1 : Int32) (vs p0 p1 p2 p3 p4) (ve p0 p1 p2 p3 p4) (vb p0 p1 p2 p3 p4) (vF p0 p1 p2 p3 p4 g100_86 F6_86))))])) ?_ (fun t q => XS.iload X3.here hx rfl (hb hby at_138) rfl q)
    refine own_st (T' := T3) (f' := (mkF m 142 #[.val (.int p0), .val (.int p1), .val (.int p2), .val (.int p3), .val (.int p4), .val (.int (vb p0 p1 p2 p3 p4)), .val (.ref r6_86), .val (.int (vs p0 p1 p2 p3 p4)), .val (.int (ve p0 p1 p2 p3 p4)), .unset, .unset] [(.int (ve p0 p1 p2 p3 p4)), (.int (vs p0 p1 p2 p3 p4)), (.int (2 : Int32)), (.ref r6_86), (.int ((f1 (0 : Int32) (vs p0 p1 p2 p3 p4) (ve p0 p1 p2 p3 p4) (vb p0 p1 p2 p3 p4) (vF p0 p1 p2 p3 p4 g100_86 F6_86)) + (f1 (1 : Int32) (vs p0 p1 p2 p3 p4) (ve p0 p1 p2 p3 p4) (vb p0 p1 p2 p3 p4) (vF p0 p1 p2 p3 p4 g100_86 F6_86))))])) ?_ (fun t q => XS.iload X3.here hx rfl (hb hby at_140) rfl q)
    refine own_st (T' := T3) (f' := (mkF m 144 #[.val (.int p0), .val (.int p1), .val (.int p2), .val (.int p3), .val (.int p4), .val (.int (vb p0 p1 p2 p3 p4)), .val (.ref r6_86), .val (.int (vs p0 p1 p2 p3 p4)), .val (.int (ve p0 p1 p2 p3 p4)), .unset, .unset] [(.int (vb p0 p1 p2 p3 p4)), (.int (ve p0 p1 p2 p3 p4)), (.int (vs p0 p1 p2 p3 p4)), (.int (2 : Int32)), (.ref r6_86), (.int ((f1 (0 : Int32) (vs p0 p1 p2 p3 p4) (ve p0 p1 p2 p3 p4) (vb p0 p1 p2 p3 p4) (vF p0 p1 p2 p3 p4 g100_86 F6_86)) + (f1 (1 : Int32) (vs p0 p1 p2 p3 p4) (ve p0 p1 p2 p3 p4) (vb p0 p1 p2 p3 p4) (vF p0 p1 p2 p3 p4 g100_86 F6_86))))])) ?_ (fun t q => XS.iload X3.here hx rfl (hb hby at_142) rfl q)
    obtain ⟨_, _, ⟨T4, L4, k4, n4⟩, -, X4, ⟨Lc4, hQ4, l4, y4, z4⟩, st4⟩ := Jvm.LawKit.callS X3 hx (y := (⟨"com/example/cuvette/cuvette/hl7/Er7SplitPinLaw", "sepAt", "([BIIIB)I"⟩ : MethodName)) hown (mvT hZ (hw _ (List.mem_of_getElem? (i := 2) rfl))) (mvT hZ (hw _ (List.mem_of_getElem? (i := 3) rfl))) (mvT hZ (hw _ (List.mem_of_getElem? (i := 4) rfl))) (mvT hZ (hw _ (List.mem_of_getElem? (i := 5) rfl))) (by decide) (backOf (W := 1) (rm1 l Z a0 hw [] r6_86 (2 : Int32) (vs p0 p1 p2 p3 p4) (ve p0 p1 p2 p3 p4) (vb p0 p1 p2 p3 p4) 4 (vF p0 p1 p2 p3 p4 g100_86 F6_86) T3.heap n0 A3_r6_86 ⟨by decide, by decide⟩) hZ (hw _ (List.mem_of_getElem? (i := 5) rfl)) (hw _ (List.mem_of_getElem? (i := 4) rfl)) (by decide) (by decide)) (g := (mkF m 144 #[.val (.int p0), .val (.int p1), .val (.int p2), .val (.int p3), .val (.int p4), .val (.int (vb p0 p1 p2 p3 p4)), .val (.ref r6_86), .val (.int (vs p0 p1 p2 p3 p4)), .val (.int (ve p0 p1 p2 p3 p4)), .unset, .unset] [(.int (vb p0 p1 p2 p3 p4)), (.int (ve p0 p1 p2 p3 p4)), (.int (vs p0 p1 p2 p3 p4)), (.int (2 : Int32)), (.ref r6_86), (.int ((f1 (0 : Int32) (vs p0 p1 p2 p3 p4) (ve p0 p1 p2 p3 p4) (vb p0 p1 p2 p3 p4) (vF p0 p1 p2 p3 p4 g100_86 F6_86)) + (f1 (1 : Int32) (vs p0 p1 p2 p3 p4) (ve p0 p1 p2 p3 p4) (vb p0 p1 p2 p3 p4) (vF p0 p1 p2 p3 p4 g100_86 F6_86))))])) rfl (by rw [hml]; rfl) (argsL := [(.ref r6_86), (.int (2 : Int32)), (.int (vs p0 p1 p2 p3 p4)), (.int (ve p0 p1 p2 p3 p4)), (.int (vb p0 p1 p2 p3 p4))]) (rest := [(.int ((f1 (0 : Int32) (vs p0 p1 p2 p3 p4) (ve p0 p1 p2 p3 p4) (vb p0 p1 p2 p3 p4) (vF p0 p1 p2 p3 p4 g100_86 F6_86)) + (f1 (1 : Int32) (vs p0 p1 p2 p3 p4) (ve p0 p1 p2 p3 p4) (vb p0 p1 p2 p3 p4) (vF p0 p1 p2 p3 p4 g100_86 F6_86))))]) (lenOf pd_1 rfl) rfl (by show 2 * 0 + _ ≤ _; exact Nat.le_of_eq rfl) (hb hby at_144) (fun _ _ => ⟨rfl, rfl, (Nat.le_of_ble_eq_true rfl), (Nat.le_of_ble_eq_true rfl)⟩)
    dsimp only [Pt.U, Pt.locs, Pt.cells, Pt.slots] at X4 l4 y4 z4 st4 hQ4
    subst l4 y4 z4
    obtain ⟨rfl, N4q, e4⟩ := hQ4
    have N4 := Fr.app N3 N4q
    have zs4 : n0 ≤ T4.heap.size := by rw [e4]; exact zs3
    have A4_r6_86 := own_A.eq A3_r6_86 e4
    refine own_st (T' := T4) (f' := (mkF m 147 #[.val (.int p0), .val (.int p1), .val (.int p2), .val (.int p3), .val (.int p4), .val (.int (vb p0 p1 p2 p3 p4)), .val (.ref r6_86), .val (.int (vs p0 p1 p2 p3 p4)), .val (.int (ve p0 p1 p2 p3 p4)), .unset, .unset] [(.int (f1 (2 : Int32) (vs p0 p1 p2 p3 p4) (ve p0 p1 p2 p3 p4) (vb p0 p1 p2 p3 p4) (vF p0 p1 p2 p3 p4 g100_86 F6_86))), (.int ((f1 (0 : Int32) (vs p0 p1 p2 p3 p4) (ve p0 p1 p2 p3 p4) (vb p0 p1 p2 p3 p4) (vF p0 p1 p2 p3 p4 g100_86 F6_86)) + (f1 (1 : Int32) (vs p0 p1 p2 p3 p4) (ve p0 p1 p2 p3 p4) (vb p0 p1 p2 p3 p4) (vF p0 p1 p2 p3 p4 g100_86 F6_86))))])) ?_ (fun t q => st4 _ q)
    refine own_st (T' := T4) (f' := (mkF m 148 #[.val (.int p0), .val (.int p1), .val (.int p2), .val (.int p3), .val (.int p4), .val (.int (vb p0 p1 p2 p3 p4)), .val (.ref r6_86), .val (.int (vs p0 p1 p2 p3 p4)), .val (.int (ve p0 p1 p2 p3 p4)), .unset, .unset] [(.int (((f1 (0 : Int32) (vs p0 p1 p2 p3 p4) (ve p0 p1 p2 p3 p4) (vb p0 p1 p2 p3 p4) (vF p0 p1 p2 p3 p4 g100_86 F6_86)) + (f1 (1 : Int32) (vs p0 p1 p2 p3 p4) (ve p0 p1 p2 p3 p4) (vb p0 p1 p2 p3 p4) (vF p0 p1 p2 p3 p4 g100_86 F6_86))) + (f1 (2 : Int32) (vs p0 p1 p2 p3 p4) (ve p0 p1 p2 p3 p4) (vb p0 p1 p2 p3 p4) (vF p0 p1 p2 p3 p4 g100_86 F6_86))))])) ?_ (fun t q => XS.iadd X4.here hx rfl (hb hby at_147) rfl q)
    refine own_st (T' := T4) (f' := (mkF m 150 #[.val (.int p0), .val (.int p1), .val (.int p2), .val (.int p3), .val (.int p4), .val (.int (vb p0 p1 p2 p3 p4)), .val (.ref r6_86), .val (.int (vs p0 p1 p2 p3 p4)), .val (.int (ve p0 p1 p2 p3 p4)), .unset, .unset] [(.ref r6_86), (.int (((f1 (0 : Int32) (vs p0 p1 p2 p3 p4) (ve p0 p1 p2 p3 p4) (vb p0 p1 p2 p3 p4) (vF p0 p1 p2 p3 p4 g100_86 F6_86)) + (f1 (1 : Int32) (vs p0 p1 p2 p3 p4) (ve p0 p1 p2 p3 p4) (vb p0 p1 p2 p3 p4) (vF p0 p1 p2 p3 p4 g100_86 F6_86))) + (f1 (2 : Int32) (vs p0 p1 p2 p3 p4) (ve p0 p1 p2 p3 p4) (vb p0 p1 p2 p3 p4) (vF p0 p1 p2 p3 p4 g100_86 F6_86))))])) ?_ (fun t q => XS.aload X4.here hx rfl (hb hby at_148) rfl rfl q)
    refine own_st (T' := T4) (f' := (mkF m 151 #[.val (.int p0), .val (.int p1), .val (.int p2), .val (.int p3), .val (.int p4), .val (.int (vb p0 p1 p2 p3 p4)), .val (.ref r6_86), .val (.int (vs p0 p1 p2 p3 p4)), .val (.int (ve p0 p1 p2 p3 p4)), .unset, .unset] [(.int (3 : Int32)), (.ref r6_86), (.int (((f1 (0 : Int32) (vs p0 p1 p2 p3 p4) (ve p0 p1 p2 p3 p4) (vb p0 p1 p2 p3 p4) (vF p0 p1 p2 p3 p4 g100_86 F6_86)) + (f1 (1 : Int32) (vs p0 p1 p2 p3 p4) (ve p0 p1 p2 p3 p4) (vb p0 p1 p2 p3 p4) (vF p0 p1 p2 p3 p4 g100_86 F6_86))) + (f1 (2 : Int32) (vs p0 p1 p2 p3 p4) (ve p0 p1 p2 p3 p4) (vb p0 p1 p2 p3 p4) (vF p0 p1 p2 p3 p4 g100_86 F6_86))))])) ?_ (fun t q => XS.iconst X4.here hx rfl (hb hby at_150) q)
    refine own_st (T' := T4) (f' := (mkF m 153 #[.val (.int p0), .val (.int p1), .val (.int p2), .val (.int p3), .val (.int p4), .val (.int (vb p0 p1 p2 p3 p4)), .val (.ref r6_86), .val (.int (vs p0 p1 p2 p3 p4)), .val (.int (ve p0 p1 p2 p3 p4)), .unset, .unset] [(.int (vs p0 p1 p2 p3 p4)), (.int (3 : Int32)), (.ref r6_86), (.int (((f1 (0 : Int32) (vs p0 p1 p2 p3 p4) (ve p0 p1 p2 p3 p4) (vb p0 p1 p2 p3 p4) (vF p0 p1 p2 p3 p4 g100_86 F6_86)) + (f1 (1 : Int32) (vs p0 p1 p2 p3 p4) (ve p0 p1 p2 p3 p4) (vb p0 p1 p2 p3 p4) (vF p0 p1 p2 p3 p4 g100_86 F6_86))) + (f1 (2 : Int32) (vs p0 p1 p2 p3 p4) (ve p0 p1 p2 p3 p4) (vb p0 p1 p2 p3 p4) (vF p0 p1 p2 p3 p4 g100_86 F6_86))))])) ?_ (fun t q => XS.iload X4.here hx rfl (hb hby at_151) rfl q)
    refine own_st (T' := T4) (f' := (mkF m 155 #[.val (.int p0), .val (.int p1), .val (.int p2), .val (.int p3), .val (.int p4), .val (.int (vb p0 p1 p2 p3 p4)), .val (.ref r6_86), .val (.int (vs p0 p1 p2 p3 p4)), .val (.int (ve p0 p1 p2 p3 p4)), .unset, .unset] [(.int (ve p0 p1 p2 p3 p4)), (.int (vs p0 p1 p2 p3 p4)), (.int (3 : Int32)), (.ref r6_86), (.int (((f1 (0 : Int32) (vs p0 p1 p2 p3 p4) (ve p0 p1 p2 p3 p4) (vb p0 p1 p2 p3 p4) (vF p0 p1 p2 p3 p4 g100_86 F6_86)) + (f1 (1 : Int32) (vs p0 p1 p2 p3 p4) (ve p0 p1 p2 p3 p4) (vb p0 p1 p2 p3 p4) (vF p0 p1 p2 p3 p4 g100_86 F6_86))) + (f1 (2 : Int32) (vs p0 p1 p2 p3 p4) (ve p0 p1 p2 p3 p4) (vb p0 p1 p2 p3 p4) (vF p0 p1 p2 p3 p4 g100_86 F6_86))))])) ?_ (fun t q => XS.iload X4.here hx rfl (hb hby at_153) rfl q)
    refine own_st (T' := T4) (f' := (mkF m 157 #[.val (.int p0), .val (.int p1), .val (.int p2), .val (.int p3), .val (.int p4), .val (.int (vb p0 p1 p2 p3 p4)), .val (.ref r6_86), .val (.int (vs p0 p1 p2 p3 p4)), .val (.int (ve p0 p1 p2 p3 p4)), .unset, .unset] [(.int (vb p0 p1 p2 p3 p4)), (.int (ve p0 p1 p2 p3 p4)), (.int (vs p0 p1 p2 p3 p4)), (.int (3 : Int32)), (.ref r6_86), (.int (((f1 (0 : Int32) (vs p0 p1 p2 p3 p4) (ve p0 p1 p2 p3 p4) (vb p0 p1 p2 p3 p4) (vF p0 p1 p2 p3 p4 g100_86 F6_86)) + (f1 (1 : Int32) (vs p0 p1 p2 p3 p4) (ve p0 p1 p2 p3 p4) (vb p0 p1 p2 p3 p4) (vF p0 p1 p2 p3 p4 g100_86 F6_86))) + (f1 (2 : Int32) (vs p0 p1 p2 p3 p4) (ve p0 p1 p2 p3 p4) (vb p0 p1 p2 p3 p4) (vF p0 p1 p2 p3 p4 g100_86 F6_86))))])) ?_ (fun t q => XS.iload X4.here hx rfl (hb hby at_155) rfl q)
    obtain ⟨_, _, ⟨T5, L5, k5, n5⟩, -, X5, ⟨Lc5, hQ5, l5, y5, z5⟩, st5⟩ := Jvm.LawKit.callS X4 hx (y := (⟨"com/example/cuvette/cuvette/hl7/Er7SplitPinLaw", "sepAt", "([BIIIB)I"⟩ : MethodName)) hown (mvT hZ (hw _ (List.mem_of_getElem? (i := 2) rfl))) (mvT hZ (hw _ (List.mem_of_getElem? (i := 3) rfl))) (mvT hZ (hw _ (List.mem_of_getElem? (i := 4) rfl))) (mvT hZ (hw _ (List.mem_of_getElem? (i := 5) rfl))) (by decide) (backOf (W := 1) (rm1 l Z a0 hw [] r6_86 (3 : Int32) (vs p0 p1 p2 p3 p4) (ve p0 p1 p2 p3 p4) (vb p0 p1 p2 p3 p4) 4 (vF p0 p1 p2 p3 p4 g100_86 F6_86) T4.heap n0 A4_r6_86 ⟨by decide, by decide⟩) hZ (hw _ (List.mem_of_getElem? (i := 5) rfl)) (hw _ (List.mem_of_getElem? (i := 4) rfl)) (by decide) (by decide)) (g := (mkF m 157 #[.val (.int p0), .val (.int p1), .val (.int p2), .val (.int p3), .val (.int p4), .val (.int (vb p0 p1 p2 p3 p4)), .val (.ref r6_86), .val (.int (vs p0 p1 p2 p3 p4)), .val (.int (ve p0 p1 p2 p3 p4)), .unset, .unset] [(.int (vb p0 p1 p2 p3 p4)), (.int (ve p0 p1 p2 p3 p4)), (.int (vs p0 p1 p2 p3 p4)), (.int (3 : Int32)), (.ref r6_86), (.int (((f1 (0 : Int32) (vs p0 p1 p2 p3 p4) (ve p0 p1 p2 p3 p4) (vb p0 p1 p2 p3 p4) (vF p0 p1 p2 p3 p4 g100_86 F6_86)) + (f1 (1 : Int32) (vs p0 p1 p2 p3 p4) (ve p0 p1 p2 p3 p4) (vb p0 p1 p2 p3 p4) (vF p0 p1 p2 p3 p4 g100_86 F6_86))) + (f1 (2 : Int32) (vs p0 p1 p2 p3 p4) (ve p0 p1 p2 p3 p4) (vb p0 p1 p2 p3 p4) (vF p0 p1 p2 p3 p4 g100_86 F6_86))))])) rfl (by rw [hml]; rfl) (argsL := [(.ref r6_86), (.int (3 : Int32)), (.int (vs p0 p1 p2 p3 p4)), (.int (ve p0 p1 p2 p3 p4)), (.int (vb p0 p1 p2 p3 p4))]) (rest := [(.int (((f1 (0 : Int32) (vs p0 p1 p2 p3 p4) (ve p0 p1 p2 p3 p4) (vb p0 p1 p2 p3 p4) (vF p0 p1 p2 p3 p4 g100_86 F6_86)) + (f1 (1 : Int32) (vs p0 p1 p2 p3 p4) (ve p0 p1 p2 p3 p4) (vb p0 p1 p2 p3 p4) (vF p0 p1 p2 p3 p4 g100_86 F6_86))) + (f1 (2 : Int32) (vs p0 p1 p2 p3 p4) (ve p0 p1 p2 p3 p4) (vb p0 p1 p2 p3 p4) (vF p0 p1 p2 p3 p4 g100_86 F6_86))))]) (lenOf pd_1 rfl) rfl (by show 2 * 0 + _ ≤ _; exact Nat.le_of_eq rfl) (hb hby at_157) (fun _ _ => ⟨rfl, rfl, (Nat.le_of_ble_eq_true rfl), (Nat.le_of_ble_eq_true rfl)⟩)
    dsimp only [Pt.U, Pt.locs, Pt.cells, Pt.slots] at X5 l5 y5 z5 st5 hQ5
    subst l5 y5 z5
    obtain ⟨rfl, N5q, e5⟩ := hQ5
    have N5 := Fr.app N4 N5q
    have zs5 : n0 ≤ T5.heap.size := by rw [e5]; exact zs4
    have A5_r6_86 := own_A.eq A4_r6_86 e5
    refine own_st (T' := T5) (f' := (mkF m 160 #[.val (.int p0), .val (.int p1), .val (.int p2), .val (.int p3), .val (.int p4), .val (.int (vb p0 p1 p2 p3 p4)), .val (.ref r6_86), .val (.int (vs p0 p1 p2 p3 p4)), .val (.int (ve p0 p1 p2 p3 p4)), .unset, .unset] [(.int (f1 (3 : Int32) (vs p0 p1 p2 p3 p4) (ve p0 p1 p2 p3 p4) (vb p0 p1 p2 p3 p4) (vF p0 p1 p2 p3 p4 g100_86 F6_86))), (.int (((f1 (0 : Int32) (vs p0 p1 p2 p3 p4) (ve p0 p1 p2 p3 p4) (vb p0 p1 p2 p3 p4) (vF p0 p1 p2 p3 p4 g100_86 F6_86)) + (f1 (1 : Int32) (vs p0 p1 p2 p3 p4) (ve p0 p1 p2 p3 p4) (vb p0 p1 p2 p3 p4) (vF p0 p1 p2 p3 p4 g100_86 F6_86))) + (f1 (2 : Int32) (vs p0 p1 p2 p3 p4) (ve p0 p1 p2 p3 p4) (vb p0 p1 p2 p3 p4) (vF p0 p1 p2 p3 p4 g100_86 F6_86))))])) ?_ (fun t q => st5 _ q)
    refine own_st (T' := T5) (f' := (mkF m 161 #[.val (.int p0), .val (.int p1), .val (.int p2), .val (.int p3), .val (.int p4), .val (.int (vb p0 p1 p2 p3 p4)), .val (.ref r6_86), .val (.int (vs p0 p1 p2 p3 p4)), .val (.int (ve p0 p1 p2 p3 p4)), .unset, .unset] [(.int ((((f1 (0 : Int32) (vs p0 p1 p2 p3 p4) (ve p0 p1 p2 p3 p4) (vb p0 p1 p2 p3 p4) (vF p0 p1 p2 p3 p4 g100_86 F6_86)) + (f1 (1 : Int32) (vs p0 p1 p2 p3 p4) (ve p0 p1 p2 p3 p4) (vb p0 p1 p2 p3 p4) (vF p0 p1 p2 p3 p4 g100_86 F6_86))) + (f1 (2 : Int32) (vs p0 p1 p2 p3 p4) (ve p0 p1 p2 p3 p4) (vb p0 p1 p2 p3 p4) (vF p0 p1 p2 p3 p4 g100_86 F6_86))) + (f1 (3 : Int32) (vs p0 p1 p2 p3 p4) (ve p0 p1 p2 p3 p4) (vb p0 p1 p2 p3 p4) (vF p0 p1 p2 p3 p4 g100_86 F6_86))))])) ?_ (fun t q => XS.iadd X5.here hx rfl (hb hby at_160) rfl q)
    refine own_st (T' := T5) (f' := (mkF m 163 #[.val (.int p0), .val (.int p1), .val (.int p2), .val (.int p3), .val (.int p4), .val (.int (vb p0 p1 p2 p3 p4)), .val (.ref r6_86), .val (.int (vs p0 p1 p2 p3 p4)), .val (.int (ve p0 p1 p2 p3 p4)), .val (.int ((((f1 (0 : Int32) (vs p0 p1 p2 p3 p4) (ve p0 p1 p2 p3 p4) (vb p0 p1 p2 p3 p4) (vF p0 p1 p2 p3 p4 g100_86 F6_86)) + (f1 (1 : Int32) (vs p0 p1 p2 p3 p4) (ve p0 p1 p2 p3 p4) (vb p0 p1 p2 p3 p4) (vF p0 p1 p2 p3 p4 g100_86 F6_86))) + (f1 (2 : Int32) (vs p0 p1 p2 p3 p4) (ve p0 p1 p2 p3 p4) (vb p0 p1 p2 p3 p4) (vF p0 p1 p2 p3 p4 g100_86 F6_86))) + (f1 (3 : Int32) (vs p0 p1 p2 p3 p4) (ve p0 p1 p2 p3 p4) (vb p0 p1 p2 p3 p4) (vF p0 p1 p2 p3 p4 g100_86 F6_86)))), .unset] [])) ?_ (fun t q => XS.istore X5.here hx rfl (hb hby at_161) rfl (l' := #[.val (.int p0), .val (.int p1), .val (.int p2), .val (.int p3), .val (.int p4), .val (.int (vb p0 p1 p2 p3 p4)), .val (.ref r6_86), .val (.int (vs p0 p1 p2 p3 p4)), .val (.int (ve p0 p1 p2 p3 p4)), .val (.int ((((f1 (0 : Int32) (vs p0 p1 p2 p3 p4) (ve p0 p1 p2 p3 p4) (vb p0 p1 p2 p3 p4) (vF p0 p1 p2 p3 p4 g100_86 F6_86)) + (f1 (1 : Int32) (vs p0 p1 p2 p3 p4) (ve p0 p1 p2 p3 p4) (vb p0 p1 p2 p3 p4) (vF p0 p1 p2 p3 p4 g100_86 F6_86))) + (f1 (2 : Int32) (vs p0 p1 p2 p3 p4) (ve p0 p1 p2 p3 p4) (vb p0 p1 p2 p3 p4) (vF p0 p1 p2 p3 p4 g100_86 F6_86))) + (f1 (3 : Int32) (vs p0 p1 p2 p3 p4) (ve p0 p1 p2 p3 p4) (vb p0 p1 p2 p3 p4) (vF p0 p1 p2 p3 p4 g100_86 F6_86)))), .unset]) rfl q)
    refine own_st (T' := T5) (f' := (mkF m 165 #[.val (.int p0), .val (.int p1), .val (.int p2), .val (.int p3), .val (.int p4), .val (.int (vb p0 p1 p2 p3 p4)), .val (.ref r6_86), .val (.int (vs p0 p1 p2 p3 p4)), .val (.int (ve p0 p1 p2 p3 p4)), .val (.int ((((f1 (0 : Int32) (vs p0 p1 p2 p3 p4) (ve p0 p1 p2 p3 p4) (vb p0 p1 p2 p3 p4) (vF p0 p1 p2 p3 p4 g100_86 F6_86)) + (f1 (1 : Int32) (vs p0 p1 p2 p3 p4) (ve p0 p1 p2 p3 p4) (vb p0 p1 p2 p3 p4) (vF p0 p1 p2 p3 p4 g100_86 F6_86))) + (f1 (2 : Int32) (vs p0 p1 p2 p3 p4) (ve p0 p1 p2 p3 p4) (vb p0 p1 p2 p3 p4) (vF p0 p1 p2 p3 p4 g100_86 F6_86))) + (f1 (3 : Int32) (vs p0 p1 p2 p3 p4) (ve p0 p1 p2 p3 p4) (vb p0 p1 p2 p3 p4) (vF p0 p1 p2 p3 p4 g100_86 F6_86)))), .unset] [(.ref r6_86)])) ?_ (fun t q => XS.aload X5.here hx rfl (hb hby at_163) rfl rfl q)
    refine own_st (T' := T5) (f' := (mkF m 167 #[.val (.int p0), .val (.int p1), .val (.int p2), .val (.int p3), .val (.int p4), .val (.int (vb p0 p1 p2 p3 p4)), .val (.ref r6_86), .val (.int (vs p0 p1 p2 p3 p4)), .val (.int (ve p0 p1 p2 p3 p4)), .val (.int ((((f1 (0 : Int32) (vs p0 p1 p2 p3 p4) (ve p0 p1 p2 p3 p4) (vb p0 p1 p2 p3 p4) (vF p0 p1 p2 p3 p4 g100_86 F6_86)) + (f1 (1 : Int32) (vs p0 p1 p2 p3 p4) (ve p0 p1 p2 p3 p4) (vb p0 p1 p2 p3 p4) (vF p0 p1 p2 p3 p4 g100_86 F6_86))) + (f1 (2 : Int32) (vs p0 p1 p2 p3 p4) (ve p0 p1 p2 p3 p4) (vb p0 p1 p2 p3 p4) (vF p0 p1 p2 p3 p4 g100_86 F6_86))) + (f1 (3 : Int32) (vs p0 p1 p2 p3 p4) (ve p0 p1 p2 p3 p4) (vb p0 p1 p2 p3 p4) (vF p0 p1 p2 p3 p4 g100_86 F6_86)))), .unset] [(.int (vs p0 p1 p2 p3 p4)), (.ref r6_86)])) ?_ (fun t q => XS.iload X5.here hx rfl (hb hby at_165) rfl q)
    refine own_st (T' := T5) (f' := (mkF m 169 #[.val (.int p0), .val (.int p1), .val (.int p2), .val (.int p3), .val (.int p4), .val (.int (vb p0 p1 p2 p3 p4)), .val (.ref r6_86), .val (.int (vs p0 p1 p2 p3 p4)), .val (.int (ve p0 p1 p2 p3 p4)), .val (.int ((((f1 (0 : Int32) (vs p0 p1 p2 p3 p4) (ve p0 p1 p2 p3 p4) (vb p0 p1 p2 p3 p4) (vF p0 p1 p2 p3 p4 g100_86 F6_86)) + (f1 (1 : Int32) (vs p0 p1 p2 p3 p4) (ve p0 p1 p2 p3 p4) (vb p0 p1 p2 p3 p4) (vF p0 p1 p2 p3 p4 g100_86 F6_86))) + (f1 (2 : Int32) (vs p0 p1 p2 p3 p4) (ve p0 p1 p2 p3 p4) (vb p0 p1 p2 p3 p4) (vF p0 p1 p2 p3 p4 g100_86 F6_86))) + (f1 (3 : Int32) (vs p0 p1 p2 p3 p4) (ve p0 p1 p2 p3 p4) (vb p0 p1 p2 p3 p4) (vF p0 p1 p2 p3 p4 g100_86 F6_86)))), .unset] [(.int (ve p0 p1 p2 p3 p4)), (.int (vs p0 p1 p2 p3 p4)), (.ref r6_86)])) ?_ (fun t q => XS.iload X5.here hx rfl (hb hby at_167) rfl q)
    refine own_st (T' := T5) (f' := (mkF m 171 #[.val (.int p0), .val (.int p1), .val (.int p2), .val (.int p3), .val (.int p4), .val (.int (vb p0 p1 p2 p3 p4)), .val (.ref r6_86), .val (.int (vs p0 p1 p2 p3 p4)), .val (.int (ve p0 p1 p2 p3 p4)), .val (.int ((((f1 (0 : Int32) (vs p0 p1 p2 p3 p4) (ve p0 p1 p2 p3 p4) (vb p0 p1 p2 p3 p4) (vF p0 p1 p2 p3 p4 g100_86 F6_86)) + (f1 (1 : Int32) (vs p0 p1 p2 p3 p4) (ve p0 p1 p2 p3 p4) (vb p0 p1 p2 p3 p4) (vF p0 p1 p2 p3 p4 g100_86 F6_86))) + (f1 (2 : Int32) (vs p0 p1 p2 p3 p4) (ve p0 p1 p2 p3 p4) (vb p0 p1 p2 p3 p4) (vF p0 p1 p2 p3 p4 g100_86 F6_86))) + (f1 (3 : Int32) (vs p0 p1 p2 p3 p4) (ve p0 p1 p2 p3 p4) (vb p0 p1 p2 p3 p4) (vF p0 p1 p2 p3 p4 g100_86 F6_86)))), .unset] [(.int (vb p0 p1 p2 p3 p4)), (.int (ve p0 p1 p2 p3 p4)), (.int (vs p0 p1 p2 p3 p4)), (.ref r6_86)])) ?_ (fun t q => XS.iload X5.here hx rfl (hb hby at_169) rfl q)
    obtain ⟨_, _, ⟨T6, L6, k6, n6⟩, -, X6, ⟨Lc6, hQ6, l6, y6, z6⟩, st6⟩ := Jvm.LawKit.callS X5 hx (y := (⟨"com/example/cuvette/cuvette/hl7/Er7", "split", "([BIIB)[I"⟩ : MethodName)) hown (mvT hZ (hw _ (List.mem_of_getElem? (i := 6) rfl))) (mvT hZ (hw _ (List.mem_of_getElem? (i := 7) rfl))) (mvT hZ (hw _ (List.mem_of_getElem? (i := 8) rfl))) (mvT hZ (hw _ (List.mem_of_getElem? (i := 9) rfl))) (by decide) (backOf (W := 0) (rm2 l Z a0 hw [] r6_86 (vs p0 p1 p2 p3 p4) (ve p0 p1 p2 p3 p4) (vb p0 p1 p2 p3 p4) 4 (vF p0 p1 p2 p3 p4 g100_86 F6_86) T5.heap n0 zs5 A5_r6_86 (own_p1 p0 p1 p2 p3 p4) (own_p2 p0 p1 p2 p3 p4) (own_p3 p0 p1 p2 p3 p4) (own_p4 p0 p1 p2 p3 p4 _ _)) hZ (hw _ (List.mem_of_getElem? (i := 9) rfl)) (hw _ (List.mem_of_getElem? (i := 8) rfl)) (by decide) (by decide)) (g := (mkF m 171 #[.val (.int p0), .val (.int p1), .val (.int p2), .val (.int p3), .val (.int p4), .val (.int (vb p0 p1 p2 p3 p4)), .val (.ref r6_86), .val (.int (vs p0 p1 p2 p3 p4)), .val (.int (ve p0 p1 p2 p3 p4)), .val (.int ((((f1 (0 : Int32) (vs p0 p1 p2 p3 p4) (ve p0 p1 p2 p3 p4) (vb p0 p1 p2 p3 p4) (vF p0 p1 p2 p3 p4 g100_86 F6_86)) + (f1 (1 : Int32) (vs p0 p1 p2 p3 p4) (ve p0 p1 p2 p3 p4) (vb p0 p1 p2 p3 p4) (vF p0 p1 p2 p3 p4 g100_86 F6_86))) + (f1 (2 : Int32) (vs p0 p1 p2 p3 p4) (ve p0 p1 p2 p3 p4) (vb p0 p1 p2 p3 p4) (vF p0 p1 p2 p3 p4 g100_86 F6_86))) + (f1 (3 : Int32) (vs p0 p1 p2 p3 p4) (ve p0 p1 p2 p3 p4) (vb p0 p1 p2 p3 p4) (vF p0 p1 p2 p3 p4 g100_86 F6_86)))), .unset] [(.int (vb p0 p1 p2 p3 p4)), (.int (ve p0 p1 p2 p3 p4)), (.int (vs p0 p1 p2 p3 p4)), (.ref r6_86)])) rfl (by rw [hml]; rfl) (argsL := [(.ref r6_86), (.int (vs p0 p1 p2 p3 p4)), (.int (ve p0 p1 p2 p3 p4)), (.int (vb p0 p1 p2 p3 p4))]) (rest := []) (lenOf pd_2 rfl) rfl (by show 2 * 0 + _ ≤ _; exact Nat.le_of_eq rfl) (hb hby at_171) (fun _ _ => ⟨rfl, rfl, (Nat.le_of_ble_eq_true rfl), (Nat.le_of_ble_eq_true rfl)⟩)
    dsimp only [Pt.U, Pt.locs, Pt.cells, Pt.slots] at X6 l6 y6 z6 st6 hQ6
    subst l6 y6 z6
    obtain ⟨b6, rfl, N6q, G6, D6, A6_r6_86, A6_b6, hN6⟩ := hQ6
    have N6 := Fr.app N5 N6q
    have zs6 : n0 ≤ T6.heap.size := Nat.le_trans G6 (Nat.le_of_lt A6_b6.lt)
    refine own_st (T' := T6) (f' := (mkF m 174 #[.val (.int p0), .val (.int p1), .val (.int p2), .val (.int p3), .val (.int p4), .val (.int (vb p0 p1 p2 p3 p4)), .val (.ref r6_86), .val (.int (vs p0 p1 p2 p3 p4)), .val (.int (ve p0 p1 p2 p3 p4)), .val (.int ((((f1 (0 : Int32) (vs p0 p1 p2 p3 p4) (ve p0 p1 p2 p3 p4) (vb p0 p1 p2 p3 p4) (vF p0 p1 p2 p3 p4 g100_86 F6_86)) + (f1 (1 : Int32) (vs p0 p1 p2 p3 p4) (ve p0 p1 p2 p3 p4) (vb p0 p1 p2 p3 p4) (vF p0 p1 p2 p3 p4 g100_86 F6_86))) + (f1 (2 : Int32) (vs p0 p1 p2 p3 p4) (ve p0 p1 p2 p3 p4) (vb p0 p1 p2 p3 p4) (vF p0 p1 p2 p3 p4 g100_86 F6_86))) + (f1 (3 : Int32) (vs p0 p1 p2 p3 p4) (ve p0 p1 p2 p3 p4) (vb p0 p1 p2 p3 p4) (vF p0 p1 p2 p3 p4 g100_86 F6_86)))), .unset] [(.ref b6)])) ?_ (fun t q => st6 _ q)
    refine own_st (T' := T6) (f' := (mkF m 176 #[.val (.int p0), .val (.int p1), .val (.int p2), .val (.int p3), .val (.int p4), .val (.int (vb p0 p1 p2 p3 p4)), .val (.ref r6_86), .val (.int (vs p0 p1 p2 p3 p4)), .val (.int (ve p0 p1 p2 p3 p4)), .val (.int ((((f1 (0 : Int32) (vs p0 p1 p2 p3 p4) (ve p0 p1 p2 p3 p4) (vb p0 p1 p2 p3 p4) (vF p0 p1 p2 p3 p4 g100_86 F6_86)) + (f1 (1 : Int32) (vs p0 p1 p2 p3 p4) (ve p0 p1 p2 p3 p4) (vb p0 p1 p2 p3 p4) (vF p0 p1 p2 p3 p4 g100_86 F6_86))) + (f1 (2 : Int32) (vs p0 p1 p2 p3 p4) (ve p0 p1 p2 p3 p4) (vb p0 p1 p2 p3 p4) (vF p0 p1 p2 p3 p4 g100_86 F6_86))) + (f1 (3 : Int32) (vs p0 p1 p2 p3 p4) (ve p0 p1 p2 p3 p4) (vb p0 p1 p2 p3 p4) (vF p0 p1 p2 p3 p4 g100_86 F6_86)))), .val (.ref b6)] [])) ?_ (fun t q => XS.astore X6.here hx rfl (hb hby at_174) rfl rfl (l' := #[.val (.int p0), .val (.int p1), .val (.int p2), .val (.int p3), .val (.int p4), .val (.int (vb p0 p1 p2 p3 p4)), .val (.ref r6_86), .val (.int (vs p0 p1 p2 p3 p4)), .val (.int (ve p0 p1 p2 p3 p4)), .val (.int ((((f1 (0 : Int32) (vs p0 p1 p2 p3 p4) (ve p0 p1 p2 p3 p4) (vb p0 p1 p2 p3 p4) (vF p0 p1 p2 p3 p4 g100_86 F6_86)) + (f1 (1 : Int32) (vs p0 p1 p2 p3 p4) (ve p0 p1 p2 p3 p4) (vb p0 p1 p2 p3 p4) (vF p0 p1 p2 p3 p4 g100_86 F6_86))) + (f1 (2 : Int32) (vs p0 p1 p2 p3 p4) (ve p0 p1 p2 p3 p4) (vb p0 p1 p2 p3 p4) (vF p0 p1 p2 p3 p4 g100_86 F6_86))) + (f1 (3 : Int32) (vs p0 p1 p2 p3 p4) (ve p0 p1 p2 p3 p4) (vb p0 p1 p2 p3 p4) (vF p0 p1 p2 p3 p4 g100_86 F6_86)))), .val (.ref b6)]) rfl q)
    refine own_st (T' := T6) (f' := (mkF m 178 #[.val (.int p0), .val (.int p1), .val (.int p2), .val (.int p3), .val (.int p4), .val (.int (vb p0 p1 p2 p3 p4)), .val (.ref r6_86), .val (.int (vs p0 p1 p2 p3 p4)), .val (.int (ve p0 p1 p2 p3 p4)), .val (.int ((((f1 (0 : Int32) (vs p0 p1 p2 p3 p4) (ve p0 p1 p2 p3 p4) (vb p0 p1 p2 p3 p4) (vF p0 p1 p2 p3 p4 g100_86 F6_86)) + (f1 (1 : Int32) (vs p0 p1 p2 p3 p4) (ve p0 p1 p2 p3 p4) (vb p0 p1 p2 p3 p4) (vF p0 p1 p2 p3 p4 g100_86 F6_86))) + (f1 (2 : Int32) (vs p0 p1 p2 p3 p4) (ve p0 p1 p2 p3 p4) (vb p0 p1 p2 p3 p4) (vF p0 p1 p2 p3 p4 g100_86 F6_86))) + (f1 (3 : Int32) (vs p0 p1 p2 p3 p4) (ve p0 p1 p2 p3 p4) (vb p0 p1 p2 p3 p4) (vF p0 p1 p2 p3 p4 g100_86 F6_86)))), .val (.ref b6)] [(.ref b6)])) ?_ (fun t q => XS.aload X6.here hx rfl (hb hby at_176) rfl rfl q)
    refine own_alen X6 hx hZ A6_b6 (hb hby at_178) ?_
    show own_W _ _ _ _ _ _ _ T6 (mkF m 179 #[.val (.int p0), .val (.int p1), .val (.int p2), .val (.int p3), .val (.int p4), .val (.int (vb p0 p1 p2 p3 p4)), .val (.ref r6_86), .val (.int (vs p0 p1 p2 p3 p4)), .val (.int (ve p0 p1 p2 p3 p4)), .val (.int ((((f1 (0 : Int32) (vs p0 p1 p2 p3 p4) (ve p0 p1 p2 p3 p4) (vb p0 p1 p2 p3 p4) (vF p0 p1 p2 p3 p4 g100_86 F6_86)) + (f1 (1 : Int32) (vs p0 p1 p2 p3 p4) (ve p0 p1 p2 p3 p4) (vb p0 p1 p2 p3 p4) (vF p0 p1 p2 p3 p4 g100_86 F6_86))) + (f1 (2 : Int32) (vs p0 p1 p2 p3 p4) (ve p0 p1 p2 p3 p4) (vb p0 p1 p2 p3 p4) (vF p0 p1 p2 p3 p4 g100_86 F6_86))) + (f1 (3 : Int32) (vs p0 p1 p2 p3 p4) (ve p0 p1 p2 p3 p4) (vb p0 p1 p2 p3 p4) (vF p0 p1 p2 p3 p4 g100_86 F6_86)))), .val (.ref b6)] [(.int (Int32.ofNat (f2 (vs p0 p1 p2 p3 p4) (ve p0 p1 p2 p3 p4) (vb p0 p1 p2 p3 p4) (vF p0 p1 p2 p3 p4 g100_86 F6_86)).1))])
    refine own_st (T' := T6) (f' := (mkF m 180 #[.val (.int p0), .val (.int p1), .val (.int p2), .val (.int p3), .val (.int p4), .val (.int (vb p0 p1 p2 p3 p4)), .val (.ref r6_86), .val (.int (vs p0 p1 p2 p3 p4)), .val (.int (ve p0 p1 p2 p3 p4)), .val (.int ((((f1 (0 : Int32) (vs p0 p1 p2 p3 p4) (ve p0 p1 p2 p3 p4) (vb p0 p1 p2 p3 p4) (vF p0 p1 p2 p3 p4 g100_86 F6_86)) + (f1 (1 : Int32) (vs p0 p1 p2 p3 p4) (ve p0 p1 p2 p3 p4) (vb p0 p1 p2 p3 p4) (vF p0 p1 p2 p3 p4 g100_86 F6_86))) + (f1 (2 : Int32) (vs p0 p1 p2 p3 p4) (ve p0 p1 p2 p3 p4) (vb p0 p1 p2 p3 p4) (vF p0 p1 p2 p3 p4 g100_86 F6_86))) + (f1 (3 : Int32) (vs p0 p1 p2 p3 p4) (ve p0 p1 p2 p3 p4) (vb p0 p1 p2 p3 p4) (vF p0 p1 p2 p3 p4 g100_86 F6_86)))), .val (.ref b6)] [(.int (2 : Int32)), (.int (Int32.ofNat (f2 (vs p0 p1 p2 p3 p4) (ve p0 p1 p2 p3 p4) (vb p0 p1 p2 p3 p4) (vF p0 p1 p2 p3 p4 g100_86 F6_86)).1))])) ?_ (fun t q => XS.iconst X6.here hx rfl (hb hby at_179) q)
    refine own_st (T' := T6) (f' := (mkF m 182 #[.val (.int p0), .val (.int p1), .val (.int p2), .val (.int p3), .val (.int p4), .val (.int (vb p0 p1 p2 p3 p4)), .val (.ref r6_86), .val (.int (vs p0 p1 p2 p3 p4)), .val (.int (ve p0 p1 p2 p3 p4)), .val (.int ((((f1 (0 : Int32) (vs p0 p1 p2 p3 p4) (ve p0 p1 p2 p3 p4) (vb p0 p1 p2 p3 p4) (vF p0 p1 p2 p3 p4 g100_86 F6_86)) + (f1 (1 : Int32) (vs p0 p1 p2 p3 p4) (ve p0 p1 p2 p3 p4) (vb p0 p1 p2 p3 p4) (vF p0 p1 p2 p3 p4 g100_86 F6_86))) + (f1 (2 : Int32) (vs p0 p1 p2 p3 p4) (ve p0 p1 p2 p3 p4) (vb p0 p1 p2 p3 p4) (vF p0 p1 p2 p3 p4 g100_86 F6_86))) + (f1 (3 : Int32) (vs p0 p1 p2 p3 p4) (ve p0 p1 p2 p3 p4) (vb p0 p1 p2 p3 p4) (vF p0 p1 p2 p3 p4 g100_86 F6_86)))), .val (.ref b6)] [(.int ((((f1 (0 : Int32) (vs p0 p1 p2 p3 p4) (ve p0 p1 p2 p3 p4) (vb p0 p1 p2 p3 p4) (vF p0 p1 p2 p3 p4 g100_86 F6_86)) + (f1 (1 : Int32) (vs p0 p1 p2 p3 p4) (ve p0 p1 p2 p3 p4) (vb p0 p1 p2 p3 p4) (vF p0 p1 p2 p3 p4 g100_86 F6_86))) + (f1 (2 : Int32) (vs p0 p1 p2 p3 p4) (ve p0 p1 p2 p3 p4) (vb p0 p1 p2 p3 p4) (vF p0 p1 p2 p3 p4 g100_86 F6_86))) + (f1 (3 : Int32) (vs p0 p1 p2 p3 p4) (ve p0 p1 p2 p3 p4) (vb p0 p1 p2 p3 p4) (vF p0 p1 p2 p3 p4 g100_86 F6_86)))), (.int (2 : Int32)), (.int (Int32.ofNat (f2 (vs p0 p1 p2 p3 p4) (ve p0 p1 p2 p3 p4) (vb p0 p1 p2 p3 p4) (vF p0 p1 p2 p3 p4 g100_86 F6_86)).1))])) ?_ (fun t q => XS.iload X6.here hx rfl (hb hby at_180) rfl q)
    refine own_st (T' := T6) (f' := (mkF m 183 #[.val (.int p0), .val (.int p1), .val (.int p2), .val (.int p3), .val (.int p4), .val (.int (vb p0 p1 p2 p3 p4)), .val (.ref r6_86), .val (.int (vs p0 p1 p2 p3 p4)), .val (.int (ve p0 p1 p2 p3 p4)), .val (.int ((((f1 (0 : Int32) (vs p0 p1 p2 p3 p4) (ve p0 p1 p2 p3 p4) (vb p0 p1 p2 p3 p4) (vF p0 p1 p2 p3 p4 g100_86 F6_86)) + (f1 (1 : Int32) (vs p0 p1 p2 p3 p4) (ve p0 p1 p2 p3 p4) (vb p0 p1 p2 p3 p4) (vF p0 p1 p2 p3 p4 g100_86 F6_86))) + (f1 (2 : Int32) (vs p0 p1 p2 p3 p4) (ve p0 p1 p2 p3 p4) (vb p0 p1 p2 p3 p4) (vF p0 p1 p2 p3 p4 g100_86 F6_86))) + (f1 (3 : Int32) (vs p0 p1 p2 p3 p4) (ve p0 p1 p2 p3 p4) (vb p0 p1 p2 p3 p4) (vF p0 p1 p2 p3 p4 g100_86 F6_86)))), .val (.ref b6)] [(.int (1 : Int32)), (.int ((((f1 (0 : Int32) (vs p0 p1 p2 p3 p4) (ve p0 p1 p2 p3 p4) (vb p0 p1 p2 p3 p4) (vF p0 p1 p2 p3 p4 g100_86 F6_86)) + (f1 (1 : Int32) (vs p0 p1 p2 p3 p4) (ve p0 p1 p2 p3 p4) (vb p0 p1 p2 p3 p4) (vF p0 p1 p2 p3 p4 g100_86 F6_86))) + (f1 (2 : Int32) (vs p0 p1 p2 p3 p4) (ve p0 p1 p2 p3 p4) (vb p0 p1 p2 p3 p4) (vF p0 p1 p2 p3 p4 g100_86 F6_86))) + (f1 (3 : Int32) (vs p0 p1 p2 p3 p4) (ve p0 p1 p2 p3 p4) (vb p0 p1 p2 p3 p4) (vF p0 p1 p2 p3 p4 g100_86 F6_86)))), (.int (2 : Int32)), (.int (Int32.ofNat (f2 (vs p0 p1 p2 p3 p4) (ve p0 p1 p2 p3 p4) (vb p0 p1 p2 p3 p4) (vF p0 p1 p2 p3 p4 g100_86 F6_86)).1))])) ?_ (fun t q => XS.iconst X6.here hx rfl (hb hby at_182) q)
    refine own_st (T' := T6) (f' := (mkF m 184 #[.val (.int p0), .val (.int p1), .val (.int p2), .val (.int p3), .val (.int p4), .val (.int (vb p0 p1 p2 p3 p4)), .val (.ref r6_86), .val (.int (vs p0 p1 p2 p3 p4)), .val (.int (ve p0 p1 p2 p3 p4)), .val (.int ((((f1 (0 : Int32) (vs p0 p1 p2 p3 p4) (ve p0 p1 p2 p3 p4) (vb p0 p1 p2 p3 p4) (vF p0 p1 p2 p3 p4 g100_86 F6_86)) + (f1 (1 : Int32) (vs p0 p1 p2 p3 p4) (ve p0 p1 p2 p3 p4) (vb p0 p1 p2 p3 p4) (vF p0 p1 p2 p3 p4 g100_86 F6_86))) + (f1 (2 : Int32) (vs p0 p1 p2 p3 p4) (ve p0 p1 p2 p3 p4) (vb p0 p1 p2 p3 p4) (vF p0 p1 p2 p3 p4 g100_86 F6_86))) + (f1 (3 : Int32) (vs p0 p1 p2 p3 p4) (ve p0 p1 p2 p3 p4) (vb p0 p1 p2 p3 p4) (vF p0 p1 p2 p3 p4 g100_86 F6_86)))), .val (.ref b6)] [(.int (((((f1 (0 : Int32) (vs p0 p1 p2 p3 p4) (ve p0 p1 p2 p3 p4) (vb p0 p1 p2 p3 p4) (vF p0 p1 p2 p3 p4 g100_86 F6_86)) + (f1 (1 : Int32) (vs p0 p1 p2 p3 p4) (ve p0 p1 p2 p3 p4) (vb p0 p1 p2 p3 p4) (vF p0 p1 p2 p3 p4 g100_86 F6_86))) + (f1 (2 : Int32) (vs p0 p1 p2 p3 p4) (ve p0 p1 p2 p3 p4) (vb p0 p1 p2 p3 p4) (vF p0 p1 p2 p3 p4 g100_86 F6_86))) + (f1 (3 : Int32) (vs p0 p1 p2 p3 p4) (ve p0 p1 p2 p3 p4) (vb p0 p1 p2 p3 p4) (vF p0 p1 p2 p3 p4 g100_86 F6_86))) + (1 : Int32))), (.int (2 : Int32)), (.int (Int32.ofNat (f2 (vs p0 p1 p2 p3 p4) (ve p0 p1 p2 p3 p4) (vb p0 p1 p2 p3 p4) (vF p0 p1 p2 p3 p4 g100_86 F6_86)).1))])) ?_ (fun t q => XS.iadd X6.here hx rfl (hb hby at_183) rfl q)
    refine own_st (T' := T6) (f' := (mkF m 185 #[.val (.int p0), .val (.int p1), .val (.int p2), .val (.int p3), .val (.int p4), .val (.int (vb p0 p1 p2 p3 p4)), .val (.ref r6_86), .val (.int (vs p0 p1 p2 p3 p4)), .val (.int (ve p0 p1 p2 p3 p4)), .val (.int ((((f1 (0 : Int32) (vs p0 p1 p2 p3 p4) (ve p0 p1 p2 p3 p4) (vb p0 p1 p2 p3 p4) (vF p0 p1 p2 p3 p4 g100_86 F6_86)) + (f1 (1 : Int32) (vs p0 p1 p2 p3 p4) (ve p0 p1 p2 p3 p4) (vb p0 p1 p2 p3 p4) (vF p0 p1 p2 p3 p4 g100_86 F6_86))) + (f1 (2 : Int32) (vs p0 p1 p2 p3 p4) (ve p0 p1 p2 p3 p4) (vb p0 p1 p2 p3 p4) (vF p0 p1 p2 p3 p4 g100_86 F6_86))) + (f1 (3 : Int32) (vs p0 p1 p2 p3 p4) (ve p0 p1 p2 p3 p4) (vb p0 p1 p2 p3 p4) (vF p0 p1 p2 p3 p4 g100_86 F6_86)))), .val (.ref b6)] [(.int ((2 : Int32) * (((((f1 (0 : Int32) (vs p0 p1 p2 p3 p4) (ve p0 p1 p2 p3 p4) (vb p0 p1 p2 p3 p4) (vF p0 p1 p2 p3 p4 g100_86 F6_86)) + (f1 (1 : Int32) (vs p0 p1 p2 p3 p4) (ve p0 p1 p2 p3 p4) (vb p0 p1 p2 p3 p4) (vF p0 p1 p2 p3 p4 g100_86 F6_86))) + (f1 (2 : Int32) (vs p0 p1 p2 p3 p4) (ve p0 p1 p2 p3 p4) (vb p0 p1 p2 p3 p4) (vF p0 p1 p2 p3 p4 g100_86 F6_86))) + (f1 (3 : Int32) (vs p0 p1 p2 p3 p4) (ve p0 p1 p2 p3 p4) (vb p0 p1 p2 p3 p4) (vF p0 p1 p2 p3 p4 g100_86 F6_86))) + (1 : Int32)))), (.int (Int32.ofNat (f2 (vs p0 p1 p2 p3 p4) (ve p0 p1 p2 p3 p4) (vb p0 p1 p2 p3 p4) (vF p0 p1 p2 p3 p4 g100_86 F6_86)).1))])) ?_ (fun t q => XS.imul X6.here hx rfl (hb hby at_184) rfl q)
    refine own_ite (fun hc185 => ?_) (fun hc185 => ?_)
    · refine own_st (T' := T6) (f' := (mkF m 190 #[.val (.int p0), .val (.int p1), .val (.int p2), .val (.int p3), .val (.int p4), .val (.int (vb p0 p1 p2 p3 p4)), .val (.ref r6_86), .val (.int (vs p0 p1 p2 p3 p4)), .val (.int (ve p0 p1 p2 p3 p4)), .val (.int ((((f1 (0 : Int32) (vs p0 p1 p2 p3 p4) (ve p0 p1 p2 p3 p4) (vb p0 p1 p2 p3 p4) (vF p0 p1 p2 p3 p4 g100_86 F6_86)) + (f1 (1 : Int32) (vs p0 p1 p2 p3 p4) (ve p0 p1 p2 p3 p4) (vb p0 p1 p2 p3 p4) (vF p0 p1 p2 p3 p4 g100_86 F6_86))) + (f1 (2 : Int32) (vs p0 p1 p2 p3 p4) (ve p0 p1 p2 p3 p4) (vb p0 p1 p2 p3 p4) (vF p0 p1 p2 p3 p4 g100_86 F6_86))) + (f1 (3 : Int32) (vs p0 p1 p2 p3 p4) (ve p0 p1 p2 p3 p4) (vb p0 p1 p2 p3 p4) (vF p0 p1 p2 p3 p4 g100_86 F6_86)))), .val (.ref b6)] [])) ?_ (fun t q => XS.icmpYes X6.here hx rfl (pc0 := 185) (pc' := 190) rfl (hb hby at_185) rfl (teq hc185).1 (by decide) (by decide) q)
      refine own_st (T' := T6) (f' := (mkF m 192 #[.val (.int p0), .val (.int p1), .val (.int p2), .val (.int p3), .val (.int p4), .val (.int (vb p0 p1 p2 p3 p4)), .val (.ref r6_86), .val (.int (vs p0 p1 p2 p3 p4)), .val (.int (ve p0 p1 p2 p3 p4)), .val (.int ((((f1 (0 : Int32) (vs p0 p1 p2 p3 p4) (ve p0 p1 p2 p3 p4) (vb p0 p1 p2 p3 p4) (vF p0 p1 p2 p3 p4 g100_86 F6_86)) + (f1 (1 : Int32) (vs p0 p1 p2 p3 p4) (ve p0 p1 p2 p3 p4) (vb p0 p1 p2 p3 p4) (vF p0 p1 p2 p3 p4 g100_86 F6_86))) + (f1 (2 : Int32) (vs p0 p1 p2 p3 p4) (ve p0 p1 p2 p3 p4) (vb p0 p1 p2 p3 p4) (vF p0 p1 p2 p3 p4 g100_86 F6_86))) + (f1 (3 : Int32) (vs p0 p1 p2 p3 p4) (ve p0 p1 p2 p3 p4) (vb p0 p1 p2 p3 p4) (vF p0 p1 p2 p3 p4 g100_86 F6_86)))), .val (.ref b6)] [(.ref b6)])) ?_ (fun t q => XS.aload X6.here hx rfl (hb hby at_190) rfl rfl q)
      refine own_st (T' := T6) (f' := (mkF m 193 #[.val (.int p0), .val (.int p1), .val (.int p2), .val (.int p3), .val (.int p4), .val (.int (vb p0 p1 p2 p3 p4)), .val (.ref r6_86), .val (.int (vs p0 p1 p2 p3 p4)), .val (.int (ve p0 p1 p2 p3 p4)), .val (.int ((((f1 (0 : Int32) (vs p0 p1 p2 p3 p4) (ve p0 p1 p2 p3 p4) (vb p0 p1 p2 p3 p4) (vF p0 p1 p2 p3 p4 g100_86 F6_86)) + (f1 (1 : Int32) (vs p0 p1 p2 p3 p4) (ve p0 p1 p2 p3 p4) (vb p0 p1 p2 p3 p4) (vF p0 p1 p2 p3 p4 g100_86 F6_86))) + (f1 (2 : Int32) (vs p0 p1 p2 p3 p4) (ve p0 p1 p2 p3 p4) (vb p0 p1 p2 p3 p4) (vF p0 p1 p2 p3 p4 g100_86 F6_86))) + (f1 (3 : Int32) (vs p0 p1 p2 p3 p4) (ve p0 p1 p2 p3 p4) (vb p0 p1 p2 p3 p4) (vF p0 p1 p2 p3 p4 g100_86 F6_86)))), .val (.ref b6)] [(.int (0 : Int32)), (.ref b6)])) ?_ (fun t q => XS.iconst X6.here hx rfl (hb hby at_192) q)
      refine own_iald X6 hx hZ A6_b6 (j := (0 : Int32)) ⟨by decide, Nat.lt_of_lt_of_le (by decide) hN6.1⟩ (hb hby at_193) ?_
      show own_W _ _ _ _ _ _ _ T6 (mkF m 194 #[.val (.int p0), .val (.int p1), .val (.int p2), .val (.int p3), .val (.int p4), .val (.int (vb p0 p1 p2 p3 p4)), .val (.ref r6_86), .val (.int (vs p0 p1 p2 p3 p4)), .val (.int (ve p0 p1 p2 p3 p4)), .val (.int ((((f1 (0 : Int32) (vs p0 p1 p2 p3 p4) (ve p0 p1 p2 p3 p4) (vb p0 p1 p2 p3 p4) (vF p0 p1 p2 p3 p4 g100_86 F6_86)) + (f1 (1 : Int32) (vs p0 p1 p2 p3 p4) (ve p0 p1 p2 p3 p4) (vb p0 p1 p2 p3 p4) (vF p0 p1 p2 p3 p4 g100_86 F6_86))) + (f1 (2 : Int32) (vs p0 p1 p2 p3 p4) (ve p0 p1 p2 p3 p4) (vb p0 p1 p2 p3 p4) (vF p0 p1 p2 p3 p4 g100_86 F6_86))) + (f1 (3 : Int32) (vs p0 p1 p2 p3 p4) (ve p0 p1 p2 p3 p4) (vb p0 p1 p2 p3 p4) (vF p0 p1 p2 p3 p4 g100_86 F6_86)))), .val (.ref b6)] [(.int ((f2 (vs p0 p1 p2 p3 p4) (ve p0 p1 p2 p3 p4) (vb p0 p1 p2 p3 p4) (vF p0 p1 p2 p3 p4 g100_86 F6_86)).2 0))])
      refine own_st (T' := T6) (f' := (mkF m 196 #[.val (.int p0), .val (.int p1), .val (.int p2), .val (.int p3), .val (.int p4), .val (.int (vb p0 p1 p2 p3 p4)), .val (.ref r6_86), .val (.int (vs p0 p1 p2 p3 p4)), .val (.int (ve p0 p1 p2 p3 p4)), .val (.int ((((f1 (0 : Int32) (vs p0 p1 p2 p3 p4) (ve p0 p1 p2 p3 p4) (vb p0 p1 p2 p3 p4) (vF p0 p1 p2 p3 p4 g100_86 F6_86)) + (f1 (1 : Int32) (vs p0 p1 p2 p3 p4) (ve p0 p1 p2 p3 p4) (vb p0 p1 p2 p3 p4) (vF p0 p1 p2 p3 p4 g100_86 F6_86))) + (f1 (2 : Int32) (vs p0 p1 p2 p3 p4) (ve p0 p1 p2 p3 p4) (vb p0 p1 p2 p3 p4) (vF p0 p1 p2 p3 p4 g100_86 F6_86))) + (f1 (3 : Int32) (vs p0 p1 p2 p3 p4) (ve p0 p1 p2 p3 p4) (vb p0 p1 p2 p3 p4) (vF p0 p1 p2 p3 p4 g100_86 F6_86)))), .val (.ref b6)] [(.int (vs p0 p1 p2 p3 p4)), (.int ((f2 (vs p0 p1 p2 p3 p4) (ve p0 p1 p2 p3 p4) (vb p0 p1 p2 p3 p4) (vF p0 p1 p2 p3 p4 g100_86 F6_86)).2 0))])) ?_ (fun t q => XS.iload X6.here hx rfl (hb hby at_194) rfl q)
      refine own_ite (fun hc196 => ?_) (fun hc196 => ?_)
      · refine own_st (T' := T6) (f' := (mkF m 199 #[.val (.int p0), .val (.int p1), .val (.int p2), .val (.int p3), .val (.int p4), .val (.int (vb p0 p1 p2 p3 p4)), .val (.ref r6_86), .val (.int (vs p0 p1 p2 p3 p4)), .val (.int (ve p0 p1 p2 p3 p4)), .val (.int ((((f1 (0 : Int32) (vs p0 p1 p2 p3 p4) (ve p0 p1 p2 p3 p4) (vb p0 p1 p2 p3 p4) (vF p0 p1 p2 p3 p4 g100_86 F6_86)) + (f1 (1 : Int32) (vs p0 p1 p2 p3 p4) (ve p0 p1 p2 p3 p4) (vb p0 p1 p2 p3 p4) (vF p0 p1 p2 p3 p4 g100_86 F6_86))) + (f1 (2 : Int32) (vs p0 p1 p2 p3 p4) (ve p0 p1 p2 p3 p4) (vb p0 p1 p2 p3 p4) (vF p0 p1 p2 p3 p4 g100_86 F6_86))) + (f1 (3 : Int32) (vs p0 p1 p2 p3 p4) (ve p0 p1 p2 p3 p4) (vb p0 p1 p2 p3 p4) (vF p0 p1 p2 p3 p4 g100_86 F6_86)))), .val (.ref b6)] [])) ?_ (fun t q => XS.icmpNo X6.here hx rfl (hb hby at_196) rfl (teq hc196).2 q)
        refine own_st (T' := T6) (f' := (mkF m 201 #[.val (.int p0), .val (.int p1), .val (.int p2), .val (.int p3), .val (.int p4), .val (.int (vb p0 p1 p2 p3 p4)), .val (.ref r6_86), .val (.int (vs p0 p1 p2 p3 p4)), .val (.int (ve p0 p1 p2 p3 p4)), .val (.int ((((f1 (0 : Int32) (vs p0 p1 p2 p3 p4) (ve p0 p1 p2 p3 p4) (vb p0 p1 p2 p3 p4) (vF p0 p1 p2 p3 p4 g100_86 F6_86)) + (f1 (1 : Int32) (vs p0 p1 p2 p3 p4) (ve p0 p1 p2 p3 p4) (vb p0 p1 p2 p3 p4) (vF p0 p1 p2 p3 p4 g100_86 F6_86))) + (f1 (2 : Int32) (vs p0 p1 p2 p3 p4) (ve p0 p1 p2 p3 p4) (vb p0 p1 p2 p3 p4) (vF p0 p1 p2 p3 p4 g100_86 F6_86))) + (f1 (3 : Int32) (vs p0 p1 p2 p3 p4) (ve p0 p1 p2 p3 p4) (vb p0 p1 p2 p3 p4) (vF p0 p1 p2 p3 p4 g100_86 F6_86)))), .val (.ref b6)] [(.ref b6)])) ?_ (fun t q => XS.aload X6.here hx rfl (hb hby at_199) rfl rfl q)
        refine own_st (T' := T6) (f' := (mkF m 203 #[.val (.int p0), .val (.int p1), .val (.int p2), .val (.int p3), .val (.int p4), .val (.int (vb p0 p1 p2 p3 p4)), .val (.ref r6_86), .val (.int (vs p0 p1 p2 p3 p4)), .val (.int (ve p0 p1 p2 p3 p4)), .val (.int ((((f1 (0 : Int32) (vs p0 p1 p2 p3 p4) (ve p0 p1 p2 p3 p4) (vb p0 p1 p2 p3 p4) (vF p0 p1 p2 p3 p4 g100_86 F6_86)) + (f1 (1 : Int32) (vs p0 p1 p2 p3 p4) (ve p0 p1 p2 p3 p4) (vb p0 p1 p2 p3 p4) (vF p0 p1 p2 p3 p4 g100_86 F6_86))) + (f1 (2 : Int32) (vs p0 p1 p2 p3 p4) (ve p0 p1 p2 p3 p4) (vb p0 p1 p2 p3 p4) (vF p0 p1 p2 p3 p4 g100_86 F6_86))) + (f1 (3 : Int32) (vs p0 p1 p2 p3 p4) (ve p0 p1 p2 p3 p4) (vb p0 p1 p2 p3 p4) (vF p0 p1 p2 p3 p4 g100_86 F6_86)))), .val (.ref b6)] [(.ref b6), (.ref b6)])) ?_ (fun t q => XS.aload X6.here hx rfl (hb hby at_201) rfl rfl q)
        refine own_alen X6 hx hZ A6_b6 (hb hby at_203) ?_
        show own_W _ _ _ _ _ _ _ T6 (mkF m 204 #[.val (.int p0), .val (.int p1), .val (.int p2), .val (.int p3), .val (.int p4), .val (.int (vb p0 p1 p2 p3 p4)), .val (.ref r6_86), .val (.int (vs p0 p1 p2 p3 p4)), .val (.int (ve p0 p1 p2 p3 p4)), .val (.int ((((f1 (0 : Int32) (vs p0 p1 p2 p3 p4) (ve p0 p1 p2 p3 p4) (vb p0 p1 p2 p3 p4) (vF p0 p1 p2 p3 p4 g100_86 F6_86)) + (f1 (1 : Int32) (vs p0 p1 p2 p3 p4) (ve p0 p1 p2 p3 p4) (vb p0 p1 p2 p3 p4) (vF p0 p1 p2 p3 p4 g100_86 F6_86))) + (f1 (2 : Int32) (vs p0 p1 p2 p3 p4) (ve p0 p1 p2 p3 p4) (vb p0 p1 p2 p3 p4) (vF p0 p1 p2 p3 p4 g100_86 F6_86))) + (f1 (3 : Int32) (vs p0 p1 p2 p3 p4) (ve p0 p1 p2 p3 p4) (vb p0 p1 p2 p3 p4) (vF p0 p1 p2 p3 p4 g100_86 F6_86)))), .val (.ref b6)] [(.int (Int32.ofNat (f2 (vs p0 p1 p2 p3 p4) (ve p0 p1 p2 p3 p4) (vb p0 p1 p2 p3 p4) (vF p0 p1 p2 p3 p4 g100_86 F6_86)).1)), (.ref b6)])
        refine own_st (T' := T6) (f' := (mkF m 205 #[.val (.int p0), .val (.int p1), .val (.int p2), .val (.int p3), .val (.int p4), .val (.int (vb p0 p1 p2 p3 p4)), .val (.ref r6_86), .val (.int (vs p0 p1 p2 p3 p4)), .val (.int (ve p0 p1 p2 p3 p4)), .val (.int ((((f1 (0 : Int32) (vs p0 p1 p2 p3 p4) (ve p0 p1 p2 p3 p4) (vb p0 p1 p2 p3 p4) (vF p0 p1 p2 p3 p4 g100_86 F6_86)) + (f1 (1 : Int32) (vs p0 p1 p2 p3 p4) (ve p0 p1 p2 p3 p4) (vb p0 p1 p2 p3 p4) (vF p0 p1 p2 p3 p4 g100_86 F6_86))) + (f1 (2 : Int32) (vs p0 p1 p2 p3 p4) (ve p0 p1 p2 p3 p4) (vb p0 p1 p2 p3 p4) (vF p0 p1 p2 p3 p4 g100_86 F6_86))) + (f1 (3 : Int32) (vs p0 p1 p2 p3 p4) (ve p0 p1 p2 p3 p4) (vb p0 p1 p2 p3 p4) (vF p0 p1 p2 p3 p4 g100_86 F6_86)))), .val (.ref b6)] [(.int (1 : Int32)), (.int (Int32.ofNat (f2 (vs p0 p1 p2 p3 p4) (ve p0 p1 p2 p3 p4) (vb p0 p1 p2 p3 p4) (vF p0 p1 p2 p3 p4 g100_86 F6_86)).1)), (.ref b6)])) ?_ (fun t q => XS.iconst X6.here hx rfl (hb hby at_204) q)
        refine own_st (T' := T6) (f' := (mkF m 206 #[.val (.int p0), .val (.int p1), .val (.int p2), .val (.int p3), .val (.int p4), .val (.int (vb p0 p1 p2 p3 p4)), .val (.ref r6_86), .val (.int (vs p0 p1 p2 p3 p4)), .val (.int (ve p0 p1 p2 p3 p4)), .val (.int ((((f1 (0 : Int32) (vs p0 p1 p2 p3 p4) (ve p0 p1 p2 p3 p4) (vb p0 p1 p2 p3 p4) (vF p0 p1 p2 p3 p4 g100_86 F6_86)) + (f1 (1 : Int32) (vs p0 p1 p2 p3 p4) (ve p0 p1 p2 p3 p4) (vb p0 p1 p2 p3 p4) (vF p0 p1 p2 p3 p4 g100_86 F6_86))) + (f1 (2 : Int32) (vs p0 p1 p2 p3 p4) (ve p0 p1 p2 p3 p4) (vb p0 p1 p2 p3 p4) (vF p0 p1 p2 p3 p4 g100_86 F6_86))) + (f1 (3 : Int32) (vs p0 p1 p2 p3 p4) (ve p0 p1 p2 p3 p4) (vb p0 p1 p2 p3 p4) (vF p0 p1 p2 p3 p4 g100_86 F6_86)))), .val (.ref b6)] [(.int ((Int32.ofNat (f2 (vs p0 p1 p2 p3 p4) (ve p0 p1 p2 p3 p4) (vb p0 p1 p2 p3 p4) (vF p0 p1 p2 p3 p4 g100_86 F6_86)).1) - (1 : Int32))), (.ref b6)])) ?_ (fun t q => XS.isub X6.here hx rfl (hb hby at_205) rfl q)
        refine own_iald X6 hx hZ A6_b6 (j := ((Int32.ofNat (f2 (vs p0 p1 p2 p3 p4) (ve p0 p1 p2 p3 p4) (vb p0 p1 p2 p3 p4) (vF p0 p1 p2 p3 p4 g100_86 F6_86)).1) - (1 : Int32))) (own_last2 hN6) (hb hby at_206) ?_
        show own_W _ _ _ _ _ _ _ T6 (mkF m 207 #[.val (.int p0), .val (.int p1), .val (.int p2), .val (.int p3), .val (.int p4), .val (.int (vb p0 p1 p2 p3 p4)), .val (.ref r6_86), .val (.int (vs p0 p1 p2 p3 p4)), .val (.int (ve p0 p1 p2 p3 p4)), .val (.int ((((f1 (0 : Int32) (vs p0 p1 p2 p3 p4) (ve p0 p1 p2 p3 p4) (vb p0 p1 p2 p3 p4) (vF p0 p1 p2 p3 p4 g100_86 F6_86)) + (f1 (1 : Int32) (vs p0 p1 p2 p3 p4) (ve p0 p1 p2 p3 p4) (vb p0 p1 p2 p3 p4) (vF p0 p1 p2 p3 p4 g100_86 F6_86))) + (f1 (2 : Int32) (vs p0 p1 p2 p3 p4) (ve p0 p1 p2 p3 p4) (vb p0 p1 p2 p3 p4) (vF p0 p1 p2 p3 p4 g100_86 F6_86))) + (f1 (3 : Int32) (vs p0 p1 p2 p3 p4) (ve p0 p1 p2 p3 p4) (vb p0 p1 p2 p3 p4) (vF p0 p1 p2 p3 p4 g100_86 F6_86)))), .val (.ref b6)] [(.int ((f2 (vs p0 p1 p2 p3 p4) (ve p0 p1 p2 p3 p4) (vb p0 p1 p2 p3 p4) (vF p0 p1 p2 p3 p4 g100_86 F6_86)).2 ((Int32.ofNat (f2 (vs p0 p1 p2 p3 p4) (ve p0 p1 p2 p3 p4) (vb p0 p1 p2 p3 p4) (vF p0 p1 p2 p3 p4 g100_86 F6_86)).1) - (1 : Int32)).toNatClampNeg))])
        refine own_st (T' := T6) (f' := (mkF m 209 #[.val (.int p0), .val (.int p1), .val (.int p2), .val (.int p3), .val (.int p4), .val (.int (vb p0 p1 p2 p3 p4)), .val (.ref r6_86), .val (.int (vs p0 p1 p2 p3 p4)), .val (.int (ve p0 p1 p2 p3 p4)), .val (.int ((((f1 (0 : Int32) (vs p0 p1 p2 p3 p4) (ve p0 p1 p2 p3 p4) (vb p0 p1 p2 p3 p4) (vF p0 p1 p2 p3 p4 g100_86 F6_86)) + (f1 (1 : Int32) (vs p0 p1 p2 p3 p4) (ve p0 p1 p2 p3 p4) (vb p0 p1 p2 p3 p4) (vF p0 p1 p2 p3 p4 g100_86 F6_86))) + (f1 (2 : Int32) (vs p0 p1 p2 p3 p4) (ve p0 p1 p2 p3 p4) (vb p0 p1 p2 p3 p4) (vF p0 p1 p2 p3 p4 g100_86 F6_86))) + (f1 (3 : Int32) (vs p0 p1 p2 p3 p4) (ve p0 p1 p2 p3 p4) (vb p0 p1 p2 p3 p4) (vF p0 p1 p2 p3 p4 g100_86 F6_86)))), .val (.ref b6)] [(.int (ve p0 p1 p2 p3 p4)), (.int ((f2 (vs p0 p1 p2 p3 p4) (ve p0 p1 p2 p3 p4) (vb p0 p1 p2 p3 p4) (vF p0 p1 p2 p3 p4 g100_86 F6_86)).2 ((Int32.ofNat (f2 (vs p0 p1 p2 p3 p4) (ve p0 p1 p2 p3 p4) (vb p0 p1 p2 p3 p4) (vF p0 p1 p2 p3 p4 g100_86 F6_86)).1) - (1 : Int32)).toNatClampNeg))])) ?_ (fun t q => XS.iload X6.here hx rfl (hb hby at_207) rfl q)
        refine own_ite (fun hc209 => ?_) (fun hc209 => ?_)
        · refine own_st (T' := T6) (f' := (mkF m 214 #[.val (.int p0), .val (.int p1), .val (.int p2), .val (.int p3), .val (.int p4), .val (.int (vb p0 p1 p2 p3 p4)), .val (.ref r6_86), .val (.int (vs p0 p1 p2 p3 p4)), .val (.int (ve p0 p1 p2 p3 p4)), .val (.int ((((f1 (0 : Int32) (vs p0 p1 p2 p3 p4) (ve p0 p1 p2 p3 p4) (vb p0 p1 p2 p3 p4) (vF p0 p1 p2 p3 p4 g100_86 F6_86)) + (f1 (1 : Int32) (vs p0 p1 p2 p3 p4) (ve p0 p1 p2 p3 p4) (vb p0 p1 p2 p3 p4) (vF p0 p1 p2 p3 p4 g100_86 F6_86))) + (f1 (2 : Int32) (vs p0 p1 p2 p3 p4) (ve p0 p1 p2 p3 p4) (vb p0 p1 p2 p3 p4) (vF p0 p1 p2 p3 p4 g100_86 F6_86))) + (f1 (3 : Int32) (vs p0 p1 p2 p3 p4) (ve p0 p1 p2 p3 p4) (vb p0 p1 p2 p3 p4) (vF p0 p1 p2 p3 p4 g100_86 F6_86)))), .val (.ref b6)] [])) ?_ (fun t q => XS.icmpYes X6.here hx rfl (pc0 := 209) (pc' := 214) rfl (hb hby at_209) rfl (teq hc209).1 (by decide) (by decide) q)
          refine own_st (T' := T6) (f' := (mkF m 216 #[.val (.int p0), .val (.int p1), .val (.int p2), .val (.int p3), .val (.int p4), .val (.int (vb p0 p1 p2 p3 p4)), .val (.ref r6_86), .val (.int (vs p0 p1 p2 p3 p4)), .val (.int (ve p0 p1 p2 p3 p4)), .val (.int ((((f1 (0 : Int32) (vs p0 p1 p2 p3 p4) (ve p0 p1 p2 p3 p4) (vb p0 p1 p2 p3 p4) (vF p0 p1 p2 p3 p4 g100_86 F6_86)) + (f1 (1 : Int32) (vs p0 p1 p2 p3 p4) (ve p0 p1 p2 p3 p4) (vb p0 p1 p2 p3 p4) (vF p0 p1 p2 p3 p4 g100_86 F6_86))) + (f1 (2 : Int32) (vs p0 p1 p2 p3 p4) (ve p0 p1 p2 p3 p4) (vb p0 p1 p2 p3 p4) (vF p0 p1 p2 p3 p4 g100_86 F6_86))) + (f1 (3 : Int32) (vs p0 p1 p2 p3 p4) (ve p0 p1 p2 p3 p4) (vb p0 p1 p2 p3 p4) (vF p0 p1 p2 p3 p4 g100_86 F6_86)))), .val (.ref b6)] [(.ref r6_86)])) ?_ (fun t q => XS.aload X6.here hx rfl (hb hby at_214) rfl rfl q)
          refine own_st (T' := T6) (f' := (mkF m 218 #[.val (.int p0), .val (.int p1), .val (.int p2), .val (.int p3), .val (.int p4), .val (.int (vb p0 p1 p2 p3 p4)), .val (.ref r6_86), .val (.int (vs p0 p1 p2 p3 p4)), .val (.int (ve p0 p1 p2 p3 p4)), .val (.int ((((f1 (0 : Int32) (vs p0 p1 p2 p3 p4) (ve p0 p1 p2 p3 p4) (vb p0 p1 p2 p3 p4) (vF p0 p1 p2 p3 p4 g100_86 F6_86)) + (f1 (1 : Int32) (vs p0 p1 p2 p3 p4) (ve p0 p1 p2 p3 p4) (vb p0 p1 p2 p3 p4) (vF p0 p1 p2 p3 p4 g100_86 F6_86))) + (f1 (2 : Int32) (vs p0 p1 p2 p3 p4) (ve p0 p1 p2 p3 p4) (vb p0 p1 p2 p3 p4) (vF p0 p1 p2 p3 p4 g100_86 F6_86))) + (f1 (3 : Int32) (vs p0 p1 p2 p3 p4) (ve p0 p1 p2 p3 p4) (vb p0 p1 p2 p3 p4) (vF p0 p1 p2 p3 p4 g100_86 F6_86)))), .val (.ref b6)] [(.ref b6), (.ref r6_86)])) ?_ (fun t q => XS.aload X6.here hx rfl (hb hby at_216) rfl rfl q)
          refine own_st (T' := T6) (f' := (mkF m 219 #[.val (.int p0), .val (.int p1), .val (.int p2), .val (.int p3), .val (.int p4), .val (.int (vb p0 p1 p2 p3 p4)), .val (.ref r6_86), .val (.int (vs p0 p1 p2 p3 p4)), .val (.int (ve p0 p1 p2 p3 p4)), .val (.int ((((f1 (0 : Int32) (vs p0 p1 p2 p3 p4) (ve p0 p1 p2 p3 p4) (vb p0 p1 p2 p3 p4) (vF p0 p1 p2 p3 p4 g100_86 F6_86)) + (f1 (1 : Int32) (vs p0 p1 p2 p3 p4) (ve p0 p1 p2 p3 p4) (vb p0 p1 p2 p3 p4) (vF p0 p1 p2 p3 p4 g100_86 F6_86))) + (f1 (2 : Int32) (vs p0 p1 p2 p3 p4) (ve p0 p1 p2 p3 p4) (vb p0 p1 p2 p3 p4) (vF p0 p1 p2 p3 p4 g100_86 F6_86))) + (f1 (3 : Int32) (vs p0 p1 p2 p3 p4) (ve p0 p1 p2 p3 p4) (vb p0 p1 p2 p3 p4) (vF p0 p1 p2 p3 p4 g100_86 F6_86)))), .val (.ref b6)] [(.int (0 : Int32)), (.ref b6), (.ref r6_86)])) ?_ (fun t q => XS.iconst X6.here hx rfl (hb hby at_218) q)
          refine own_st (T' := T6) (f' := (mkF m 221 #[.val (.int p0), .val (.int p1), .val (.int p2), .val (.int p3), .val (.int p4), .val (.int (vb p0 p1 p2 p3 p4)), .val (.ref r6_86), .val (.int (vs p0 p1 p2 p3 p4)), .val (.int (ve p0 p1 p2 p3 p4)), .val (.int ((((f1 (0 : Int32) (vs p0 p1 p2 p3 p4) (ve p0 p1 p2 p3 p4) (vb p0 p1 p2 p3 p4) (vF p0 p1 p2 p3 p4 g100_86 F6_86)) + (f1 (1 : Int32) (vs p0 p1 p2 p3 p4) (ve p0 p1 p2 p3 p4) (vb p0 p1 p2 p3 p4) (vF p0 p1 p2 p3 p4 g100_86 F6_86))) + (f1 (2 : Int32) (vs p0 p1 p2 p3 p4) (ve p0 p1 p2 p3 p4) (vb p0 p1 p2 p3 p4) (vF p0 p1 p2 p3 p4 g100_86 F6_86))) + (f1 (3 : Int32) (vs p0 p1 p2 p3 p4) (ve p0 p1 p2 p3 p4) (vb p0 p1 p2 p3 p4) (vF p0 p1 p2 p3 p4 g100_86 F6_86)))), .val (.ref b6)] [(.int (vb p0 p1 p2 p3 p4)), (.int (0 : Int32)), (.ref b6), (.ref r6_86)])) ?_ (fun t q => XS.iload X6.here hx rfl (hb hby at_219) rfl q)
          refine own_st (T' := T6) (f' := (mkF m 223 #[.val (.int p0), .val (.int p1), .val (.int p2), .val (.int p3), .val (.int p4), .val (.int (vb p0 p1 p2 p3 p4)), .val (.ref r6_86), .val (.int (vs p0 p1 p2 p3 p4)), .val (.int (ve p0 p1 p2 p3 p4)), .val (.int ((((f1 (0 : Int32) (vs p0 p1 p2 p3 p4) (ve p0 p1 p2 p3 p4) (vb p0 p1 p2 p3 p4) (vF p0 p1 p2 p3 p4 g100_86 F6_86)) + (f1 (1 : Int32) (vs p0 p1 p2 p3 p4) (ve p0 p1 p2 p3 p4) (vb p0 p1 p2 p3 p4) (vF p0 p1 p2 p3 p4 g100_86 F6_86))) + (f1 (2 : Int32) (vs p0 p1 p2 p3 p4) (ve p0 p1 p2 p3 p4) (vb p0 p1 p2 p3 p4) (vF p0 p1 p2 p3 p4 g100_86 F6_86))) + (f1 (3 : Int32) (vs p0 p1 p2 p3 p4) (ve p0 p1 p2 p3 p4) (vb p0 p1 p2 p3 p4) (vF p0 p1 p2 p3 p4 g100_86 F6_86)))), .val (.ref b6)] [(.int (vs p0 p1 p2 p3 p4)), (.int (vb p0 p1 p2 p3 p4)), (.int (0 : Int32)), (.ref b6), (.ref r6_86)])) ?_ (fun t q => XS.iload X6.here hx rfl (hb hby at_221) rfl q)
          refine own_st (T' := T6) (f' := (mkF m 225 #[.val (.int p0), .val (.int p1), .val (.int p2), .val (.int p3), .val (.int p4), .val (.int (vb p0 p1 p2 p3 p4)), .val (.ref r6_86), .val (.int (vs p0 p1 p2 p3 p4)), .val (.int (ve p0 p1 p2 p3 p4)), .val (.int ((((f1 (0 : Int32) (vs p0 p1 p2 p3 p4) (ve p0 p1 p2 p3 p4) (vb p0 p1 p2 p3 p4) (vF p0 p1 p2 p3 p4 g100_86 F6_86)) + (f1 (1 : Int32) (vs p0 p1 p2 p3 p4) (ve p0 p1 p2 p3 p4) (vb p0 p1 p2 p3 p4) (vF p0 p1 p2 p3 p4 g100_86 F6_86))) + (f1 (2 : Int32) (vs p0 p1 p2 p3 p4) (ve p0 p1 p2 p3 p4) (vb p0 p1 p2 p3 p4) (vF p0 p1 p2 p3 p4 g100_86 F6_86))) + (f1 (3 : Int32) (vs p0 p1 p2 p3 p4) (ve p0 p1 p2 p3 p4) (vb p0 p1 p2 p3 p4) (vF p0 p1 p2 p3 p4 g100_86 F6_86)))), .val (.ref b6)] [(.int (ve p0 p1 p2 p3 p4)), (.int (vs p0 p1 p2 p3 p4)), (.int (vb p0 p1 p2 p3 p4)), (.int (0 : Int32)), (.ref b6), (.ref r6_86)])) ?_ (fun t q => XS.iload X6.here hx rfl (hb hby at_223) rfl q)
          obtain ⟨_, _, ⟨T7, L7, k7, n7⟩, -, X7, ⟨Lc7, hQ7, l7, y7, z7⟩, st7⟩ := Jvm.LawKit.callS X6 hx (y := (⟨"com/example/cuvette/cuvette/hl7/Er7SplitPinLaw", "piece", "([B[IIBII)Z"⟩ : MethodName)) hown (mvT hZ (hw _ (List.mem_of_getElem? (i := 11) rfl))) (mvT hZ (hw _ (List.mem_of_getElem? (i := 12) rfl))) (mvT hZ (hw _ (List.mem_of_getElem? (i := 4) rfl))) (mvT hZ (hw _ (List.mem_of_getElem? (i := 13) rfl))) (by decide) (backOf (W := 0) (rm3 l Z a0 hw [] r6_86 b6 (0 : Int32) (vb p0 p1 p2 p3 p4) (vs p0 p1 p2 p3 p4) (ve p0 p1 p2 p3 p4) 4 (vF p0 p1 p2 p3 p4 g100_86 F6_86) (f2 (vs p0 p1 p2 p3 p4) (ve p0 p1 p2 p3 p4) (vb p0 p1 p2 p3 p4) (vF p0 p1 p2 p3 p4 g100_86 F6_86)).1 (f2 (vs p0 p1 p2 p3 p4) (ve p0 p1 p2 p3 p4) (vb p0 p1 p2 p3 p4) (vF p0 p1 p2 p3 p4 g100_86 F6_86)).2 T6.heap n0 A6_r6_86 A6_b6 (by decide) (by decide) hN6.2 (own_p1 p0 p1 p2 p3 p4) (own_p2 p0 p1 p2 p3 p4) rfl) hZ (hw _ (List.mem_of_getElem? (i := 13) rfl)) (hw _ (List.mem_of_getElem? (i := 4) rfl)) (by decide) (by decide)) (g := (mkF m 225 #[.val (.int p0), .val (.int p1), .val (.int p2), .val (.int p3), .val (.int p4), .val (.int (vb p0 p1 p2 p3 p4)), .val (.ref r6_86), .val (.int (vs p0 p1 p2 p3 p4)), .val (.int (ve p0 p1 p2 p3 p4)), .val (.int ((((f1 (0 : Int32) (vs p0 p1 p2 p3 p4) (ve p0 p1 p2 p3 p4) (vb p0 p1 p2 p3 p4) (vF p0 p1 p2 p3 p4 g100_86 F6_86)) + (f1 (1 : Int32) (vs p0 p1 p2 p3 p4) (ve p0 p1 p2 p3 p4) (vb p0 p1 p2 p3 p4) (vF p0 p1 p2 p3 p4 g100_86 F6_86))) + (f1 (2 : Int32) (vs p0 p1 p2 p3 p4) (ve p0 p1 p2 p3 p4) (vb p0 p1 p2 p3 p4) (vF p0 p1 p2 p3 p4 g100_86 F6_86))) + (f1 (3 : Int32) (vs p0 p1 p2 p3 p4) (ve p0 p1 p2 p3 p4) (vb p0 p1 p2 p3 p4) (vF p0 p1 p2 p3 p4 g100_86 F6_86)))), .val (.ref b6)] [(.int (ve p0 p1 p2 p3 p4)), (.int (vs p0 p1 p2 p3 p4)), (.int (vb p0 p1 p2 p3 p4)), (.int (0 : Int32)), (.ref b6), (.ref r6_86)])) rfl (by rw [hml]; rfl) (argsL := [(.ref r6_86), (.ref b6), (.int (0 : Int32)), (.int (vb p0 p1 p2 p3 p4)), (.int (vs p0 p1 p2 p3 p4)), (.int (ve p0 p1 p2 p3 p4))]) (rest := []) (lenOf pd_3 rfl) rfl (by show 2 * 0 + _ ≤ _; exact Nat.le_of_eq rfl) (hb hby at_225) (fun _ _ => ⟨rfl, rfl, (Nat.le_of_ble_eq_true rfl), (Nat.le_of_ble_eq_true rfl)⟩)
          dsimp only [Pt.U, Pt.locs, Pt.cells, Pt.slots] at X7 l7 y7 z7 st7 hQ7
          subst l7 y7 z7
          obtain ⟨rfl, N7q, e7⟩ := hQ7
          have N7 := Fr.app N6 N7q
          have zs7 : n0 ≤ T7.heap.size := by rw [e7]; exact zs6
          have A7_r6_86 := own_A.eq A6_r6_86 e7
          have A7_b6 := own_A.eq A6_b6 e7
          refine own_st (T' := T7) (f' := (mkF m 228 #[.val (.int p0), .val (.int p1), .val (.int p2), .val (.int p3), .val (.int p4), .val (.int (vb p0 p1 p2 p3 p4)), .val (.ref r6_86), .val (.int (vs p0 p1 p2 p3 p4)), .val (.int (ve p0 p1 p2 p3 p4)), .val (.int ((((f1 (0 : Int32) (vs p0 p1 p2 p3 p4) (ve p0 p1 p2 p3 p4) (vb p0 p1 p2 p3 p4) (vF p0 p1 p2 p3 p4 g100_86 F6_86)) + (f1 (1 : Int32) (vs p0 p1 p2 p3 p4) (ve p0 p1 p2 p3 p4) (vb p0 p1 p2 p3 p4) (vF p0 p1 p2 p3 p4 g100_86 F6_86))) + (f1 (2 : Int32) (vs p0 p1 p2 p3 p4) (ve p0 p1 p2 p3 p4) (vb p0 p1 p2 p3 p4) (vF p0 p1 p2 p3 p4 g100_86 F6_86))) + (f1 (3 : Int32) (vs p0 p1 p2 p3 p4) (ve p0 p1 p2 p3 p4) (vb p0 p1 p2 p3 p4) (vF p0 p1 p2 p3 p4 g100_86 F6_86)))), .val (.ref b6)] [(.int (f3 (0 : Int32) (vb p0 p1 p2 p3 p4) (vs p0 p1 p2 p3 p4) (ve p0 p1 p2 p3 p4) 4 (vF p0 p1 p2 p3 p4 g100_86 F6_86) (f2 (vs p0 p1 p2 p3 p4) (ve p0 p1 p2 p3 p4) (vb p0 p1 p2 p3 p4) (vF p0 p1 p2 p3 p4 g100_86 F6_86)).1 (f2 (vs p0 p1 p2 p3 p4) (ve p0 p1 p2 p3 p4) (vb p0 p1 p2 p3 p4) (vF p0 p1 p2 p3 p4 g100_86 F6_86)).2))])) ?_ (fun t q => st7 _ q)
          refine own_ite (fun hc228 => ?_) (fun hc228 => ?_)
          · refine own_st (T' := T7) (f' := (mkF m 303 #[.val (.int p0), .val (.int p1), .val (.int p2), .val (.int p3), .val (.int p4), .val (.int (vb p0 p1 p2 p3 p4)), .val (.ref r6_86), .val (.int (vs p0 p1 p2 p3 p4)), .val (.int (ve p0 p1 p2 p3 p4)), .val (.int ((((f1 (0 : Int32) (vs p0 p1 p2 p3 p4) (ve p0 p1 p2 p3 p4) (vb p0 p1 p2 p3 p4) (vF p0 p1 p2 p3 p4 g100_86 F6_86)) + (f1 (1 : Int32) (vs p0 p1 p2 p3 p4) (ve p0 p1 p2 p3 p4) (vb p0 p1 p2 p3 p4) (vF p0 p1 p2 p3 p4 g100_86 F6_86))) + (f1 (2 : Int32) (vs p0 p1 p2 p3 p4) (ve p0 p1 p2 p3 p4) (vb p0 p1 p2 p3 p4) (vF p0 p1 p2 p3 p4 g100_86 F6_86))) + (f1 (3 : Int32) (vs p0 p1 p2 p3 p4) (ve p0 p1 p2 p3 p4) (vb p0 p1 p2 p3 p4) (vF p0 p1 p2 p3 p4 g100_86 F6_86)))), .val (.ref b6)] [])) ?_ (fun t q => XS.ifYes X7.here hx rfl (pc0 := 228) (pc' := 303) rfl (hb hby at_228) rfl ((if0 _ _).trans (teq hc228).1) (by decide) (by decide) q)
            refine own_st (T' := T7) (f' := (mkF m 304 #[.val (.int p0), .val (.int p1), .val (.int p2), .val (.int p3), .val (.int p4), .val (.int (vb p0 p1 p2 p3 p4)), .val (.ref r6_86), .val (.int (vs p0 p1 p2 p3 p4)), .val (.int (ve p0 p1 p2 p3 p4)), .val (.int ((((f1 (0 : Int32) (vs p0 p1 p2 p3 p4) (ve p0 p1 p2 p3 p4) (vb p0 p1 p2 p3 p4) (vF p0 p1 p2 p3 p4 g100_86 F6_86)) + (f1 (1 : Int32) (vs p0 p1 p2 p3 p4) (ve p0 p1 p2 p3 p4) (vb p0 p1 p2 p3 p4) (vF p0 p1 p2 p3 p4 g100_86 F6_86))) + (f1 (2 : Int32) (vs p0 p1 p2 p3 p4) (ve p0 p1 p2 p3 p4) (vb p0 p1 p2 p3 p4) (vF p0 p1 p2 p3 p4 g100_86 F6_86))) + (f1 (3 : Int32) (vs p0 p1 p2 p3 p4) (ve p0 p1 p2 p3 p4) (vb p0 p1 p2 p3 p4) (vF p0 p1 p2 p3 p4 g100_86 F6_86)))), .val (.ref b6)] [(.int (0 : Int32))])) ?_ (fun t q => XS.iconst X7.here hx rfl (hb hby at_303) q)
            exact own_retN X7 hx hlk (t := .boolean) Bd.returns (by simp) (hb hby at_304) (by decide) (by decide) ⟨rfl, N7, trivial⟩
          · refine own_st (T' := T7) (f' := (mkF m 231 #[.val (.int p0), .val (.int p1), .val (.int p2), .val (.int p3), .val (.int p4), .val (.int (vb p0 p1 p2 p3 p4)), .val (.ref r6_86), .val (.int (vs p0 p1 p2 p3 p4)), .val (.int (ve p0 p1 p2 p3 p4)), .val (.int ((((f1 (0 : Int32) (vs p0 p1 p2 p3 p4) (ve p0 p1 p2 p3 p4) (vb p0 p1 p2 p3 p4) (vF p0 p1 p2 p3 p4 g100_86 F6_86)) + (f1 (1 : Int32) (vs p0 p1 p2 p3 p4) (ve p0 p1 p2 p3 p4) (vb p0 p1 p2 p3 p4) (vF p0 p1 p2 p3 p4 g100_86 F6_86))) + (f1 (2 : Int32) (vs p0 p1 p2 p3 p4) (ve p0 p1 p2 p3 p4) (vb p0 p1 p2 p3 p4) (vF p0 p1 p2 p3 p4 g100_86 F6_86))) + (f1 (3 : Int32) (vs p0 p1 p2 p3 p4) (ve p0 p1 p2 p3 p4) (vb p0 p1 p2 p3 p4) (vF p0 p1 p2 p3 p4 g100_86 F6_86)))), .val (.ref b6)] [])) ?_ (fun t q => XS.ifNo X7.here hx rfl (hb hby at_228) rfl ((if0 _ _).trans (feq hc228).1) q)
            refine own_st (T' := T7) (f' := (mkF m 233 #[.val (.int p0), .val (.int p1), .val (.int p2), .val (.int p3), .val (.int p4), .val (.int (vb p0 p1 p2 p3 p4)), .val (.ref r6_86), .val (.int (vs p0 p1 p2 p3 p4)), .val (.int (ve p0 p1 p2 p3 p4)), .val (.int ((((f1 (0 : Int32) (vs p0 p1 p2 p3 p4) (ve p0 p1 p2 p3 p4) (vb p0 p1 p2 p3 p4) (vF p0 p1 p2 p3 p4 g100_86 F6_86)) + (f1 (1 : Int32) (vs p0 p1 p2 p3 p4) (ve p0 p1 p2 p3 p4) (vb p0 p1 p2 p3 p4) (vF p0 p1 p2 p3 p4 g100_86 F6_86))) + (f1 (2 : Int32) (vs p0 p1 p2 p3 p4) (ve p0 p1 p2 p3 p4) (vb p0 p1 p2 p3 p4) (vF p0 p1 p2 p3 p4 g100_86 F6_86))) + (f1 (3 : Int32) (vs p0 p1 p2 p3 p4) (ve p0 p1 p2 p3 p4) (vb p0 p1 p2 p3 p4) (vF p0 p1 p2 p3 p4 g100_86 F6_86)))), .val (.ref b6)] [(.ref r6_86)])) ?_ (fun t q => XS.aload X7.here hx rfl (hb hby at_231) rfl rfl q)
            refine own_st (T' := T7) (f' := (mkF m 235 #[.val (.int p0), .val (.int p1), .val (.int p2), .val (.int p3), .val (.int p4), .val (.int (vb p0 p1 p2 p3 p4)), .val (.ref r6_86), .val (.int (vs p0 p1 p2 p3 p4)), .val (.int (ve p0 p1 p2 p3 p4)), .val (.int ((((f1 (0 : Int32) (vs p0 p1 p2 p3 p4) (ve p0 p1 p2 p3 p4) (vb p0 p1 p2 p3 p4) (vF p0 p1 p2 p3 p4 g100_86 F6_86)) + (f1 (1 : Int32) (vs p0 p1 p2 p3 p4) (ve p0 p1 p2 p3 p4) (vb p0 p1 p2 p3 p4) (vF p0 p1 p2 p3 p4 g100_86 F6_86))) + (f1 (2 : Int32) (vs p0 p1 p2 p3 p4) (ve p0 p1 p2 p3 p4) (vb p0 p1 p2 p3 p4) (vF p0 p1 p2 p3 p4 g100_86 F6_86))) + (f1 (3 : Int32) (vs p0 p1 p2 p3 p4) (ve p0 p1 p2 p3 p4) (vb p0 p1 p2 p3 p4) (vF p0 p1 p2 p3 p4 g100_86 F6_86)))), .val (.ref b6)] [(.ref b6), (.ref r6_86)])) ?_ (fun t q => XS.aload X7.here hx rfl (hb hby at_233) rfl rfl q)
            refine own_st (T' := T7) (f' := (mkF m 236 #[.val (.int p0), .val (.int p1), .val (.int p2), .val (.int p3), .val (.int p4), .val (.int (vb p0 p1 p2 p3 p4)), .val (.ref r6_86), .val (.int (vs p0 p1 p2 p3 p4)), .val (.int (ve p0 p1 p2 p3 p4)), .val (.int ((((f1 (0 : Int32) (vs p0 p1 p2 p3 p4) (ve p0 p1 p2 p3 p4) (vb p0 p1 p2 p3 p4) (vF p0 p1 p2 p3 p4 g100_86 F6_86)) + (f1 (1 : Int32) (vs p0 p1 p2 p3 p4) (ve p0 p1 p2 p3 p4) (vb p0 p1 p2 p3 p4) (vF p0 p1 p2 p3 p4 g100_86 F6_86))) + (f1 (2 : Int32) (vs p0 p1 p2 p3 p4) (ve p0 p1 p2 p3 p4) (vb p0 p1 p2 p3 p4) (vF p0 p1 p2 p3 p4 g100_86 F6_86))) + (f1 (3 : Int32) (vs p0 p1 p2 p3 p4) (ve p0 p1 p2 p3 p4) (vb p0 p1 p2 p3 p4) (vF p0 p1 p2 p3 p4 g100_86 F6_86)))), .val (.ref b6)] [(.int (1 : Int32)), (.ref b6), (.ref r6_86)])) ?_ (fun t q => XS.iconst X7.here hx rfl (hb hby at_235) q)
            refine own_st (T' := T7) (f' := (mkF m 238 #[.val (.int p0), .val (.int p1), .val (.int p2), .val (.int p3), .val (.int p4), .val (.int (vb p0 p1 p2 p3 p4)), .val (.ref r6_86), .val (.int (vs p0 p1 p2 p3 p4)), .val (.int (ve p0 p1 p2 p3 p4)), .val (.int ((((f1 (0 : Int32) (vs p0 p1 p2 p3 p4) (ve p0 p1 p2 p3 p4) (vb p0 p1 p2 p3 p4) (vF p0 p1 p2 p3 p4 g100_86 F6_86)) + (f1 (1 : Int32) (vs p0 p1 p2 p3 p4) (ve p0 p1 p2 p3 p4) (vb p0 p1 p2 p3 p4) (vF p0 p1 p2 p3 p4 g100_86 F6_86))) + (f1 (2 : Int32) (vs p0 p1 p2 p3 p4) (ve p0 p1 p2 p3 p4) (vb p0 p1 p2 p3 p4) (vF p0 p1 p2 p3 p4 g100_86 F6_86))) + (f1 (3 : Int32) (vs p0 p1 p2 p3 p4) (ve p0 p1 p2 p3 p4) (vb p0 p1 p2 p3 p4) (vF p0 p1 p2 p3 p4 g100_86 F6_86)))), .val (.ref b6)] [(.int (vb p0 p1 p2 p3 p4)), (.int (1 : Int32)), (.ref b6), (.ref r6_86)])) ?_ (fun t q => XS.iload X7.here hx rfl (hb hby at_236) rfl q)
            refine own_st (T' := T7) (f' := (mkF m 240 #[.val (.int p0), .val (.int p1), .val (.int p2), .val (.int p3), .val (.int p4), .val (.int (vb p0 p1 p2 p3 p4)), .val (.ref r6_86), .val (.int (vs p0 p1 p2 p3 p4)), .val (.int (ve p0 p1 p2 p3 p4)), .val (.int ((((f1 (0 : Int32) (vs p0 p1 p2 p3 p4) (ve p0 p1 p2 p3 p4) (vb p0 p1 p2 p3 p4) (vF p0 p1 p2 p3 p4 g100_86 F6_86)) + (f1 (1 : Int32) (vs p0 p1 p2 p3 p4) (ve p0 p1 p2 p3 p4) (vb p0 p1 p2 p3 p4) (vF p0 p1 p2 p3 p4 g100_86 F6_86))) + (f1 (2 : Int32) (vs p0 p1 p2 p3 p4) (ve p0 p1 p2 p3 p4) (vb p0 p1 p2 p3 p4) (vF p0 p1 p2 p3 p4 g100_86 F6_86))) + (f1 (3 : Int32) (vs p0 p1 p2 p3 p4) (ve p0 p1 p2 p3 p4) (vb p0 p1 p2 p3 p4) (vF p0 p1 p2 p3 p4 g100_86 F6_86)))), .val (.ref b6)] [(.int (vs p0 p1 p2 p3 p4)), (.int (vb p0 p1 p2 p3 p4)), (.int (1 : Int32)), (.ref b6), (.ref r6_86)])) ?_ (fun t q => XS.iload X7.here hx rfl (hb hby at_238) rfl q)
            refine own_st (T' := T7) (f' := (mkF m 242 #[.val (.int p0), .val (.int p1), .val (.int p2), .val (.int p3), .val (.int p4), .val (.int (vb p0 p1 p2 p3 p4)), .val (.ref r6_86), .val (.int (vs p0 p1 p2 p3 p4)), .val (.int (ve p0 p1 p2 p3 p4)), .val (.int ((((f1 (0 : Int32) (vs p0 p1 p2 p3 p4) (ve p0 p1 p2 p3 p4) (vb p0 p1 p2 p3 p4) (vF p0 p1 p2 p3 p4 g100_86 F6_86)) + (f1 (1 : Int32) (vs p0 p1 p2 p3 p4) (ve p0 p1 p2 p3 p4) (vb p0 p1 p2 p3 p4) (vF p0 p1 p2 p3 p4 g100_86 F6_86))) + (f1 (2 : Int32) (vs p0 p1 p2 p3 p4) (ve p0 p1 p2 p3 p4) (vb p0 p1 p2 p3 p4) (vF p0 p1 p2 p3 p4 g100_86 F6_86))) + (f1 (3 : Int32) (vs p0 p1 p2 p3 p4) (ve p0 p1 p2 p3 p4) (vb p0 p1 p2 p3 p4) (vF p0 p1 p2 p3 p4 g100_86 F6_86)))), .val (.ref b6)] [(.int (ve p0 p1 p2 p3 p4)), (.int (vs p0 p1 p2 p3 p4)), (.int (vb p0 p1 p2 p3 p4)), (.int (1 : Int32)), (.ref b6), (.ref r6_86)])) ?_ (fun t q => XS.iload X7.here hx rfl (hb hby at_240) rfl q)
            obtain ⟨_, _, ⟨T8, L8, k8, n8⟩, -, X8, ⟨Lc8, hQ8, l8, y8, z8⟩, st8⟩ := Jvm.LawKit.callS X7 hx (y := (⟨"com/example/cuvette/cuvette/hl7/Er7SplitPinLaw", "piece", "([B[IIBII)Z"⟩ : MethodName)) hown (mvT hZ (hw _ (List.mem_of_getElem? (i := 11) rfl))) (mvT hZ (hw _ (List.mem_of_getElem? (i := 12) rfl))) (mvT hZ (hw _ (List.mem_of_getElem? (i := 4) rfl))) (mvT hZ (hw _ (List.mem_of_getElem? (i := 13) rfl))) (by decide) (backOf (W := 0) (rm3 l Z a0 hw [] r6_86 b6 (1 : Int32) (vb p0 p1 p2 p3 p4) (vs p0 p1 p2 p3 p4) (ve p0 p1 p2 p3 p4) 4 (vF p0 p1 p2 p3 p4 g100_86 F6_86) (f2 (vs p0 p1 p2 p3 p4) (ve p0 p1 p2 p3 p4) (vb p0 p1 p2 p3 p4) (vF p0 p1 p2 p3 p4 g100_86 F6_86)).1 (f2 (vs p0 p1 p2 p3 p4) (ve p0 p1 p2 p3 p4) (vb p0 p1 p2 p3 p4) (vF p0 p1 p2 p3 p4 g100_86 F6_86)).2 T7.heap n0 A7_r6_86 A7_b6 (by decide) (by decide) hN6.2 (own_p1 p0 p1 p2 p3 p4) (own_p2 p0 p1 p2 p3 p4) rfl) hZ (hw _ (List.mem_of_getElem? (i := 13) rfl)) (hw _ (List.mem_of_getElem? (i := 4) rfl)) (by decide) (by decide)) (g := (mkF m 242 #[.val (.int p0), .val (.int p1), .val (.int p2), .val (.int p3), .val (.int p4), .val (.int (vb p0 p1 p2 p3 p4)), .val (.ref r6_86), .val (.int (vs p0 p1 p2 p3 p4)), .val (.int (ve p0 p1 p2 p3 p4)), .val (.int ((((f1 (0 : Int32) (vs p0 p1 p2 p3 p4) (ve p0 p1 p2 p3 p4) (vb p0 p1 p2 p3 p4) (vF p0 p1 p2 p3 p4 g100_86 F6_86)) + (f1 (1 : Int32) (vs p0 p1 p2 p3 p4) (ve p0 p1 p2 p3 p4) (vb p0 p1 p2 p3 p4) (vF p0 p1 p2 p3 p4 g100_86 F6_86))) + (f1 (2 : Int32) (vs p0 p1 p2 p3 p4) (ve p0 p1 p2 p3 p4) (vb p0 p1 p2 p3 p4) (vF p0 p1 p2 p3 p4 g100_86 F6_86))) + (f1 (3 : Int32) (vs p0 p1 p2 p3 p4) (ve p0 p1 p2 p3 p4) (vb p0 p1 p2 p3 p4) (vF p0 p1 p2 p3 p4 g100_86 F6_86)))), .val (.ref b6)] [(.int (ve p0 p1 p2 p3 p4)), (.int (vs p0 p1 p2 p3 p4)), (.int (vb p0 p1 p2 p3 p4)), (.int (1 : Int32)), (.ref b6), (.ref r6_86)])) rfl (by rw [hml]; rfl) (argsL := [(.ref r6_86), (.ref b6), (.int (1 : Int32)), (.int (vb p0 p1 p2 p3 p4)), (.int (vs p0 p1 p2 p3 p4)), (.int (ve p0 p1 p2 p3 p4))]) (rest := []) (lenOf pd_3 rfl) rfl (by show 2 * 0 + _ ≤ _; exact Nat.le_of_eq rfl) (hb hby at_242) (fun _ _ => ⟨rfl, rfl, (Nat.le_of_ble_eq_true rfl), (Nat.le_of_ble_eq_true rfl)⟩)
            dsimp only [Pt.U, Pt.locs, Pt.cells, Pt.slots] at X8 l8 y8 z8 st8 hQ8
            subst l8 y8 z8
            obtain ⟨rfl, N8q, e8⟩ := hQ8
            have N8 := Fr.app N7 N8q
            have zs8 : n0 ≤ T8.heap.size := by rw [e8]; exact zs7
            have A8_r6_86 := own_A.eq A7_r6_86 e8
            have A8_b6 := own_A.eq A7_b6 e8
            refine own_st (T' := T8) (f' := (mkF m 245 #[.val (.int p0), .val (.int p1), .val (.int p2), .val (.int p3), .val (.int p4), .val (.int (vb p0 p1 p2 p3 p4)), .val (.ref r6_86), .val (.int (vs p0 p1 p2 p3 p4)), .val (.int (ve p0 p1 p2 p3 p4)), .val (.int ((((f1 (0 : Int32) (vs p0 p1 p2 p3 p4) (ve p0 p1 p2 p3 p4) (vb p0 p1 p2 p3 p4) (vF p0 p1 p2 p3 p4 g100_86 F6_86)) + (f1 (1 : Int32) (vs p0 p1 p2 p3 p4) (ve p0 p1 p2 p3 p4) (vb p0 p1 p2 p3 p4) (vF p0 p1 p2 p3 p4 g100_86 F6_86))) + (f1 (2 : Int32) (vs p0 p1 p2 p3 p4) (ve p0 p1 p2 p3 p4) (vb p0 p1 p2 p3 p4) (vF p0 p1 p2 p3 p4 g100_86 F6_86))) + (f1 (3 : Int32) (vs p0 p1 p2 p3 p4) (ve p0 p1 p2 p3 p4) (vb p0 p1 p2 p3 p4) (vF p0 p1 p2 p3 p4 g100_86 F6_86)))), .val (.ref b6)] [(.int (f3 (1 : Int32) (vb p0 p1 p2 p3 p4) (vs p0 p1 p2 p3 p4) (ve p0 p1 p2 p3 p4) 4 (vF p0 p1 p2 p3 p4 g100_86 F6_86) (f2 (vs p0 p1 p2 p3 p4) (ve p0 p1 p2 p3 p4) (vb p0 p1 p2 p3 p4) (vF p0 p1 p2 p3 p4 g100_86 F6_86)).1 (f2 (vs p0 p1 p2 p3 p4) (ve p0 p1 p2 p3 p4) (vb p0 p1 p2 p3 p4) (vF p0 p1 p2 p3 p4 g100_86 F6_86)).2))])) ?_ (fun t q => st8 _ q)
            refine own_ite (fun hc245 => ?_) (fun hc245 => ?_)
            · refine own_st (T' := T8) (f' := (mkF m 303 #[.val (.int p0), .val (.int p1), .val (.int p2), .val (.int p3), .val (.int p4), .val (.int (vb p0 p1 p2 p3 p4)), .val (.ref r6_86), .val (.int (vs p0 p1 p2 p3 p4)), .val (.int (ve p0 p1 p2 p3 p4)), .val (.int ((((f1 (0 : Int32) (vs p0 p1 p2 p3 p4) (ve p0 p1 p2 p3 p4) (vb p0 p1 p2 p3 p4) (vF p0 p1 p2 p3 p4 g100_86 F6_86)) + (f1 (1 : Int32) (vs p0 p1 p2 p3 p4) (ve p0 p1 p2 p3 p4) (vb p0 p1 p2 p3 p4) (vF p0 p1 p2 p3 p4 g100_86 F6_86))) + (f1 (2 : Int32) (vs p0 p1 p2 p3 p4) (ve p0 p1 p2 p3 p4) (vb p0 p1 p2 p3 p4) (vF p0 p1 p2 p3 p4 g100_86 F6_86))) + (f1 (3 : Int32) (vs p0 p1 p2 p3 p4) (ve p0 p1 p2 p3 p4) (vb p0 p1 p2 p3 p4) (vF p0 p1 p2 p3 p4 g100_86 F6_86)))), .val (.ref b6)] [])) ?_ (fun t q => XS.ifYes X8.here hx rfl (pc0 := 245) (pc' := 303) rfl (hb hby at_245) rfl ((if0 _ _).trans (teq hc245).1) (by decide) (by decide) q)
              refine own_st (T' := T8) (f' := (mkF m 304 #[.val (.int p0), .val (.int p1), .val (.int p2), .val (.int p3), .val (.int p4), .val (.int (vb p0 p1 p2 p3 p4)), .val (.ref r6_86), .val (.int (vs p0 p1 p2 p3 p4)), .val (.int (ve p0 p1 p2 p3 p4)), .val (.int ((((f1 (0 : Int32) (vs p0 p1 p2 p3 p4) (ve p0 p1 p2 p3 p4) (vb p0 p1 p2 p3 p4) (vF p0 p1 p2 p3 p4 g100_86 F6_86)) + (f1 (1 : Int32) (vs p0 p1 p2 p3 p4) (ve p0 p1 p2 p3 p4) (vb p0 p1 p2 p3 p4) (vF p0 p1 p2 p3 p4 g100_86 F6_86))) + (f1 (2 : Int32) (vs p0 p1 p2 p3 p4) (ve p0 p1 p2 p3 p4) (vb p0 p1 p2 p3 p4) (vF p0 p1 p2 p3 p4 g100_86 F6_86))) + (f1 (3 : Int32) (vs p0 p1 p2 p3 p4) (ve p0 p1 p2 p3 p4) (vb p0 p1 p2 p3 p4) (vF p0 p1 p2 p3 p4 g100_86 F6_86)))), .val (.ref b6)] [(.int (0 : Int32))])) ?_ (fun t q => XS.iconst X8.here hx rfl (hb hby at_303) q)
              exact own_retN X8 hx hlk (t := .boolean) Bd.returns (by simp) (hb hby at_304) (by decide) (by decide) ⟨rfl, N8, trivial⟩
            · refine own_st (T' := T8) (f' := (mkF m 248 #[.val (.int p0), .val (.int p1), .val (.int p2), .val (.int p3), .val (.int p4), .val (.int (vb p0 p1 p2 p3 p4)), .val (.ref r6_86), .val (.int (vs p0 p1 p2 p3 p4)), .val (.int (ve p0 p1 p2 p3 p4)), .val (.int ((((f1 (0 : Int32) (vs p0 p1 p2 p3 p4) (ve p0 p1 p2 p3 p4) (vb p0 p1 p2 p3 p4) (vF p0 p1 p2 p3 p4 g100_86 F6_86)) + (f1 (1 : Int32) (vs p0 p1 p2 p3 p4) (ve p0 p1 p2 p3 p4) (vb p0 p1 p2 p3 p4) (vF p0 p1 p2 p3 p4 g100_86 F6_86))) + (f1 (2 : Int32) (vs p0 p1 p2 p3 p4) (ve p0 p1 p2 p3 p4) (vb p0 p1 p2 p3 p4) (vF p0 p1 p2 p3 p4 g100_86 F6_86))) + (f1 (3 : Int32) (vs p0 p1 p2 p3 p4) (ve p0 p1 p2 p3 p4) (vb p0 p1 p2 p3 p4) (vF p0 p1 p2 p3 p4 g100_86 F6_86)))), .val (.ref b6)] [])) ?_ (fun t q => XS.ifNo X8.here hx rfl (hb hby at_245) rfl ((if0 _ _).trans (feq hc245).1) q)
              refine own_st (T' := T8) (f' := (mkF m 250 #[.val (.int p0), .val (.int p1), .val (.int p2), .val (.int p3), .val (.int p4), .val (.int (vb p0 p1 p2 p3 p4)), .val (.ref r6_86), .val (.int (vs p0 p1 p2 p3 p4)), .val (.int (ve p0 p1 p2 p3 p4)), .val (.int ((((f1 (0 : Int32) (vs p0 p1 p2 p3 p4) (ve p0 p1 p2 p3 p4) (vb p0 p1 p2 p3 p4) (vF p0 p1 p2 p3 p4 g100_86 F6_86)) + (f1 (1 : Int32) (vs p0 p1 p2 p3 p4) (ve p0 p1 p2 p3 p4) (vb p0 p1 p2 p3 p4) (vF p0 p1 p2 p3 p4 g100_86 F6_86))) + (f1 (2 : Int32) (vs p0 p1 p2 p3 p4) (ve p0 p1 p2 p3 p4) (vb p0 p1 p2 p3 p4) (vF p0 p1 p2 p3 p4 g100_86 F6_86))) + (f1 (3 : Int32) (vs p0 p1 p2 p3 p4) (ve p0 p1 p2 p3 p4) (vb p0 p1 p2 p3 p4) (vF p0 p1 p2 p3 p4 g100_86 F6_86)))), .val (.ref b6)] [(.ref r6_86)])) ?_ (fun t q => XS.aload X8.here hx rfl (hb hby at_248) rfl rfl q)
              refine own_st (T' := T8) (f' := (mkF m 252 #[.val (.int p0), .val (.int p1), .val (.int p2), .val (.int p3), .val (.int p4), .val (.int (vb p0 p1 p2 p3 p4)), .val (.ref r6_86), .val (.int (vs p0 p1 p2 p3 p4)), .val (.int (ve p0 p1 p2 p3 p4)), .val (.int ((((f1 (0 : Int32) (vs p0 p1 p2 p3 p4) (ve p0 p1 p2 p3 p4) (vb p0 p1 p2 p3 p4) (vF p0 p1 p2 p3 p4 g100_86 F6_86)) + (f1 (1 : Int32) (vs p0 p1 p2 p3 p4) (ve p0 p1 p2 p3 p4) (vb p0 p1 p2 p3 p4) (vF p0 p1 p2 p3 p4 g100_86 F6_86))) + (f1 (2 : Int32) (vs p0 p1 p2 p3 p4) (ve p0 p1 p2 p3 p4) (vb p0 p1 p2 p3 p4) (vF p0 p1 p2 p3 p4 g100_86 F6_86))) + (f1 (3 : Int32) (vs p0 p1 p2 p3 p4) (ve p0 p1 p2 p3 p4) (vb p0 p1 p2 p3 p4) (vF p0 p1 p2 p3 p4 g100_86 F6_86)))), .val (.ref b6)] [(.ref b6), (.ref r6_86)])) ?_ (fun t q => XS.aload X8.here hx rfl (hb hby at_250) rfl rfl q)
              refine own_st (T' := T8) (f' := (mkF m 253 #[.val (.int p0), .val (.int p1), .val (.int p2), .val (.int p3), .val (.int p4), .val (.int (vb p0 p1 p2 p3 p4)), .val (.ref r6_86), .val (.int (vs p0 p1 p2 p3 p4)), .val (.int (ve p0 p1 p2 p3 p4)), .val (.int ((((f1 (0 : Int32) (vs p0 p1 p2 p3 p4) (ve p0 p1 p2 p3 p4) (vb p0 p1 p2 p3 p4) (vF p0 p1 p2 p3 p4 g100_86 F6_86)) + (f1 (1 : Int32) (vs p0 p1 p2 p3 p4) (ve p0 p1 p2 p3 p4) (vb p0 p1 p2 p3 p4) (vF p0 p1 p2 p3 p4 g100_86 F6_86))) + (f1 (2 : Int32) (vs p0 p1 p2 p3 p4) (ve p0 p1 p2 p3 p4) (vb p0 p1 p2 p3 p4) (vF p0 p1 p2 p3 p4 g100_86 F6_86))) + (f1 (3 : Int32) (vs p0 p1 p2 p3 p4) (ve p0 p1 p2 p3 p4) (vb p0 p1 p2 p3 p4) (vF p0 p1 p2 p3 p4 g100_86 F6_86)))), .val (.ref b6)] [(.int (2 : Int32)), (.ref b6), (.ref r6_86)])) ?_ (fun t q => XS.iconst X8.here hx rfl (hb hby at_252) q)
              refine own_st (T' := T8) (f' := (mkF m 255 #[.val (.int p0), .val (.int p1), .val (.int p2), .val (.int p3), .val (.int p4), .val (.int (vb p0 p1 p2 p3 p4)), .val (.ref r6_86), .val (.int (vs p0 p1 p2 p3 p4)), .val (.int (ve p0 p1 p2 p3 p4)), .val (.int ((((f1 (0 : Int32) (vs p0 p1 p2 p3 p4) (ve p0 p1 p2 p3 p4) (vb p0 p1 p2 p3 p4) (vF p0 p1 p2 p3 p4 g100_86 F6_86)) + (f1 (1 : Int32) (vs p0 p1 p2 p3 p4) (ve p0 p1 p2 p3 p4) (vb p0 p1 p2 p3 p4) (vF p0 p1 p2 p3 p4 g100_86 F6_86))) + (f1 (2 : Int32) (vs p0 p1 p2 p3 p4) (ve p0 p1 p2 p3 p4) (vb p0 p1 p2 p3 p4) (vF p0 p1 p2 p3 p4 g100_86 F6_86))) + (f1 (3 : Int32) (vs p0 p1 p2 p3 p4) (ve p0 p1 p2 p3 p4) (vb p0 p1 p2 p3 p4) (vF p0 p1 p2 p3 p4 g100_86 F6_86)))), .val (.ref b6)] [(.int (vb p0 p1 p2 p3 p4)), (.int (2 : Int32)), (.ref b6), (.ref r6_86)])) ?_ (fun t q => XS.iload X8.here hx rfl (hb hby at_253) rfl q)
              refine own_st (T' := T8) (f' := (mkF m 257 #[.val (.int p0), .val (.int p1), .val (.int p2), .val (.int p3), .val (.int p4), .val (.int (vb p0 p1 p2 p3 p4)), .val (.ref r6_86), .val (.int (vs p0 p1 p2 p3 p4)), .val (.int (ve p0 p1 p2 p3 p4)), .val (.int ((((f1 (0 : Int32) (vs p0 p1 p2 p3 p4) (ve p0 p1 p2 p3 p4) (vb p0 p1 p2 p3 p4) (vF p0 p1 p2 p3 p4 g100_86 F6_86)) + (f1 (1 : Int32) (vs p0 p1 p2 p3 p4) (ve p0 p1 p2 p3 p4) (vb p0 p1 p2 p3 p4) (vF p0 p1 p2 p3 p4 g100_86 F6_86))) + (f1 (2 : Int32) (vs p0 p1 p2 p3 p4) (ve p0 p1 p2 p3 p4) (vb p0 p1 p2 p3 p4) (vF p0 p1 p2 p3 p4 g100_86 F6_86))) + (f1 (3 : Int32) (vs p0 p1 p2 p3 p4) (ve p0 p1 p2 p3 p4) (vb p0 p1 p2 p3 p4) (vF p0 p1 p2 p3 p4 g100_86 F6_86)))), .val (.ref b6)] [(.int (vs p0 p1 p2 p3 p4)), (.int (vb p0 p1 p2 p3 p4)), (.int (2 : Int32)), (.ref b6), (.ref r6_86)])) ?_ (fun t q => XS.iload X8.here hx rfl (hb hby at_255) rfl q)
              refine own_st (T' := T8) (f' := (mkF m 259 #[.val (.int p0), .val (.int p1), .val (.int p2), .val (.int p3), .val (.int p4), .val (.int (vb p0 p1 p2 p3 p4)), .val (.ref r6_86), .val (.int (vs p0 p1 p2 p3 p4)), .val (.int (ve p0 p1 p2 p3 p4)), .val (.int ((((f1 (0 : Int32) (vs p0 p1 p2 p3 p4) (ve p0 p1 p2 p3 p4) (vb p0 p1 p2 p3 p4) (vF p0 p1 p2 p3 p4 g100_86 F6_86)) + (f1 (1 : Int32) (vs p0 p1 p2 p3 p4) (ve p0 p1 p2 p3 p4) (vb p0 p1 p2 p3 p4) (vF p0 p1 p2 p3 p4 g100_86 F6_86))) + (f1 (2 : Int32) (vs p0 p1 p2 p3 p4) (ve p0 p1 p2 p3 p4) (vb p0 p1 p2 p3 p4) (vF p0 p1 p2 p3 p4 g100_86 F6_86))) + (f1 (3 : Int32) (vs p0 p1 p2 p3 p4) (ve p0 p1 p2 p3 p4) (vb p0 p1 p2 p3 p4) (vF p0 p1 p2 p3 p4 g100_86 F6_86)))), .val (.ref b6)] [(.int (ve p0 p1 p2 p3 p4)), (.int (vs p0 p1 p2 p3 p4)), (.int (vb p0 p1 p2 p3 p4)), (.int (2 : Int32)), (.ref b6), (.ref r6_86)])) ?_ (fun t q => XS.iload X8.here hx rfl (hb hby at_257) rfl q)
              obtain ⟨_, _, ⟨T9, L9, k9, n9⟩, -, X9, ⟨Lc9, hQ9, l9, y9, z9⟩, st9⟩ := Jvm.LawKit.callS X8 hx (y := (⟨"com/example/cuvette/cuvette/hl7/Er7SplitPinLaw", "piece", "([B[IIBII)Z"⟩ : MethodName)) hown (mvT hZ (hw _ (List.mem_of_getElem? (i := 11) rfl))) (mvT hZ (hw _ (List.mem_of_getElem? (i := 12) rfl))) (mvT hZ (hw _ (List.mem_of_getElem? (i := 4) rfl))) (mvT hZ (hw _ (List.mem_of_getElem? (i := 13) rfl))) (by decide) (backOf (W := 0) (rm3 l Z a0 hw [] r6_86 b6 (2 : Int32) (vb p0 p1 p2 p3 p4) (vs p0 p1 p2 p3 p4) (ve p0 p1 p2 p3 p4) 4 (vF p0 p1 p2 p3 p4 g100_86 F6_86) (f2 (vs p0 p1 p2 p3 p4) (ve p0 p1 p2 p3 p4) (vb p0 p1 p2 p3 p4) (vF p0 p1 p2 p3 p4 g100_86 F6_86)).1 (f2 (vs p0 p1 p2 p3 p4) (ve p0 p1 p2 p3 p4) (vb p0 p1 p2 p3 p4) (vF p0 p1 p2 p3 p4 g100_86 F6_86)).2 T8.heap n0 A8_r6_86 A8_b6 (by decide) (by decide) hN6.2 (own_p1 p0 p1 p2 p3 p4) (own_p2 p0 p1 p2 p3 p4) rfl) hZ (hw _ (List.mem_of_getElem? (i := 13) rfl)) (hw _ (List.mem_of_getElem? (i := 4) rfl)) (by decide) (by decide)) (g := (mkF m 259 #[.val (.int p0), .val (.int p1), .val (.int p2), .val (.int p3), .val (.int p4), .val (.int (vb p0 p1 p2 p3 p4)), .val (.ref r6_86), .val (.int (vs p0 p1 p2 p3 p4)), .val (.int (ve p0 p1 p2 p3 p4)), .val (.int ((((f1 (0 : Int32) (vs p0 p1 p2 p3 p4) (ve p0 p1 p2 p3 p4) (vb p0 p1 p2 p3 p4) (vF p0 p1 p2 p3 p4 g100_86 F6_86)) + (f1 (1 : Int32) (vs p0 p1 p2 p3 p4) (ve p0 p1 p2 p3 p4) (vb p0 p1 p2 p3 p4) (vF p0 p1 p2 p3 p4 g100_86 F6_86))) + (f1 (2 : Int32) (vs p0 p1 p2 p3 p4) (ve p0 p1 p2 p3 p4) (vb p0 p1 p2 p3 p4) (vF p0 p1 p2 p3 p4 g100_86 F6_86))) + (f1 (3 : Int32) (vs p0 p1 p2 p3 p4) (ve p0 p1 p2 p3 p4) (vb p0 p1 p2 p3 p4) (vF p0 p1 p2 p3 p4 g100_86 F6_86)))), .val (.ref b6)] [(.int (ve p0 p1 p2 p3 p4)), (.int (vs p0 p1 p2 p3 p4)), (.int (vb p0 p1 p2 p3 p4)), (.int (2 : Int32)), (.ref b6), (.ref r6_86)])) rfl (by rw [hml]; rfl) (argsL := [(.ref r6_86), (.ref b6), (.int (2 : Int32)), (.int (vb p0 p1 p2 p3 p4)), (.int (vs p0 p1 p2 p3 p4)), (.int (ve p0 p1 p2 p3 p4))]) (rest := []) (lenOf pd_3 rfl) rfl (by show 2 * 0 + _ ≤ _; exact Nat.le_of_eq rfl) (hb hby at_259) (fun _ _ => ⟨rfl, rfl, (Nat.le_of_ble_eq_true rfl), (Nat.le_of_ble_eq_true rfl)⟩)
              dsimp only [Pt.U, Pt.locs, Pt.cells, Pt.slots] at X9 l9 y9 z9 st9 hQ9
              subst l9 y9 z9
              obtain ⟨rfl, N9q, e9⟩ := hQ9
              have N9 := Fr.app N8 N9q
              have zs9 : n0 ≤ T9.heap.size := by rw [e9]; exact zs8
              have A9_r6_86 := own_A.eq A8_r6_86 e9
              have A9_b6 := own_A.eq A8_b6 e9
              refine own_st (T' := T9) (f' := (mkF m 262 #[.val (.int p0), .val (.int p1), .val (.int p2), .val (.int p3), .val (.int p4), .val (.int (vb p0 p1 p2 p3 p4)), .val (.ref r6_86), .val (.int (vs p0 p1 p2 p3 p4)), .val (.int (ve p0 p1 p2 p3 p4)), .val (.int ((((f1 (0 : Int32) (vs p0 p1 p2 p3 p4) (ve p0 p1 p2 p3 p4) (vb p0 p1 p2 p3 p4) (vF p0 p1 p2 p3 p4 g100_86 F6_86)) + (f1 (1 : Int32) (vs p0 p1 p2 p3 p4) (ve p0 p1 p2 p3 p4) (vb p0 p1 p2 p3 p4) (vF p0 p1 p2 p3 p4 g100_86 F6_86))) + (f1 (2 : Int32) (vs p0 p1 p2 p3 p4) (ve p0 p1 p2 p3 p4) (vb p0 p1 p2 p3 p4) (vF p0 p1 p2 p3 p4 g100_86 F6_86))) + (f1 (3 : Int32) (vs p0 p1 p2 p3 p4) (ve p0 p1 p2 p3 p4) (vb p0 p1 p2 p3 p4) (vF p0 p1 p2 p3 p4 g100_86 F6_86)))), .val (.ref b6)] [(.int (f3 (2 : Int32) (vb p0 p1 p2 p3 p4) (vs p0 p1 p2 p3 p4) (ve p0 p1 p2 p3 p4) 4 (vF p0 p1 p2 p3 p4 g100_86 F6_86) (f2 (vs p0 p1 p2 p3 p4) (ve p0 p1 p2 p3 p4) (vb p0 p1 p2 p3 p4) (vF p0 p1 p2 p3 p4 g100_86 F6_86)).1 (f2 (vs p0 p1 p2 p3 p4) (ve p0 p1 p2 p3 p4) (vb p0 p1 p2 p3 p4) (vF p0 p1 p2 p3 p4 g100_86 F6_86)).2))])) ?_ (fun t q => st9 _ q)
              refine own_ite (fun hc262 => ?_) (fun hc262 => ?_)
              · refine own_st (T' := T9) (f' := (mkF m 303 #[.val (.int p0), .val (.int p1), .val (.int p2), .val (.int p3), .val (.int p4), .val (.int (vb p0 p1 p2 p3 p4)), .val (.ref r6_86), .val (.int (vs p0 p1 p2 p3 p4)), .val (.int (ve p0 p1 p2 p3 p4)), .val (.int ((((f1 (0 : Int32) (vs p0 p1 p2 p3 p4) (ve p0 p1 p2 p3 p4) (vb p0 p1 p2 p3 p4) (vF p0 p1 p2 p3 p4 g100_86 F6_86)) + (f1 (1 : Int32) (vs p0 p1 p2 p3 p4) (ve p0 p1 p2 p3 p4) (vb p0 p1 p2 p3 p4) (vF p0 p1 p2 p3 p4 g100_86 F6_86))) + (f1 (2 : Int32) (vs p0 p1 p2 p3 p4) (ve p0 p1 p2 p3 p4) (vb p0 p1 p2 p3 p4) (vF p0 p1 p2 p3 p4 g100_86 F6_86))) + (f1 (3 : Int32) (vs p0 p1 p2 p3 p4) (ve p0 p1 p2 p3 p4) (vb p0 p1 p2 p3 p4) (vF p0 p1 p2 p3 p4 g100_86 F6_86)))), .val (.ref b6)] [])) ?_ (fun t q => XS.ifYes X9.here hx rfl (pc0 := 262) (pc' := 303) rfl (hb hby at_262) rfl ((if0 _ _).trans (teq hc262).1) (by decide) (by decide) q)
                refine own_st (T' := T9) (f' := (mkF m 304 #[.val (.int p0), .val (.int p1), .val (.int p2), .val (.int p3), .val (.int p4), .val (.int (vb p0 p1 p2 p3 p4)), .val (.ref r6_86), .val (.int (vs p0 p1 p2 p3 p4)), .val (.int (ve p0 p1 p2 p3 p4)), .val (.int ((((f1 (0 : Int32) (vs p0 p1 p2 p3 p4) (ve p0 p1 p2 p3 p4) (vb p0 p1 p2 p3 p4) (vF p0 p1 p2 p3 p4 g100_86 F6_86)) + (f1 (1 : Int32) (vs p0 p1 p2 p3 p4) (ve p0 p1 p2 p3 p4) (vb p0 p1 p2 p3 p4) (vF p0 p1 p2 p3 p4 g100_86 F6_86))) + (f1 (2 : Int32) (vs p0 p1 p2 p3 p4) (ve p0 p1 p2 p3 p4) (vb p0 p1 p2 p3 p4) (vF p0 p1 p2 p3 p4 g100_86 F6_86))) + (f1 (3 : Int32) (vs p0 p1 p2 p3 p4) (ve p0 p1 p2 p3 p4) (vb p0 p1 p2 p3 p4) (vF p0 p1 p2 p3 p4 g100_86 F6_86)))), .val (.ref b6)] [(.int (0 : Int32))])) ?_ (fun t q => XS.iconst X9.here hx rfl (hb hby at_303) q)
                exact own_retN X9 hx hlk (t := .boolean) Bd.returns (by simp) (hb hby at_304) (by decide) (by decide) ⟨rfl, N9, trivial⟩
              · refine own_st (T' := T9) (f' := (mkF m 265 #[.val (.int p0), .val (.int p1), .val (.int p2), .val (.int p3), .val (.int p4), .val (.int (vb p0 p1 p2 p3 p4)), .val (.ref r6_86), .val (.int (vs p0 p1 p2 p3 p4)), .val (.int (ve p0 p1 p2 p3 p4)), .val (.int ((((f1 (0 : Int32) (vs p0 p1 p2 p3 p4) (ve p0 p1 p2 p3 p4) (vb p0 p1 p2 p3 p4) (vF p0 p1 p2 p3 p4 g100_86 F6_86)) + (f1 (1 : Int32) (vs p0 p1 p2 p3 p4) (ve p0 p1 p2 p3 p4) (vb p0 p1 p2 p3 p4) (vF p0 p1 p2 p3 p4 g100_86 F6_86))) + (f1 (2 : Int32) (vs p0 p1 p2 p3 p4) (ve p0 p1 p2 p3 p4) (vb p0 p1 p2 p3 p4) (vF p0 p1 p2 p3 p4 g100_86 F6_86))) + (f1 (3 : Int32) (vs p0 p1 p2 p3 p4) (ve p0 p1 p2 p3 p4) (vb p0 p1 p2 p3 p4) (vF p0 p1 p2 p3 p4 g100_86 F6_86)))), .val (.ref b6)] [])) ?_ (fun t q => XS.ifNo X9.here hx rfl (hb hby at_262) rfl ((if0 _ _).trans (feq hc262).1) q)
                refine own_st (T' := T9) (f' := (mkF m 267 #[.val (.int p0), .val (.int p1), .val (.int p2), .val (.int p3), .val (.int p4), .val (.int (vb p0 p1 p2 p3 p4)), .val (.ref r6_86), .val (.int (vs p0 p1 p2 p3 p4)), .val (.int (ve p0 p1 p2 p3 p4)), .val (.int ((((f1 (0 : Int32) (vs p0 p1 p2 p3 p4) (ve p0 p1 p2 p3 p4) (vb p0 p1 p2 p3 p4) (vF p0 p1 p2 p3 p4 g100_86 F6_86)) + (f1 (1 : Int32) (vs p0 p1 p2 p3 p4) (ve p0 p1 p2 p3 p4) (vb p0 p1 p2 p3 p4) (vF p0 p1 p2 p3 p4 g100_86 F6_86))) + (f1 (2 : Int32) (vs p0 p1 p2 p3 p4) (ve p0 p1 p2 p3 p4) (vb p0 p1 p2 p3 p4) (vF p0 p1 p2 p3 p4 g100_86 F6_86))) + (f1 (3 : Int32) (vs p0 p1 p2 p3 p4) (ve p0 p1 p2 p3 p4) (vb p0 p1 p2 p3 p4) (vF p0 p1 p2 p3 p4 g100_86 F6_86)))), .val (.ref b6)] [(.ref r6_86)])) ?_ (fun t q => XS.aload X9.here hx rfl (hb hby at_265) rfl rfl q)
                refine own_st (T' := T9) (f' := (mkF m 269 #[.val (.int p0), .val (.int p1), .val (.int p2), .val (.int p3), .val (.int p4), .val (.int (vb p0 p1 p2 p3 p4)), .val (.ref r6_86), .val (.int (vs p0 p1 p2 p3 p4)), .val (.int (ve p0 p1 p2 p3 p4)), .val (.int ((((f1 (0 : Int32) (vs p0 p1 p2 p3 p4) (ve p0 p1 p2 p3 p4) (vb p0 p1 p2 p3 p4) (vF p0 p1 p2 p3 p4 g100_86 F6_86)) + (f1 (1 : Int32) (vs p0 p1 p2 p3 p4) (ve p0 p1 p2 p3 p4) (vb p0 p1 p2 p3 p4) (vF p0 p1 p2 p3 p4 g100_86 F6_86))) + (f1 (2 : Int32) (vs p0 p1 p2 p3 p4) (ve p0 p1 p2 p3 p4) (vb p0 p1 p2 p3 p4) (vF p0 p1 p2 p3 p4 g100_86 F6_86))) + (f1 (3 : Int32) (vs p0 p1 p2 p3 p4) (ve p0 p1 p2 p3 p4) (vb p0 p1 p2 p3 p4) (vF p0 p1 p2 p3 p4 g100_86 F6_86)))), .val (.ref b6)] [(.ref b6), (.ref r6_86)])) ?_ (fun t q => XS.aload X9.here hx rfl (hb hby at_267) rfl rfl q)
                refine own_st (T' := T9) (f' := (mkF m 270 #[.val (.int p0), .val (.int p1), .val (.int p2), .val (.int p3), .val (.int p4), .val (.int (vb p0 p1 p2 p3 p4)), .val (.ref r6_86), .val (.int (vs p0 p1 p2 p3 p4)), .val (.int (ve p0 p1 p2 p3 p4)), .val (.int ((((f1 (0 : Int32) (vs p0 p1 p2 p3 p4) (ve p0 p1 p2 p3 p4) (vb p0 p1 p2 p3 p4) (vF p0 p1 p2 p3 p4 g100_86 F6_86)) + (f1 (1 : Int32) (vs p0 p1 p2 p3 p4) (ve p0 p1 p2 p3 p4) (vb p0 p1 p2 p3 p4) (vF p0 p1 p2 p3 p4 g100_86 F6_86))) + (f1 (2 : Int32) (vs p0 p1 p2 p3 p4) (ve p0 p1 p2 p3 p4) (vb p0 p1 p2 p3 p4) (vF p0 p1 p2 p3 p4 g100_86 F6_86))) + (f1 (3 : Int32) (vs p0 p1 p2 p3 p4) (ve p0 p1 p2 p3 p4) (vb p0 p1 p2 p3 p4) (vF p0 p1 p2 p3 p4 g100_86 F6_86)))), .val (.ref b6)] [(.int (3 : Int32)), (.ref b6), (.ref r6_86)])) ?_ (fun t q => XS.iconst X9.here hx rfl (hb hby at_269) q)
                refine own_st (T' := T9) (f' := (mkF m 272 #[.val (.int p0), .val (.int p1), .val (.int p2), .val (.int p3), .val (.int p4), .val (.int (vb p0 p1 p2 p3 p4)), .val (.ref r6_86), .val (.int (vs p0 p1 p2 p3 p4)), .val (.int (ve p0 p1 p2 p3 p4)), .val (.int ((((f1 (0 : Int32) (vs p0 p1 p2 p3 p4) (ve p0 p1 p2 p3 p4) (vb p0 p1 p2 p3 p4) (vF p0 p1 p2 p3 p4 g100_86 F6_86)) + (f1 (1 : Int32) (vs p0 p1 p2 p3 p4) (ve p0 p1 p2 p3 p4) (vb p0 p1 p2 p3 p4) (vF p0 p1 p2 p3 p4 g100_86 F6_86))) + (f1 (2 : Int32) (vs p0 p1 p2 p3 p4) (ve p0 p1 p2 p3 p4) (vb p0 p1 p2 p3 p4) (vF p0 p1 p2 p3 p4 g100_86 F6_86))) + (f1 (3 : Int32) (vs p0 p1 p2 p3 p4) (ve p0 p1 p2 p3 p4) (vb p0 p1 p2 p3 p4) (vF p0 p1 p2 p3 p4 g100_86 F6_86)))), .val (.ref b6)] [(.int (vb p0 p1 p2 p3 p4)), (.int (3 : Int32)), (.ref b6), (.ref r6_86)])) ?_ (fun t q => XS.iload X9.here hx rfl (hb hby at_270) rfl q)
                refine own_st (T' := T9) (f' := (mkF m 274 #[.val (.int p0), .val (.int p1), .val (.int p2), .val (.int p3), .val (.int p4), .val (.int (vb p0 p1 p2 p3 p4)), .val (.ref r6_86), .val (.int (vs p0 p1 p2 p3 p4)), .val (.int (ve p0 p1 p2 p3 p4)), .val (.int ((((f1 (0 : Int32) (vs p0 p1 p2 p3 p4) (ve p0 p1 p2 p3 p4) (vb p0 p1 p2 p3 p4) (vF p0 p1 p2 p3 p4 g100_86 F6_86)) + (f1 (1 : Int32) (vs p0 p1 p2 p3 p4) (ve p0 p1 p2 p3 p4) (vb p0 p1 p2 p3 p4) (vF p0 p1 p2 p3 p4 g100_86 F6_86))) + (f1 (2 : Int32) (vs p0 p1 p2 p3 p4) (ve p0 p1 p2 p3 p4) (vb p0 p1 p2 p3 p4) (vF p0 p1 p2 p3 p4 g100_86 F6_86))) + (f1 (3 : Int32) (vs p0 p1 p2 p3 p4) (ve p0 p1 p2 p3 p4) (vb p0 p1 p2 p3 p4) (vF p0 p1 p2 p3 p4 g100_86 F6_86)))), .val (.ref b6)] [(.int (vs p0 p1 p2 p3 p4)), (.int (vb p0 p1 p2 p3 p4)), (.int (3 : Int32)), (.ref b6), (.ref r6_86)])) ?_ (fun t q => XS.iload X9.here hx rfl (hb hby at_272) rfl q)
                refine own_st (T' := T9) (f' := (mkF m 276 #[.val (.int p0), .val (.int p1), .val (.int p2), .val (.int p3), .val (.int p4), .val (.int (vb p0 p1 p2 p3 p4)), .val (.ref r6_86), .val (.int (vs p0 p1 p2 p3 p4)), .val (.int (ve p0 p1 p2 p3 p4)), .val (.int ((((f1 (0 : Int32) (vs p0 p1 p2 p3 p4) (ve p0 p1 p2 p3 p4) (vb p0 p1 p2 p3 p4) (vF p0 p1 p2 p3 p4 g100_86 F6_86)) + (f1 (1 : Int32) (vs p0 p1 p2 p3 p4) (ve p0 p1 p2 p3 p4) (vb p0 p1 p2 p3 p4) (vF p0 p1 p2 p3 p4 g100_86 F6_86))) + (f1 (2 : Int32) (vs p0 p1 p2 p3 p4) (ve p0 p1 p2 p3 p4) (vb p0 p1 p2 p3 p4) (vF p0 p1 p2 p3 p4 g100_86 F6_86))) + (f1 (3 : Int32) (vs p0 p1 p2 p3 p4) (ve p0 p1 p2 p3 p4) (vb p0 p1 p2 p3 p4) (vF p0 p1 p2 p3 p4 g100_86 F6_86)))), .val (.ref b6)] [(.int (ve p0 p1 p2 p3 p4)), (.int (vs p0 p1 p2 p3 p4)), (.int (vb p0 p1 p2 p3 p4)), (.int (3 : Int32)), (.ref b6), (.ref r6_86)])) ?_ (fun t q => XS.iload X9.here hx rfl (hb hby at_274) rfl q)
                obtain ⟨_, _, ⟨T10, L10, k10, n10⟩, -, X10, ⟨Lc10, hQ10, l10, y10, z10⟩, st10⟩ := Jvm.LawKit.callS X9 hx (y := (⟨"com/example/cuvette/cuvette/hl7/Er7SplitPinLaw", "piece", "([B[IIBII)Z"⟩ : MethodName)) hown (mvT hZ (hw _ (List.mem_of_getElem? (i := 11) rfl))) (mvT hZ (hw _ (List.mem_of_getElem? (i := 12) rfl))) (mvT hZ (hw _ (List.mem_of_getElem? (i := 4) rfl))) (mvT hZ (hw _ (List.mem_of_getElem? (i := 13) rfl))) (by decide) (backOf (W := 0) (rm3 l Z a0 hw [] r6_86 b6 (3 : Int32) (vb p0 p1 p2 p3 p4) (vs p0 p1 p2 p3 p4) (ve p0 p1 p2 p3 p4) 4 (vF p0 p1 p2 p3 p4 g100_86 F6_86) (f2 (vs p0 p1 p2 p3 p4) (ve p0 p1 p2 p3 p4) (vb p0 p1 p2 p3 p4) (vF p0 p1 p2 p3 p4 g100_86 F6_86)).1 (f2 (vs p0 p1 p2 p3 p4) (ve p0 p1 p2 p3 p4) (vb p0 p1 p2 p3 p4) (vF p0 p1 p2 p3 p4 g100_86 F6_86)).2 T9.heap n0 A9_r6_86 A9_b6 (by decide) (by decide) hN6.2 (own_p1 p0 p1 p2 p3 p4) (own_p2 p0 p1 p2 p3 p4) rfl) hZ (hw _ (List.mem_of_getElem? (i := 13) rfl)) (hw _ (List.mem_of_getElem? (i := 4) rfl)) (by decide) (by decide)) (g := (mkF m 276 #[.val (.int p0), .val (.int p1), .val (.int p2), .val (.int p3), .val (.int p4), .val (.int (vb p0 p1 p2 p3 p4)), .val (.ref r6_86), .val (.int (vs p0 p1 p2 p3 p4)), .val (.int (ve p0 p1 p2 p3 p4)), .val (.int ((((f1 (0 : Int32) (vs p0 p1 p2 p3 p4) (ve p0 p1 p2 p3 p4) (vb p0 p1 p2 p3 p4) (vF p0 p1 p2 p3 p4 g100_86 F6_86)) + (f1 (1 : Int32) (vs p0 p1 p2 p3 p4) (ve p0 p1 p2 p3 p4) (vb p0 p1 p2 p3 p4) (vF p0 p1 p2 p3 p4 g100_86 F6_86))) + (f1 (2 : Int32) (vs p0 p1 p2 p3 p4) (ve p0 p1 p2 p3 p4) (vb p0 p1 p2 p3 p4) (vF p0 p1 p2 p3 p4 g100_86 F6_86))) + (f1 (3 : Int32) (vs p0 p1 p2 p3 p4) (ve p0 p1 p2 p3 p4) (vb p0 p1 p2 p3 p4) (vF p0 p1 p2 p3 p4 g100_86 F6_86)))), .val (.ref b6)] [(.int (ve p0 p1 p2 p3 p4)), (.int (vs p0 p1 p2 p3 p4)), (.int (vb p0 p1 p2 p3 p4)), (.int (3 : Int32)), (.ref b6), (.ref r6_86)])) rfl (by rw [hml]; rfl) (argsL := [(.ref r6_86), (.ref b6), (.int (3 : Int32)), (.int (vb p0 p1 p2 p3 p4)), (.int (vs p0 p1 p2 p3 p4)), (.int (ve p0 p1 p2 p3 p4))]) (rest := []) (lenOf pd_3 rfl) rfl (by show 2 * 0 + _ ≤ _; exact Nat.le_of_eq rfl) (hb hby at_276) (fun _ _ => ⟨rfl, rfl, (Nat.le_of_ble_eq_true rfl), (Nat.le_of_ble_eq_true rfl)⟩)
                dsimp only [Pt.U, Pt.locs, Pt.cells, Pt.slots] at X10 l10 y10 z10 st10 hQ10
                subst l10 y10 z10
                obtain ⟨rfl, N10q, e10⟩ := hQ10
                have N10 := Fr.app N9 N10q
                have zs10 : n0 ≤ T10.heap.size := by rw [e10]; exact zs9
                have A10_r6_86 := own_A.eq A9_r6_86 e10
                have A10_b6 := own_A.eq A9_b6 e10
                refine own_st (T' := T10) (f' := (mkF m 279 #[.val (.int p0), .val (.int p1), .val (.int p2), .val (.int p3), .val (.int p4), .val (.int (vb p0 p1 p2 p3 p4)), .val (.ref r6_86), .val (.int (vs p0 p1 p2 p3 p4)), .val (.int (ve p0 p1 p2 p3 p4)), .val (.int ((((f1 (0 : Int32) (vs p0 p1 p2 p3 p4) (ve p0 p1 p2 p3 p4) (vb p0 p1 p2 p3 p4) (vF p0 p1 p2 p3 p4 g100_86 F6_86)) + (f1 (1 : Int32) (vs p0 p1 p2 p3 p4) (ve p0 p1 p2 p3 p4) (vb p0 p1 p2 p3 p4) (vF p0 p1 p2 p3 p4 g100_86 F6_86))) + (f1 (2 : Int32) (vs p0 p1 p2 p3 p4) (ve p0 p1 p2 p3 p4) (vb p0 p1 p2 p3 p4) (vF p0 p1 p2 p3 p4 g100_86 F6_86))) + (f1 (3 : Int32) (vs p0 p1 p2 p3 p4) (ve p0 p1 p2 p3 p4) (vb p0 p1 p2 p3 p4) (vF p0 p1 p2 p3 p4 g100_86 F6_86)))), .val (.ref b6)] [(.int (f3 (3 : Int32) (vb p0 p1 p2 p3 p4) (vs p0 p1 p2 p3 p4) (ve p0 p1 p2 p3 p4) 4 (vF p0 p1 p2 p3 p4 g100_86 F6_86) (f2 (vs p0 p1 p2 p3 p4) (ve p0 p1 p2 p3 p4) (vb p0 p1 p2 p3 p4) (vF p0 p1 p2 p3 p4 g100_86 F6_86)).1 (f2 (vs p0 p1 p2 p3 p4) (ve p0 p1 p2 p3 p4) (vb p0 p1 p2 p3 p4) (vF p0 p1 p2 p3 p4 g100_86 F6_86)).2))])) ?_ (fun t q => st10 _ q)
                refine own_ite (fun hc279 => ?_) (fun hc279 => ?_)
                · refine own_st (T' := T10) (f' := (mkF m 303 #[.val (.int p0), .val (.int p1), .val (.int p2), .val (.int p3), .val (.int p4), .val (.int (vb p0 p1 p2 p3 p4)), .val (.ref r6_86), .val (.int (vs p0 p1 p2 p3 p4)), .val (.int (ve p0 p1 p2 p3 p4)), .val (.int ((((f1 (0 : Int32) (vs p0 p1 p2 p3 p4) (ve p0 p1 p2 p3 p4) (vb p0 p1 p2 p3 p4) (vF p0 p1 p2 p3 p4 g100_86 F6_86)) + (f1 (1 : Int32) (vs p0 p1 p2 p3 p4) (ve p0 p1 p2 p3 p4) (vb p0 p1 p2 p3 p4) (vF p0 p1 p2 p3 p4 g100_86 F6_86))) + (f1 (2 : Int32) (vs p0 p1 p2 p3 p4) (ve p0 p1 p2 p3 p4) (vb p0 p1 p2 p3 p4) (vF p0 p1 p2 p3 p4 g100_86 F6_86))) + (f1 (3 : Int32) (vs p0 p1 p2 p3 p4) (ve p0 p1 p2 p3 p4) (vb p0 p1 p2 p3 p4) (vF p0 p1 p2 p3 p4 g100_86 F6_86)))), .val (.ref b6)] [])) ?_ (fun t q => XS.ifYes X10.here hx rfl (pc0 := 279) (pc' := 303) rfl (hb hby at_279) rfl ((if0 _ _).trans (teq hc279).1) (by decide) (by decide) q)
                  refine own_st (T' := T10) (f' := (mkF m 304 #[.val (.int p0), .val (.int p1), .val (.int p2), .val (.int p3), .val (.int p4), .val (.int (vb p0 p1 p2 p3 p4)), .val (.ref r6_86), .val (.int (vs p0 p1 p2 p3 p4)), .val (.int (ve p0 p1 p2 p3 p4)), .val (.int ((((f1 (0 : Int32) (vs p0 p1 p2 p3 p4) (ve p0 p1 p2 p3 p4) (vb p0 p1 p2 p3 p4) (vF p0 p1 p2 p3 p4 g100_86 F6_86)) + (f1 (1 : Int32) (vs p0 p1 p2 p3 p4) (ve p0 p1 p2 p3 p4) (vb p0 p1 p2 p3 p4) (vF p0 p1 p2 p3 p4 g100_86 F6_86))) + (f1 (2 : Int32) (vs p0 p1 p2 p3 p4) (ve p0 p1 p2 p3 p4) (vb p0 p1 p2 p3 p4) (vF p0 p1 p2 p3 p4 g100_86 F6_86))) + (f1 (3 : Int32) (vs p0 p1 p2 p3 p4) (ve p0 p1 p2 p3 p4) (vb p0 p1 p2 p3 p4) (vF p0 p1 p2 p3 p4 g100_86 F6_86)))), .val (.ref b6)] [(.int (0 : Int32))])) ?_ (fun t q => XS.iconst X10.here hx rfl (hb hby at_303) q)
                  exact own_retN X10 hx hlk (t := .boolean) Bd.returns (by simp) (hb hby at_304) (by decide) (by decide) ⟨rfl, N10, trivial⟩
                · refine own_st (T' := T10) (f' := (mkF m 282 #[.val (.int p0), .val (.int p1), .val (.int p2), .val (.int p3), .val (.int p4), .val (.int (vb p0 p1 p2 p3 p4)), .val (.ref r6_86), .val (.int (vs p0 p1 p2 p3 p4)), .val (.int (ve p0 p1 p2 p3 p4)), .val (.int ((((f1 (0 : Int32) (vs p0 p1 p2 p3 p4) (ve p0 p1 p2 p3 p4) (vb p0 p1 p2 p3 p4) (vF p0 p1 p2 p3 p4 g100_86 F6_86)) + (f1 (1 : Int32) (vs p0 p1 p2 p3 p4) (ve p0 p1 p2 p3 p4) (vb p0 p1 p2 p3 p4) (vF p0 p1 p2 p3 p4 g100_86 F6_86))) + (f1 (2 : Int32) (vs p0 p1 p2 p3 p4) (ve p0 p1 p2 p3 p4) (vb p0 p1 p2 p3 p4) (vF p0 p1 p2 p3 p4 g100_86 F6_86))) + (f1 (3 : Int32) (vs p0 p1 p2 p3 p4) (ve p0 p1 p2 p3 p4) (vb p0 p1 p2 p3 p4) (vF p0 p1 p2 p3 p4 g100_86 F6_86)))), .val (.ref b6)] [])) ?_ (fun t q => XS.ifNo X10.here hx rfl (hb hby at_279) rfl ((if0 _ _).trans (feq hc279).1) q)
                  refine own_st (T' := T10) (f' := (mkF m 284 #[.val (.int p0), .val (.int p1), .val (.int p2), .val (.int p3), .val (.int p4), .val (.int (vb p0 p1 p2 p3 p4)), .val (.ref r6_86), .val (.int (vs p0 p1 p2 p3 p4)), .val (.int (ve p0 p1 p2 p3 p4)), .val (.int ((((f1 (0 : Int32) (vs p0 p1 p2 p3 p4) (ve p0 p1 p2 p3 p4) (vb p0 p1 p2 p3 p4) (vF p0 p1 p2 p3 p4 g100_86 F6_86)) + (f1 (1 : Int32) (vs p0 p1 p2 p3 p4) (ve p0 p1 p2 p3 p4) (vb p0 p1 p2 p3 p4) (vF p0 p1 p2 p3 p4 g100_86 F6_86))) + (f1 (2 : Int32) (vs p0 p1 p2 p3 p4) (ve p0 p1 p2 p3 p4) (vb p0 p1 p2 p3 p4) (vF p0 p1 p2 p3 p4 g100_86 F6_86))) + (f1 (3 : Int32) (vs p0 p1 p2 p3 p4) (ve p0 p1 p2 p3 p4) (vb p0 p1 p2 p3 p4) (vF p0 p1 p2 p3 p4 g100_86 F6_86)))), .val (.ref b6)] [(.ref r6_86)])) ?_ (fun t q => XS.aload X10.here hx rfl (hb hby at_282) rfl rfl q)
                  refine own_st (T' := T10) (f' := (mkF m 286 #[.val (.int p0), .val (.int p1), .val (.int p2), .val (.int p3), .val (.int p4), .val (.int (vb p0 p1 p2 p3 p4)), .val (.ref r6_86), .val (.int (vs p0 p1 p2 p3 p4)), .val (.int (ve p0 p1 p2 p3 p4)), .val (.int ((((f1 (0 : Int32) (vs p0 p1 p2 p3 p4) (ve p0 p1 p2 p3 p4) (vb p0 p1 p2 p3 p4) (vF p0 p1 p2 p3 p4 g100_86 F6_86)) + (f1 (1 : Int32) (vs p0 p1 p2 p3 p4) (ve p0 p1 p2 p3 p4) (vb p0 p1 p2 p3 p4) (vF p0 p1 p2 p3 p4 g100_86 F6_86))) + (f1 (2 : Int32) (vs p0 p1 p2 p3 p4) (ve p0 p1 p2 p3 p4) (vb p0 p1 p2 p3 p4) (vF p0 p1 p2 p3 p4 g100_86 F6_86))) + (f1 (3 : Int32) (vs p0 p1 p2 p3 p4) (ve p0 p1 p2 p3 p4) (vb p0 p1 p2 p3 p4) (vF p0 p1 p2 p3 p4 g100_86 F6_86)))), .val (.ref b6)] [(.ref b6), (.ref r6_86)])) ?_ (fun t q => XS.aload X10.here hx rfl (hb hby at_284) rfl rfl q)
                  refine own_st (T' := T10) (f' := (mkF m 287 #[.val (.int p0), .val (.int p1), .val (.int p2), .val (.int p3), .val (.int p4), .val (.int (vb p0 p1 p2 p3 p4)), .val (.ref r6_86), .val (.int (vs p0 p1 p2 p3 p4)), .val (.int (ve p0 p1 p2 p3 p4)), .val (.int ((((f1 (0 : Int32) (vs p0 p1 p2 p3 p4) (ve p0 p1 p2 p3 p4) (vb p0 p1 p2 p3 p4) (vF p0 p1 p2 p3 p4 g100_86 F6_86)) + (f1 (1 : Int32) (vs p0 p1 p2 p3 p4) (ve p0 p1 p2 p3 p4) (vb p0 p1 p2 p3 p4) (vF p0 p1 p2 p3 p4 g100_86 F6_86))) + (f1 (2 : Int32) (vs p0 p1 p2 p3 p4) (ve p0 p1 p2 p3 p4) (vb p0 p1 p2 p3 p4) (vF p0 p1 p2 p3 p4 g100_86 F6_86))) + (f1 (3 : Int32) (vs p0 p1 p2 p3 p4) (ve p0 p1 p2 p3 p4) (vb p0 p1 p2 p3 p4) (vF p0 p1 p2 p3 p4 g100_86 F6_86)))), .val (.ref b6)] [(.int (4 : Int32)), (.ref b6), (.ref r6_86)])) ?_ (fun t q => XS.iconst X10.here hx rfl (hb hby at_286) q)
                  refine own_st (T' := T10) (f' := (mkF m 289 #[.val (.int p0), .val (.int p1), .val (.int p2), .val (.int p3), .val (.int p4), .val (.int (vb p0 p1 p2 p3 p4)), .val (.ref r6_86), .val (.int (vs p0 p1 p2 p3 p4)), .val (.int (ve p0 p1 p2 p3 p4)), .val (.int ((((f1 (0 : Int32) (vs p0 p1 p2 p3 p4) (ve p0 p1 p2 p3 p4) (vb p0 p1 p2 p3 p4) (vF p0 p1 p2 p3 p4 g100_86 F6_86)) + (f1 (1 : Int32) (vs p0 p1 p2 p3 p4) (ve p0 p1 p2 p3 p4) (vb p0 p1 p2 p3 p4) (vF p0 p1 p2 p3 p4 g100_86 F6_86))) + (f1 (2 : Int32) (vs p0 p1 p2 p3 p4) (ve p0 p1 p2 p3 p4) (vb p0 p1 p2 p3 p4) (vF p0 p1 p2 p3 p4 g100_86 F6_86))) + (f1 (3 : Int32) (vs p0 p1 p2 p3 p4) (ve p0 p1 p2 p3 p4) (vb p0 p1 p2 p3 p4) (vF p0 p1 p2 p3 p4 g100_86 F6_86)))), .val (.ref b6)] [(.int (vb p0 p1 p2 p3 p4)), (.int (4 : Int32)), (.ref b6), (.ref r6_86)])) ?_ (fun t q => XS.iload X10.here hx rfl (hb hby at_287) rfl q)
                  refine own_st (T' := T10) (f' := (mkF m 291 #[.val (.int p0), .val (.int p1), .val (.int p2), .val (.int p3), .val (.int p4), .val (.int (vb p0 p1 p2 p3 p4)), .val (.ref r6_86), .val (.int (vs p0 p1 p2 p3 p4)), .val (.int (ve p0 p1 p2 p3 p4)), .val (.int ((((f1 (0 : Int32) (vs p0 p1 p2 p3 p4) (ve p0 p1 p2 p3 p4) (vb p0 p1 p2 p3 p4) (vF p0 p1 p2 p3 p4 g100_86 F6_86)) + (f1 (1 : Int32) (vs p0 p1 p2 p3 p4) (ve p0 p1 p2 p3 p4) (vb p0 p1 p2 p3 p4) (vF p0 p1 p2 p3 p4 g100_86 F6_86))) + (f1 (2 : Int32) (vs p0 p1 p2 p3 p4) (ve p0 p1 p2 p3 p4) (vb p0 p1 p2 p3 p4) (vF p0 p1 p2 p3 p4 g100_86 F6_86))) + (f1 (3 : Int32) (vs p0 p1 p2 p3 p4) (ve p0 p1 p2 p3 p4) (vb p0 p1 p2 p3 p4) (vF p0 p1 p2 p3 p4 g100_86 F6_86)))), .val (.ref b6)] [(.int (vs p0 p1 p2 p3 p4)), (.int (vb p0 p1 p2 p3 p4)), (.int (4 : Int32)), (.ref b6), (.ref r6_86)])) ?_ (fun t q => XS.iload X10.here hx rfl (hb hby at_289) rfl q)
                  refine own_st (T' := T10) (f' := (mkF m 293 #[.val (.int p0), .val (.int p1), .val (.int p2), .val (.int p3), .val (.int p4), .val (.int (vb p0 p1 p2 p3 p4)), .val (.ref r6_86), .val (.int (vs p0 p1 p2 p3 p4)), .val (.int (ve p0 p1 p2 p3 p4)), .val (.int ((((f1 (0 : Int32) (vs p0 p1 p2 p3 p4) (ve p0 p1 p2 p3 p4) (vb p0 p1 p2 p3 p4) (vF p0 p1 p2 p3 p4 g100_86 F6_86)) + (f1 (1 : Int32) (vs p0 p1 p2 p3 p4) (ve p0 p1 p2 p3 p4) (vb p0 p1 p2 p3 p4) (vF p0 p1 p2 p3 p4 g100_86 F6_86))) + (f1 (2 : Int32) (vs p0 p1 p2 p3 p4) (ve p0 p1 p2 p3 p4) (vb p0 p1 p2 p3 p4) (vF p0 p1 p2 p3 p4 g100_86 F6_86))) + (f1 (3 : Int32) (vs p0 p1 p2 p3 p4) (ve p0 p1 p2 p3 p4) (vb p0 p1 p2 p3 p4) (vF p0 p1 p2 p3 p4 g100_86 F6_86)))), .val (.ref b6)] [(.int (ve p0 p1 p2 p3 p4)), (.int (vs p0 p1 p2 p3 p4)), (.int (vb p0 p1 p2 p3 p4)), (.int (4 : Int32)), (.ref b6), (.ref r6_86)])) ?_ (fun t q => XS.iload X10.here hx rfl (hb hby at_291) rfl q)
                  obtain ⟨_, _, ⟨T11, L11, k11, n11⟩, -, X11, ⟨Lc11, hQ11, l11, y11, z11⟩, st11⟩ := Jvm.LawKit.callS X10 hx (y := (⟨"com/example/cuvette/cuvette/hl7/Er7SplitPinLaw", "piece", "([B[IIBII)Z"⟩ : MethodName)) hown (mvT hZ (hw _ (List.mem_of_getElem? (i := 11) rfl))) (mvT hZ (hw _ (List.mem_of_getElem? (i := 12) rfl))) (mvT hZ (hw _ (List.mem_of_getElem? (i := 4) rfl))) (mvT hZ (hw _ (List.mem_of_getElem? (i := 13) rfl))) (by decide) (backOf (W := 0) (rm3 l Z a0 hw [] r6_86 b6 (4 : Int32) (vb p0 p1 p2 p3 p4) (vs p0 p1 p2 p3 p4) (ve p0 p1 p2 p3 p4) 4 (vF p0 p1 p2 p3 p4 g100_86 F6_86) (f2 (vs p0 p1 p2 p3 p4) (ve p0 p1 p2 p3 p4) (vb p0 p1 p2 p3 p4) (vF p0 p1 p2 p3 p4 g100_86 F6_86)).1 (f2 (vs p0 p1 p2 p3 p4) (ve p0 p1 p2 p3 p4) (vb p0 p1 p2 p3 p4) (vF p0 p1 p2 p3 p4 g100_86 F6_86)).2 T10.heap n0 A10_r6_86 A10_b6 (by decide) (by decide) hN6.2 (own_p1 p0 p1 p2 p3 p4) (own_p2 p0 p1 p2 p3 p4) rfl) hZ (hw _ (List.mem_of_getElem? (i := 13) rfl)) (hw _ (List.mem_of_getElem? (i := 4) rfl)) (by decide) (by decide)) (g := (mkF m 293 #[.val (.int p0), .val (.int p1), .val (.int p2), .val (.int p3), .val (.int p4), .val (.int (vb p0 p1 p2 p3 p4)), .val (.ref r6_86), .val (.int (vs p0 p1 p2 p3 p4)), .val (.int (ve p0 p1 p2 p3 p4)), .val (.int ((((f1 (0 : Int32) (vs p0 p1 p2 p3 p4) (ve p0 p1 p2 p3 p4) (vb p0 p1 p2 p3 p4) (vF p0 p1 p2 p3 p4 g100_86 F6_86)) + (f1 (1 : Int32) (vs p0 p1 p2 p3 p4) (ve p0 p1 p2 p3 p4) (vb p0 p1 p2 p3 p4) (vF p0 p1 p2 p3 p4 g100_86 F6_86))) + (f1 (2 : Int32) (vs p0 p1 p2 p3 p4) (ve p0 p1 p2 p3 p4) (vb p0 p1 p2 p3 p4) (vF p0 p1 p2 p3 p4 g100_86 F6_86))) + (f1 (3 : Int32) (vs p0 p1 p2 p3 p4) (ve p0 p1 p2 p3 p4) (vb p0 p1 p2 p3 p4) (vF p0 p1 p2 p3 p4 g100_86 F6_86)))), .val (.ref b6)] [(.int (ve p0 p1 p2 p3 p4)), (.int (vs p0 p1 p2 p3 p4)), (.int (vb p0 p1 p2 p3 p4)), (.int (4 : Int32)), (.ref b6), (.ref r6_86)])) rfl (by rw [hml]; rfl) (argsL := [(.ref r6_86), (.ref b6), (.int (4 : Int32)), (.int (vb p0 p1 p2 p3 p4)), (.int (vs p0 p1 p2 p3 p4)), (.int (ve p0 p1 p2 p3 p4))]) (rest := []) (lenOf pd_3 rfl) rfl (by show 2 * 0 + _ ≤ _; exact Nat.le_of_eq rfl) (hb hby at_293) (fun _ _ => ⟨rfl, rfl, (Nat.le_of_ble_eq_true rfl), (Nat.le_of_ble_eq_true rfl)⟩)
                  dsimp only [Pt.U, Pt.locs, Pt.cells, Pt.slots] at X11 l11 y11 z11 st11 hQ11
                  subst l11 y11 z11
                  obtain ⟨rfl, N11q, e11⟩ := hQ11
                  have N11 := Fr.app N10 N11q
                  have zs11 : n0 ≤ T11.heap.size := by rw [e11]; exact zs10
                  have A11_r6_86 := own_A.eq A10_r6_86 e11
                  have A11_b6 := own_A.eq A10_b6 e11
                  refine own_st (T' := T11) (f' := (mkF m 296 #[.val (.int p0), .val (.int p1), .val (.int p2), .val (.int p3), .val (.int p4), .val (.int (vb p0 p1 p2 p3 p4)), .val (.ref r6_86), .val (.int (vs p0 p1 p2 p3 p4)), .val (.int (ve p0 p1 p2 p3 p4)), .val (.int ((((f1 (0 : Int32) (vs p0 p1 p2 p3 p4) (ve p0 p1 p2 p3 p4) (vb p0 p1 p2 p3 p4) (vF p0 p1 p2 p3 p4 g100_86 F6_86)) + (f1 (1 : Int32) (vs p0 p1 p2 p3 p4) (ve p0 p1 p2 p3 p4) (vb p0 p1 p2 p3 p4) (vF p0 p1 p2 p3 p4 g100_86 F6_86))) + (f1 (2 : Int32) (vs p0 p1 p2 p3 p4) (ve p0 p1 p2 p3 p4) (vb p0 p1 p2 p3 p4) (vF p0 p1 p2 p3 p4 g100_86 F6_86))) + (f1 (3 : Int32) (vs p0 p1 p2 p3 p4) (ve p0 p1 p2 p3 p4) (vb p0 p1 p2 p3 p4) (vF p0 p1 p2 p3 p4 g100_86 F6_86)))), .val (.ref b6)] [(.int (f3 (4 : Int32) (vb p0 p1 p2 p3 p4) (vs p0 p1 p2 p3 p4) (ve p0 p1 p2 p3 p4) 4 (vF p0 p1 p2 p3 p4 g100_86 F6_86) (f2 (vs p0 p1 p2 p3 p4) (ve p0 p1 p2 p3 p4) (vb p0 p1 p2 p3 p4) (vF p0 p1 p2 p3 p4 g100_86 F6_86)).1 (f2 (vs p0 p1 p2 p3 p4) (ve p0 p1 p2 p3 p4) (vb p0 p1 p2 p3 p4) (vF p0 p1 p2 p3 p4 g100_86 F6_86)).2))])) ?_ (fun t q => st11 _ q)
                  refine own_ite (fun hc296 => ?_) (fun hc296 => ?_)
                  · refine own_st (T' := T11) (f' := (mkF m 303 #[.val (.int p0), .val (.int p1), .val (.int p2), .val (.int p3), .val (.int p4), .val (.int (vb p0 p1 p2 p3 p4)), .val (.ref r6_86), .val (.int (vs p0 p1 p2 p3 p4)), .val (.int (ve p0 p1 p2 p3 p4)), .val (.int ((((f1 (0 : Int32) (vs p0 p1 p2 p3 p4) (ve p0 p1 p2 p3 p4) (vb p0 p1 p2 p3 p4) (vF p0 p1 p2 p3 p4 g100_86 F6_86)) + (f1 (1 : Int32) (vs p0 p1 p2 p3 p4) (ve p0 p1 p2 p3 p4) (vb p0 p1 p2 p3 p4) (vF p0 p1 p2 p3 p4 g100_86 F6_86))) + (f1 (2 : Int32) (vs p0 p1 p2 p3 p4) (ve p0 p1 p2 p3 p4) (vb p0 p1 p2 p3 p4) (vF p0 p1 p2 p3 p4 g100_86 F6_86))) + (f1 (3 : Int32) (vs p0 p1 p2 p3 p4) (ve p0 p1 p2 p3 p4) (vb p0 p1 p2 p3 p4) (vF p0 p1 p2 p3 p4 g100_86 F6_86)))), .val (.ref b6)] [])) ?_ (fun t q => XS.ifYes X11.here hx rfl (pc0 := 296) (pc' := 303) rfl (hb hby at_296) rfl ((if0 _ _).trans (teq hc296).1) (by decide) (by decide) q)
                    refine own_st (T' := T11) (f' := (mkF m 304 #[.val (.int p0), .val (.int p1), .val (.int p2), .val (.int p3), .val (.int p4), .val (.int (vb p0 p1 p2 p3 p4)), .val (.ref r6_86), .val (.int (vs p0 p1 p2 p3 p4)), .val (.int (ve p0 p1 p2 p3 p4)), .val (.int ((((f1 (0 : Int32) (vs p0 p1 p2 p3 p4) (ve p0 p1 p2 p3 p4) (vb p0 p1 p2 p3 p4) (vF p0 p1 p2 p3 p4 g100_86 F6_86)) + (f1 (1 : Int32) (vs p0 p1 p2 p3 p4) (ve p0 p1 p2 p3 p4) (vb p0 p1 p2 p3 p4) (vF p0 p1 p2 p3 p4 g100_86 F6_86))) + (f1 (2 : Int32) (vs p0 p1 p2 p3 p4) (ve p0 p1 p2 p3 p4) (vb p0 p1 p2 p3 p4) (vF p0 p1 p2 p3 p4 g100_86 F6_86))) + (f1 (3 : Int32) (vs p0 p1 p2 p3 p4) (ve p0 p1 p2 p3 p4) (vb p0 p1 p2 p3 p4) (vF p0 p1 p2 p3 p4 g100_86 F6_86)))), .val (.ref b6)] [(.int (0 : Int32))])) ?_ (fun t q => XS.iconst X11.here hx rfl (hb hby at_303) q)
                    exact own_retN X11 hx hlk (t := .boolean) Bd.returns (by simp) (hb hby at_304) (by decide) (by decide) ⟨rfl, N11, trivial⟩
                  · refine own_st (T' := T11) (f' := (mkF m 299 #[.val (.int p0), .val (.int p1), .val (.int p2), .val (.int p3), .val (.int p4), .val (.int (vb p0 p1 p2 p3 p4)), .val (.ref r6_86), .val (.int (vs p0 p1 p2 p3 p4)), .val (.int (ve p0 p1 p2 p3 p4)), .val (.int ((((f1 (0 : Int32) (vs p0 p1 p2 p3 p4) (ve p0 p1 p2 p3 p4) (vb p0 p1 p2 p3 p4) (vF p0 p1 p2 p3 p4 g100_86 F6_86)) + (f1 (1 : Int32) (vs p0 p1 p2 p3 p4) (ve p0 p1 p2 p3 p4) (vb p0 p1 p2 p3 p4) (vF p0 p1 p2 p3 p4 g100_86 F6_86))) + (f1 (2 : Int32) (vs p0 p1 p2 p3 p4) (ve p0 p1 p2 p3 p4) (vb p0 p1 p2 p3 p4) (vF p0 p1 p2 p3 p4 g100_86 F6_86))) + (f1 (3 : Int32) (vs p0 p1 p2 p3 p4) (ve p0 p1 p2 p3 p4) (vb p0 p1 p2 p3 p4) (vF p0 p1 p2 p3 p4 g100_86 F6_86)))), .val (.ref b6)] [])) ?_ (fun t q => XS.ifNo X11.here hx rfl (hb hby at_296) rfl ((if0 _ _).trans (feq hc296).1) q)
                    refine own_st (T' := T11) (f' := (mkF m 300 #[.val (.int p0), .val (.int p1), .val (.int p2), .val (.int p3), .val (.int p4), .val (.int (vb p0 p1 p2 p3 p4)), .val (.ref r6_86), .val (.int (vs p0 p1 p2 p3 p4)), .val (.int (ve p0 p1 p2 p3 p4)), .val (.int ((((f1 (0 : Int32) (vs p0 p1 p2 p3 p4) (ve p0 p1 p2 p3 p4) (vb p0 p1 p2 p3 p4) (vF p0 p1 p2 p3 p4 g100_86 F6_86)) + (f1 (1 : Int32) (vs p0 p1 p2 p3 p4) (ve p0 p1 p2 p3 p4) (vb p0 p1 p2 p3 p4) (vF p0 p1 p2 p3 p4 g100_86 F6_86))) + (f1 (2 : Int32) (vs p0 p1 p2 p3 p4) (ve p0 p1 p2 p3 p4) (vb p0 p1 p2 p3 p4) (vF p0 p1 p2 p3 p4 g100_86 F6_86))) + (f1 (3 : Int32) (vs p0 p1 p2 p3 p4) (ve p0 p1 p2 p3 p4) (vb p0 p1 p2 p3 p4) (vF p0 p1 p2 p3 p4 g100_86 F6_86)))), .val (.ref b6)] [(.int (1 : Int32))])) ?_ (fun t q => XS.iconst X11.here hx rfl (hb hby at_299) q)
                    refine own_st (T' := T11) (f' := (mkF m 304 #[.val (.int p0), .val (.int p1), .val (.int p2), .val (.int p3), .val (.int p4), .val (.int (vb p0 p1 p2 p3 p4)), .val (.ref r6_86), .val (.int (vs p0 p1 p2 p3 p4)), .val (.int (ve p0 p1 p2 p3 p4)), .val (.int ((((f1 (0 : Int32) (vs p0 p1 p2 p3 p4) (ve p0 p1 p2 p3 p4) (vb p0 p1 p2 p3 p4) (vF p0 p1 p2 p3 p4 g100_86 F6_86)) + (f1 (1 : Int32) (vs p0 p1 p2 p3 p4) (ve p0 p1 p2 p3 p4) (vb p0 p1 p2 p3 p4) (vF p0 p1 p2 p3 p4 g100_86 F6_86))) + (f1 (2 : Int32) (vs p0 p1 p2 p3 p4) (ve p0 p1 p2 p3 p4) (vb p0 p1 p2 p3 p4) (vF p0 p1 p2 p3 p4 g100_86 F6_86))) + (f1 (3 : Int32) (vs p0 p1 p2 p3 p4) (ve p0 p1 p2 p3 p4) (vb p0 p1 p2 p3 p4) (vF p0 p1 p2 p3 p4 g100_86 F6_86)))), .val (.ref b6)] [(.int (1 : Int32))])) ?_ (fun t q => XS.goto X11.here hx rfl (pc0 := 300) (pc' := 304) rfl (hb hby at_300) (by decide) (by decide) q)
                    exact own_retN X11 hx hlk (t := .boolean) Bd.returns (by simp) (hb hby at_304) (by decide) (by decide) ⟨rfl, N11, trivial⟩
        · refine own_st (T' := T6) (f' := (mkF m 212 #[.val (.int p0), .val (.int p1), .val (.int p2), .val (.int p3), .val (.int p4), .val (.int (vb p0 p1 p2 p3 p4)), .val (.ref r6_86), .val (.int (vs p0 p1 p2 p3 p4)), .val (.int (ve p0 p1 p2 p3 p4)), .val (.int ((((f1 (0 : Int32) (vs p0 p1 p2 p3 p4) (ve p0 p1 p2 p3 p4) (vb p0 p1 p2 p3 p4) (vF p0 p1 p2 p3 p4 g100_86 F6_86)) + (f1 (1 : Int32) (vs p0 p1 p2 p3 p4) (ve p0 p1 p2 p3 p4) (vb p0 p1 p2 p3 p4) (vF p0 p1 p2 p3 p4 g100_86 F6_86))) + (f1 (2 : Int32) (vs p0 p1 p2 p3 p4) (ve p0 p1 p2 p3 p4) (vb p0 p1 p2 p3 p4) (vF p0 p1 p2 p3 p4 g100_86 F6_86))) + (f1 (3 : Int32) (vs p0 p1 p2 p3 p4) (ve p0 p1 p2 p3 p4) (vb p0 p1 p2 p3 p4) (vF p0 p1 p2 p3 p4 g100_86 F6_86)))), .val (.ref b6)] [])) ?_ (fun t q => XS.icmpNo X6.here hx rfl (hb hby at_209) rfl (feq hc209).1 q)
          refine own_st (T' := T6) (f' := (mkF m 213 #[.val (.int p0), .val (.int p1), .val (.int p2), .val (.int p3), .val (.int p4), .val (.int (vb p0 p1 p2 p3 p4)), .val (.ref r6_86), .val (.int (vs p0 p1 p2 p3 p4)), .val (.int (ve p0 p1 p2 p3 p4)), .val (.int ((((f1 (0 : Int32) (vs p0 p1 p2 p3 p4) (ve p0 p1 p2 p3 p4) (vb p0 p1 p2 p3 p4) (vF p0 p1 p2 p3 p4 g100_86 F6_86)) + (f1 (1 : Int32) (vs p0 p1 p2 p3 p4) (ve p0 p1 p2 p3 p4) (vb p0 p1 p2 p3 p4) (vF p0 p1 p2 p3 p4 g100_86 F6_86))) + (f1 (2 : Int32) (vs p0 p1 p2 p3 p4) (ve p0 p1 p2 p3 p4) (vb p0 p1 p2 p3 p4) (vF p0 p1 p2 p3 p4 g100_86 F6_86))) + (f1 (3 : Int32) (vs p0 p1 p2 p3 p4) (ve p0 p1 p2 p3 p4) (vb p0 p1 p2 p3 p4) (vF p0 p1 p2 p3 p4 g100_86 F6_86)))), .val (.ref b6)] [(.int (0 : Int32))])) ?_ (fun t q => XS.iconst X6.here hx rfl (hb hby at_212) q)
          exact own_retN X6 hx hlk (t := .boolean) Bd.returns (by simp) (hb hby at_213) (by decide) (by decide) ⟨rfl, N6, trivial⟩
      · refine own_st (T' := T6) (f' := (mkF m 212 #[.val (.int p0), .val (.int p1), .val (.int p2), .val (.int p3), .val (.int p4), .val (.int (vb p0 p1 p2 p3 p4)), .val (.ref r6_86), .val (.int (vs p0 p1 p2 p3 p4)), .val (.int (ve p0 p1 p2 p3 p4)), .val (.int ((((f1 (0 : Int32) (vs p0 p1 p2 p3 p4) (ve p0 p1 p2 p3 p4) (vb p0 p1 p2 p3 p4) (vF p0 p1 p2 p3 p4 g100_86 F6_86)) + (f1 (1 : Int32) (vs p0 p1 p2 p3 p4) (ve p0 p1 p2 p3 p4) (vb p0 p1 p2 p3 p4) (vF p0 p1 p2 p3 p4 g100_86 F6_86))) + (f1 (2 : Int32) (vs p0 p1 p2 p3 p4) (ve p0 p1 p2 p3 p4) (vb p0 p1 p2 p3 p4) (vF p0 p1 p2 p3 p4 g100_86 F6_86))) + (f1 (3 : Int32) (vs p0 p1 p2 p3 p4) (ve p0 p1 p2 p3 p4) (vb p0 p1 p2 p3 p4) (vF p0 p1 p2 p3 p4 g100_86 F6_86)))), .val (.ref b6)] [])) ?_ (fun t q => XS.icmpYes X6.here hx rfl (pc0 := 196) (pc' := 212) rfl (hb hby at_196) rfl (feq hc196).2 (by decide) (by decide) q)
        refine own_st (T' := T6) (f' := (mkF m 213 #[.val (.int p0), .val (.int p1), .val (.int p2), .val (.int p3), .val (.int p4), .val (.int (vb p0 p1 p2 p3 p4)), .val (.ref r6_86), .val (.int (vs p0 p1 p2 p3 p4)), .val (.int (ve p0 p1 p2 p3 p4)), .val (.int ((((f1 (0 : Int32) (vs p0 p1 p2 p3 p4) (ve p0 p1 p2 p3 p4) (vb p0 p1 p2 p3 p4) (vF p0 p1 p2 p3 p4 g100_86 F6_86)) + (f1 (1 : Int32) (vs p0 p1 p2 p3 p4) (ve p0 p1 p2 p3 p4) (vb p0 p1 p2 p3 p4) (vF p0 p1 p2 p3 p4 g100_86 F6_86))) + (f1 (2 : Int32) (vs p0 p1 p2 p3 p4) (ve p0 p1 p2 p3 p4) (vb p0 p1 p2 p3 p4) (vF p0 p1 p2 p3 p4 g100_86 F6_86))) + (f1 (3 : Int32) (vs p0 p1 p2 p3 p4) (ve p0 p1 p2 p3 p4) (vb p0 p1 p2 p3 p4) (vF p0 p1 p2 p3 p4 g100_86 F6_86)))), .val (.ref b6)] [(.int (0 : Int32))])) ?_ (fun t q => XS.iconst X6.here hx rfl (hb hby at_212) q)
        exact own_retN X6 hx hlk (t := .boolean) Bd.returns (by simp) (hb hby at_213) (by decide) (by decide) ⟨rfl, N6, trivial⟩
    · refine own_st (T' := T6) (f' := (mkF m 188 #[.val (.int p0), .val (.int p1), .val (.int p2), .val (.int p3), .val (.int p4), .val (.int (vb p0 p1 p2 p3 p4)), .val (.ref r6_86), .val (.int (vs p0 p1 p2 p3 p4)), .val (.int (ve p0 p1 p2 p3 p4)), .val (.int ((((f1 (0 : Int32) (vs p0 p1 p2 p3 p4) (ve p0 p1 p2 p3 p4) (vb p0 p1 p2 p3 p4) (vF p0 p1 p2 p3 p4 g100_86 F6_86)) + (f1 (1 : Int32) (vs p0 p1 p2 p3 p4) (ve p0 p1 p2 p3 p4) (vb p0 p1 p2 p3 p4) (vF p0 p1 p2 p3 p4 g100_86 F6_86))) + (f1 (2 : Int32) (vs p0 p1 p2 p3 p4) (ve p0 p1 p2 p3 p4) (vb p0 p1 p2 p3 p4) (vF p0 p1 p2 p3 p4 g100_86 F6_86))) + (f1 (3 : Int32) (vs p0 p1 p2 p3 p4) (ve p0 p1 p2 p3 p4) (vb p0 p1 p2 p3 p4) (vF p0 p1 p2 p3 p4 g100_86 F6_86)))), .val (.ref b6)] [])) ?_ (fun t q => XS.icmpNo X6.here hx rfl (hb hby at_185) rfl (feq hc185).1 q)
      refine own_st (T' := T6) (f' := (mkF m 189 #[.val (.int p0), .val (.int p1), .val (.int p2), .val (.int p3), .val (.int p4), .val (.int (vb p0 p1 p2 p3 p4)), .val (.ref r6_86), .val (.int (vs p0 p1 p2 p3 p4)), .val (.int (ve p0 p1 p2 p3 p4)), .val (.int ((((f1 (0 : Int32) (vs p0 p1 p2 p3 p4) (ve p0 p1 p2 p3 p4) (vb p0 p1 p2 p3 p4) (vF p0 p1 p2 p3 p4 g100_86 F6_86)) + (f1 (1 : Int32) (vs p0 p1 p2 p3 p4) (ve p0 p1 p2 p3 p4) (vb p0 p1 p2 p3 p4) (vF p0 p1 p2 p3 p4 g100_86 F6_86))) + (f1 (2 : Int32) (vs p0 p1 p2 p3 p4) (ve p0 p1 p2 p3 p4) (vb p0 p1 p2 p3 p4) (vF p0 p1 p2 p3 p4 g100_86 F6_86))) + (f1 (3 : Int32) (vs p0 p1 p2 p3 p4) (ve p0 p1 p2 p3 p4) (vb p0 p1 p2 p3 p4) (vF p0 p1 p2 p3 p4 g100_86 F6_86)))), .val (.ref b6)] [(.int (0 : Int32))])) ?_ (fun t q => XS.iconst X6.here hx rfl (hb hby at_188) q)
      exact own_retN X6 hx hlk (t := .boolean) Bd.returns (by simp) (hb hby at_189) (by decide) (by decide) ⟨rfl, N6, trivial⟩
  have B65 : ∀ (T : State) (locs : List Loc) (r6_65 : Addr) (g100_65 : Int32) (F6_65 : Nat → Int32) (X : Stand p l e room_1 s m #[(.int p0), (.int p1), (.int p2), (.int p3), (.int p4)] below meth c T locs 1 4) (N : Fr n0 locs) (zs : n0 ≤ T.heap.size) (G_r6_65 : n0 ≤ r6_65) (A_r6_65 : own_A Z T.heap r6_65 .byte 4 F6_65), own_W p e below s 2 14 (own_GI n0 (fun _ => True) (f0_65 p0 p1 p2 p3 p4 g100_65 F6_65)) T (mkF m 65 #[.val (.int p0), .val (.int p1), .val (.int p2), .val (.int p3), .val (.int p4), .val (.int (vb p0 p1 p2 p3 p4)), .val (.ref r6_65), .unset, .unset, .unset, .unset] [(.int g100_65), (.int (2 : Int32)), (.ref r6_65)]) := by
    intro T locs r6_65 g100_65 F6_65 X N zs G_r6_65 A_r6_65
    unfold f0_65
    refine own_bast X hx hZ A_r6_65 (j := (2 : Int32)) (x := g100_65) ⟨by decide, by decide⟩ (hb hby at_65) N G_r6_65 (fun T12 lo12 X12 N12 K12 A12_r6_65 => ?_)
    have zs12 : n0 ≤ T12.heap.size := Nat.le_trans zs K12.1
    show own_W _ _ _ _ _ _ _ T12 (mkF m 66 #[.val (.int p0), .val (.int p1), .val (.int p2), .val (.int p3), .val (.int p4), .val (.int (vb p0 p1 p2 p3 p4)), .val (.ref r6_65), .unset, .unset, .unset, .unset] [])
    refine own_st (T' := T12) (f' := (mkF m 68 #[.val (.int p0), .val (.int p1), .val (.int p2), .val (.int p3), .val (.int p4), .val (.int (vb p0 p1 p2 p3 p4)), .val (.ref r6_65), .unset, .unset, .unset, .unset] [(.ref r6_65)])) ?_ (fun t q => XS.aload X12.here hx rfl (hb hby at_66) rfl rfl q)
    refine own_st (T' := T12) (f' := (mkF m 69 #[.val (.int p0), .val (.int p1), .val (.int p2), .val (.int p3), .val (.int p4), .val (.int (vb p0 p1 p2 p3 p4)), .val (.ref r6_65), .unset, .unset, .unset, .unset] [(.int (3 : Int32)), (.ref r6_65)])) ?_ (fun t q => XS.iconst X12.here hx rfl (hb hby at_68) q)
    refine own_st (T' := T12) (f' := (mkF m 70 #[.val (.int p0), .val (.int p1), .val (.int p2), .val (.int p3), .val (.int p4), .val (.int (vb p0 p1 p2 p3 p4)), .val (.ref r6_65), .unset, .unset, .unset, .unset] [(.int p1), (.int (3 : Int32)), (.ref r6_65)])) ?_ (fun t q => XS.iloadN X12.here hx rfl (hb hby at_69) rfl q)
    refine own_st (T' := T12) (f' := (mkF m 72 #[.val (.int p0), .val (.int p1), .val (.int p2), .val (.int p3), .val (.int p4), .val (.int (vb p0 p1 p2 p3 p4)), .val (.ref r6_65), .unset, .unset, .unset, .unset] [(.int (8 : Int32)), (.int p1), (.int (3 : Int32)), (.ref r6_65)])) ?_ (fun t q => XS.bipush X12.here hx rfl (hb hby at_70) q)
    refine own_st (T' := T12) (f' := (mkF m 73 #[.val (.int p0), .val (.int p1), .val (.int p2), .val (.int p3), .val (.int p4), .val (.int (vb p0 p1 p2 p3 p4)), .val (.ref r6_65), .unset, .unset, .unset, .unset] [(.int (p1 &&& (8 : Int32))), (.int (3 : Int32)), (.ref r6_65)])) ?_ (fun t q => XS.iand X12.here hx rfl (hb hby at_72) rfl q)
    refine own_ite (fun hc73 => ?_) (fun hc73 => ?_)
    · refine own_st (T' := T12) (f' := (mkF m 81 #[.val (.int p0), .val (.int p1), .val (.int p2), .val (.int p3), .val (.int p4), .val (.int (vb p0 p1 p2 p3 p4)), .val (.ref r6_65), .unset, .unset, .unset, .unset] [(.int (3 : Int32)), (.ref r6_65)])) ?_ (fun t q => XS.ifYes X12.here hx rfl (pc0 := 73) (pc' := 81) rfl (hb hby at_73) rfl ((if0 _ _).trans (teq hc73).1) (by decide) (by decide) q)
      refine own_st (T' := T12) (f' := (mkF m 82 #[.val (.int p0), .val (.int p1), .val (.int p2), .val (.int p3), .val (.int p4), .val (.int (vb p0 p1 p2 p3 p4)), .val (.ref r6_65), .unset, .unset, .unset, .unset] [(.int p0), (.int (3 : Int32)), (.ref r6_65)])) ?_ (fun t q => XS.iloadN X12.here hx rfl (hb hby at_81) rfl q)
      refine own_st (T' := T12) (f' := (mkF m 84 #[.val (.int p0), .val (.int p1), .val (.int p2), .val (.int p3), .val (.int p4), .val (.int (vb p0 p1 p2 p3 p4)), .val (.ref r6_65), .unset, .unset, .unset, .unset] [(.int (24 : Int32)), (.int p0), (.int (3 : Int32)), (.ref r6_65)])) ?_ (fun t q => XS.bipush X12.here hx rfl (hb hby at_82) q)
      refine own_st (T' := T12) (f' := (mkF m 85 #[.val (.int p0), .val (.int p1), .val (.int p2), .val (.int p3), .val (.int p4), .val (.int (vb p0 p1 p2 p3 p4)), .val (.ref r6_65), .unset, .unset, .unset, .unset] [(.int (p0 >>> ((24 : Int32) &&& 31))), (.int (3 : Int32)), (.ref r6_65)])) ?_ (fun t q => XS.ishr X12.here hx rfl (hb hby at_84) rfl q)
      refine own_st (T' := T12) (f' := (mkF m 86 #[.val (.int p0), .val (.int p1), .val (.int p2), .val (.int p3), .val (.int p4), .val (.int (vb p0 p1 p2 p3 p4)), .val (.ref r6_65), .unset, .unset, .unset, .unset] [(.int ((p0 >>> ((24 : Int32) &&& 31)).toInt8.toInt32)), (.int (3 : Int32)), (.ref r6_65)])) ?_ (fun t q => XS.i2b X12.here hx rfl (hb hby at_85) rfl q)
      exact B86 T12 _ r6_65 ((p0 >>> ((24 : Int32) &&& 31)).toInt8.toInt32) (own_up F6_65 2 (nar .byte g100_65)) X12 N12 zs12 G_r6_65 A12_r6_65
    · refine own_st (T' := T12) (f' := (mkF m 76 #[.val (.int p0), .val (.int p1), .val (.int p2), .val (.int p3), .val (.int p4), .val (.int (vb p0 p1 p2 p3 p4)), .val (.ref r6_65), .unset, .unset, .unset, .unset] [(.int (3 : Int32)), (.ref r6_65)])) ?_ (fun t q => XS.ifNo X12.here hx rfl (hb hby at_73) rfl ((if0 _ _).trans (feq hc73).1) q)
      refine own_st (T' := T12) (f' := (mkF m 78 #[.val (.int p0), .val (.int p1), .val (.int p2), .val (.int p3), .val (.int p4), .val (.int (vb p0 p1 p2 p3 p4)), .val (.ref r6_65), .unset, .unset, .unset, .unset] [(.int (vb p0 p1 p2 p3 p4)), (.int (3 : Int32)), (.ref r6_65)])) ?_ (fun t q => XS.iload X12.here hx rfl (hb hby at_76) rfl q)
      refine own_st (T' := T12) (f' := (mkF m 86 #[.val (.int p0), .val (.int p1), .val (.int p2), .val (.int p3), .val (.int p4), .val (.int (vb p0 p1 p2 p3 p4)), .val (.ref r6_65), .unset, .unset, .unset, .unset] [(.int (vb p0 p1 p2 p3 p4)), (.int (3 : Int32)), (.ref r6_65)])) ?_ (fun t q => XS.goto X12.here hx rfl (pc0 := 78) (pc' := 86) rfl (hb hby at_78) (by decide) (by decide) q)
      exact B86 T12 _ r6_65 (vb p0 p1 p2 p3 p4) (own_up F6_65 2 (nar .byte g100_65)) X12 N12 zs12 G_r6_65 A12_r6_65
  have B45 : ∀ (T : State) (locs : List Loc) (r6_45 : Addr) (g100_45 : Int32) (F6_45 : Nat → Int32) (X : Stand p l e room_1 s m #[(.int p0), (.int p1), (.int p2), (.int p3), (.int p4)] below meth c T locs 1 4) (N : Fr n0 locs) (zs : n0 ≤ T.heap.size) (G_r6_45 : n0 ≤ r6_45) (A_r6_45 : own_A Z T.heap r6_45 .byte 4 F6_45), own_W p e below s 2 14 (own_GI n0 (fun _ => True) (f0_45 p0 p1 p2 p3 p4 g100_45 F6_45)) T (mkF m 45 #[.val (.int p0), .val (.int p1), .val (.int p2), .val (.int p3), .val (.int p4), .val (.int (vb p0 p1 p2 p3 p4)), .val (.ref r6_45), .unset, .unset, .unset, .unset] [(.int g100_45), (.int (1 : Int32)), (.ref r6_45)]) := by
    intro T locs r6_45 g100_45 F6_45 X N zs G_r6_45 A_r6_45
    unfold f0_45
    refine own_bast X hx hZ A_r6_45 (j := (1 : Int32)) (x := g100_45) ⟨by decide, by decide⟩ (hb hby at_45) N G_r6_45 (fun T13 lo13 X13 N13 K13 A13_r6_45 => ?_)
    have zs13 : n0 ≤ T13.heap.size := Nat.le_trans zs K13.1
    show own_W _ _ _ _ _ _ _ T13 (mkF m 46 #[.val (.int p0), .val (.int p1), .val (.int p2), .val (.int p3), .val (.int p4), .val (.int (vb p0 p1 p2 p3 p4)), .val (.ref r6_45), .unset, .unset, .unset, .unset] [])
    refine own_st (T' := T13) (f' := (mkF m 48 #[.val (.int p0), .val (.int p1), .val (.int p2), .val (.int p3), .val (.int p4), .val (.int (vb p0 p1 p2 p3 p4)), .val (.ref r6_45), .unset, .unset, .unset, .unset] [(.ref r6_45)])) ?_ (fun t q => XS.aload X13.here hx rfl (hb hby at_46) rfl rfl q)
    refine own_st (T' := T13) (f' := (mkF m 49 #[.val (.int p0), .val (.int p1), .val (.int p2), .val (.int p3), .val (.int p4), .val (.int (vb p0 p1 p2 p3 p4)), .val (.ref r6_45), .unset, .unset, .unset, .unset] [(.int (2 : Int32)), (.ref r6_45)])) ?_ (fun t q => XS.iconst X13.here hx rfl (hb hby at_48) q)
    refine own_st (T' := T13) (f' := (mkF m 50 #[.val (.int p0), .val (.int p1), .val (.int p2), .val (.int p3), .val (.int p4), .val (.int (vb p0 p1 p2 p3 p4)), .val (.ref r6_45), .unset, .unset, .unset, .unset] [(.int p1), (.int (2 : Int32)), (.ref r6_45)])) ?_ (fun t q => XS.iloadN X13.here hx rfl (hb hby at_49) rfl q)
    refine own_st (T' := T13) (f' := (mkF m 51 #[.val (.int p0), .val (.int p1), .val (.int p2), .val (.int p3), .val (.int p4), .val (.int (vb p0 p1 p2 p3 p4)), .val (.ref r6_45), .unset, .unset, .unset, .unset] [(.int (4 : Int32)), (.int p1), (.int (2 : Int32)), (.ref r6_45)])) ?_ (fun t q => XS.iconst X13.here hx rfl (hb hby at_50) q)
    refine own_st (T' := T13) (f' := (mkF m 52 #[.val (.int p0), .val (.int p1), .val (.int p2), .val (.int p3), .val (.int p4), .val (.int (vb p0 p1 p2 p3 p4)), .val (.ref r6_45), .unset, .unset, .unset, .unset] [(.int (p1 &&& (4 : Int32))), (.int (2 : Int32)), (.ref r6_45)])) ?_ (fun t q => XS.iand X13.here hx rfl (hb hby at_51) rfl q)
    refine own_ite (fun hc52 => ?_) (fun hc52 => ?_)
    · refine own_st (T' := T13) (f' := (mkF m 60 #[.val (.int p0), .val (.int p1), .val (.int p2), .val (.int p3), .val (.int p4), .val (.int (vb p0 p1 p2 p3 p4)), .val (.ref r6_45), .unset, .unset, .unset, .unset] [(.int (2 : Int32)), (.ref r6_45)])) ?_ (fun t q => XS.ifYes X13.here hx rfl (pc0 := 52) (pc' := 60) rfl (hb hby at_52) rfl ((if0 _ _).trans (teq hc52).1) (by decide) (by decide) q)
      refine own_st (T' := T13) (f' := (mkF m 61 #[.val (.int p0), .val (.int p1), .val (.int p2), .val (.int p3), .val (.int p4), .val (.int (vb p0 p1 p2 p3 p4)), .val (.ref r6_45), .unset, .unset, .unset, .unset] [(.int p0), (.int (2 : Int32)), (.ref r6_45)])) ?_ (fun t q => XS.iloadN X13.here hx rfl (hb hby at_60) rfl q)
      refine own_st (T' := T13) (f' := (mkF m 63 #[.val (.int p0), .val (.int p1), .val (.int p2), .val (.int p3), .val (.int p4), .val (.int (vb p0 p1 p2 p3 p4)), .val (.ref r6_45), .unset, .unset, .unset, .unset] [(.int (16 : Int32)), (.int p0), (.int (2 : Int32)), (.ref r6_45)])) ?_ (fun t q => XS.bipush X13.here hx rfl (hb hby at_61) q)
      refine own_st (T' := T13) (f' := (mkF m 64 #[.val (.int p0), .val (.int p1), .val (.int p2), .val (.int p3), .val (.int p4), .val (.int (vb p0 p1 p2 p3 p4)), .val (.ref r6_45), .unset, .unset, .unset, .unset] [(.int (p0 >>> ((16 : Int32) &&& 31))), (.int (2 : Int32)), (.ref r6_45)])) ?_ (fun t q => XS.ishr X13.here hx rfl (hb hby at_63) rfl q)
      refine own_st (T' := T13) (f' := (mkF m 65 #[.val (.int p0), .val (.int p1), .val (.int p2), .val (.int p3), .val (.int p4), .val (.int (vb p0 p1 p2 p3 p4)), .val (.ref r6_45), .unset, .unset, .unset, .unset] [(.int ((p0 >>> ((16 : Int32) &&& 31)).toInt8.toInt32)), (.int (2 : Int32)), (.ref r6_45)])) ?_ (fun t q => XS.i2b X13.here hx rfl (hb hby at_64) rfl q)
      exact B65 T13 _ r6_45 ((p0 >>> ((16 : Int32) &&& 31)).toInt8.toInt32) (own_up F6_45 1 (nar .byte g100_45)) X13 N13 zs13 G_r6_45 A13_r6_45
    · refine own_st (T' := T13) (f' := (mkF m 55 #[.val (.int p0), .val (.int p1), .val (.int p2), .val (.int p3), .val (.int p4), .val (.int (vb p0 p1 p2 p3 p4)), .val (.ref r6_45), .unset, .unset, .unset, .unset] [(.int (2 : Int32)), (.ref r6_45)])) ?_ (fun t q => XS.ifNo X13.here hx rfl (hb hby at_52) rfl ((if0 _ _).trans (feq hc52).1) q)
      refine own_st (T' := T13) (f' := (mkF m 57 #[.val (.int p0), .val (.int p1), .val (.int p2), .val (.int p3), .val (.int p4), .val (.int (vb p0 p1 p2 p3 p4)), .val (.ref r6_45), .unset, .unset, .unset, .unset] [(.int (vb p0 p1 p2 p3 p4)), (.int (2 : Int32)), (.ref r6_45)])) ?_ (fun t q => XS.iload X13.here hx rfl (hb hby at_55) rfl q)
      refine own_st (T' := T13) (f' := (mkF m 65 #[.val (.int p0), .val (.int p1), .val (.int p2), .val (.int p3), .val (.int p4), .val (.int (vb p0 p1 p2 p3 p4)), .val (.ref r6_45), .unset, .unset, .unset, .unset] [(.int (vb p0 p1 p2 p3 p4)), (.int (2 : Int32)), (.ref r6_45)])) ?_ (fun t q => XS.goto X13.here hx rfl (pc0 := 57) (pc' := 65) rfl (hb hby at_57) (by decide) (by decide) q)
      exact B65 T13 _ r6_45 (vb p0 p1 p2 p3 p4) (own_up F6_45 1 (nar .byte g100_45)) X13 N13 zs13 G_r6_45 A13_r6_45
  have B25 : ∀ (T : State) (locs : List Loc) (r6_25 : Addr) (g100_25 : Int32) (F6_25 : Nat → Int32) (X : Stand p l e room_1 s m #[(.int p0), (.int p1), (.int p2), (.int p3), (.int p4)] below meth c T locs 1 4) (N : Fr n0 locs) (zs : n0 ≤ T.heap.size) (G_r6_25 : n0 ≤ r6_25) (A_r6_25 : own_A Z T.heap r6_25 .byte 4 F6_25), own_W p e below s 2 14 (own_GI n0 (fun _ => True) (f0_25 p0 p1 p2 p3 p4 g100_25 F6_25)) T (mkF m 25 #[.val (.int p0), .val (.int p1), .val (.int p2), .val (.int p3), .val (.int p4), .val (.int (vb p0 p1 p2 p3 p4)), .val (.ref r6_25), .unset, .unset, .unset, .unset] [(.int g100_25), (.int (0 : Int32)), (.ref r6_25)]) := by
    intro T locs r6_25 g100_25 F6_25 X N zs G_r6_25 A_r6_25
    unfold f0_25
    refine own_bast X hx hZ A_r6_25 (j := (0 : Int32)) (x := g100_25) ⟨by decide, by decide⟩ (hb hby at_25) N G_r6_25 (fun T14 lo14 X14 N14 K14 A14_r6_25 => ?_)
    have zs14 : n0 ≤ T14.heap.size := Nat.le_trans zs K14.1
    show own_W _ _ _ _ _ _ _ T14 (mkF m 26 #[.val (.int p0), .val (.int p1), .val (.int p2), .val (.int p3), .val (.int p4), .val (.int (vb p0 p1 p2 p3 p4)), .val (.ref r6_25), .unset, .unset, .unset, .unset] [])
    refine own_st (T' := T14) (f' := (mkF m 28 #[.val (.int p0), .val (.int p1), .val (.int p2), .val (.int p3), .val (.int p4), .val (.int (vb p0 p1 p2 p3 p4)), .val (.ref r6_25), .unset, .unset, .unset, .unset] [(.ref r6_25)])) ?_ (fun t q => XS.aload X14.here hx rfl (hb hby at_26) rfl rfl q)
    refine own_st (T' := T14) (f' := (mkF m 29 #[.val (.int p0), .val (.int p1), .val (.int p2), .val (.int p3), .val (.int p4), .val (.int (vb p0 p1 p2 p3 p4)), .val (.ref r6_25), .unset, .unset, .unset, .unset] [(.int (1 : Int32)), (.ref r6_25)])) ?_ (fun t q => XS.iconst X14.here hx rfl (hb hby at_28) q)
    refine own_st (T' := T14) (f' := (mkF m 30 #[.val (.int p0), .val (.int p1), .val (.int p2), .val (.int p3), .val (.int p4), .val (.int (vb p0 p1 p2 p3 p4)), .val (.ref r6_25), .unset, .unset, .unset, .unset] [(.int p1), (.int (1 : Int32)), (.ref r6_25)])) ?_ (fun t q => XS.iloadN X14.here hx rfl (hb hby at_29) rfl q)
    refine own_st (T' := T14) (f' := (mkF m 31 #[.val (.int p0), .val (.int p1), .val (.int p2), .val (.int p3), .val (.int p4), .val (.int (vb p0 p1 p2 p3 p4)), .val (.ref r6_25), .unset, .unset, .unset, .unset] [(.int (2 : Int32)), (.int p1), (.int (1 : Int32)), (.ref r6_25)])) ?_ (fun t q => XS.iconst X14.here hx rfl (hb hby at_30) q)
    refine own_st (T' := T14) (f' := (mkF m 32 #[.val (.int p0), .val (.int p1), .val (.int p2), .val (.int p3), .val (.int p4), .val (.int (vb p0 p1 p2 p3 p4)), .val (.ref r6_25), .unset, .unset, .unset, .unset] [(.int (p1 &&& (2 : Int32))), (.int (1 : Int32)), (.ref r6_25)])) ?_ (fun t q => XS.iand X14.here hx rfl (hb hby at_31) rfl q)
    refine own_ite (fun hc32 => ?_) (fun hc32 => ?_)
    · refine own_st (T' := T14) (f' := (mkF m 40 #[.val (.int p0), .val (.int p1), .val (.int p2), .val (.int p3), .val (.int p4), .val (.int (vb p0 p1 p2 p3 p4)), .val (.ref r6_25), .unset, .unset, .unset, .unset] [(.int (1 : Int32)), (.ref r6_25)])) ?_ (fun t q => XS.ifYes X14.here hx rfl (pc0 := 32) (pc' := 40) rfl (hb hby at_32) rfl ((if0 _ _).trans (teq hc32).1) (by decide) (by decide) q)
      refine own_st (T' := T14) (f' := (mkF m 41 #[.val (.int p0), .val (.int p1), .val (.int p2), .val (.int p3), .val (.int p4), .val (.int (vb p0 p1 p2 p3 p4)), .val (.ref r6_25), .unset, .unset, .unset, .unset] [(.int p0), (.int (1 : Int32)), (.ref r6_25)])) ?_ (fun t q => XS.iloadN X14.here hx rfl (hb hby at_40) rfl q)
      refine own_st (T' := T14) (f' := (mkF m 43 #[.val (.int p0), .val (.int p1), .val (.int p2), .val (.int p3), .val (.int p4), .val (.int (vb p0 p1 p2 p3 p4)), .val (.ref r6_25), .unset, .unset, .unset, .unset] [(.int (8 : Int32)), (.int p0), (.int (1 : Int32)), (.ref r6_25)])) ?_ (fun t q => XS.bipush X14.here hx rfl (hb hby at_41) q)
      refine own_st (T' := T14) (f' := (mkF m 44 #[.val (.int p0), .val (.int p1), .val (.int p2), .val (.int p3), .val (.int p4), .val (.int (vb p0 p1 p2 p3 p4)), .val (.ref r6_25), .unset, .unset, .unset, .unset] [(.int (p0 >>> ((8 : Int32) &&& 31))), (.int (1 : Int32)), (.ref r6_25)])) ?_ (fun t q => XS.ishr X14.here hx rfl (hb hby at_43) rfl q)
      refine own_st (T' := T14) (f' := (mkF m 45 #[.val (.int p0), .val (.int p1), .val (.int p2), .val (.int p3), .val (.int p4), .val (.int (vb p0 p1 p2 p3 p4)), .val (.ref r6_25), .unset, .unset, .unset, .unset] [(.int ((p0 >>> ((8 : Int32) &&& 31)).toInt8.toInt32)), (.int (1 : Int32)), (.ref r6_25)])) ?_ (fun t q => XS.i2b X14.here hx rfl (hb hby at_44) rfl q)
      exact B45 T14 _ r6_25 ((p0 >>> ((8 : Int32) &&& 31)).toInt8.toInt32) (own_up F6_25 0 (nar .byte g100_25)) X14 N14 zs14 G_r6_25 A14_r6_25
    · refine own_st (T' := T14) (f' := (mkF m 35 #[.val (.int p0), .val (.int p1), .val (.int p2), .val (.int p3), .val (.int p4), .val (.int (vb p0 p1 p2 p3 p4)), .val (.ref r6_25), .unset, .unset, .unset, .unset] [(.int (1 : Int32)), (.ref r6_25)])) ?_ (fun t q => XS.ifNo X14.here hx rfl (hb hby at_32) rfl ((if0 _ _).trans (feq hc32).1) q)
      refine own_st (T' := T14) (f' := (mkF m 37 #[.val (.int p0), .val (.int p1), .val (.int p2), .val (.int p3), .val (.int p4), .val (.int (vb p0 p1 p2 p3 p4)), .val (.ref r6_25), .unset, .unset, .unset, .unset] [(.int (vb p0 p1 p2 p3 p4)), (.int (1 : Int32)), (.ref r6_25)])) ?_ (fun t q => XS.iload X14.here hx rfl (hb hby at_35) rfl q)
      refine own_st (T' := T14) (f' := (mkF m 45 #[.val (.int p0), .val (.int p1), .val (.int p2), .val (.int p3), .val (.int p4), .val (.int (vb p0 p1 p2 p3 p4)), .val (.ref r6_25), .unset, .unset, .unset, .unset] [(.int (vb p0 p1 p2 p3 p4)), (.int (1 : Int32)), (.ref r6_25)])) ?_ (fun t q => XS.goto X14.here hx rfl (pc0 := 37) (pc' := 45) rfl (hb hby at_37) (by decide) (by decide) q)
      exact B45 T14 _ r6_25 (vb p0 p1 p2 p3 p4) (own_up F6_25 0 (nar .byte g100_25)) X14 N14 zs14 G_r6_25 A14_r6_25
  show own_W p e below s 2 14 (own_GI n0 (fun _ => True) (f0 p0 p1 p2 p3 p4)) s₁ (entryFrame m #[(.int p0), (.int p1), (.int p2), (.int p3), (.int p4)] maxLocals)
  refine own_to (ef_0 m p0 p1 p2 p3 p4) ?_
  unfold f0
  refine own_st (T' := s₁) (f' := (mkF m 1 #[.val (.int p0), .val (.int p1), .val (.int p2), .val (.int p3), .val (.int p4), .unset, .unset, .unset, .unset, .unset, .unset] [(.int p2)])) ?_ (fun t q => XS.iloadN X0.here hx rfl (hb hby at_0) rfl q)
  refine own_st (T' := s₁) (f' := (mkF m 2 #[.val (.int p0), .val (.int p1), .val (.int p2), .val (.int p3), .val (.int p4), .unset, .unset, .unset, .unset, .unset, .unset] [(.int (p2.toInt8.toInt32))])) ?_ (fun t q => XS.i2b X0.here hx rfl (hb hby at_1) rfl q)
  refine own_st (T' := s₁) (f' := (mkF m 4 #[.val (.int p0), .val (.int p1), .val (.int p2), .val (.int p3), .val (.int p4), .val (.int (vb p0 p1 p2 p3 p4)), .unset, .unset, .unset, .unset, .unset] [])) ?_ (fun t q => XS.istore X0.here hx rfl (hb hby at_2) rfl (l' := #[.val (.int p0), .val (.int p1), .val (.int p2), .val (.int p3), .val (.int p4), .val (.int (vb p0 p1 p2 p3 p4)), .unset, .unset, .unset, .unset, .unset]) rfl q)
  refine own_st (T' := s₁) (f' := (mkF m 5 #[.val (.int p0), .val (.int p1), .val (.int p2), .val (.int p3), .val (.int p4), .val (.int (vb p0 p1 p2 p3 p4)), .unset, .unset, .unset, .unset, .unset] [(.int (4 : Int32))])) ?_ (fun t q => XS.iconst X0.here hx rfl (hb hby at_4) q)
  refine own_newB X0 hx hZ (hw _ (List.mem_of_getElem? (i := 0) rfl)) (z := (4 : Int32)) (by decide) (cap := 4) (by decide) (by decide) (by decide) (by decide) (hb hby at_5) (fun T15 b15 X15 ge15 E15 A15_b15 => ?_)
  have G15 : n0 ≤ b15 := Nat.le_trans zs0 ge15
  have zs15 : n0 ≤ T15.heap.size := Nat.le_trans zs0 E15.1
  show own_W _ _ _ _ _ _ _ T15 (mkF m 7 #[.val (.int p0), .val (.int p1), .val (.int p2), .val (.int p3), .val (.int p4), .val (.int (vb p0 p1 p2 p3 p4)), .unset, .unset, .unset, .unset, .unset] [(.ref b15)])
  refine own_st (T' := T15) (f' := (mkF m 9 #[.val (.int p0), .val (.int p1), .val (.int p2), .val (.int p3), .val (.int p4), .val (.int (vb p0 p1 p2 p3 p4)), .val (.ref b15), .unset, .unset, .unset, .unset] [])) ?_ (fun t q => XS.astore X15.here hx rfl (hb hby at_7) rfl rfl (l' := #[.val (.int p0), .val (.int p1), .val (.int p2), .val (.int p3), .val (.int p4), .val (.int (vb p0 p1 p2 p3 p4)), .val (.ref b15), .unset, .unset, .unset, .unset]) rfl q)
  refine own_st (T' := T15) (f' := (mkF m 11 #[.val (.int p0), .val (.int p1), .val (.int p2), .val (.int p3), .val (.int p4), .val (.int (vb p0 p1 p2 p3 p4)), .val (.ref b15), .unset, .unset, .unset, .unset] [(.ref b15)])) ?_ (fun t q => XS.aload X15.here hx rfl (hb hby at_9) rfl rfl q)
  refine own_st (T' := T15) (f' := (mkF m 12 #[.val (.int p0), .val (.int p1), .val (.int p2), .val (.int p3), .val (.int p4), .val (.int (vb p0 p1 p2 p3 p4)), .val (.ref b15), .unset, .unset, .unset, .unset] [(.int (0 : Int32)), (.ref b15)])) ?_ (fun t q => XS.iconst X15.here hx rfl (hb hby at_11) q)
  refine own_st (T' := T15) (f' := (mkF m 13 #[.val (.int p0), .val (.int p1), .val (.int p2), .val (.int p3), .val (.int p4), .val (.int (vb p0 p1 p2 p3 p4)), .val (.ref b15), .unset, .unset, .unset, .unset] [(.int p1), (.int (0 : Int32)), (.ref b15)])) ?_ (fun t q => XS.iloadN X15.here hx rfl (hb hby at_12) rfl q)
  refine own_st (T' := T15) (f' := (mkF m 14 #[.val (.int p0), .val (.int p1), .val (.int p2), .val (.int p3), .val (.int p4), .val (.int (vb p0 p1 p2 p3 p4)), .val (.ref b15), .unset, .unset, .unset, .unset] [(.int (1 : Int32)), (.int p1), (.int (0 : Int32)), (.ref b15)])) ?_ (fun t q => XS.iconst X15.here hx rfl (hb hby at_13) q)
  refine own_st (T' := T15) (f' := (mkF m 15 #[.val (.int p0), .val (.int p1), .val (.int p2), .val (.int p3), .val (.int p4), .val (.int (vb p0 p1 p2 p3 p4)), .val (.ref b15), .unset, .unset, .unset, .unset] [(.int (p1 &&& (1 : Int32))), (.int (0 : Int32)), (.ref b15)])) ?_ (fun t q => XS.iand X15.here hx rfl (hb hby at_14) rfl q)
  refine own_ite (fun hc15 => ?_) (fun hc15 => ?_)
  · refine own_st (T' := T15) (f' := (mkF m 23 #[.val (.int p0), .val (.int p1), .val (.int p2), .val (.int p3), .val (.int p4), .val (.int (vb p0 p1 p2 p3 p4)), .val (.ref b15), .unset, .unset, .unset, .unset] [(.int (0 : Int32)), (.ref b15)])) ?_ (fun t q => XS.ifYes X15.here hx rfl (pc0 := 15) (pc' := 23) rfl (hb hby at_15) rfl ((if0 _ _).trans (teq hc15).1) (by decide) (by decide) q)
    refine own_st (T' := T15) (f' := (mkF m 24 #[.val (.int p0), .val (.int p1), .val (.int p2), .val (.int p3), .val (.int p4), .val (.int (vb p0 p1 p2 p3 p4)), .val (.ref b15), .unset, .unset, .unset, .unset] [(.int p0), (.int (0 : Int32)), (.ref b15)])) ?_ (fun t q => XS.iloadN X15.here hx rfl (hb hby at_23) rfl q)
    refine own_st (T' := T15) (f' := (mkF m 25 #[.val (.int p0), .val (.int p1), .val (.int p2), .val (.int p3), .val (.int p4), .val (.int (vb p0 p1 p2 p3 p4)), .val (.ref b15), .unset, .unset, .unset, .unset] [(.int (p0.toInt8.toInt32)), (.int (0 : Int32)), (.ref b15)])) ?_ (fun t q => XS.i2b X15.here hx rfl (hb hby at_24) rfl q)
    exact B25 T15 _ b15 (p0.toInt8.toInt32) (fun _ => 0) X15 N0 zs15 G15 A15_b15
  · refine own_st (T' := T15) (f' := (mkF m 18 #[.val (.int p0), .val (.int p1), .val (.int p2), .val (.int p3), .val (.int p4), .val (.int (vb p0 p1 p2 p3 p4)), .val (.ref b15), .unset, .unset, .unset, .unset] [(.int (0 : Int32)), (.ref b15)])) ?_ (fun t q => XS.ifNo X15.here hx rfl (hb hby at_15) rfl ((if0 _ _).trans (feq hc15).1) q)
    refine own_st (T' := T15) (f' := (mkF m 20 #[.val (.int p0), .val (.int p1), .val (.int p2), .val (.int p3), .val (.int p4), .val (.int (vb p0 p1 p2 p3 p4)), .val (.ref b15), .unset, .unset, .unset, .unset] [(.int (vb p0 p1 p2 p3 p4)), (.int (0 : Int32)), (.ref b15)])) ?_ (fun t q => XS.iload X15.here hx rfl (hb hby at_18) rfl q)
    refine own_st (T' := T15) (f' := (mkF m 25 #[.val (.int p0), .val (.int p1), .val (.int p2), .val (.int p3), .val (.int p4), .val (.int (vb p0 p1 p2 p3 p4)), .val (.ref b15), .unset, .unset, .unset, .unset] [(.int (vb p0 p1 p2 p3 p4)), (.int (0 : Int32)), (.ref b15)])) ?_ (fun t q => XS.goto X15.here hx rfl (pc0 := 20) (pc' := 25) rfl (hb hby at_20) (by decide) (by decide) q)
    exact B25 T15 _ b15 (vb p0 p1 p2 p3 p4) (fun _ => 0) X15 N0 zs15 G15 A15_b15

def own_chk (s e b : Int32) (F : Nat → Int32) : Int32 := (if (Int32.ofNat (f2 s e b F).1) = ((2 : Int32) * (((((f1 (0 : Int32) s e b F) + (f1 (1 : Int32) s e b F)) + (f1 (2 : Int32) s e b F)) + (f1 (3 : Int32) s e b F)) + (1 : Int32))) then (if ((f2 s e b F).2 0) = s then (if ((f2 s e b F).2 ((Int32.ofNat (f2 s e b F).1) - (1 : Int32)).toNatClampNeg) = e then (if (f3 (0 : Int32) b s e 4 F (f2 s e b F).1 (f2 s e b F).2) = (0 : Int32) then (0 : Int32) else (if (f3 (1 : Int32) b s e 4 F (f2 s e b F).1 (f2 s e b F).2) = (0 : Int32) then (0 : Int32) else (if (f3 (2 : Int32) b s e 4 F (f2 s e b F).1 (f2 s e b F).2) = (0 : Int32) then (0 : Int32) else (if (f3 (3 : Int32) b s e 4 F (f2 s e b F).1 (f2 s e b F).2) = (0 : Int32) then (0 : Int32) else (if (f3 (4 : Int32) b s e 4 F (f2 s e b F).1 (f2 s e b F).2) = (0 : Int32) then (0 : Int32) else (1 : Int32)))))) else (0 : Int32)) else (0 : Int32)) else (0 : Int32))
theorem own_dec (z : Int32) (h : 0 ≤ z.toInt ∧ z.toInt < 5) : z = 0 ∨ z = 1 ∨ z = 2 ∨ z = 3 ∨ z = 4 := by
  simp only [← Int32.toInt_inj, Int32.reduceToInt]; omega
theorem own_86_0_0 (b : Int32) (F : Nat → Int32) : own_chk 0 0 b F = 1 := by
  unfold own_chk
  simp [f1, f2, f2_6, f2_48, f3, f4, ql, qlo, qhi, own_up]
theorem own_86_0_1 (b : Int32) (F : Nat → Int32) : own_chk 0 1 b F = 1 := by
  unfold own_chk
  by_cases q0 : F 0 = b <;> simp [f1, f2, f2_6, f2_48, f3, f4, ql, qlo, qhi, own_up, q0]
theorem own_86_0_2 (b : Int32) (F : Nat → Int32) : own_chk 0 2 b F = 1 := by
  unfold own_chk
  by_cases q0 : F 0 = b <;> by_cases q1 : F 1 = b <;> simp [f1, f2, f2_6, f2_48, f3, f4, ql, qlo, qhi, own_up, q0, q1]
theorem own_86_0_3 (b : Int32) (F : Nat → Int32) : own_chk 0 3 b F = 1 := by
  unfold own_chk
  by_cases q0 : F 0 = b <;> by_cases q1 : F 1 = b <;> by_cases q2 : F 2 = b <;> simp [f1, f2, f2_6, f2_48, f3, f4, ql, qlo, qhi, own_up, q0, q1, q2]
theorem own_86_0_4 (b : Int32) (F : Nat → Int32) : own_chk 0 4 b F = 1 := by
  unfold own_chk
  by_cases q0 : F 0 = b <;> by_cases q1 : F 1 = b <;> by_cases q2 : F 2 = b <;> by_cases q3 : F 3 = b <;> simp [f1, f2, f2_6, f2_48, f3, f4, ql, qlo, qhi, own_up, q0, q1, q2, q3]
theorem own_86_1_1 (b : Int32) (F : Nat → Int32) : own_chk 1 1 b F = 1 := by
  unfold own_chk
  simp [f1, f2, f2_6, f2_48, f3, f4, ql, qlo, qhi, own_up]
theorem own_86_1_2 (b : Int32) (F : Nat → Int32) : own_chk 1 2 b F = 1 := by
  unfold own_chk
  by_cases q1 : F 1 = b <;> simp [f1, f2, f2_6, f2_48, f3, f4, ql, qlo, qhi, own_up, q1]
theorem own_86_1_3 (b : Int32) (F : Nat → Int32) : own_chk 1 3 b F = 1 := by
  unfold own_chk
  by_cases q1 : F 1 = b <;> by_cases q2 : F 2 = b <;> simp [f1, f2, f2_6, f2_48, f3, f4, ql, qlo, qhi, own_up, q1, q2]
theorem own_86_1_4 (b : Int32) (F : Nat → Int32) : own_chk 1 4 b F = 1 := by
  unfold own_chk
  by_cases q1 : F 1 = b <;> by_cases q2 : F 2 = b <;> by_cases q3 : F 3 = b <;> simp [f1, f2, f2_6, f2_48, f3, f4, ql, qlo, qhi, own_up, q1, q2, q3]
theorem own_86_2_2 (b : Int32) (F : Nat → Int32) : own_chk 2 2 b F = 1 := by
  unfold own_chk
  simp [f1, f2, f2_6, f2_48, f3, f4, ql, qlo, qhi, own_up]
theorem own_86_2_3 (b : Int32) (F : Nat → Int32) : own_chk 2 3 b F = 1 := by
  unfold own_chk
  by_cases q2 : F 2 = b <;> simp [f1, f2, f2_6, f2_48, f3, f4, ql, qlo, qhi, own_up, q2]
theorem own_86_2_4 (b : Int32) (F : Nat → Int32) : own_chk 2 4 b F = 1 := by
  unfold own_chk
  by_cases q2 : F 2 = b <;> by_cases q3 : F 3 = b <;> simp [f1, f2, f2_6, f2_48, f3, f4, ql, qlo, qhi, own_up, q2, q3]
theorem own_86_3_3 (b : Int32) (F : Nat → Int32) : own_chk 3 3 b F = 1 := by
  unfold own_chk
  simp [f1, f2, f2_6, f2_48, f3, f4, ql, qlo, qhi, own_up]
theorem own_86_3_4 (b : Int32) (F : Nat → Int32) : own_chk 3 4 b F = 1 := by
  unfold own_chk
  by_cases q3 : F 3 = b <;> simp [f1, f2, f2_6, f2_48, f3, f4, ql, qlo, qhi, own_up, q3]
theorem own_86_4_4 (b : Int32) (F : Nat → Int32) : own_chk 4 4 b F = 1 := by
  unfold own_chk
  simp [f1, f2, f2_6, f2_48, f3, f4, ql, qlo, qhi, own_up]
theorem own_86 (p0 p1 p2 p3 p4 g : Int32) (F : Nat → Int32) : f0_86 p0 p1 p2 p3 p4 g F = 1 := by
  show own_chk (vs p0 p1 p2 p3 p4) (ve p0 p1 p2 p3 p4) (vb p0 p1 p2 p3 p4) (vF p0 p1 p2 p3 p4 g F) = 1
  have h1 := own_s p0 p1 p2 p3 p4
  have h2 := own_e p0 p1 p2 p3 p4
  have d1 := own_dec _ h1
  have d2 := own_dec _ (⟨by omega, h2.2⟩ : 0 ≤ (ve p0 p1 p2 p3 p4).toInt ∧ (ve p0 p1 p2 p3 p4).toInt < 5)
  generalize vs p0 p1 p2 p3 p4 = z at *
  generalize ve p0 p1 p2 p3 p4 = w at *
  generalize vb p0 p1 p2 p3 p4 = b
  generalize vF p0 p1 p2 p3 p4 g F = F
  rcases d1 with rfl | rfl | rfl | rfl | rfl
  · rcases d2 with rfl | rfl | rfl | rfl | rfl
    · exact own_86_0_0 b F
    · exact own_86_0_1 b F
    · exact own_86_0_2 b F
    · exact own_86_0_3 b F
    · exact own_86_0_4 b F
  · rcases d2 with rfl | rfl | rfl | rfl | rfl
    · exact absurd h2.1 (by decide)
    · exact own_86_1_1 b F
    · exact own_86_1_2 b F
    · exact own_86_1_3 b F
    · exact own_86_1_4 b F
  · rcases d2 with rfl | rfl | rfl | rfl | rfl
    · exact absurd h2.1 (by decide)
    · exact absurd h2.1 (by decide)
    · exact own_86_2_2 b F
    · exact own_86_2_3 b F
    · exact own_86_2_4 b F
  · rcases d2 with rfl | rfl | rfl | rfl | rfl
    · exact absurd h2.1 (by decide)
    · exact absurd h2.1 (by decide)
    · exact absurd h2.1 (by decide)
    · exact own_86_3_3 b F
    · exact own_86_3_4 b F
  · rcases d2 with rfl | rfl | rfl | rfl | rfl
    · exact absurd h2.1 (by decide)
    · exact absurd h2.1 (by decide)
    · exact absurd h2.1 (by decide)
    · exact absurd h2.1 (by decide)
    · exact own_86_4_4 b F
theorem own_law (p0 p1 p2 p3 p4 : Int32) : f0 p0 p1 p2 p3 p4 = 1 := by
  simp only [f0, f0_25, f0_45, f0_65, own_86, ite_self]
set_option maxRecDepth 65536 in
set_option maxHeartbeats 40000000 in
theorem comes_1 {Post : Tables → Env → Array Value → State → Outcome → State → Prop} (hpost : ∀ tb e args s v u, (limb_1_1.after args s (.returned v) u = true ∧ limb_1_2.after args s (.returned v) u = true ∧ True) → FrameEnd s (.returned v) u (Jvm.fieldLocs frame_1_writes args s ++ Jvm.arrayLocs frame_1_arrays args s ++ Jvm.staticLocs frame_1_statics s) 16 128 → Post tb e args s (.returned v) u) :
    ArmFor flags0 classFile x code maxLocals ret World_1 tables_1 room_1 Calls_1 rest_1 Pre_1 Post := by
  intro l hfl _ _ p e ha hc hk s m args below hf hA hF happ hP
  obtain ⟨hcalls, hrest, hpre⟩ := hP
  obtain ⟨-, -, -, hnamed, -, -, -, hat⟩ := (Spec.applies_iff hf).mp happ
  obtain ⟨hg, hn⟩ := and_e (Cond.before_iff.mp (show (Jvm.Cond.and given_1 narrow_1).before args s = true from hpre))
  obtain ⟨hcnt, g0⟩ := and_e hg
  obtain ⟨t0, g1⟩ := and_e g0
  obtain ⟨t1, g2⟩ := and_e g1
  obtain ⟨t2, g3⟩ := and_e g2
  obtain ⟨t3, g4⟩ := and_e g3
  have t4 := g4
  obtain ⟨w0, w1, w2, w3, w4, rfl⟩ : ∃ w0 w1 w2 w3 w4 : Value, args = #[w0, w1, w2, w3, w4] := by
    have hs : args.size = 5 := by simpa [Cond.value, given_1] using hcnt
    obtain ⟨L⟩ := args
    match L, hs with
    | [w0, w1, w2, w3, w4], _ => exact ⟨w0, w1, w2, w3, w4, rfl⟩
  have hw := fun d (hd : d ∈ tables_1) => atoms_spec (ws := Jvm.Cond.code x code maxLocals ret :: tables_1) hat d (List.mem_cons_of_mem _ hd)
  obtain ⟨i0, ei0⟩ := is_v t0
  obtain rfl : w0 = (.int i0) := Option.some.inj ei0
  obtain ⟨i1, ei1⟩ := is_v t1
  obtain rfl : w1 = (.int i1) := Option.some.inj ei1
  obtain ⟨i2, ei2⟩ := is_v t2
  obtain rfl : w2 = (.int i2) := Option.some.inj ei2
  obtain ⟨i3, ei3⟩ := is_v t3
  obtain rfl : w3 = (.int i3) := Option.some.inj ei3
  obtain ⟨i4, ei4⟩ := is_v t4
  obtain rfl : w4 = (.int i4) := Option.some.inj ei4
  obtain ⟨n, o, h1, h2, h3, v, L, rfl, ⟨hv, N, -⟩, hq⟩ := rm0 l s _ hw tables_1 i0 i1 i2 i3 i4 s.heap s.heap.size (Nat.le_refl _) p e ha hc hk s m _ below hf ((Spec.applies_iff_loose hf).mp happ).1 ⟨rfl, State.Warmed39.refl s, rfl⟩ trivial
  obtain rfl : v = some (.int 1) := by rw [hv, own_law]
  refine ⟨n, _, h1, h2, h3, hpost _ _ _ _ _ _ ⟨Cond.after_iff.mpr rfl, Cond.after_iff.mpr (eq_i res_at (Term.int_eval (1)) rfl), trivial⟩ ⟨hq.1, hq.2.1, (hq.2.2.sift fun y hy => Or.inr (N y hy)).mono (by decide) (by decide)⟩⟩
theorem main_1_1 : Claimed_1_1 := comes_1 fun _ _ _ _ _ _ h hF => ⟨h.1, hF⟩
theorem main_1_2 : Claimed_1_2 := comes_1 fun _ _ _ _ _ _ h hF => ⟨h.2.1, hF⟩
end Jvm.Pilot.@@N@@
namespace Jvm.Pilot.@@N@@
open Jvm Jvm.ClassFile Sem Op Lib Jvm.Free Jvm.Stand Jvm.Pilot.@@N@@.Jvm.D
/-! MADE BY PROGRAM (witnessworld.py) out of the Statement's table words and the real class files: 9 classes; the members and pool entries that the words name. The judged class is class 1, her method 1. -/
namespace start1
open Jvm.ClassFile
def u (s : String) : CpInfo := .utf8 (stringToUtf16 s)
/-- a pool by its gaps: so many unusable entries, then the entry; so many at the end -/
def gap : Nat → List CpInfo → List CpInfo
  | 0, r => r
  | n + 1, r => .unusable :: gap n r
def poolList (es : List (Nat × CpInfo)) (last : Nat) : List CpInfo := es.foldr (fun e r => gap e.1 (e.2 :: r)) (gap last [])
def pool (es : List (Nat × CpInfo)) (last : Nat) : Array CpInfo := ⟨poolList es last⟩
def fileOf (pool : Array CpInfo) (this : Nat) (attrs : Array Attribute := #[]) (ms : Array MethodInfo := #[]) (fl : Nat := 33) (sup : Nat := 0) (ifs : Array Nat := #[]) (fds : Array FieldInfo := #[]) : ClassFile where
  minorVersion := 0
  majorVersion := 65
  constantPool := pool
  accessFlags := fl
  thisClass := this
  superClass := sup
  interfaces := ifs
  fields := fds
  methods := ms
  attributes := attrs
def plain (name : String) (sup : Option ClassId) : Class where
  name := name
  kind := .ordinary
  loader := none
  accessFlags := 33
  super := sup
  interfaces := #[]
  cf := none
  fields := #[]
  methods := #[]
  instanceTypes := #[]
  staticTypes := #[]
  resolved := #[]
  callSites := []
  init := .initialized
  statics := none
  mirror := none

def pool0 : Array CpInfo := pool [(5, u "<init>"), (0, u "()V"), (1, .class_ 10), (1, u "java/lang/Object")] 113

def k0m0 : Method := { name := "<init>", desc := "()V", sig := { parameters := [], returnType := none }, accessFlags := 1, code := none }
/-- java/lang/Object -/
def k0 : Class := { plain "java/lang/Object" none with
  accessFlags := 33
  interfaces := #[]
  cf := some (fileOf pool0 8 #[] #[{ accessFlags := 1, nameIndex := 5, descriptorIndex := 6, attributes := #[] }] 33 0 #[] #[])
  fields := #[]
  methods := #[k0m0]
  instanceTypes := #[]
  staticTypes := #[]
  resolved := Array.replicate 124 none
  statics := none }

def pool1 : Array CpInfo := pool [(2, .class_ 4), (1, u "java/lang/Object"), (0, u "<init>"), (0, u "()V"), (0, .integer 2147483647), (0, .methodref 9 10), (0, .class_ 11), (0, .nameAndType 12 13), (0, u "com/example/cuvette/cuvette/hl7/Er7SplitPinLaw"), (0, u "sepAt"), (0, u "([BIIIB)I"), (0, .methodref 15 16), (0, .class_ 17), (0, .nameAndType 18 19), (0, u "com/example/cuvette/cuvette/hl7/Er7"), (0, u "split"), (0, u "([BIIB)[I"), (0, .methodref 9 21), (0, .nameAndType 22 23), (0, u "piece"), (0, u "([B[IIBII)Z"), (0, .methodref 9 25), (0, .nameAndType 26 27), (0, u "sepIn"), (0, u "([BIIIB)Z"), (2, u "law"), (0, u "(IIIII)Z")] 7

def k1m0 : Method := { name := "<init>", desc := "()V", sig := { parameters := [], returnType := none }, accessFlags := 1, code := none }
def k1c1 : Code := { maxStack := 6, maxLocals := 11, code := code, exceptionTable := #[], attributes := #[] }
def k1m1 : Method := { name := "law", desc := "(IIIII)Z", sig := { parameters := [.int, .int, .int, .int, .int], returnType := some .boolean }, accessFlags := 9, code := some k1c1 }
def k1c2 : Code := { maxStack := 2, maxLocals := 5, code := method_3_code, exceptionTable := #[], attributes := #[] }
def k1m2 : Method := { name := "sepAt", desc := "([BIIIB)I", sig := { parameters := [(.array .byte), .int, .int, .int, .byte], returnType := some .int }, accessFlags := 10, code := some k1c2 }
def k1c3 : Code := { maxStack := 2, maxLocals := 5, code := method_4_code, exceptionTable := #[], attributes := #[] }
def k1m3 : Method := { name := "sepIn", desc := "([BIIIB)Z", sig := { parameters := [(.array .byte), .int, .int, .int, .byte], returnType := some .boolean }, accessFlags := 10, code := some k1c3 }
def k1c4 : Code := { maxStack := 5, maxLocals := 9, code := method_5_code, exceptionTable := #[], attributes := #[] }
def k1m4 : Method := { name := "piece", desc := "([B[IIBII)Z", sig := { parameters := [(.array .byte), (.array .int), .int, .byte, .int, .int], returnType := some .boolean }, accessFlags := 10, code := some k1c4 }
/-- com/example/cuvette/cuvette/hl7/Er7SplitPinLaw -/
def k1 : Class := { plain "com/example/cuvette/cuvette/hl7/Er7SplitPinLaw" (some 0) with
  accessFlags := 49
  interfaces := #[]
  cf := some (fileOf pool1 9 #[] #[{ accessFlags := 1, nameIndex := 5, descriptorIndex := 6, attributes := #[] }, { accessFlags := 9, nameIndex := 30, descriptorIndex := 31, attributes := #[] }, { accessFlags := 10, nameIndex := 12, descriptorIndex := 13, attributes := #[] }, { accessFlags := 10, nameIndex := 26, descriptorIndex := 27, attributes := #[] }, { accessFlags := 10, nameIndex := 22, descriptorIndex := 23, attributes := #[] }] 49 2 #[] #[])
  fields := #[]
  methods := #[k1m0, k1m1, k1m2, k1m3, k1m4]
  instanceTypes := #[]
  staticTypes := #[]
  resolved := Array.replicate 39 none
  statics := none }

def pool2 : Array CpInfo := pool [(2, .class_ 4), (1, u "java/lang/Object"), (0, u "<init>"), (0, u "()V"), (0, .class_ 8), (0, u "com/example/cuvette/cuvette/hl7/Er7"), (12, u "CARRIAGE_RETURN"), (0, u "B"), (2, u "LINE_FEED"), (1, u "HEADER"), (0, u "Ljava/lang/String;"), (9, u "split"), (0, u "([BIIB)[I")] 4

def k2m0 : Method := { name := "<init>", desc := "()V", sig := { parameters := [], returnType := none }, accessFlags := 2, code := none }
def k2c1 : Code := { maxStack := 4, maxLocals := 8, code := prog_25_method_6_code, exceptionTable := #[], attributes := #[] }
def k2m1 : Method := { name := "split", desc := "([BIIB)[I", sig := { parameters := [(.array .byte), .int, .int, .byte], returnType := some (.array .int) }, accessFlags := 8, code := some k2c1 }
/-- com/example/cuvette/cuvette/hl7/Er7 -/
def k2 : Class := { plain "com/example/cuvette/cuvette/hl7/Er7" (some 0) with
  accessFlags := 48
  interfaces := #[]
  cf := some (fileOf pool2 7 #[] #[{ accessFlags := 2, nameIndex := 5, descriptorIndex := 6, attributes := #[] }, { accessFlags := 8, nameIndex := 38, descriptorIndex := 39, attributes := #[] }] 48 2 #[] #[{ accessFlags := 24, nameIndex := 21, descriptorIndex := 22, attributes := #[] }, { accessFlags := 24, nameIndex := 25, descriptorIndex := 22, attributes := #[] }, { accessFlags := 24, nameIndex := 27, descriptorIndex := 28, attributes := #[] }])
  fields := #[{ name := "CARRIAGE_RETURN", type := .byte, accessFlags := 24, slot := 0, constantValue := 0 }, { name := "LINE_FEED", type := .byte, accessFlags := 24, slot := 1, constantValue := 0 }, { name := "HEADER", type := (.object "java/lang/String"), accessFlags := 24, slot := 2, constantValue := 0 }]
  methods := #[k2m0, k2m1]
  instanceTypes := #[]
  staticTypes := #[.byte, .byte, (.object "java/lang/String")]
  resolved := Array.replicate 44 none
  statics := none }

def pool3 : Array CpInfo := pool [(1, u "java/lang/Cloneable"), (0, .class_ 1), (0, u "java/lang/Object"), (0, .class_ 3)] 3

/-- java/lang/Cloneable -/
def k3 : Class := { plain "java/lang/Cloneable" (some 0) with
  accessFlags := 1537
  interfaces := #[]
  cf := some (fileOf pool3 2 #[] #[] 1537 4 #[] #[])
  fields := #[]
  methods := #[]
  instanceTypes := #[]
  staticTypes := #[]
  resolved := Array.replicate 8 none
  statics := none }

def pool4 : Array CpInfo := pool [(1, u "java/io/Serializable"), (0, .class_ 1), (0, u "java/lang/Object"), (0, .class_ 3)] 3

/-- java/io/Serializable -/
def k4 : Class := { plain "java/io/Serializable" (some 0) with
  accessFlags := 1537
  interfaces := #[]
  cf := some (fileOf pool4 2 #[] #[] 1537 4 #[] #[])
  fields := #[]
  methods := #[]
  instanceTypes := #[]
  staticTypes := #[]
  resolved := Array.replicate 8 none
  statics := none }

/-- the primitive byte -/
def k5 : Class := { plain "byte" none with kind := .primitive 'B', accessFlags := 0x411 }
/-- [B -/
def k6 : Class := { plain "[B" (some 0) with kind := .array 5 .byte, interfaces := #[3, 4], accessFlags := 1041 }

/-- the primitive int -/
def k7 : Class := { plain "int" none with kind := .primitive 'I', accessFlags := 0x411 }
/-- [I -/
def k8 : Class := { plain "[I" (some 0) with kind := .array 7 .int, interfaces := #[3, 4], accessFlags := 1041 }

def heap : Heap := #[]
def classes : Array Class := #[k0, k1, k2, k3, k4, k5, k6, k7, k8]
def interned : List (Array UInt16 × Addr) := []
def slotsUsed : Nat := 0
def theMethod : MethodId := ⟨1, 1⟩
def args0 : Array Value := #[.int 5, .int 5, .int 5, .int 5, .int 5]
def aboutOver (below : List Frame) : State where
  vm := { classes := classes, interned := interned.toArray }
  heap := heap
  slotsUsed := slotsUsed
  threads := #[{ frames := .invoking theMethod args0 :: below }]
def below0 : List Frame := [.native { method := ⟨0, 0⟩, args := #[] }]
def about1 : State := aboutOver below0
def p0 : Program := .bare "" "" ""
def e0 : Env := launch0.env 0 0 0
theorem w_frames : about1.frames = Frame.invoking theMethod args0 :: below0 := rfl
set_option maxRecDepth 65536 in
theorem w_args : argsFit about1.vm theMethod args0 = true := by decide +kernel
set_option maxRecDepth 65536 in
theorem w_heap : heapFits about1 = true := by decide +kernel
set_option maxRecDepth 65536 in
theorem w_runnable : about1.curStatus? = some .runnable := by decide +kernel
set_option maxRecDepth 65536 in
theorem w_alone : about1.alone = true := by decide +kernel
set_option maxRecDepth 65536 in
theorem w_named : about1.methodNamed? x = some theMethod := by decide +kernel
set_option maxRecDepth 65536 in
theorem w_hears : about1.hears theMethod below0 = true := by decide +kernel
set_option maxRecDepth 65536 in
theorem w_ripe : about1.ripe theMethod args0 below0 = true := by decide +kernel
theorem w_running : about1.status = .running := rfl
set_option maxRecDepth 65536 in
theorem w_room : about1.hasRoom e0.platform room_1 = true :=
  launch0.hasRoom_least _ room_1 (by decide +kernel) (by decide +kernel) (by decide +kernel) (by decide +kernel) (by decide +kernel) (by decide +kernel)
theorem allAtoms_all (ts : List Jvm.Cond) (a : Array Jvm.Value) (st : Jvm.State) : (allAtoms ts).before a st = ts.all (fun c => c.before a st) := by
  induction ts with
  | nil => rfl
  | cons c t ih =>
    show (Jvm.Cond.and c (allAtoms t)).before a st = _
    rw [Jvm.Cond.before_and, ih, List.all_cons]
def words1 : List Jvm.Cond := Jvm.Cond.code x code maxLocals ret :: tables_1
/-- a 'code' word, met by the world's own term for the bytes: nothing is compared byte by byte -/
theorem code_word {y : MethodName} {bytes : ByteArray} {mx : Nat} {rt : Option FieldType} {a : Array Value} {s : State} {m : MethodId} {meth : Method} {c : Code} (h1 : s.methodNamed? y = some m) (h2 : s.vm.method? m = some meth) (h3 : meth.code = some c) (h4 : c.code = bytes)
    (h5 : (c.maxLocals == mx && c.exceptionTable.isEmpty && decide (c.maxStack ≤ mostOperands) && decide (meth.sig.returnType = rt) && !meth.locks && decide (parseMethodDescriptor y.desc = some meth.sig)) = true) : (Jvm.Cond.code y bytes mx rt).before a s = true := by
  simp only [Bool.and_eq_true, beq_iff_eq, Bool.not_eq_true', decide_eq_true_eq] at h5
  obtain ⟨⟨⟨⟨⟨g1, g2⟩, g3⟩, g4⟩, g5⟩, g6⟩ := h5
  simp [Cond.before, Cond.holds, Cond.value, h1, h2, h3, h4, g1, g2, g3, g4, g5, g6]
def isCode : Jvm.Cond → Bool
  | .code _ _ _ _ => true
  | _ => false
theorem all_split {L : List Jvm.Cond} {P : Jvm.Cond → Bool} (h1 : L.all (fun c => isCode c || P c) = true) (h2 : ∀ c ∈ L.filter isCode, P c = true) : L.all P = true := by
  refine List.all_eq_true.mpr fun c hc => ?_
  have h := List.all_eq_true.mp h1 c hc
  rcases Bool.eq_false_or_eq_true (isCode c) with hi | hi
  · exact h2 c (List.mem_filter.mpr ⟨hc, hi⟩)
  · simpa [hi] using h
set_option maxRecDepth 65536 in
theorem w_c0 : (Jvm.Cond.code x code maxLocals ret).before args0 about1 = true := code_word (m := ⟨1, 1⟩) (meth := k1m1) (c := k1c1) (by decide +kernel) rfl rfl rfl (by decide +kernel)
set_option maxRecDepth 65536 in
theorem w_c1 : (Jvm.Cond.code ({ cls := "com/example/cuvette/cuvette/hl7/Er7SplitPinLaw", name := "sepAt", desc := "([BIIIB)I" } : Jvm.MethodName) method_3_code (5 : Nat) (Option.some Jvm.ClassFile.FieldType.int)).before args0 about1 = true := code_word (m := ⟨1, 2⟩) (meth := k1m2) (c := k1c2) (by decide +kernel) rfl rfl rfl (by decide +kernel)
set_option maxRecDepth 65536 in
theorem w_c2 : (Jvm.Cond.code ({ cls := "com/example/cuvette/cuvette/hl7/Er7", name := "split", desc := "([BIIB)[I" } : Jvm.MethodName) prog_25_method_6_code (8 : Nat) (Option.some (Jvm.ClassFile.FieldType.array Jvm.ClassFile.FieldType.int))).before args0 about1 = true := code_word (m := ⟨2, 1⟩) (meth := k2m1) (c := k2c1) (by decide +kernel) rfl rfl rfl (by decide +kernel)
set_option maxRecDepth 65536 in
theorem w_c3 : (Jvm.Cond.code ({ cls := "com/example/cuvette/cuvette/hl7/Er7SplitPinLaw", name := "piece", desc := "([B[IIBII)Z" } : Jvm.MethodName) method_5_code (9 : Nat) (Option.some Jvm.ClassFile.FieldType.boolean)).before args0 about1 = true := code_word (m := ⟨1, 4⟩) (meth := k1m4) (c := k1c4) (by decide +kernel) rfl rfl rfl (by decide +kernel)
set_option maxRecDepth 65536 in
theorem w_c4 : (Jvm.Cond.code ({ cls := "com/example/cuvette/cuvette/hl7/Er7SplitPinLaw", name := "sepIn", desc := "([BIIIB)Z" } : Jvm.MethodName) method_4_code (5 : Nat) (Option.some Jvm.ClassFile.FieldType.boolean)).before args0 about1 = true := code_word (m := ⟨1, 3⟩) (meth := k1m3) (c := k1c3) (by decide +kernel) rfl rfl rfl (by decide +kernel)
def codes1 : List Jvm.Cond := [Jvm.Cond.code x code maxLocals ret, Jvm.Cond.code ({ cls := "com/example/cuvette/cuvette/hl7/Er7SplitPinLaw", name := "sepAt", desc := "([BIIIB)I" } : Jvm.MethodName) method_3_code (5 : Nat) (Option.some Jvm.ClassFile.FieldType.int), Jvm.Cond.code ({ cls := "com/example/cuvette/cuvette/hl7/Er7", name := "split", desc := "([BIIB)[I" } : Jvm.MethodName) prog_25_method_6_code (8 : Nat) (Option.some (Jvm.ClassFile.FieldType.array Jvm.ClassFile.FieldType.int)), Jvm.Cond.code ({ cls := "com/example/cuvette/cuvette/hl7/Er7SplitPinLaw", name := "piece", desc := "([B[IIBII)Z" } : Jvm.MethodName) method_5_code (9 : Nat) (Option.some Jvm.ClassFile.FieldType.boolean), Jvm.Cond.code ({ cls := "com/example/cuvette/cuvette/hl7/Er7SplitPinLaw", name := "sepIn", desc := "([BIIIB)Z" } : Jvm.MethodName) method_4_code (5 : Nat) (Option.some Jvm.ClassFile.FieldType.boolean)]
set_option maxRecDepth 65536 in
theorem codes_eq : words1.filter isCode = codes1 := rfl
theorem w_codes : ∀ c ∈ words1.filter isCode, c.before args0 about1 = true := by
  rw [codes_eq]
  intro c hc
  simp only [codes1, List.mem_cons, List.not_mem_nil, or_false] at hc
  rcases hc with rfl | rfl | rfl | rfl | rfl
  · exact w_c0
  · exact w_c1
  · exact w_c2
  · exact w_c3
  · exact w_c4
set_option maxRecDepth 65536 in
theorem w_t1 : words1.all (fun c => isCode c || c.before args0 about1) = true := by decide +kernel
theorem w_tables : (allAtoms (Jvm.Cond.code x code maxLocals ret :: tables_1)).before args0 about1 = true := by
  rw [allAtoms_all]
  show words1.all (fun c => c.before args0 about1) = true
  refine all_split ?_ w_codes
  rw [w_t1]
set_option maxRecDepth 65536 in
theorem w_case : (Jvm.Cond.and given_1 narrow_1).before args0 about1 = true := by decide +kernel
theorem w_applies : (headSpec (Jvm.Cond.code x code maxLocals ret :: tables_1) room_1).applies x e0.platform about1 = true :=
  (Spec.applies_iff w_frames).mpr ⟨w_running, w_runnable, w_alone, w_named, w_hears, w_ripe, w_room, w_tables⟩
theorem atStart : AtStart classFile x code maxLocals ret World_1 tables_1 room_1 Calls_1 rest_1 Pre_1 launch0 p0 e0 about1 theMethod args0 below0 :=
  ⟨lists_1, trivial, launch0.admits_env _ _ _, launch0.least_env, fairChoices_fair.cas, fairChoices_fair.clock, w_frames, w_args, w_heap, w_applies, trivial, trivial, w_case⟩
end start1
theorem witness_1 : WitnessClaimed_1 := ⟨start1.p0, start1.e0, start1.about1, start1.theMethod, start1.args0, start1.below0, start1.atStart⟩
end Jvm.Pilot.@@N@@
