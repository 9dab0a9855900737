import JvmDerived
import JvmDerived.Pilot.@@N@@Statement
import JvmDerived.Pilot.@@N@@Code
set_option linter.unusedVariables false
set_option linter.unusedSimpArgs false
@@BLOCK:NumsL.lean.txt@@
namespace Jvm.Pilot.@@N@@
open Jvm Jvm.ClassFile Sem Op Lib Jvm.Free Jvm.Stand Jvm.LawKit Jvm.RoadKit Bundle Jvm.Pilot.@@N@@.Jvm.D
section OwnKit
variable {p : Program} {l : Launch} {e : Env} {R : Room} {s : State} {m : MethodId} {args : Array Value} {below : List Frame} {meth : Method} {c : Code} {T T' : State} {locs : List Loc} {cells slots : Nat}
/-- from here the body comes to its end and leaves what Q says -/
def own_W (p : Program) (e : Env) (below : List Frame) (s : State) (k n : Nat) (Q : Option Value → Heap → List Loc → Prop) (T : State) (f : JFrame) : Prop :=
  ∃ s₂ o, Steps p.tables e below (T.setTop f) s₂ ∧ s₂.status = .running ∧ Ended s₂ below o ∧ ∃ v L, o = .returned v ∧ Q v s₂.heap L ∧ FrameEnd s o s₂ L k n
theorem own_st {k n : Nat} {Q : Option Value → Heap → List Loc → Prop} {f f' : JFrame} (w : own_W p e below s k n Q T' f') (h : ∀ t, Steps p.tables e below (T'.setTop f') t → Steps p.tables e below (T.setTop f) t) : own_W p e below s k n Q T f := by
  obtain ⟨s₂, o, h1, r⟩ := w
  exact ⟨s₂, o, h _ h1, r⟩
theorem own_to {k n : Nat} {Q : Option Value → Heap → List Loc → Prop} {f f' : JFrame} (q : f = f') (w : own_W p e below s k n Q T f') : own_W p e below s k n Q T f := q ▸ w
theorem own_ite {k n : Nat} {α : Type} {G : α → Option Value → Heap → List Loc → Prop} {f : JFrame} {A : Prop} [Decidable A] {x y : α} (h1 : A → own_W p e below s k n (G x) T f) (h2 : ¬ A → own_W p e below s k n (G y) T f) : own_W p e below s k n (G (if A then x else y)) T f := by
  by_cases q : A
  · rw [if_pos q]; exact h1 q
  · rw [if_neg q]; exact h2 q
/-- an int is returned, nothing old is written, the heap is as P says -/
def own_GI (n0 : Nat) (P : Heap → Prop) (r : Int32) (v : Option Value) (h : Heap) (L : List Loc) : Prop := v = some (.int r) ∧ Fr n0 L ∧ P h
def own_GJ (n0 : Nat) (P : Heap → Prop) (r : Int64) (v : Option Value) (h : Heap) (L : List Loc) : Prop := v = some (.long r) ∧ Fr n0 L ∧ P h
theorem own_retI {k n : Nat} {Q : Option Value → Heap → List Loc → Prop} (X : Stand p l e R s m args below meth c T locs cells slots) (hx : p.tables.exec = Jvm.exec) (hlk : meth.locks = false) (hret : meth.sig.returnType = some .int) {pc : Nat} {Ls : Array Slot} {z : Int32} {rest : List Value} (hd : decode c.code pc = .ok (.ireturn, 1)) (hk : cells ≤ k) (hn : slots ≤ n) (q : Q (some (.int z)) T.heap locs) : own_W p e below s k n Q T (mkF m pc Ls (.int z :: rest)) := by
  obtain ⟨fs, hr, hrun, hended, hW, hsame⟩ := X.leave (v := some (.int z)) (fun h => by rw [hret] at h; cases h) hlk
  exact ⟨_, _, retOut X hx hret rfl (Or.inl ⟨rfl, Or.inl rfl, z, rfl⟩) hd hr, hrun, hended, _, _, rfl, q, ⟨_, rfl⟩, hW, hsame.mono hk hn⟩
theorem own_retN {k n : Nat} {Q : Option Value → Heap → List Loc → Prop} (X : Stand p l e R s m args below meth c T locs cells slots) (hx : p.tables.exec = Jvm.exec) (hlk : meth.locks = false) {t : FieldType} (hret : meth.sig.returnType = some t) (ht : t = .boolean ∨ t = .byte ∨ t = .char ∨ t = .short) {pc : Nat} {Ls : Array Slot} {z : Int32} {rest : List Value} (hd : decode c.code pc = .ok (.ireturn, 1)) (hk : cells ≤ k) (hn : slots ≤ n) (q : Q (some (.int (nar t z))) T.heap locs) : own_W p e below s k n Q T (mkF m pc Ls (.int z :: rest)) := by
  obtain ⟨fs, hr, hrun, hended, hW, hsame⟩ := X.leave (v := some (.int (nar t z))) (fun h => by rw [hret] at h; cases h) hlk
  exact ⟨_, _, retN X hx hret ht hd hr, hrun, hended, _, _, rfl, q, ⟨_, rfl⟩, hW, hsame.mono hk hn⟩
theorem own_retJ {k n : Nat} {Q : Option Value → Heap → List Loc → Prop} (X : Stand p l e R s m args below meth c T locs cells slots) (hx : p.tables.exec = Jvm.exec) (hlk : meth.locks = false) (hret : meth.sig.returnType = some .long) {pc : Nat} {Ls : Array Slot} {z : Int64} {rest : List Value} (hd : decode c.code pc = .ok (.lreturn, 1)) (hk : cells ≤ k) (hn : slots ≤ n) (q : Q (some (.long z)) T.heap locs) : own_W p e below s k n Q T (mkF m pc Ls (.long z :: rest)) := by
  obtain ⟨fs, hr, hrun, hended, hW, hsame⟩ := X.leave (v := some (.long z)) (fun h => by rw [hret] at h; cases h) hlk
  exact ⟨_, _, retOut X hx hret rfl (Or.inr (Or.inl ⟨rfl, rfl, z, rfl⟩)) hd hr, hrun, hended, _, _, rfl, q, ⟨_, rfl⟩, hW, hsame.mono hk hn⟩
theorem own_retA {k n : Nat} {Q : Option Value → Heap → List Loc → Prop} (X : Stand p l e R s m args below meth c T locs cells slots) (hx : p.tables.exec = Jvm.exec) (hlk : meth.locks = false) {t : FieldType} (hret : meth.sig.returnType = some t) (ht : t.isReference = true) {pc : Nat} {Ls : Array Slot} {z : Addr} {rest : List Value} (hn' : narrow t (.ref z) = .ref z) (hd : decode c.code pc = .ok (.areturn, 1)) (hk : cells ≤ k) (hn : slots ≤ n) (q : Q (some (.ref z)) T.heap locs) : own_W p e below s k n Q T (mkF m pc Ls (.ref z :: rest)) := by
  obtain ⟨fs, hr, hrun, hended, hW, hsame⟩ := X.leave (v := some (.ref z)) (fun h => by rw [hret] at h; cases h) hlk
  exact ⟨_, _, retOut X hx hret hn' (Or.inr (Or.inr (Or.inr (Or.inr ⟨rfl, ht, rfl⟩)))) hd hr, hrun, hended, _, _, rfl, q, ⟨_, rfl⟩, hW, hsame.mono hk hn⟩
theorem own_retV {k n : Nat} {Q : Option Value → Heap → List Loc → Prop} (X : Stand p l e R s m args below meth c T locs cells slots) (hx : p.tables.exec = Jvm.exec) (hlk : meth.locks = false) (hret : meth.sig.returnType = none) {pc : Nat} {Ls : Array Slot} (hd : decode c.code pc = .ok (.return_, 1)) (hk : cells ≤ k) (hn : slots ≤ n) (q : Q none T.heap locs) : own_W p e below s k n Q T (mkF m pc Ls []) := by
  obtain ⟨fs, hr, hrun, hended, hW, hsame⟩ := X.leave (v := none) (fun _ => rfl) hlk
  exact ⟨_, _, X.returnOut hx hret hd hr, hrun, hended, _, _, rfl, q, ⟨_, rfl⟩, hW, hsame.mono hk hn⟩
end OwnKit
section OwnNums
theorem own_rem {x y : Int32} (hx : 0 ≤ x.toInt) (hy : 0 < y.toInt) : (x - (x / y) * y).toInt = x.toInt % y.toInt := by
  have hd : (x / y).toInt = x.toInt.tdiv y.toInt := Jvm.Kit.i32_div (by omega)
  rw [Int.tdiv_eq_ediv_of_nonneg hx] at hd
  have hxl := Int32.toInt_lt x
  have h1 : y.toInt * (x.toInt / y.toInt) + x.toInt % y.toInt = x.toInt := Int.mul_ediv_add_emod x.toInt y.toInt
  have h2 := Int.emod_nonneg x.toInt (by omega : y.toInt ≠ 0)
  have h3 := Int.emod_lt_of_pos x.toInt hy
  have h4 : (x / y).toInt * y.toInt = x.toInt - x.toInt % y.toInt := by rw [hd, Int.mul_comm]; omega
  have h6 := Int.mul_nonneg (Int.le_of_lt hy) (Int.ediv_nonneg hx (Int.le_of_lt hy))
  have h5 : x.toInt % y.toInt ≤ x.toInt := by omega
  have hm : ((x / y) * y).toInt = x.toInt - x.toInt % y.toInt := by
    rw [Jvm.Kit.i32_mul (by omega) (by omega), h4]
  rw [Jvm.Kit.i32_sub (by omega) (by omega), hm]; omega
theorem own_and31 (x : Int32) : (x &&& (2147483647 : Int32)).toInt = x.toInt % 2147483648 := Jvm.Kit.i32_mask x 2147483647 (k := 31) (by decide) (by decide)
theorem own_i8 (x : Int32) : -128 ≤ (x.toInt8.toInt32).toInt ∧ (x.toInt8.toInt32).toInt < 128 := by
  rw [Int8.toInt_toInt32]
  have h1 := Int8.le_toInt x.toInt8
  have h2 := Int8.toInt_lt x.toInt8
  omega
end OwnNums
section OwnArr
variable {p : Program} {l : Launch} {e : Env} {R : Room} {s : State} {m : MethodId} {args : Array Value} {below : List Frame} {meth : Method} {c : Code} {T T' : State} {locs : List Loc} {cells slots : Nat} {Z : State} {h h' : Heap} {a b : Addr} {n : Nat} {f : Nat → Int32} {ty : FieldType}
/-- an array of n places whose i-th holds f i -/
def own_A (Z : State) (h : Heap) (a : Addr) (ty : FieldType) (n : Nat) (f : Nat → Int32) : Prop := ∃ c : Cell, Arr Z h a c ty ∧ c.slots.size = n ∧ ∀ i, i < n → c.slots[i]? = some (.int (f i))
def own_up (f : Nat → Int32) (j : Nat) (x : Int32) : Nat → Int32 := fun i => if i = j then x else f i
def own_in (j : Int32) (n : Nat) : Prop := ¬ j < 0 ∧ j.toNatClampNeg < n
theorem own_A.lt (A : own_A Z h a ty n f) : a < h.size := by obtain ⟨c, A, -⟩ := A; exact A.lt
theorem own_A.ext (A : own_A Z h a ty n f) (E : Ext h h') : own_A Z h' a ty n f := by obtain ⟨c, A, r⟩ := A; exact ⟨c, A.ext E, r⟩
theorem own_A.keep {ws : List Addr} (A : own_A Z h a ty n f) (K : Keep h h' ws) (q : a ∉ ws) : own_A Z h' a ty n f := by obtain ⟨c, A, r⟩ := A; exact ⟨c, ⟨K.2.1 a c A.1 q, A.2⟩, r⟩
theorem own_A.eq (A : own_A Z h a ty n f) (q : h' = h) : own_A Z h' a ty n f := q ▸ A
theorem own_A.set {j : Nat} {x : Int32} (A : own_A Z h a ty n f) (W : Wr h h' a j (.int x)) : own_A Z h' a ty n (own_up f j x) := by
  obtain ⟨cl, Ar, S, H⟩ := A
  refine ⟨_, Ar.same W, by rw [sz_set]; exact S, fun i hi => ?_⟩
  show (cl.slots.setIfInBounds j (.int x))[i]? = _
  unfold own_up
  by_cases q : i = j
  · subst q
    rw [if_pos rfl, Array.getElem?_setIfInBounds_self_of_lt (by omega)]
  · rw [if_neg q, Array.getElem?_setIfInBounds_ne (fun z => q z.symm)]; exact H i hi
theorem own_bald {k n' : Nat} {Q : Option Value → Heap → List Loc → Prop} (X : Stand p l e R s m args below meth c T locs cells slots) (hx : p.tables.exec = Jvm.exec) (hZ : Z.Warmed39 s.vm) (A : own_A Z T.heap a .byte n f) {j : Int32} (hj : own_in j n) {pc : Nat} {Ls : Array Slot} {rest : List Value} (hd : decode c.code pc = .ok (.baload, 1)) (w : own_W p e below s k n' Q T (mkF m (pc + 1) Ls (.int (f j.toNatClampNeg) :: rest))) : own_W p e below s k n' Q T (mkF m pc Ls (.int j :: .ref a :: rest)) := by
  obtain ⟨cl, Ar, S, H⟩ := A
  refine own_st w (fun t q => X.baloadBytes hx (j := j) (v := .int (f j.toNatClampNeg)) Ar.1 (State.isArrayOf_alike hZ.alike Ar.2.1) Ar.2.2 (fun u => u.elim hj.1 (fun u => absurd hj.2 (by omega))) (H _ hj.2) (g := mkF m pc Ls (.int j :: .ref a :: rest)) rfl rfl hd _ q)
theorem own_iald {k n' : Nat} {Q : Option Value → Heap → List Loc → Prop} (X : Stand p l e R s m args below meth c T locs cells slots) (hx : p.tables.exec = Jvm.exec) (hZ : Z.Warmed39 s.vm) (A : own_A Z T.heap a .int n f) {j : Int32} (hj : own_in j n) {pc : Nat} {Ls : Array Slot} {rest : List Value} (hd : decode c.code pc = .ok (.iaload, 1)) (w : own_W p e below s k n' Q T (mkF m (pc + 1) Ls (.int (f j.toNatClampNeg) :: rest))) : own_W p e below s k n' Q T (mkF m pc Ls (.int j :: .ref a :: rest)) := by
  obtain ⟨cl, Ar, S, H⟩ := A
  refine own_st w (fun t q => X.iaload hx (j := j) (v := .int (f j.toNatClampNeg)) Ar.1 (State.isArrayOf_alike hZ.alike Ar.2.1) Ar.2.2 (fun u => u.elim hj.1 (fun u => absurd hj.2 (by omega))) (H _ hj.2) (g := mkF m pc Ls (.int j :: .ref a :: rest)) rfl rfl hd _ q)
theorem own_alen {k n' : Nat} {Q : Option Value → Heap → List Loc → Prop} (X : Stand p l e R s m args below meth c T locs cells slots) (hx : p.tables.exec = Jvm.exec) (hZ : Z.Warmed39 s.vm) (A : own_A Z T.heap a ty n f) {pc : Nat} {Ls : Array Slot} {rest : List Value} (hd : decode c.code pc = .ok (.arraylength, 1)) (w : own_W p e below s k n' Q T (mkF m (pc + 1) Ls (.int (Int32.ofNat n) :: rest))) : own_W p e below s k n' Q T (mkF m pc Ls (.ref a :: rest)) := by
  obtain ⟨cl, Ar, S, H⟩ := A
  subst S
  exact own_st w (fun t q => X.arraylength hx (cell := cl) Ar.1 (State.isArrayOf_alike hZ.alike Ar.2.1) (g := mkF m pc Ls (.ref a :: rest)) rfl (rest := rest) rfl hd _ q)
theorem own_bast {k n' : Nat} {Q : Option Value → Heap → List Loc → Prop} (X : Stand p l e R s m args below meth c T locs cells slots) (hx : p.tables.exec = Jvm.exec) (hZ : Z.Warmed39 s.vm) (A : own_A Z T.heap a .byte n f) {j x : Int32} (hj : own_in j n) {pc : Nat} {Ls : Array Slot} {rest : List Value} (hd : decode c.code pc = .ok (.bastore, 1)) {n0 : Nat} (N : Fr n0 locs) (g : n0 ≤ a)
    (w : ∀ (T' : State) (locs' : List Loc), Stand p l e R s m args below meth c T' locs' cells slots → Fr n0 locs' → Keep T.heap T'.heap [a] → own_A Z T'.heap a .byte n (own_up f j.toNatClampNeg (nar .byte x)) → own_W p e below s k n' Q T' (mkF m (pc + 1) Ls rest)) : own_W p e below s k n' Q T (mkF m pc Ls (.int x :: .int j :: .ref a :: rest)) := by
  obtain ⟨cl, Ar, S, H⟩ := A
  obtain ⟨T', h', X', e', W', st⟩ := stB X hx hZ rfl Ar (j := j) (x := x) (fun u => u.elim hj.1 (fun u => absurd hj.2 (by omega))) (g := mkF m pc Ls (.int x :: .int j :: .ref a :: rest)) rfl rfl hd
  subst e'
  exact own_st (w T' _ X' (Fr.snoc X' N g) (Keep.of_wr W') (own_A.set ⟨cl, Ar, S, H⟩ W')) (fun t q => st _ q)
theorem own_iast {k n' : Nat} {Q : Option Value → Heap → List Loc → Prop} (X : Stand p l e R s m args below meth c T locs cells slots) (hx : p.tables.exec = Jvm.exec) (hZ : Z.Warmed39 s.vm) (A : own_A Z T.heap a .int n f) {j x : Int32} (hj : own_in j n) {pc : Nat} {Ls : Array Slot} {rest : List Value} (hd : decode c.code pc = .ok (.iastore, 1)) {n0 : Nat} (N : Fr n0 locs) (g : n0 ≤ a)
    (w : ∀ (T' : State) (locs' : List Loc), Stand p l e R s m args below meth c T' locs' cells slots → Fr n0 locs' → Keep T.heap T'.heap [a] → own_A Z T'.heap a .int n (own_up f j.toNatClampNeg x) → own_W p e below s k n' Q T' (mkF m (pc + 1) Ls rest)) : own_W p e below s k n' Q T (mkF m pc Ls (.int x :: .int j :: .ref a :: rest)) := by
  obtain ⟨cl, Ar, S, H⟩ := A
  obtain ⟨T', h', X', e', W', st⟩ := stI X hx hZ rfl Ar (j := j) (x := x) (fun u => u.elim hj.1 (fun u => absurd hj.2 (by omega))) (g := mkF m pc Ls (.int x :: .int j :: .ref a :: rest)) rfl rfl hd
  subst e'
  exact own_st (w T' _ X' (Fr.snoc X' N g) (Keep.of_wr W') (own_A.set ⟨cl, Ar, S, H⟩ W')) (fun t q => st _ q)
theorem own_newB {k n' : Nat} {Q : Option Value → Heap → List Loc → Prop} {a0 : Array Value} (X : Stand p l e R s m args below meth c T locs cells slots) (hx : p.tables.exec = Jvm.exec) (hZ : Z.Warmed39 s.vm) (wd : (Jvm.Cond.arrayClass .byte).before a0 Z = true) {z : Int32} (hz : ¬ z < 0) {cap : Nat} (hcap : z.toNatClampNeg ≤ cap) (hb8 : cap * 8 ≤ 536870912) (hc : cells + 1 ≤ R.cells) (hl : slots + cap ≤ R.slots) {pc : Nat} {Ls : Array Slot} {rest : List Value} (hd : decode c.code pc = .ok (.newarray .byte, 2))
    (w : ∀ (T' : State) (b : Addr), Stand p l e R s m args below meth c T' locs (cells + 1) (slots + cap) → T.heap.size ≤ b → Ext T.heap T'.heap → own_A Z T'.heap b .byte z.toNatClampNeg (fun _ => 0) → own_W p e below s k n' Q T' (mkF m (pc + 2) Ls (.ref b :: rest))) : own_W p e below s k n' Q T (mkF m pc Ls (.int z :: rest)) := by
  obtain ⟨T', h', cA, X', e', E', A', st⟩ := newP X hx hZ (aty := .byte) wd rfl (g := mkF m pc Ls (.int z :: rest)) rfl hd rfl hz hcap hb8 hc hl
  subst e'
  refine own_st (w T' _ X' (Nat.le_refl _) E' ⟨_, A', sz_new _ _ _, fun i hi => ?_⟩) (fun t q => st _ q)
  show (Array.replicate z.toNatClampNeg (defaultValue .byte))[i]? = _
  simp [hi]; rfl
theorem own_newI {k n' : Nat} {Q : Option Value → Heap → List Loc → Prop} {a0 : Array Value} (X : Stand p l e R s m args below meth c T locs cells slots) (hx : p.tables.exec = Jvm.exec) (hZ : Z.Warmed39 s.vm) (wd : (Jvm.Cond.arrayClass .int).before a0 Z = true) {z : Int32} (hz : ¬ z < 0) {cap : Nat} (hcap : z.toNatClampNeg ≤ cap) (hb8 : cap * 8 ≤ 536870912) (hc : cells + 1 ≤ R.cells) (hl : slots + cap ≤ R.slots) {pc : Nat} {Ls : Array Slot} {rest : List Value} (hd : decode c.code pc = .ok (.newarray .int, 2))
    (w : ∀ (T' : State) (b : Addr), Stand p l e R s m args below meth c T' locs (cells + 1) (slots + cap) → T.heap.size ≤ b → Ext T.heap T'.heap → own_A Z T'.heap b .int z.toNatClampNeg (fun _ => 0) → own_W p e below s k n' Q T' (mkF m (pc + 2) Ls (.ref b :: rest))) : own_W p e below s k n' Q T (mkF m pc Ls (.int z :: rest)) := by
  obtain ⟨T', h', cA, X', e', E', A', st⟩ := newP X hx hZ (aty := .int) wd rfl (g := mkF m pc Ls (.int z :: rest)) rfl hd rfl hz hcap hb8 hc hl
  subst e'
  refine own_st (w T' _ X' (Nat.le_refl _) E' ⟨_, A', sz_new _ _ _, fun i hi => ?_⟩) (fun t q => st _ q)
  show (Array.replicate z.toNatClampNeg (defaultValue .int))[i]? = _
  simp [hi]; rfl
end OwnArr
section OwnIdx
theorem own_idx {j e : Int32} {n : Nat} (h0 : ¬ j < 0) (h : j < e) (he : e.toNatClampNeg ≤ n) : own_in j n := by
  refine ⟨h0, ?_⟩
  simp only [Int32.lt_iff_toInt_lt, Int32.toNatClampNeg, Int32.reduceToInt] at *
  omega
theorem own_inc {i e : Int32} (h : i < e) : (i + 1).toInt = i.toInt + 1 := by
  have h1 := Int32.toInt_lt e
  have h2 := Int32.le_toInt i
  have k : (1 : Int32).toInt = 1 := rfl
  rw [Int32.lt_iff_toInt_lt] at h
  rw [Jvm.Kit.i32_add (by omega) (by omega), k]
theorem own_back {i e : Int32} {k : Nat} (h : i < e) (hk : (e.toInt - i.toInt).toNat < k + 1) : (e.toInt - (i + 1).toInt).toNat < k := by
  rw [own_inc h]
  rw [Int32.lt_iff_toInt_lt] at h
  omega
theorem own_nn {i e : Int32} (h : i < e) (h0 : ¬ i < 0) : ¬ (i + 1) < 0 := by
  have k : (0 : Int32).toInt = 0 := rfl
  rw [Int32.lt_iff_toInt_lt, k] at h0 ⊢
  rw [own_inc h]
  omega
end OwnIdx
section OwnIdx2
theorem own_ge {z k : Int32} {j : Nat} (h : ¬ z < k) (hk : k.toInt = j + 1) : j < z.toNatClampNeg := by
  rw [Int32.lt_iff_toInt_lt] at h
  rw [Int32.toNatClampNeg]; omega
theorem own_ofN {n : Nat} (h : n < 2147483648) : (Int32.ofNat n).toInt = n := Int32.toInt_ofNat_of_lt (by omega)
theorem own_ofC {n : Nat} (h : n < 2147483648) : (Int32.ofNat n).toNatClampNeg = n := by rw [Int32.toNatClampNeg, own_ofN h]; omega
theorem own_cof {z : Int32} (h : 0 ≤ z.toInt) : Int32.ofNat z.toNatClampNeg = z := by
  have h2 := Int32.toInt_lt z
  apply Int32.toInt_inj.mp
  rw [Int32.toNatClampNeg, own_ofN (by omega)]; omega
abbrev own_r (p d : Int32) : Int32 := (p &&& (2147483647 : Int32)) - ((p &&& (2147483647 : Int32)) / d) * d
theorem own_rb (p d : Int32) (hd : 0 < d.toInt) : 0 ≤ (own_r p d).toInt ∧ (own_r p d).toInt < d.toInt := by
  have h : (own_r p d).toInt = (p.toInt % 2147483648) % d.toInt := by
    rw [own_rem (by rw [own_and31]; omega) hd, own_and31]
  rw [h]
  exact ⟨Int.emod_nonneg _ (by omega), Int.emod_lt_of_pos _ hd⟩
end OwnIdx2
theorem d1_0 : decode prog_50_method_2_code 0 = .ok (.aload_n 0, 1) := by decide +kernel
theorem d1_1 : decode prog_50_method_2_code 1 = .ok (.astore_n 1, 1) := by decide +kernel
theorem d1_2 : decode prog_50_method_2_code 2 = .ok (.aload_n 1, 1) := by decide +kernel
theorem d1_3 : decode prog_50_method_2_code 3 = .ok (.arraylength, 1) := by decide +kernel
theorem d1_4 : decode prog_50_method_2_code 4 = .ok (.istore_n 2, 1) := by decide +kernel
theorem d1_5 : decode prog_50_method_2_code 5 = .ok (.iconst 0, 1) := by decide +kernel
theorem d1_6 : decode prog_50_method_2_code 6 = .ok (.istore_n 3, 1) := by decide +kernel
theorem d1_7 : decode prog_50_method_2_code 7 = .ok (.iload_n 3, 1) := by decide +kernel
theorem d1_8 : decode prog_50_method_2_code 8 = .ok (.iload_n 2, 1) := by decide +kernel
theorem d1_9 : decode prog_50_method_2_code 9 = .ok (.if_icmp .ge 30, 3) := by decide +kernel
theorem d1_12 : decode prog_50_method_2_code 12 = .ok (.aload_n 1, 1) := by decide +kernel
theorem d1_13 : decode prog_50_method_2_code 13 = .ok (.iload_n 3, 1) := by decide +kernel
theorem d1_14 : decode prog_50_method_2_code 14 = .ok (.baload, 1) := by decide +kernel
theorem d1_15 : decode prog_50_method_2_code 15 = .ok (.istore 4, 2) := by decide +kernel
theorem d1_17 : decode prog_50_method_2_code 17 = .ok (.iload 4, 2) := by decide +kernel
theorem d1_19 : decode prog_50_method_2_code 19 = .ok (.bipush 11, 2) := by decide +kernel
theorem d1_21 : decode prog_50_method_2_code 21 = .ok (.if_icmp .eq 10, 3) := by decide +kernel
theorem d1_24 : decode prog_50_method_2_code 24 = .ok (.iload 4, 2) := by decide +kernel
theorem d1_26 : decode prog_50_method_2_code 26 = .ok (.bipush 28, 2) := by decide +kernel
theorem d1_28 : decode prog_50_method_2_code 28 = .ok (.if_icmp .ne 5, 3) := by decide +kernel
theorem d1_31 : decode prog_50_method_2_code 31 = .ok (.iconst 0, 1) := by decide +kernel
theorem d1_32 : decode prog_50_method_2_code 32 = .ok (.ireturn, 1) := by decide +kernel
theorem d1_33 : decode prog_50_method_2_code 33 = .ok (.iinc 3 1, 3) := by decide +kernel
theorem d1_36 : decode prog_50_method_2_code 36 = .ok (.goto (-29), 3) := by decide +kernel
theorem d1_39 : decode prog_50_method_2_code 39 = .ok (.iconst 1, 1) := by decide +kernel
theorem d1_40 : decode prog_50_method_2_code 40 = .ok (.ireturn, 1) := by decide +kernel
theorem pn_1 : plainFor (⟨"com/example/cuvette/cuvette/mllp/Frames", "canFrame", "([B)Z"⟩ : MethodName) = true := by first | exact plainFor_of_name (by first | (simp [plainName, overriddenIn]; done) | decide +kernel) | decide +kernel
theorem ef_1 (m : MethodId) (x0 : Addr) : entryFrame m #[(.ref x0)] 5 = mkF m 0 #[.val (.ref x0), .unset, .unset, .unset, .unset] [] := by first | (simp [entryFrame, mkF, argsToLocals, Value.category, maxLocals]; done) | rfl
def f1_7 (n : Nat) (F : Nat → Int32) : Nat → Int32 → Int32
  | 0, _ => 0
  | k + 1, g3_7 => (if g3_7 < (Int32.ofNat n) then (if (F g3_7.toNatClampNeg) = (11 : Int32) then (0 : Int32) else (if (F g3_7.toNatClampNeg) = (28 : Int32) then (0 : Int32) else (f1_7 n F k (g3_7 + (1 : Int32))))) else (1 : Int32))
def f1 (n : Nat) (F : Nat → Int32) : Int32 := (f1_7 n F 10 (0 : Int32))
theorem own_cf1 {n : Nat} (h : n ≤ 4) : ((Int32.ofNat n).toInt - (0 : Int32).toInt).toNat < 10 := by
  rw [own_ofN (by omega), show (0 : Int32).toInt = 0 from rfl]; omega
theorem own_cf2 {n : Nat} (h : n ≤ 4) : (Int32.ofNat n).toNatClampNeg ≤ n := by rw [own_ofC (by omega)]; exact Nat.le_refl n
set_option maxRecDepth 65536 in
set_option maxHeartbeats 40000000 in
theorem rm1 (l : Launch) (Z : State) (a0 : Array Value) (hw : ∀ d ∈ tables_1, d.before a0 Z = true) (ws : List Jvm.Cond) (o0 : Addr) (n : Nat) (F : Nat → Int32) (h0 : Heap) (n0 : Nat) (A_o0 : own_A Z h0 o0 .byte n F) (hn : n ≤ 4) :
    MetFree l (⟨"com/example/cuvette/cuvette/mllp/Frames", "canFrame", "([B)Z"⟩ : MethodName) (head1 (Jvm.Cond.code (⟨"com/example/cuvette/cuvette/mllp/Frames", "canFrame", "([B)Z"⟩ : MethodName) prog_50_method_2_code 5 (some .boolean) :: ws) ({ frames := 0, cells := 0, slots := 0, locals := 0 } : Room)) (fun a U => a = #[(.ref o0)] ∧ Z.Warmed39 U.vm ∧ U.heap = h0) (fun _ _ _ _ _ => True) (fun _ U o U' => ∃ v L, o = .returned v ∧ own_GI n0 (fun h => h = h0) (f1 n F) v U'.heap L ∧ FrameEnd U o U' L ({ frames := 0, cells := 0, slots := 0, locals := 0 } : Room).cells ({ frames := 0, cells := 0, slots := 0, locals := 0 } : Room).slots) := by
  refine MetFree.of_bodySF pn_1 hisR ?_
  intro p e s m args below meth c s₁ Bd hml0 hP hK
  obtain ⟨rfl, hZ, hh⟩ := hP
  have hx := Bd.exec
  have hby := Bd.bytes
  have hml : c.maxLocals = 5 := hml0
  have hown : s.vm.findClass "com/example/cuvette/cuvette/mllp/Frames" = some m.cls := findClass_of_methodNamed Bd.named
  have hlk : meth.locks = false := BodyLoose.notSynchronized Bd
  have X0 : Stand p l e ({ frames := 0, cells := 0, slots := 0, locals := 0 } : Room) s m #[(.ref o0)] below meth c s₁ [] 0 0 := Stand.of_body Bd
  have e0 : s₁.heap = h0 := by rw [← hh, Bd.state]; rfl
  have N0 := Fr.nil n0
  have B7 : ∀ (k : Nat) (T : State) (locs : List Loc) (g3_7 : Int32) (s4_7 : Slot) (X : Stand p l e ({ frames := 0, cells := 0, slots := 0, locals := 0 } : Room) s m #[(.ref o0)] below meth c T locs 0 0) (N : Fr n0 locs) (eh : T.heap = h0) (hk : ((Int32.ofNat n).toInt - g3_7.toInt).toNat < k) (hi : ¬ g3_7 < 0) (hs4_7 : s4_7 = .unset ∨ ∃ w, s4_7 = .val w ∧ w.category = 1), own_W p e below s 0 0 (own_GI n0 (fun h => h = h0) (f1_7 n F k g3_7)) T (mkF m 7 #[.val (.ref o0), .val (.ref o0), .val (.int (Int32.ofNat n)), .val (.int g3_7), s4_7] []) := by
    intro k
    induction k with
    | zero =>
      intro T locs g3_7 s4_7 X N eh hk hi hs4_7
      exact absurd hk (Nat.not_lt_zero _)
    | succ k ih =>
      intro T locs g3_7 s4_7 X N eh hk hi hs4_7
      rw [f1_7]
      refine own_st (T' := T) (f' := (mkF m 8 #[.val (.ref o0), .val (.ref o0), .val (.int (Int32.ofNat n)), .val (.int g3_7), s4_7] [(.int g3_7)])) ?_ (fun t q => XS.iloadN X.here hx rfl (hb hby d1_7) rfl q)
      refine own_st (T' := T) (f' := (mkF m 9 #[.val (.ref o0), .val (.ref o0), .val (.int (Int32.ofNat n)), .val (.int g3_7), s4_7] [(.int (Int32.ofNat n)), (.int g3_7)])) ?_ (fun t q => XS.iloadN X.here hx rfl (hb hby d1_8) rfl q)
      refine own_ite (fun hc9 => ?_) (fun hc9 => ?_)
      · refine own_st (T' := T) (f' := (mkF m 12 #[.val (.ref o0), .val (.ref o0), .val (.int (Int32.ofNat n)), .val (.int g3_7), s4_7] [])) ?_ (fun t q => XS.icmpNo X.here hx rfl (hb hby d1_9) rfl (tlt hc9).2.1 q)
        refine own_st (T' := T) (f' := (mkF m 13 #[.val (.ref o0), .val (.ref o0), .val (.int (Int32.ofNat n)), .val (.int g3_7), s4_7] [(.ref o0)])) ?_ (fun t q => XS.aloadN X.here hx rfl (hb hby d1_12) rfl rfl q)
        refine own_st (T' := T) (f' := (mkF m 14 #[.val (.ref o0), .val (.ref o0), .val (.int (Int32.ofNat n)), .val (.int g3_7), s4_7] [(.int g3_7), (.ref o0)])) ?_ (fun t q => XS.iloadN X.here hx rfl (hb hby d1_13) rfl q)
        refine own_bald X hx hZ (own_A.eq A_o0 eh) (j := g3_7) (own_idx hi hc9 (own_cf2 hn)) (hb hby d1_14) ?_
        show own_W _ _ _ _ _ _ _ T (mkF m 15 #[.val (.ref o0), .val (.ref o0), .val (.int (Int32.ofNat n)), .val (.int g3_7), s4_7] [(.int (F g3_7.toNatClampNeg))])
        refine own_st (T' := T) (f' := (mkF m 17 #[.val (.ref o0), .val (.ref o0), .val (.int (Int32.ofNat n)), .val (.int g3_7), .val (.int (F g3_7.toNatClampNeg))] [])) ?_ (fun t q => XS.istoreS X.here hx rfl (hb hby d1_15) rfl rfl hs4_7 q)
        refine own_st (T' := T) (f' := (mkF m 19 #[.val (.ref o0), .val (.ref o0), .val (.int (Int32.ofNat n)), .val (.int g3_7), .val (.int (F g3_7.toNatClampNeg))] [(.int (F g3_7.toNatClampNeg))])) ?_ (fun t q => XS.iload X.here hx rfl (hb hby d1_17) rfl q)
        refine own_st (T' := T) (f' := (mkF m 21 #[.val (.ref o0), .val (.ref o0), .val (.int (Int32.ofNat n)), .val (.int g3_7), .val (.int (F g3_7.toNatClampNeg))] [(.int (11 : Int32)), (.int (F g3_7.toNatClampNeg))])) ?_ (fun t q => XS.bipush X.here hx rfl (hb hby d1_19) q)
        refine own_ite (fun hc21 => ?_) (fun hc21 => ?_)
        · refine own_st (T' := T) (f' := (mkF m 31 #[.val (.ref o0), .val (.ref o0), .val (.int (Int32.ofNat n)), .val (.int g3_7), .val (.int (F g3_7.toNatClampNeg))] [])) ?_ (fun t q => XS.icmpYes X.here hx rfl (pc0 := 21) (pc' := 31) rfl (hb hby d1_21) rfl (teq hc21).1 (by decide) (by decide) q)
          refine own_st (T' := T) (f' := (mkF m 32 #[.val (.ref o0), .val (.ref o0), .val (.int (Int32.ofNat n)), .val (.int g3_7), .val (.int (F g3_7.toNatClampNeg))] [(.int (0 : Int32))])) ?_ (fun t q => XS.iconst X.here hx rfl (hb hby d1_31) q)
          exact own_retN X hx hlk (t := .boolean) Bd.returns (by simp) (hb hby d1_32) (by decide) (by decide) ⟨rfl, N, eh⟩
        · refine own_st (T' := T) (f' := (mkF m 24 #[.val (.ref o0), .val (.ref o0), .val (.int (Int32.ofNat n)), .val (.int g3_7), .val (.int (F g3_7.toNatClampNeg))] [])) ?_ (fun t q => XS.icmpNo X.here hx rfl (hb hby d1_21) rfl (feq hc21).1 q)
          refine own_st (T' := T) (f' := (mkF m 26 #[.val (.ref o0), .val (.ref o0), .val (.int (Int32.ofNat n)), .val (.int g3_7), .val (.int (F g3_7.toNatClampNeg))] [(.int (F g3_7.toNatClampNeg))])) ?_ (fun t q => XS.iload X.here hx rfl (hb hby d1_24) rfl q)
          refine own_st (T' := T) (f' := (mkF m 28 #[.val (.ref o0), .val (.ref o0), .val (.int (Int32.ofNat n)), .val (.int g3_7), .val (.int (F g3_7.toNatClampNeg))] [(.int (28 : Int32)), (.int (F g3_7.toNatClampNeg))])) ?_ (fun t q => XS.bipush X.here hx rfl (hb hby d1_26) q)
          refine own_ite (fun hc28 => ?_) (fun hc28 => ?_)
          · refine own_st (T' := T) (f' := (mkF m 31 #[.val (.ref o0), .val (.ref o0), .val (.int (Int32.ofNat n)), .val (.int g3_7), .val (.int (F g3_7.toNatClampNeg))] [])) ?_ (fun t q => XS.icmpNo X.here hx rfl (hb hby d1_28) rfl (teq hc28).2 q)
            refine own_st (T' := T) (f' := (mkF m 32 #[.val (.ref o0), .val (.ref o0), .val (.int (Int32.ofNat n)), .val (.int g3_7), .val (.int (F g3_7.toNatClampNeg))] [(.int (0 : Int32))])) ?_ (fun t q => XS.iconst X.here hx rfl (hb hby d1_31) q)
            exact own_retN X hx hlk (t := .boolean) Bd.returns (by simp) (hb hby d1_32) (by decide) (by decide) ⟨rfl, N, eh⟩
          · refine own_st (T' := T) (f' := (mkF m 33 #[.val (.ref o0), .val (.ref o0), .val (.int (Int32.ofNat n)), .val (.int g3_7), .val (.int (F g3_7.toNatClampNeg))] [])) ?_ (fun t q => XS.icmpYes X.here hx rfl (pc0 := 28) (pc' := 33) rfl (hb hby d1_28) rfl (feq hc28).2 (by decide) (by decide) q)
            refine own_st (T' := T) (f' := (mkF m 36 #[.val (.ref o0), .val (.ref o0), .val (.int (Int32.ofNat n)), .val (.int (g3_7 + (1 : Int32))), .val (.int (F g3_7.toNatClampNeg))] [])) ?_ (fun t q => XS.iinc X.here hx rfl (hb hby d1_33) rfl (l' := #[.val (.ref o0), .val (.ref o0), .val (.int (Int32.ofNat n)), .val (.int (g3_7 + (1 : Int32))), .val (.int (F g3_7.toNatClampNeg))]) rfl q)
            refine own_st (T' := T) (f' := (mkF m 7 #[.val (.ref o0), .val (.ref o0), .val (.int (Int32.ofNat n)), .val (.int (g3_7 + (1 : Int32))), .val (.int (F g3_7.toNatClampNeg))] [])) ?_ (fun t q => XS.goto X.here hx rfl (pc0 := 36) (pc' := 7) rfl (hb hby d1_36) (by decide) (by decide) q)
            exact ih T _ (g3_7 + (1 : Int32)) (.val (.int (F g3_7.toNatClampNeg))) X N eh (own_back hc9 hk) (own_nn hc9 hi) (Or.inr ⟨_, rfl, rfl⟩)
      · refine own_st (T' := T) (f' := (mkF m 39 #[.val (.ref o0), .val (.ref o0), .val (.int (Int32.ofNat n)), .val (.int g3_7), s4_7] [])) ?_ (fun t q => XS.icmpYes X.here hx rfl (pc0 := 9) (pc' := 39) rfl (hb hby d1_9) rfl (flt hc9).2.1 (by decide) (by decide) q)
        refine own_st (T' := T) (f' := (mkF m 40 #[.val (.ref o0), .val (.ref o0), .val (.int (Int32.ofNat n)), .val (.int g3_7), s4_7] [(.int (1 : Int32))])) ?_ (fun t q => XS.iconst X.here hx rfl (hb hby d1_39) q)
        exact own_retN X hx hlk (t := .boolean) Bd.returns (by simp) (hb hby d1_40) (by decide) (by decide) ⟨rfl, N, eh⟩
  show own_W p e below s 0 0 (own_GI n0 (fun h => h = h0) (f1 n F)) s₁ (entryFrame m #[(.ref o0)] 5)
  refine own_to (ef_1 m o0) ?_
  unfold f1
  refine own_st (T' := s₁) (f' := (mkF m 1 #[.val (.ref o0), .unset, .unset, .unset, .unset] [(.ref o0)])) ?_ (fun t q => XS.aloadN X0.here hx rfl (hb hby d1_0) rfl rfl q)
  refine own_st (T' := s₁) (f' := (mkF m 2 #[.val (.ref o0), .val (.ref o0), .unset, .unset, .unset] [])) ?_ (fun t q => XS.astoreN X0.here hx rfl (hb hby d1_1) rfl rfl (l' := #[.val (.ref o0), .val (.ref o0), .unset, .unset, .unset]) rfl q)
  refine own_st (T' := s₁) (f' := (mkF m 3 #[.val (.ref o0), .val (.ref o0), .unset, .unset, .unset] [(.ref o0)])) ?_ (fun t q => XS.aloadN X0.here hx rfl (hb hby d1_2) rfl rfl q)
  refine own_alen X0 hx hZ (own_A.eq A_o0 e0) (hb hby d1_3) ?_
  show own_W _ _ _ _ _ _ _ s₁ (mkF m 4 #[.val (.ref o0), .val (.ref o0), .unset, .unset, .unset] [(.int (Int32.ofNat n))])
  refine own_st (T' := s₁) (f' := (mkF m 5 #[.val (.ref o0), .val (.ref o0), .val (.int (Int32.ofNat n)), .unset, .unset] [])) ?_ (fun t q => XS.istoreN X0.here hx rfl (hb hby d1_4) rfl (l' := #[.val (.ref o0), .val (.ref o0), .val (.int (Int32.ofNat n)), .unset, .unset]) rfl q)
  refine own_st (T' := s₁) (f' := (mkF m 6 #[.val (.ref o0), .val (.ref o0), .val (.int (Int32.ofNat n)), .unset, .unset] [(.int (0 : Int32))])) ?_ (fun t q => XS.iconst X0.here hx rfl (hb hby d1_5) q)
  refine own_st (T' := s₁) (f' := (mkF m 7 #[.val (.ref o0), .val (.ref o0), .val (.int (Int32.ofNat n)), .val (.int (0 : Int32)), .unset] [])) ?_ (fun t q => XS.istoreN X0.here hx rfl (hb hby d1_6) rfl (l' := #[.val (.ref o0), .val (.ref o0), .val (.int (Int32.ofNat n)), .val (.int (0 : Int32)), .unset]) rfl q)
  exact B7 10 s₁ _ (0 : Int32) (.unset) X0 N0 e0 (own_cf1 hn) (by decide) (Or.inl rfl)
theorem d2_0 : decode method_2_code 0 = .ok (.iload_n 0, 1) := by decide +kernel
theorem d2_1 : decode method_2_code 1 = .ok (.sipush 255, 3) := by decide +kernel
theorem d2_4 : decode method_2_code 4 = .ok (.iand, 1) := by decide +kernel
theorem d2_5 : decode method_2_code 5 = .ok (.istore_n 1, 1) := by decide +kernel
theorem d2_6 : decode method_2_code 6 = .ok (.iload_n 1, 1) := by decide +kernel
theorem d2_7 : decode method_2_code 7 = .ok (.bipush 11, 2) := by decide +kernel
theorem d2_9 : decode method_2_code 9 = .ok (.if_icmp .eq 9, 3) := by decide +kernel
theorem d2_12 : decode method_2_code 12 = .ok (.iload_n 1, 1) := by decide +kernel
theorem d2_13 : decode method_2_code 13 = .ok (.bipush 28, 2) := by decide +kernel
theorem d2_15 : decode method_2_code 15 = .ok (.if_icmp .ne 7, 3) := by decide +kernel
theorem d2_18 : decode method_2_code 18 = .ok (.iconst 1, 1) := by decide +kernel
theorem d2_19 : decode method_2_code 19 = .ok (.goto 4, 3) := by decide +kernel
theorem d2_22 : decode method_2_code 22 = .ok (.iconst 0, 1) := by decide +kernel
theorem d2_23 : decode method_2_code 23 = .ok (.ireturn, 1) := by decide +kernel
theorem pn_2 : plainFor (⟨"com/example/cuvette/cuvette/mllp/FramesCanFramePinLaw", "isBlock", "(I)Z"⟩ : MethodName) = true := by first | exact plainFor_of_name (by first | (simp [plainName, overriddenIn]; done) | decide +kernel) | decide +kernel
theorem ef_2 (m : MethodId) (x0 : Int32) : entryFrame m #[(.int x0)] 2 = mkF m 0 #[.val (.int x0), .unset] [] := by first | (simp [entryFrame, mkF, argsToLocals, Value.category, maxLocals]; done) | rfl
def f2 (p0 : Int32) : Int32 := (if (p0 &&& (255 : Int32)) = (11 : Int32) then (1 : Int32) else (if (p0 &&& (255 : Int32)) = (28 : Int32) then (1 : Int32) else (0 : Int32)))
set_option maxRecDepth 65536 in
set_option maxHeartbeats 40000000 in
theorem rm2 (l : Launch) (Z : State) (a0 : Array Value) (hw : ∀ d ∈ tables_1, d.before a0 Z = true) (ws : List Jvm.Cond) (p0 : Int32) (h0 : Heap) (n0 : Nat) :
    MetFree l (⟨"com/example/cuvette/cuvette/mllp/FramesCanFramePinLaw", "isBlock", "(I)Z"⟩ : MethodName) (head1 (Jvm.Cond.code (⟨"com/example/cuvette/cuvette/mllp/FramesCanFramePinLaw", "isBlock", "(I)Z"⟩ : MethodName) method_2_code 2 (some .boolean) :: ws) ({ frames := 0, cells := 0, slots := 0, locals := 0 } : Room)) (fun a U => a = #[(.int p0)] ∧ Z.Warmed39 U.vm ∧ U.heap = h0) (fun _ _ _ _ _ => True) (fun _ U o U' => ∃ v L, o = .returned v ∧ own_GI n0 (fun h => h = h0) (f2 p0) v U'.heap L ∧ FrameEnd U o U' L ({ frames := 0, cells := 0, slots := 0, locals := 0 } : Room).cells ({ frames := 0, cells := 0, slots := 0, locals := 0 } : Room).slots) := by
  refine MetFree.of_bodySF pn_2 hisR ?_
  intro p e s m args below meth c s₁ Bd hml0 hP hK
  obtain ⟨rfl, hZ, hh⟩ := hP
  have hx := Bd.exec
  have hby := Bd.bytes
  have hml : c.maxLocals = 2 := hml0
  have hown : s.vm.findClass "com/example/cuvette/cuvette/mllp/FramesCanFramePinLaw" = some m.cls := findClass_of_methodNamed Bd.named
  have hlk : meth.locks = false := BodyLoose.notSynchronized Bd
  have X0 : Stand p l e ({ frames := 0, cells := 0, slots := 0, locals := 0 } : Room) s m #[(.int p0)] below meth c s₁ [] 0 0 := Stand.of_body Bd
  have e0 : s₁.heap = h0 := by rw [← hh, Bd.state]; rfl
  have N0 := Fr.nil n0
  show own_W p e below s 0 0 (own_GI n0 (fun h => h = h0) (f2 p0)) s₁ (entryFrame m #[(.int p0)] 2)
  refine own_to (ef_2 m p0) ?_
  unfold f2
  refine own_st (T' := s₁) (f' := (mkF m 1 #[.val (.int p0), .unset] [(.int p0)])) ?_ (fun t q => XS.iloadN X0.here hx rfl (hb hby d2_0) rfl q)
  refine own_st (T' := s₁) (f' := (mkF m 4 #[.val (.int p0), .unset] [(.int (255 : Int32)), (.int p0)])) ?_ (fun t q => XS.sipush X0.here hx rfl (hb hby d2_1) q)
  refine own_st (T' := s₁) (f' := (mkF m 5 #[.val (.int p0), .unset] [(.int (p0 &&& (255 : Int32)))])) ?_ (fun t q => XS.iand X0.here hx rfl (hb hby d2_4) rfl q)
  refine own_st (T' := s₁) (f' := (mkF m 6 #[.val (.int p0), .val (.int (p0 &&& (255 : Int32)))] [])) ?_ (fun t q => XS.istoreN X0.here hx rfl (hb hby d2_5) rfl (l' := #[.val (.int p0), .val (.int (p0 &&& (255 : Int32)))]) rfl q)
  refine own_st (T' := s₁) (f' := (mkF m 7 #[.val (.int p0), .val (.int (p0 &&& (255 : Int32)))] [(.int (p0 &&& (255 : Int32)))])) ?_ (fun t q => XS.iloadN X0.here hx rfl (hb hby d2_6) rfl q)
  refine own_st (T' := s₁) (f' := (mkF m 9 #[.val (.int p0), .val (.int (p0 &&& (255 : Int32)))] [(.int (11 : Int32)), (.int (p0 &&& (255 : Int32)))])) ?_ (fun t q => XS.bipush X0.here hx rfl (hb hby d2_7) q)
  refine own_ite (fun hc9 => ?_) (fun hc9 => ?_)
  · refine own_st (T' := s₁) (f' := (mkF m 18 #[.val (.int p0), .val (.int (p0 &&& (255 : Int32)))] [])) ?_ (fun t q => XS.icmpYes X0.here hx rfl (pc0 := 9) (pc' := 18) rfl (hb hby d2_9) rfl (teq hc9).1 (by decide) (by decide) q)
    refine own_st (T' := s₁) (f' := (mkF m 19 #[.val (.int p0), .val (.int (p0 &&& (255 : Int32)))] [(.int (1 : Int32))])) ?_ (fun t q => XS.iconst X0.here hx rfl (hb hby d2_18) q)
    refine own_st (T' := s₁) (f' := (mkF m 23 #[.val (.int p0), .val (.int (p0 &&& (255 : Int32)))] [(.int (1 : Int32))])) ?_ (fun t q => XS.goto X0.here hx rfl (pc0 := 19) (pc' := 23) rfl (hb hby d2_19) (by decide) (by decide) q)
    exact own_retN X0 hx hlk (t := .boolean) Bd.returns (by simp) (hb hby d2_23) (by decide) (by decide) ⟨rfl, N0, e0⟩
  · refine own_st (T' := s₁) (f' := (mkF m 12 #[.val (.int p0), .val (.int (p0 &&& (255 : Int32)))] [])) ?_ (fun t q => XS.icmpNo X0.here hx rfl (hb hby d2_9) rfl (feq hc9).1 q)
    refine own_st (T' := s₁) (f' := (mkF m 13 #[.val (.int p0), .val (.int (p0 &&& (255 : Int32)))] [(.int (p0 &&& (255 : Int32)))])) ?_ (fun t q => XS.iloadN X0.here hx rfl (hb hby d2_12) rfl q)
    refine own_st (T' := s₁) (f' := (mkF m 15 #[.val (.int p0), .val (.int (p0 &&& (255 : Int32)))] [(.int (28 : Int32)), (.int (p0 &&& (255 : Int32)))])) ?_ (fun t q => XS.bipush X0.here hx rfl (hb hby d2_13) q)
    refine own_ite (fun hc15 => ?_) (fun hc15 => ?_)
    · refine own_st (T' := s₁) (f' := (mkF m 18 #[.val (.int p0), .val (.int (p0 &&& (255 : Int32)))] [])) ?_ (fun t q => XS.icmpNo X0.here hx rfl (hb hby d2_15) rfl (teq hc15).2 q)
      refine own_st (T' := s₁) (f' := (mkF m 19 #[.val (.int p0), .val (.int (p0 &&& (255 : Int32)))] [(.int (1 : Int32))])) ?_ (fun t q => XS.iconst X0.here hx rfl (hb hby d2_18) q)
      refine own_st (T' := s₁) (f' := (mkF m 23 #[.val (.int p0), .val (.int (p0 &&& (255 : Int32)))] [(.int (1 : Int32))])) ?_ (fun t q => XS.goto X0.here hx rfl (pc0 := 19) (pc' := 23) rfl (hb hby d2_19) (by decide) (by decide) q)
      exact own_retN X0 hx hlk (t := .boolean) Bd.returns (by simp) (hb hby d2_23) (by decide) (by decide) ⟨rfl, N0, e0⟩
    · refine own_st (T' := s₁) (f' := (mkF m 22 #[.val (.int p0), .val (.int (p0 &&& (255 : Int32)))] [])) ?_ (fun t q => XS.icmpYes X0.here hx rfl (pc0 := 15) (pc' := 22) rfl (hb hby d2_15) rfl (feq hc15).2 (by decide) (by decide) q)
      refine own_st (T' := s₁) (f' := (mkF m 23 #[.val (.int p0), .val (.int (p0 &&& (255 : Int32)))] [(.int (0 : Int32))])) ?_ (fun t q => XS.iconst X0.here hx rfl (hb hby d2_22) q)
      exact own_retN X0 hx hlk (t := .boolean) Bd.returns (by simp) (hb hby d2_23) (by decide) (by decide) ⟨rfl, N0, e0⟩
theorem pd_0 : parseMethodDescriptor "(I)Z" = some ⟨[.int], some .boolean⟩ := by decide +kernel
theorem pd_1 : parseMethodDescriptor "([B)Z" = some ⟨[(.array .byte)], some .boolean⟩ := by decide +kernel
theorem pn_0 : plainFor x = true := by first | exact plainFor_of_name (by first | (simp [plainName, overriddenIn]; done) | decide +kernel) | decide +kernel
theorem ef_0 (m : MethodId) (x0 : Int32) (x1 : Int32) (x2 : Int32) (x3 : Int32) (x4 : Int32) : entryFrame m #[(.int x0), (.int x1), (.int x2), (.int x3), (.int x4)] maxLocals = mkF m 0 #[.val (.int x0), .val (.int x1), .val (.int x2), .val (.int x3), .val (.int x4), .unset, .unset, .unset, .unset, .unset] [] := by first | (simp [entryFrame, mkF, argsToLocals, Value.category, maxLocals]; done) | rfl
def vl (p0 : Int32) (p1 : Int32) (p2 : Int32) (p3 : Int32) (p4 : Int32) : Int32 := ((p0 &&& (2147483647 : Int32)) - ((p0 &&& (2147483647 : Int32)) / (5 : Int32)) * (5 : Int32))
def f0_210 (p0 : Int32) (p1 : Int32) (p2 : Int32) (p3 : Int32) (p4 : Int32) (g7_210 : Int32) (g8_210 : Int32) (g100_210 : Int32) (F6_210 : Nat → Int32) : Int32 := (if g8_210 = g7_210 then (if g100_210 = (0 : Int32) then (0 : Int32) else (1 : Int32)) else (0 : Int32))
def f0_209 (p0 : Int32) (p1 : Int32) (p2 : Int32) (p3 : Int32) (p4 : Int32) (g7_209 : Int32) (g8_209 : Int32) (F6_209 : Nat → Int32) : Int32 := (f0_210 p0 p1 p2 p3 p4 g7_209 g8_209 (0 : Int32) F6_209)
def f0_205 (p0 : Int32) (p1 : Int32) (p2 : Int32) (p3 : Int32) (p4 : Int32) (g7_205 : Int32) (g8_205 : Int32) (F6_205 : Nat → Int32) : Int32 := (f0_210 p0 p1 p2 p3 p4 g7_205 g8_205 (1 : Int32) F6_205)
def f0_189 (p0 : Int32) (p1 : Int32) (p2 : Int32) (p3 : Int32) (p4 : Int32) (g7_189 : Int32) (g8_189 : Int32) (F6_189 : Nat → Int32) : Int32 := (if (vl p0 p1 p2 p3 p4) < (4 : Int32) then (f0_205 p0 p1 p2 p3 p4 g7_189 g8_189 F6_189) else (if (F6_189 3) = (p4.toInt8.toInt32) then (f0_205 p0 p1 p2 p3 p4 g7_189 g8_189 F6_189) else (f0_209 p0 p1 p2 p3 p4 g7_189 g8_189 F6_189)))
def f0_174 (p0 : Int32) (p1 : Int32) (p2 : Int32) (p3 : Int32) (p4 : Int32) (g7_174 : Int32) (g8_174 : Int32) (F6_174 : Nat → Int32) : Int32 := (if (vl p0 p1 p2 p3 p4) < (3 : Int32) then (f0_189 p0 p1 p2 p3 p4 g7_174 g8_174 F6_174) else (if (F6_174 2) = (p3.toInt8.toInt32) then (f0_189 p0 p1 p2 p3 p4 g7_174 g8_174 F6_174) else (f0_209 p0 p1 p2 p3 p4 g7_174 g8_174 F6_174)))
def f0_159 (p0 : Int32) (p1 : Int32) (p2 : Int32) (p3 : Int32) (p4 : Int32) (g7_159 : Int32) (g8_159 : Int32) (F6_159 : Nat → Int32) : Int32 := (if (vl p0 p1 p2 p3 p4) < (2 : Int32) then (f0_174 p0 p1 p2 p3 p4 g7_159 g8_159 F6_159) else (if (F6_159 1) = (p2.toInt8.toInt32) then (f0_174 p0 p1 p2 p3 p4 g7_159 g8_159 F6_159) else (f0_209 p0 p1 p2 p3 p4 g7_159 g8_159 F6_159)))
def f0_129 (p0 : Int32) (p1 : Int32) (p2 : Int32) (p3 : Int32) (p4 : Int32) (g7_129 : Int32) (F6_129 : Nat → Int32) : Int32 := (if (Int32.ofNat (vl p0 p1 p2 p3 p4).toNatClampNeg) = (vl p0 p1 p2 p3 p4) then (if (vl p0 p1 p2 p3 p4) < (1 : Int32) then (f0_159 p0 p1 p2 p3 p4 g7_129 (f1  (vl p0 p1 p2 p3 p4).toNatClampNeg F6_129) F6_129) else (if (F6_129 0) = (p1.toInt8.toInt32) then (f0_159 p0 p1 p2 p3 p4 g7_129 (f1  (vl p0 p1 p2 p3 p4).toNatClampNeg F6_129) F6_129) else (f0_209 p0 p1 p2 p3 p4 g7_129 (f1  (vl p0 p1 p2 p3 p4).toNatClampNeg F6_129) F6_129))) else (f0_209 p0 p1 p2 p3 p4 g7_129 (f1  (vl p0 p1 p2 p3 p4).toNatClampNeg F6_129) F6_129))
def f0_112 (p0 : Int32) (p1 : Int32) (p2 : Int32) (p3 : Int32) (p4 : Int32) (g7_112 : Int32) (F6_112 : Nat → Int32) : Int32 := (if (3 : Int32) < (vl p0 p1 p2 p3 p4) then (if (f2 p4) = (0 : Int32) then (f0_129 p0 p1 p2 p3 p4 g7_112 F6_112) else (f0_129 p0 p1 p2 p3 p4 (0 : Int32) F6_112)) else (f0_129 p0 p1 p2 p3 p4 g7_112 F6_112))
def f0_96 (p0 : Int32) (p1 : Int32) (p2 : Int32) (p3 : Int32) (p4 : Int32) (g7_96 : Int32) (F6_96 : Nat → Int32) : Int32 := (if (2 : Int32) < (vl p0 p1 p2 p3 p4) then (if (f2 p3) = (0 : Int32) then (f0_112 p0 p1 p2 p3 p4 g7_96 F6_96) else (f0_112 p0 p1 p2 p3 p4 (0 : Int32) F6_96)) else (f0_112 p0 p1 p2 p3 p4 g7_96 F6_96))
def f0_80 (p0 : Int32) (p1 : Int32) (p2 : Int32) (p3 : Int32) (p4 : Int32) (g7_80 : Int32) (F6_80 : Nat → Int32) : Int32 := (if (1 : Int32) < (vl p0 p1 p2 p3 p4) then (if (f2 p2) = (0 : Int32) then (f0_96 p0 p1 p2 p3 p4 g7_80 F6_80) else (f0_96 p0 p1 p2 p3 p4 (0 : Int32) F6_80)) else (f0_96 p0 p1 p2 p3 p4 g7_80 F6_80))
def f0_62 (p0 : Int32) (p1 : Int32) (p2 : Int32) (p3 : Int32) (p4 : Int32) (F6_62 : Nat → Int32) : Int32 := (if (0 : Int32) < (vl p0 p1 p2 p3 p4) then (if (f2 p1) = (0 : Int32) then (f0_80 p0 p1 p2 p3 p4 (1 : Int32) F6_62) else (f0_80 p0 p1 p2 p3 p4 (0 : Int32) F6_62)) else (f0_80 p0 p1 p2 p3 p4 (1 : Int32) F6_62))
def f0_49 (p0 : Int32) (p1 : Int32) (p2 : Int32) (p3 : Int32) (p4 : Int32) (F6_49 : Nat → Int32) : Int32 := (if (3 : Int32) < (vl p0 p1 p2 p3 p4) then (f0_62 p0 p1 p2 p3 p4 (own_up F6_49 3 (nar .byte (p4.toInt8.toInt32)))) else (f0_62 p0 p1 p2 p3 p4 F6_49))
def f0_37 (p0 : Int32) (p1 : Int32) (p2 : Int32) (p3 : Int32) (p4 : Int32) (F6_37 : Nat → Int32) : Int32 := (if (2 : Int32) < (vl p0 p1 p2 p3 p4) then (f0_49 p0 p1 p2 p3 p4 (own_up F6_37 2 (nar .byte (p3.toInt8.toInt32)))) else (f0_49 p0 p1 p2 p3 p4 F6_37))
def f0_25 (p0 : Int32) (p1 : Int32) (p2 : Int32) (p3 : Int32) (p4 : Int32) (F6_25 : Nat → Int32) : Int32 := (if (1 : Int32) < (vl p0 p1 p2 p3 p4) then (f0_37 p0 p1 p2 p3 p4 (own_up F6_25 1 (nar .byte (p2.toInt8.toInt32)))) else (f0_37 p0 p1 p2 p3 p4 F6_25))
def f0 (p0 : Int32) (p1 : Int32) (p2 : Int32) (p3 : Int32) (p4 : Int32) : Int32 := (if (0 : Int32) < (vl p0 p1 p2 p3 p4) then (f0_25 p0 p1 p2 p3 p4 (own_up (fun _ => 0) 0 (nar .byte (p1.toInt8.toInt32)))) else (f0_25 p0 p1 p2 p3 p4 (fun _ => 0)))
theorem own_l (p0 p1 p2 p3 p4 : Int32) : 0 ≤ (vl p0 p1 p2 p3 p4).toInt ∧ (vl p0 p1 p2 p3 p4).toInt < 5 := own_rb p0 5 (by decide)
theorem own_l1 (p0 p1 p2 p3 p4 : Int32) : ¬ vl p0 p1 p2 p3 p4 < 0 := by
  have h := own_l p0 p1 p2 p3 p4
  rw [Int32.lt_iff_toInt_lt, show (0 : Int32).toInt = 0 from rfl]; omega
theorem own_l2 (p0 p1 p2 p3 p4 : Int32) : (vl p0 p1 p2 p3 p4).toNatClampNeg ≤ 4 := by
  have h := own_l p0 p1 p2 p3 p4
  rw [Int32.toNatClampNeg]; omega
set_option maxRecDepth 65536 in
set_option maxHeartbeats 40000000 in
theorem rm0 (l : Launch) (Z : State) (a0 : Array Value) (hw : ∀ d ∈ tables_1, d.before a0 Z = true) (ws : List Jvm.Cond) (p0 : Int32) (p1 : Int32) (p2 : Int32) (p3 : Int32) (p4 : Int32) (h0 : Heap) (n0 : Nat) (Z0 : n0 ≤ h0.size) :
    MetFree l x (head1 (Jvm.Cond.code x code maxLocals ret :: ws) room_1) (fun a U => a = #[(.int p0), (.int p1), (.int p2), (.int p3), (.int p4)] ∧ Z.Warmed39 U.vm ∧ U.heap = h0) (fun _ _ _ _ _ => True) (fun _ U o U' => ∃ v L, o = .returned v ∧ own_GI n0 (fun _ => True) (f0 p0 p1 p2 p3 p4) v U'.heap L ∧ FrameEnd U o U' L 1 4) := by
  refine MetFree.of_bodySF pn_0 hisR ?_
  intro p e s m args below meth c s₁ Bd hml0 hP hK
  obtain ⟨rfl, hZ, hh⟩ := hP
  have hx := Bd.exec
  have hby := Bd.bytes
  have hml : c.maxLocals = 10 := hml0
  have hown : s.vm.findClass "com/example/cuvette/cuvette/mllp/FramesCanFramePinLaw" = some m.cls := findClass_of_methodNamed Bd.named
  have hlk : meth.locks = false := BodyLoose.notSynchronized Bd
  have X0 : Stand p l e room_1 s m #[(.int p0), (.int p1), (.int p2), (.int p3), (.int p4)] below meth c s₁ [] 0 0 := Stand.of_body Bd
  have e0 : s₁.heap = h0 := by rw [← hh, Bd.state]; rfl
  have N0 := Fr.nil n0
  have zs0 : n0 ≤ s₁.heap.size := by rw [e0]; exact Z0
  have B210 : ∀ (T : State) (locs : List Loc) (r6_210 : Addr) (g7_210 : Int32) (g8_210 : Int32) (g100_210 : Int32) (F6_210 : Nat → Int32) (X : Stand p l e room_1 s m #[(.int p0), (.int p1), (.int p2), (.int p3), (.int p4)] below meth c T locs 1 4) (N : Fr n0 locs) (zs : n0 ≤ T.heap.size) (G_r6_210 : n0 ≤ r6_210) (A_r6_210 : own_A Z T.heap r6_210 .byte (vl p0 p1 p2 p3 p4).toNatClampNeg F6_210), own_W p e below s 1 4 (own_GI n0 (fun _ => True) (f0_210 p0 p1 p2 p3 p4 g7_210 g8_210 g100_210 F6_210)) T (mkF m 210 #[.val (.int p0), .val (.int p1), .val (.int p2), .val (.int p3), .val (.int p4), .val (.int (vl p0 p1 p2 p3 p4)), .val (.ref r6_210), .val (.int g7_210), .val (.int g8_210), .unset] [(.int g100_210)]) := by
    intro T locs r6_210 g7_210 g8_210 g100_210 F6_210 X N zs G_r6_210 A_r6_210
    unfold f0_210
    refine own_st (T' := T) (f' := (mkF m 212 #[.val (.int p0), .val (.int p1), .val (.int p2), .val (.int p3), .val (.int p4), .val (.int (vl p0 p1 p2 p3 p4)), .val (.ref r6_210), .val (.int g7_210), .val (.int g8_210), .val (.int g100_210)] [])) ?_ (fun t q => XS.istore X.here hx rfl (hb hby at_210) rfl (l' := #[.val (.int p0), .val (.int p1), .val (.int p2), .val (.int p3), .val (.int p4), .val (.int (vl p0 p1 p2 p3 p4)), .val (.ref r6_210), .val (.int g7_210), .val (.int g8_210), .val (.int g100_210)]) rfl q)
    refine own_st (T' := T) (f' := (mkF m 214 #[.val (.int p0), .val (.int p1), .val (.int p2), .val (.int p3), .val (.int p4), .val (.int (vl p0 p1 p2 p3 p4)), .val (.ref r6_210), .val (.int g7_210), .val (.int g8_210), .val (.int g100_210)] [(.int g8_210)])) ?_ (fun t q => XS.iload X.here hx rfl (hb hby at_212) rfl q)
    refine own_st (T' := T) (f' := (mkF m 216 #[.val (.int p0), .val (.int p1), .val (.int p2), .val (.int p3), .val (.int p4), .val (.int (vl p0 p1 p2 p3 p4)), .val (.ref r6_210), .val (.int g7_210), .val (.int g8_210), .val (.int g100_210)] [(.int g7_210), (.int g8_210)])) ?_ (fun t q => XS.iload X.here hx rfl (hb hby at_214) rfl q)
    refine own_ite (fun hc216 => ?_) (fun hc216 => ?_)
    · refine own_st (T' := T) (f' := (mkF m 219 #[.val (.int p0), .val (.int p1), .val (.int p2), .val (.int p3), .val (.int p4), .val (.int (vl p0 p1 p2 p3 p4)), .val (.ref r6_210), .val (.int g7_210), .val (.int g8_210), .val (.int g100_210)] [])) ?_ (fun t q => XS.icmpNo X.here hx rfl (hb hby at_216) rfl (teq hc216).2 q)
      refine own_st (T' := T) (f' := (mkF m 221 #[.val (.int p0), .val (.int p1), .val (.int p2), .val (.int p3), .val (.int p4), .val (.int (vl p0 p1 p2 p3 p4)), .val (.ref r6_210), .val (.int g7_210), .val (.int g8_210), .val (.int g100_210)] [(.int g100_210)])) ?_ (fun t q => XS.iload X.here hx rfl (hb hby at_219) rfl q)
      refine own_ite (fun hc221 => ?_) (fun hc221 => ?_)
      · refine own_st (T' := T) (f' := (mkF m 228 #[.val (.int p0), .val (.int p1), .val (.int p2), .val (.int p3), .val (.int p4), .val (.int (vl p0 p1 p2 p3 p4)), .val (.ref r6_210), .val (.int g7_210), .val (.int g8_210), .val (.int g100_210)] [])) ?_ (fun t q => XS.ifYes X.here hx rfl (pc0 := 221) (pc' := 228) rfl (hb hby at_221) rfl ((if0 _ _).trans (teq hc221).1) (by decide) (by decide) q)
        refine own_st (T' := T) (f' := (mkF m 229 #[.val (.int p0), .val (.int p1), .val (.int p2), .val (.int p3), .val (.int p4), .val (.int (vl p0 p1 p2 p3 p4)), .val (.ref r6_210), .val (.int g7_210), .val (.int g8_210), .val (.int g100_210)] [(.int (0 : Int32))])) ?_ (fun t q => XS.iconst X.here hx rfl (hb hby at_228) q)
        exact own_retN X hx hlk (t := .boolean) Bd.returns (by simp) (hb hby at_229) (by decide) (by decide) ⟨rfl, N, trivial⟩
      · refine own_st (T' := T) (f' := (mkF m 224 #[.val (.int p0), .val (.int p1), .val (.int p2), .val (.int p3), .val (.int p4), .val (.int (vl p0 p1 p2 p3 p4)), .val (.ref r6_210), .val (.int g7_210), .val (.int g8_210), .val (.int g100_210)] [])) ?_ (fun t q => XS.ifNo X.here hx rfl (hb hby at_221) rfl ((if0 _ _).trans (feq hc221).1) q)
        refine own_st (T' := T) (f' := (mkF m 225 #[.val (.int p0), .val (.int p1), .val (.int p2), .val (.int p3), .val (.int p4), .val (.int (vl p0 p1 p2 p3 p4)), .val (.ref r6_210), .val (.int g7_210), .val (.int g8_210), .val (.int g100_210)] [(.int (1 : Int32))])) ?_ (fun t q => XS.iconst X.here hx rfl (hb hby at_224) q)
        refine own_st (T' := T) (f' := (mkF m 229 #[.val (.int p0), .val (.int p1), .val (.int p2), .val (.int p3), .val (.int p4), .val (.int (vl p0 p1 p2 p3 p4)), .val (.ref r6_210), .val (.int g7_210), .val (.int g8_210), .val (.int g100_210)] [(.int (1 : Int32))])) ?_ (fun t q => XS.goto X.here hx rfl (pc0 := 225) (pc' := 229) rfl (hb hby at_225) (by decide) (by decide) q)
        exact own_retN X hx hlk (t := .boolean) Bd.returns (by simp) (hb hby at_229) (by decide) (by decide) ⟨rfl, N, trivial⟩
    · refine own_st (T' := T) (f' := (mkF m 228 #[.val (.int p0), .val (.int p1), .val (.int p2), .val (.int p3), .val (.int p4), .val (.int (vl p0 p1 p2 p3 p4)), .val (.ref r6_210), .val (.int g7_210), .val (.int g8_210), .val (.int g100_210)] [])) ?_ (fun t q => XS.icmpYes X.here hx rfl (pc0 := 216) (pc' := 228) rfl (hb hby at_216) rfl (feq hc216).2 (by decide) (by decide) q)
      refine own_st (T' := T) (f' := (mkF m 229 #[.val (.int p0), .val (.int p1), .val (.int p2), .val (.int p3), .val (.int p4), .val (.int (vl p0 p1 p2 p3 p4)), .val (.ref r6_210), .val (.int g7_210), .val (.int g8_210), .val (.int g100_210)] [(.int (0 : Int32))])) ?_ (fun t q => XS.iconst X.here hx rfl (hb hby at_228) q)
      exact own_retN X hx hlk (t := .boolean) Bd.returns (by simp) (hb hby at_229) (by decide) (by decide) ⟨rfl, N, trivial⟩
  have B209 : ∀ (T : State) (locs : List Loc) (r6_209 : Addr) (g7_209 : Int32) (g8_209 : Int32) (F6_209 : Nat → Int32) (X : Stand p l e room_1 s m #[(.int p0), (.int p1), (.int p2), (.int p3), (.int p4)] below meth c T locs 1 4) (N : Fr n0 locs) (zs : n0 ≤ T.heap.size) (G_r6_209 : n0 ≤ r6_209) (A_r6_209 : own_A Z T.heap r6_209 .byte (vl p0 p1 p2 p3 p4).toNatClampNeg F6_209), own_W p e below s 1 4 (own_GI n0 (fun _ => True) (f0_209 p0 p1 p2 p3 p4 g7_209 g8_209 F6_209)) T (mkF m 209 #[.val (.int p0), .val (.int p1), .val (.int p2), .val (.int p3), .val (.int p4), .val (.int (vl p0 p1 p2 p3 p4)), .val (.ref r6_209), .val (.int g7_209), .val (.int g8_209), .unset] []) := by
    intro T locs r6_209 g7_209 g8_209 F6_209 X N zs G_r6_209 A_r6_209
    unfold f0_209
    refine own_st (T' := T) (f' := (mkF m 210 #[.val (.int p0), .val (.int p1), .val (.int p2), .val (.int p3), .val (.int p4), .val (.int (vl p0 p1 p2 p3 p4)), .val (.ref r6_209), .val (.int g7_209), .val (.int g8_209), .unset] [(.int (0 : Int32))])) ?_ (fun t q => XS.iconst X.here hx rfl (hb hby at_209) q)
    exact B210 T _ r6_209 g7_209 g8_209 (0 : Int32) F6_209 X N zs G_r6_209 A_r6_209
  have B205 : ∀ (T : State) (locs : List Loc) (r6_205 : Addr) (g7_205 : Int32) (g8_205 : Int32) (F6_205 : Nat → Int32) (X : Stand p l e room_1 s m #[(.int p0), (.int p1), (.int p2), (.int p3), (.int p4)] below meth c T locs 1 4) (N : Fr n0 locs) (zs : n0 ≤ T.heap.size) (G_r6_205 : n0 ≤ r6_205) (A_r6_205 : own_A Z T.heap r6_205 .byte (vl p0 p1 p2 p3 p4).toNatClampNeg F6_205), own_W p e below s 1 4 (own_GI n0 (fun _ => True) (f0_205 p0 p1 p2 p3 p4 g7_205 g8_205 F6_205)) T (mkF m 205 #[.val (.int p0), .val (.int p1), .val (.int p2), .val (.int p3), .val (.int p4), .val (.int (vl p0 p1 p2 p3 p4)), .val (.ref r6_205), .val (.int g7_205), .val (.int g8_205), .unset] []) := by
    intro T locs r6_205 g7_205 g8_205 F6_205 X N zs G_r6_205 A_r6_205
    unfold f0_205
    refine own_st (T' := T) (f' := (mkF m 206 #[.val (.int p0), .val (.int p1), .val (.int p2), .val (.int p3), .val (.int p4), .val (.int (vl p0 p1 p2 p3 p4)), .val (.ref r6_205), .val (.int g7_205), .val (.int g8_205), .unset] [(.int (1 : Int32))])) ?_ (fun t q => XS.iconst X.here hx rfl (hb hby at_205) q)
    refine own_st (T' := T) (f' := (mkF m 210 #[.val (.int p0), .val (.int p1), .val (.int p2), .val (.int p3), .val (.int p4), .val (.int (vl p0 p1 p2 p3 p4)), .val (.ref r6_205), .val (.int g7_205), .val (.int g8_205), .unset] [(.int (1 : Int32))])) ?_ (fun t q => XS.goto X.here hx rfl (pc0 := 206) (pc' := 210) rfl (hb hby at_206) (by decide) (by decide) q)
    exact B210 T _ r6_205 g7_205 g8_205 (1 : Int32) F6_205 X N zs G_r6_205 A_r6_205
  have B189 : ∀ (T : State) (locs : List Loc) (r6_189 : Addr) (g7_189 : Int32) (g8_189 : Int32) (F6_189 : Nat → Int32) (X : Stand p l e room_1 s m #[(.int p0), (.int p1), (.int p2), (.int p3), (.int p4)] below meth c T locs 1 4) (N : Fr n0 locs) (zs : n0 ≤ T.heap.size) (G_r6_189 : n0 ≤ r6_189) (A_r6_189 : own_A Z T.heap r6_189 .byte (vl p0 p1 p2 p3 p4).toNatClampNeg F6_189), own_W p e below s 1 4 (own_GI n0 (fun _ => True) (f0_189 p0 p1 p2 p3 p4 g7_189 g8_189 F6_189)) T (mkF m 189 #[.val (.int p0), .val (.int p1), .val (.int p2), .val (.int p3), .val (.int p4), .val (.int (vl p0 p1 p2 p3 p4)), .val (.ref r6_189), .val (.int g7_189), .val (.int g8_189), .unset] []) := by
    intro T locs r6_189 g7_189 g8_189 F6_189 X N zs G_r6_189 A_r6_189
    unfold f0_189
    refine own_st (T' := T) (f' := (mkF m 191 #[.val (.int p0), .val (.int p1), .val (.int p2), .val (.int p3), .val (.int p4), .val (.int (vl p0 p1 p2 p3 p4)), .val (.ref r6_189), .val (.int g7_189), .val (.int g8_189), .unset] [(.int (vl p0 p1 p2 p3 p4))])) ?_ (fun t q => XS.iload X.here hx rfl (hb hby at_189) rfl q)
    refine own_st (T' := T) (f' := (mkF m 192 #[.val (.int p0), .val (.int p1), .val (.int p2), .val (.int p3), .val (.int p4), .val (.int (vl p0 p1 p2 p3 p4)), .val (.ref r6_189), .val (.int g7_189), .val (.int g8_189), .unset] [(.int (4 : Int32)), (.int (vl p0 p1 p2 p3 p4))])) ?_ (fun t q => XS.iconst X.here hx rfl (hb hby at_191) q)
    refine own_ite (fun hc192 => ?_) (fun hc192 => ?_)
    · refine own_st (T' := T) (f' := (mkF m 205 #[.val (.int p0), .val (.int p1), .val (.int p2), .val (.int p3), .val (.int p4), .val (.int (vl p0 p1 p2 p3 p4)), .val (.ref r6_189), .val (.int g7_189), .val (.int g8_189), .unset] [])) ?_ (fun t q => XS.icmpYes X.here hx rfl (pc0 := 192) (pc' := 205) rfl (hb hby at_192) rfl (tlt hc192).1 (by decide) (by decide) q)
      exact B205 T _ r6_189 g7_189 g8_189 F6_189 X N zs G_r6_189 A_r6_189
    · refine own_st (T' := T) (f' := (mkF m 195 #[.val (.int p0), .val (.int p1), .val (.int p2), .val (.int p3), .val (.int p4), .val (.int (vl p0 p1 p2 p3 p4)), .val (.ref r6_189), .val (.int g7_189), .val (.int g8_189), .unset] [])) ?_ (fun t q => XS.icmpNo X.here hx rfl (hb hby at_192) rfl (flt hc192).1 q)
      refine own_st (T' := T) (f' := (mkF m 197 #[.val (.int p0), .val (.int p1), .val (.int p2), .val (.int p3), .val (.int p4), .val (.int (vl p0 p1 p2 p3 p4)), .val (.ref r6_189), .val (.int g7_189), .val (.int g8_189), .unset] [(.ref r6_189)])) ?_ (fun t q => XS.aload X.here hx rfl (hb hby at_195) rfl rfl q)
      refine own_st (T' := T) (f' := (mkF m 198 #[.val (.int p0), .val (.int p1), .val (.int p2), .val (.int p3), .val (.int p4), .val (.int (vl p0 p1 p2 p3 p4)), .val (.ref r6_189), .val (.int g7_189), .val (.int g8_189), .unset] [(.int (3 : Int32)), (.ref r6_189)])) ?_ (fun t q => XS.iconst X.here hx rfl (hb hby at_197) q)
      refine own_bald X hx hZ A_r6_189 (j := (3 : Int32)) ⟨by decide, own_ge (j := 3) hc192 (by decide)⟩ (hb hby at_198) ?_
      show own_W _ _ _ _ _ _ _ T (mkF m 199 #[.val (.int p0), .val (.int p1), .val (.int p2), .val (.int p3), .val (.int p4), .val (.int (vl p0 p1 p2 p3 p4)), .val (.ref r6_189), .val (.int g7_189), .val (.int g8_189), .unset] [(.int (F6_189 3))])
      refine own_st (T' := T) (f' := (mkF m 201 #[.val (.int p0), .val (.int p1), .val (.int p2), .val (.int p3), .val (.int p4), .val (.int (vl p0 p1 p2 p3 p4)), .val (.ref r6_189), .val (.int g7_189), .val (.int g8_189), .unset] [(.int p4), (.int (F6_189 3))])) ?_ (fun t q => XS.iload X.here hx rfl (hb hby at_199) rfl q)
      refine own_st (T' := T) (f' := (mkF m 202 #[.val (.int p0), .val (.int p1), .val (.int p2), .val (.int p3), .val (.int p4), .val (.int (vl p0 p1 p2 p3 p4)), .val (.ref r6_189), .val (.int g7_189), .val (.int g8_189), .unset] [(.int (p4.toInt8.toInt32)), (.int (F6_189 3))])) ?_ (fun t q => XS.i2b X.here hx rfl (hb hby at_201) rfl q)
      refine own_ite (fun hc202 => ?_) (fun hc202 => ?_)
      · refine own_st (T' := T) (f' := (mkF m 205 #[.val (.int p0), .val (.int p1), .val (.int p2), .val (.int p3), .val (.int p4), .val (.int (vl p0 p1 p2 p3 p4)), .val (.ref r6_189), .val (.int g7_189), .val (.int g8_189), .unset] [])) ?_ (fun t q => XS.icmpNo X.here hx rfl (hb hby at_202) rfl (teq hc202).2 q)
        exact B205 T _ r6_189 g7_189 g8_189 F6_189 X N zs G_r6_189 A_r6_189
      · refine own_st (T' := T) (f' := (mkF m 209 #[.val (.int p0), .val (.int p1), .val (.int p2), .val (.int p3), .val (.int p4), .val (.int (vl p0 p1 p2 p3 p4)), .val (.ref r6_189), .val (.int g7_189), .val (.int g8_189), .unset] [])) ?_ (fun t q => XS.icmpYes X.here hx rfl (pc0 := 202) (pc' := 209) rfl (hb hby at_202) rfl (feq hc202).2 (by decide) (by decide) q)
        exact B209 T _ r6_189 g7_189 g8_189 F6_189 X N zs G_r6_189 A_r6_189
  have B174 : ∀ (T : State) (locs : List Loc) (r6_174 : Addr) (g7_174 : Int32) (g8_174 : Int32) (F6_174 : Nat → Int32) (X : Stand p l e room_1 s m #[(.int p0), (.int p1), (.int p2), (.int p3), (.int p4)] below meth c T locs 1 4) (N : Fr n0 locs) (zs : n0 ≤ T.heap.size) (G_r6_174 : n0 ≤ r6_174) (A_r6_174 : own_A Z T.heap r6_174 .byte (vl p0 p1 p2 p3 p4).toNatClampNeg F6_174), own_W p e below s 1 4 (own_GI n0 (fun _ => True) (f0_174 p0 p1 p2 p3 p4 g7_174 g8_174 F6_174)) T (mkF m 174 #[.val (.int p0), .val (.int p1), .val (.int p2), .val (.int p3), .val (.int p4), .val (.int (vl p0 p1 p2 p3 p4)), .val (.ref r6_174), .val (.int g7_174), .val (.int g8_174), .unset] []) := by
    intro T locs r6_174 g7_174 g8_174 F6_174 X N zs G_r6_174 A_r6_174
    unfold f0_174
    refine own_st (T' := T) (f' := (mkF m 176 #[.val (.int p0), .val (.int p1), .val (.int p2), .val (.int p3), .val (.int p4), .val (.int (vl p0 p1 p2 p3 p4)), .val (.ref r6_174), .val (.int g7_174), .val (.int g8_174), .unset] [(.int (vl p0 p1 p2 p3 p4))])) ?_ (fun t q => XS.iload X.here hx rfl (hb hby at_174) rfl q)
    refine own_st (T' := T) (f' := (mkF m 177 #[.val (.int p0), .val (.int p1), .val (.int p2), .val (.int p3), .val (.int p4), .val (.int (vl p0 p1 p2 p3 p4)), .val (.ref r6_174), .val (.int g7_174), .val (.int g8_174), .unset] [(.int (3 : Int32)), (.int (vl p0 p1 p2 p3 p4))])) ?_ (fun t q => XS.iconst X.here hx rfl (hb hby at_176) q)
    refine own_ite (fun hc177 => ?_) (fun hc177 => ?_)
    · refine own_st (T' := T) (f' := (mkF m 189 #[.val (.int p0), .val (.int p1), .val (.int p2), .val (.int p3), .val (.int p4), .val (.int (vl p0 p1 p2 p3 p4)), .val (.ref r6_174), .val (.int g7_174), .val (.int g8_174), .unset] [])) ?_ (fun t q => XS.icmpYes X.here hx rfl (pc0 := 177) (pc' := 189) rfl (hb hby at_177) rfl (tlt hc177).1 (by decide) (by decide) q)
      exact B189 T _ r6_174 g7_174 g8_174 F6_174 X N zs G_r6_174 A_r6_174
    · refine own_st (T' := T) (f' := (mkF m 180 #[.val (.int p0), .val (.int p1), .val (.int p2), .val (.int p3), .val (.int p4), .val (.int (vl p0 p1 p2 p3 p4)), .val (.ref r6_174), .val (.int g7_174), .val (.int g8_174), .unset] [])) ?_ (fun t q => XS.icmpNo X.here hx rfl (hb hby at_177) rfl (flt hc177).1 q)
      refine own_st (T' := T) (f' := (mkF m 182 #[.val (.int p0), .val (.int p1), .val (.int p2), .val (.int p3), .val (.int p4), .val (.int (vl p0 p1 p2 p3 p4)), .val (.ref r6_174), .val (.int g7_174), .val (.int g8_174), .unset] [(.ref r6_174)])) ?_ (fun t q => XS.aload X.here hx rfl (hb hby at_180) rfl rfl q)
      refine own_st (T' := T) (f' := (mkF m 183 #[.val (.int p0), .val (.int p1), .val (.int p2), .val (.int p3), .val (.int p4), .val (.int (vl p0 p1 p2 p3 p4)), .val (.ref r6_174), .val (.int g7_174), .val (.int g8_174), .unset] [(.int (2 : Int32)), (.ref r6_174)])) ?_ (fun t q => XS.iconst X.here hx rfl (hb hby at_182) q)
      refine own_bald X hx hZ A_r6_174 (j := (2 : Int32)) ⟨by decide, own_ge (j := 2) hc177 (by decide)⟩ (hb hby at_183) ?_
      show own_W _ _ _ _ _ _ _ T (mkF m 184 #[.val (.int p0), .val (.int p1), .val (.int p2), .val (.int p3), .val (.int p4), .val (.int (vl p0 p1 p2 p3 p4)), .val (.ref r6_174), .val (.int g7_174), .val (.int g8_174), .unset] [(.int (F6_174 2))])
      refine own_st (T' := T) (f' := (mkF m 185 #[.val (.int p0), .val (.int p1), .val (.int p2), .val (.int p3), .val (.int p4), .val (.int (vl p0 p1 p2 p3 p4)), .val (.ref r6_174), .val (.int g7_174), .val (.int g8_174), .unset] [(.int p3), (.int (F6_174 2))])) ?_ (fun t q => XS.iloadN X.here hx rfl (hb hby at_184) rfl q)
      refine own_st (T' := T) (f' := (mkF m 186 #[.val (.int p0), .val (.int p1), .val (.int p2), .val (.int p3), .val (.int p4), .val (.int (vl p0 p1 p2 p3 p4)), .val (.ref r6_174), .val (.int g7_174), .val (.int g8_174), .unset] [(.int (p3.toInt8.toInt32)), (.int (F6_174 2))])) ?_ (fun t q => XS.i2b X.here hx rfl (hb hby at_185) rfl q)
      refine own_ite (fun hc186 => ?_) (fun hc186 => ?_)
      · refine own_st (T' := T) (f' := (mkF m 189 #[.val (.int p0), .val (.int p1), .val (.int p2), .val (.int p3), .val (.int p4), .val (.int (vl p0 p1 p2 p3 p4)), .val (.ref r6_174), .val (.int g7_174), .val (.int g8_174), .unset] [])) ?_ (fun t q => XS.icmpNo X.here hx rfl (hb hby at_186) rfl (teq hc186).2 q)
        exact B189 T _ r6_174 g7_174 g8_174 F6_174 X N zs G_r6_174 A_r6_174
      · refine own_st (T' := T) (f' := (mkF m 209 #[.val (.int p0), .val (.int p1), .val (.int p2), .val (.int p3), .val (.int p4), .val (.int (vl p0 p1 p2 p3 p4)), .val (.ref r6_174), .val (.int g7_174), .val (.int g8_174), .unset] [])) ?_ (fun t q => XS.icmpYes X.here hx rfl (pc0 := 186) (pc' := 209) rfl (hb hby at_186) rfl (feq hc186).2 (by decide) (by decide) q)
        exact B209 T _ r6_174 g7_174 g8_174 F6_174 X N zs G_r6_174 A_r6_174
  have B159 : ∀ (T : State) (locs : List Loc) (r6_159 : Addr) (g7_159 : Int32) (g8_159 : Int32) (F6_159 : Nat → Int32) (X : Stand p l e room_1 s m #[(.int p0), (.int p1), (.int p2), (.int p3), (.int p4)] below meth c T locs 1 4) (N : Fr n0 locs) (zs : n0 ≤ T.heap.size) (G_r6_159 : n0 ≤ r6_159) (A_r6_159 : own_A Z T.heap r6_159 .byte (vl p0 p1 p2 p3 p4).toNatClampNeg F6_159), own_W p e below s 1 4 (own_GI n0 (fun _ => True) (f0_159 p0 p1 p2 p3 p4 g7_159 g8_159 F6_159)) T (mkF m 159 #[.val (.int p0), .val (.int p1), .val (.int p2), .val (.int p3), .val (.int p4), .val (.int (vl p0 p1 p2 p3 p4)), .val (.ref r6_159), .val (.int g7_159), .val (.int g8_159), .unset] []) := by
    intro T locs r6_159 g7_159 g8_159 F6_159 X N zs G_r6_159 A_r6_159
    unfold f0_159
    refine own_st (T' := T) (f' := (mkF m 161 #[.val (.int p0), .val (.int p1), .val (.int p2), .val (.int p3), .val (.int p4), .val (.int (vl p0 p1 p2 p3 p4)), .val (.ref r6_159), .val (.int g7_159), .val (.int g8_159), .unset] [(.int (vl p0 p1 p2 p3 p4))])) ?_ (fun t q => XS.iload X.here hx rfl (hb hby at_159) rfl q)
    refine own_st (T' := T) (f' := (mkF m 162 #[.val (.int p0), .val (.int p1), .val (.int p2), .val (.int p3), .val (.int p4), .val (.int (vl p0 p1 p2 p3 p4)), .val (.ref r6_159), .val (.int g7_159), .val (.int g8_159), .unset] [(.int (2 : Int32)), (.int (vl p0 p1 p2 p3 p4))])) ?_ (fun t q => XS.iconst X.here hx rfl (hb hby at_161) q)
    refine own_ite (fun hc162 => ?_) (fun hc162 => ?_)
    · refine own_st (T' := T) (f' := (mkF m 174 #[.val (.int p0), .val (.int p1), .val (.int p2), .val (.int p3), .val (.int p4), .val (.int (vl p0 p1 p2 p3 p4)), .val (.ref r6_159), .val (.int g7_159), .val (.int g8_159), .unset] [])) ?_ (fun t q => XS.icmpYes X.here hx rfl (pc0 := 162) (pc' := 174) rfl (hb hby at_162) rfl (tlt hc162).1 (by decide) (by decide) q)
      exact B174 T _ r6_159 g7_159 g8_159 F6_159 X N zs G_r6_159 A_r6_159
    · refine own_st (T' := T) (f' := (mkF m 165 #[.val (.int p0), .val (.int p1), .val (.int p2), .val (.int p3), .val (.int p4), .val (.int (vl p0 p1 p2 p3 p4)), .val (.ref r6_159), .val (.int g7_159), .val (.int g8_159), .unset] [])) ?_ (fun t q => XS.icmpNo X.here hx rfl (hb hby at_162) rfl (flt hc162).1 q)
      refine own_st (T' := T) (f' := (mkF m 167 #[.val (.int p0), .val (.int p1), .val (.int p2), .val (.int p3), .val (.int p4), .val (.int (vl p0 p1 p2 p3 p4)), .val (.ref r6_159), .val (.int g7_159), .val (.int g8_159), .unset] [(.ref r6_159)])) ?_ (fun t q => XS.aload X.here hx rfl (hb hby at_165) rfl rfl q)
      refine own_st (T' := T) (f' := (mkF m 168 #[.val (.int p0), .val (.int p1), .val (.int p2), .val (.int p3), .val (.int p4), .val (.int (vl p0 p1 p2 p3 p4)), .val (.ref r6_159), .val (.int g7_159), .val (.int g8_159), .unset] [(.int (1 : Int32)), (.ref r6_159)])) ?_ (fun t q => XS.iconst X.here hx rfl (hb hby at_167) q)
      refine own_bald X hx hZ A_r6_159 (j := (1 : Int32)) ⟨by decide, own_ge (j := 1) hc162 (by decide)⟩ (hb hby at_168) ?_
      show own_W _ _ _ _ _ _ _ T (mkF m 169 #[.val (.int p0), .val (.int p1), .val (.int p2), .val (.int p3), .val (.int p4), .val (.int (vl p0 p1 p2 p3 p4)), .val (.ref r6_159), .val (.int g7_159), .val (.int g8_159), .unset] [(.int (F6_159 1))])
      refine own_st (T' := T) (f' := (mkF m 170 #[.val (.int p0), .val (.int p1), .val (.int p2), .val (.int p3), .val (.int p4), .val (.int (vl p0 p1 p2 p3 p4)), .val (.ref r6_159), .val (.int g7_159), .val (.int g8_159), .unset] [(.int p2), (.int (F6_159 1))])) ?_ (fun t q => XS.iloadN X.here hx rfl (hb hby at_169) rfl q)
      refine own_st (T' := T) (f' := (mkF m 171 #[.val (.int p0), .val (.int p1), .val (.int p2), .val (.int p3), .val (.int p4), .val (.int (vl p0 p1 p2 p3 p4)), .val (.ref r6_159), .val (.int g7_159), .val (.int g8_159), .unset] [(.int (p2.toInt8.toInt32)), (.int (F6_159 1))])) ?_ (fun t q => XS.i2b X.here hx rfl (hb hby at_170) rfl q)
      refine own_ite (fun hc171 => ?_) (fun hc171 => ?_)
      · refine own_st (T' := T) (f' := (mkF m 174 #[.val (.int p0), .val (.int p1), .val (.int p2), .val (.int p3), .val (.int p4), .val (.int (vl p0 p1 p2 p3 p4)), .val (.ref r6_159), .val (.int g7_159), .val (.int g8_159), .unset] [])) ?_ (fun t q => XS.icmpNo X.here hx rfl (hb hby at_171) rfl (teq hc171).2 q)
        exact B174 T _ r6_159 g7_159 g8_159 F6_159 X N zs G_r6_159 A_r6_159
      · refine own_st (T' := T) (f' := (mkF m 209 #[.val (.int p0), .val (.int p1), .val (.int p2), .val (.int p3), .val (.int p4), .val (.int (vl p0 p1 p2 p3 p4)), .val (.ref r6_159), .val (.int g7_159), .val (.int g8_159), .unset] [])) ?_ (fun t q => XS.icmpYes X.here hx rfl (pc0 := 171) (pc' := 209) rfl (hb hby at_171) rfl (feq hc171).2 (by decide) (by decide) q)
        exact B209 T _ r6_159 g7_159 g8_159 F6_159 X N zs G_r6_159 A_r6_159
  have B129 : ∀ (T : State) (locs : List Loc) (r6_129 : Addr) (g7_129 : Int32) (F6_129 : Nat → Int32) (X : Stand p l e room_1 s m #[(.int p0), (.int p1), (.int p2), (.int p3), (.int p4)] below meth c T locs 1 4) (N : Fr n0 locs) (zs : n0 ≤ T.heap.size) (G_r6_129 : n0 ≤ r6_129) (A_r6_129 : own_A Z T.heap r6_129 .byte (vl p0 p1 p2 p3 p4).toNatClampNeg F6_129), own_W p e below s 1 4 (own_GI n0 (fun _ => True) (f0_129 p0 p1 p2 p3 p4 g7_129 F6_129)) T (mkF m 129 #[.val (.int p0), .val (.int p1), .val (.int p2), .val (.int p3), .val (.int p4), .val (.int (vl p0 p1 p2 p3 p4)), .val (.ref r6_129), .val (.int g7_129), .unset, .unset] []) := by
    intro T locs r6_129 g7_129 F6_129 X N zs G_r6_129 A_r6_129
    unfold f0_129
    refine own_st (T' := T) (f' := (mkF m 131 #[.val (.int p0), .val (.int p1), .val (.int p2), .val (.int p3), .val (.int p4), .val (.int (vl p0 p1 p2 p3 p4)), .val (.ref r6_129), .val (.int g7_129), .unset, .unset] [(.ref r6_129)])) ?_ (fun t q => XS.aload X.here hx rfl (hb hby at_129) rfl rfl q)
    obtain ⟨_, _, ⟨T1, L1, k1, n1⟩, -, X1, ⟨Lc1, hQ1, l1, y1, z1⟩, st1⟩ := Jvm.LawKit.callS X hx (y := (⟨"com/example/cuvette/cuvette/mllp/Frames", "canFrame", "([B)Z"⟩ : MethodName)) hown (mvT hZ (hw _ (List.mem_of_getElem? (i := 2) rfl))) (mvT hZ (hw _ (List.mem_of_getElem? (i := 3) rfl))) (mvT hZ (hw _ (List.mem_of_getElem? (i := 4) rfl))) (mvT hZ (hw _ (List.mem_of_getElem? (i := 5) rfl))) (by decide) (backOf (W := 0) (rm1 l Z a0 hw [] r6_129 (vl p0 p1 p2 p3 p4).toNatClampNeg F6_129 T.heap n0 A_r6_129 (own_l2 p0 p1 p2 p3 p4)) hZ (hw _ (List.mem_of_getElem? (i := 5) rfl)) (hw _ (List.mem_of_getElem? (i := 4) rfl)) (by decide) (by decide)) (g := (mkF m 131 #[.val (.int p0), .val (.int p1), .val (.int p2), .val (.int p3), .val (.int p4), .val (.int (vl p0 p1 p2 p3 p4)), .val (.ref r6_129), .val (.int g7_129), .unset, .unset] [(.ref r6_129)])) rfl (by rw [hml]; rfl) (argsL := [(.ref r6_129)]) (rest := []) (lenOf pd_1 rfl) rfl (by show 2 * 0 + _ ≤ _; exact Nat.le_of_eq rfl) (hb hby at_131) (fun _ _ => ⟨rfl, rfl, (Nat.le_of_ble_eq_true rfl), (Nat.le_of_ble_eq_true rfl)⟩)
    dsimp only [Pt.U, Pt.locs, Pt.cells, Pt.slots] at X1 l1 y1 z1 st1 hQ1
    subst l1 y1 z1
    obtain ⟨rfl, N1q, e1⟩ := hQ1
    have N1 := Fr.app N N1q
    have zs1 : n0 ≤ T1.heap.size := by rw [e1]; exact zs
    have A1_r6_129 := own_A.eq A_r6_129 e1
    refine own_st (T' := T1) (f' := (mkF m 134 #[.val (.int p0), .val (.int p1), .val (.int p2), .val (.int p3), .val (.int p4), .val (.int (vl p0 p1 p2 p3 p4)), .val (.ref r6_129), .val (.int g7_129), .unset, .unset] [(.int (f1  (vl p0 p1 p2 p3 p4).toNatClampNeg F6_129))])) ?_ (fun t q => st1 _ q)
    refine own_st (T' := T1) (f' := (mkF m 136 #[.val (.int p0), .val (.int p1), .val (.int p2), .val (.int p3), .val (.int p4), .val (.int (vl p0 p1 p2 p3 p4)), .val (.ref r6_129), .val (.int g7_129), .val (.int (f1  (vl p0 p1 p2 p3 p4).toNatClampNeg F6_129)), .unset] [])) ?_ (fun t q => XS.istore X1.here hx rfl (hb hby at_134) rfl (l' := #[.val (.int p0), .val (.int p1), .val (.int p2), .val (.int p3), .val (.int p4), .val (.int (vl p0 p1 p2 p3 p4)), .val (.ref r6_129), .val (.int g7_129), .val (.int (f1  (vl p0 p1 p2 p3 p4).toNatClampNeg F6_129)), .unset]) rfl q)
    refine own_st (T' := T1) (f' := (mkF m 138 #[.val (.int p0), .val (.int p1), .val (.int p2), .val (.int p3), .val (.int p4), .val (.int (vl p0 p1 p2 p3 p4)), .val (.ref r6_129), .val (.int g7_129), .val (.int (f1  (vl p0 p1 p2 p3 p4).toNatClampNeg F6_129)), .unset] [(.ref r6_129)])) ?_ (fun t q => XS.aload X1.here hx rfl (hb hby at_136) rfl rfl q)
    refine own_alen X1 hx hZ A1_r6_129 (hb hby at_138) ?_
    show own_W _ _ _ _ _ _ _ T1 (mkF m 139 #[.val (.int p0), .val (.int p1), .val (.int p2), .val (.int p3), .val (.int p4), .val (.int (vl p0 p1 p2 p3 p4)), .val (.ref r6_129), .val (.int g7_129), .val (.int (f1  (vl p0 p1 p2 p3 p4).toNatClampNeg F6_129)), .unset] [(.int (Int32.ofNat (vl p0 p1 p2 p3 p4).toNatClampNeg))])
    refine own_st (T' := T1) (f' := (mkF m 141 #[.val (.int p0), .val (.int p1), .val (.int p2), .val (.int p3), .val (.int p4), .val (.int (vl p0 p1 p2 p3 p4)), .val (.ref r6_129), .val (.int g7_129), .val (.int (f1  (vl p0 p1 p2 p3 p4).toNatClampNeg F6_129)), .unset] [(.int (vl p0 p1 p2 p3 p4)), (.int (Int32.ofNat (vl p0 p1 p2 p3 p4).toNatClampNeg))])) ?_ (fun t q => XS.iload X1.here hx rfl (hb hby at_139) rfl q)
    refine own_ite (fun hc141 => ?_) (fun hc141 => ?_)
    · refine own_st (T' := T1) (f' := (mkF m 144 #[.val (.int p0), .val (.int p1), .val (.int p2), .val (.int p3), .val (.int p4), .val (.int (vl p0 p1 p2 p3 p4)), .val (.ref r6_129), .val (.int g7_129), .val (.int (f1  (vl p0 p1 p2 p3 p4).toNatClampNeg F6_129)), .unset] [])) ?_ (fun t q => XS.icmpNo X1.here hx rfl (hb hby at_141) rfl (teq hc141).2 q)
      refine own_st (T' := T1) (f' := (mkF m 146 #[.val (.int p0), .val (.int p1), .val (.int p2), .val (.int p3), .val (.int p4), .val (.int (vl p0 p1 p2 p3 p4)), .val (.ref r6_129), .val (.int g7_129), .val (.int (f1  (vl p0 p1 p2 p3 p4).toNatClampNeg F6_129)), .unset] [(.int (vl p0 p1 p2 p3 p4))])) ?_ (fun t q => XS.iload X1.here hx rfl (hb hby at_144) rfl q)
      refine own_st (T' := T1) (f' := (mkF m 147 #[.val (.int p0), .val (.int p1), .val (.int p2), .val (.int p3), .val (.int p4), .val (.int (vl p0 p1 p2 p3 p4)), .val (.ref r6_129), .val (.int g7_129), .val (.int (f1  (vl p0 p1 p2 p3 p4).toNatClampNeg F6_129)), .unset] [(.int (1 : Int32)), (.int (vl p0 p1 p2 p3 p4))])) ?_ (fun t q => XS.iconst X1.here hx rfl (hb hby at_146) q)
      refine own_ite (fun hc147 => ?_) (fun hc147 => ?_)
      · refine own_st (T' := T1) (f' := (mkF m 159 #[.val (.int p0), .val (.int p1), .val (.int p2), .val (.int p3), .val (.int p4), .val (.int (vl p0 p1 p2 p3 p4)), .val (.ref r6_129), .val (.int g7_129), .val (.int (f1  (vl p0 p1 p2 p3 p4).toNatClampNeg F6_129)), .unset] [])) ?_ (fun t q => XS.icmpYes X1.here hx rfl (pc0 := 147) (pc' := 159) rfl (hb hby at_147) rfl (tlt hc147).1 (by decide) (by decide) q)
        exact B159 T1 _ r6_129 g7_129 (f1  (vl p0 p1 p2 p3 p4).toNatClampNeg F6_129) F6_129 X1 N1 zs1 G_r6_129 A1_r6_129
      · refine own_st (T' := T1) (f' := (mkF m 150 #[.val (.int p0), .val (.int p1), .val (.int p2), .val (.int p3), .val (.int p4), .val (.int (vl p0 p1 p2 p3 p4)), .val (.ref r6_129), .val (.int g7_129), .val (.int (f1  (vl p0 p1 p2 p3 p4).toNatClampNeg F6_129)), .unset] [])) ?_ (fun t q => XS.icmpNo X1.here hx rfl (hb hby at_147) rfl (flt hc147).1 q)
        refine own_st (T' := T1) (f' := (mkF m 152 #[.val (.int p0), .val (.int p1), .val (.int p2), .val (.int p3), .val (.int p4), .val (.int (vl p0 p1 p2 p3 p4)), .val (.ref r6_129), .val (.int g7_129), .val (.int (f1  (vl p0 p1 p2 p3 p4).toNatClampNeg F6_129)), .unset] [(.ref r6_129)])) ?_ (fun t q => XS.aload X1.here hx rfl (hb hby at_150) rfl rfl q)
        refine own_st (T' := T1) (f' := (mkF m 153 #[.val (.int p0), .val (.int p1), .val (.int p2), .val (.int p3), .val (.int p4), .val (.int (vl p0 p1 p2 p3 p4)), .val (.ref r6_129), .val (.int g7_129), .val (.int (f1  (vl p0 p1 p2 p3 p4).toNatClampNeg F6_129)), .unset] [(.int (0 : Int32)), (.ref r6_129)])) ?_ (fun t q => XS.iconst X1.here hx rfl (hb hby at_152) q)
        refine own_bald X1 hx hZ A1_r6_129 (j := (0 : Int32)) ⟨by decide, own_ge (j := 0) hc147 (by decide)⟩ (hb hby at_153) ?_
        show own_W _ _ _ _ _ _ _ T1 (mkF m 154 #[.val (.int p0), .val (.int p1), .val (.int p2), .val (.int p3), .val (.int p4), .val (.int (vl p0 p1 p2 p3 p4)), .val (.ref r6_129), .val (.int g7_129), .val (.int (f1  (vl p0 p1 p2 p3 p4).toNatClampNeg F6_129)), .unset] [(.int (F6_129 0))])
        refine own_st (T' := T1) (f' := (mkF m 155 #[.val (.int p0), .val (.int p1), .val (.int p2), .val (.int p3), .val (.int p4), .val (.int (vl p0 p1 p2 p3 p4)), .val (.ref r6_129), .val (.int g7_129), .val (.int (f1  (vl p0 p1 p2 p3 p4).toNatClampNeg F6_129)), .unset] [(.int p1), (.int (F6_129 0))])) ?_ (fun t q => XS.iloadN X1.here hx rfl (hb hby at_154) rfl q)
        refine own_st (T' := T1) (f' := (mkF m 156 #[.val (.int p0), .val (.int p1), .val (.int p2), .val (.int p3), .val (.int p4), .val (.int (vl p0 p1 p2 p3 p4)), .val (.ref r6_129), .val (.int g7_129), .val (.int (f1  (vl p0 p1 p2 p3 p4).toNatClampNeg F6_129)), .unset] [(.int (p1.toInt8.toInt32)), (.int (F6_129 0))])) ?_ (fun t q => XS.i2b X1.here hx rfl (hb hby at_155) rfl q)
        refine own_ite (fun hc156 => ?_) (fun hc156 => ?_)
        · refine own_st (T' := T1) (f' := (mkF m 159 #[.val (.int p0), .val (.int p1), .val (.int p2), .val (.int p3), .val (.int p4), .val (.int (vl p0 p1 p2 p3 p4)), .val (.ref r6_129), .val (.int g7_129), .val (.int (f1  (vl p0 p1 p2 p3 p4).toNatClampNeg F6_129)), .unset] [])) ?_ (fun t q => XS.icmpNo X1.here hx rfl (hb hby at_156) rfl (teq hc156).2 q)
          exact B159 T1 _ r6_129 g7_129 (f1  (vl p0 p1 p2 p3 p4).toNatClampNeg F6_129) F6_129 X1 N1 zs1 G_r6_129 A1_r6_129
        · refine own_st (T' := T1) (f' := (mkF m 209 #[.val (.int p0), .val (.int p1), .val (.int p2), .val (.int p3), .val (.int p4), .val (.int (vl p0 p1 p2 p3 p4)), .val (.ref r6_129), .val (.int g7_129), .val (.int (f1  (vl p0 p1 p2 p3 p4).toNatClampNeg F6_129)), .unset] [])) ?_ (fun t q => XS.icmpYes X1.here hx rfl (pc0 := 156) (pc' := 209) rfl (hb hby at_156) rfl (feq hc156).2 (by decide) (by decide) q)
          exact B209 T1 _ r6_129 g7_129 (f1  (vl p0 p1 p2 p3 p4).toNatClampNeg F6_129) F6_129 X1 N1 zs1 G_r6_129 A1_r6_129
    · refine own_st (T' := T1) (f' := (mkF m 209 #[.val (.int p0), .val (.int p1), .val (.int p2), .val (.int p3), .val (.int p4), .val (.int (vl p0 p1 p2 p3 p4)), .val (.ref r6_129), .val (.int g7_129), .val (.int (f1  (vl p0 p1 p2 p3 p4).toNatClampNeg F6_129)), .unset] [])) ?_ (fun t q => XS.icmpYes X1.here hx rfl (pc0 := 141) (pc' := 209) rfl (hb hby at_141) rfl (feq hc141).2 (by decide) (by decide) q)
      exact B209 T1 _ r6_129 g7_129 (f1  (vl p0 p1 p2 p3 p4).toNatClampNeg F6_129) F6_129 X1 N1 zs1 G_r6_129 A1_r6_129
  have B112 : ∀ (T : State) (locs : List Loc) (r6_112 : Addr) (g7_112 : Int32) (F6_112 : Nat → Int32) (X : Stand p l e room_1 s m #[(.int p0), (.int p1), (.int p2), (.int p3), (.int p4)] below meth c T locs 1 4) (N : Fr n0 locs) (zs : n0 ≤ T.heap.size) (G_r6_112 : n0 ≤ r6_112) (A_r6_112 : own_A Z T.heap r6_112 .byte (vl p0 p1 p2 p3 p4).toNatClampNeg F6_112), own_W p e below s 1 4 (own_GI n0 (fun _ => True) (f0_112 p0 p1 p2 p3 p4 g7_112 F6_112)) T (mkF m 112 #[.val (.int p0), .val (.int p1), .val (.int p2), .val (.int p3), .val (.int p4), .val (.int (vl p0 p1 p2 p3 p4)), .val (.ref r6_112), .val (.int g7_112), .unset, .unset] []) := by
    intro T locs r6_112 g7_112 F6_112 X N zs G_r6_112 A_r6_112
    unfold f0_112
    refine own_st (T' := T) (f' := (mkF m 114 #[.val (.int p0), .val (.int p1), .val (.int p2), .val (.int p3), .val (.int p4), .val (.int (vl p0 p1 p2 p3 p4)), .val (.ref r6_112), .val (.int g7_112), .unset, .unset] [(.int (vl p0 p1 p2 p3 p4))])) ?_ (fun t q => XS.iload X.here hx rfl (hb hby at_112) rfl q)
    refine own_st (T' := T) (f' := (mkF m 115 #[.val (.int p0), .val (.int p1), .val (.int p2), .val (.int p3), .val (.int p4), .val (.int (vl p0 p1 p2 p3 p4)), .val (.ref r6_112), .val (.int g7_112), .unset, .unset] [(.int (3 : Int32)), (.int (vl p0 p1 p2 p3 p4))])) ?_ (fun t q => XS.iconst X.here hx rfl (hb hby at_114) q)
    refine own_ite (fun hc115 => ?_) (fun hc115 => ?_)
    · refine own_st (T' := T) (f' := (mkF m 118 #[.val (.int p0), .val (.int p1), .val (.int p2), .val (.int p3), .val (.int p4), .val (.int (vl p0 p1 p2 p3 p4)), .val (.ref r6_112), .val (.int g7_112), .unset, .unset] [])) ?_ (fun t q => XS.icmpNo X.here hx rfl (hb hby at_115) rfl (tlt hc115).2.2.2 q)
      refine own_st (T' := T) (f' := (mkF m 120 #[.val (.int p0), .val (.int p1), .val (.int p2), .val (.int p3), .val (.int p4), .val (.int (vl p0 p1 p2 p3 p4)), .val (.ref r6_112), .val (.int g7_112), .unset, .unset] [(.int p4)])) ?_ (fun t q => XS.iload X.here hx rfl (hb hby at_118) rfl q)
      obtain ⟨_, _, ⟨T2, L2, k2, n2⟩, -, X2, ⟨Lc2, hQ2, l2, y2, z2⟩, st2⟩ := Jvm.LawKit.callS X hx (y := (⟨"com/example/cuvette/cuvette/mllp/FramesCanFramePinLaw", "isBlock", "(I)Z"⟩ : MethodName)) hown (mvT hZ (hw _ (List.mem_of_getElem? (i := 6) rfl))) (mvT hZ (hw _ (List.mem_of_getElem? (i := 7) rfl))) (mvT hZ (hw _ (List.mem_of_getElem? (i := 8) rfl))) (mvT hZ (hw _ (List.mem_of_getElem? (i := 9) rfl))) (by decide) (backOf (W := 0) (rm2 l Z a0 hw [] p4 T.heap n0) hZ (hw _ (List.mem_of_getElem? (i := 9) rfl)) (hw _ (List.mem_of_getElem? (i := 8) rfl)) (by decide) (by decide)) (g := (mkF m 120 #[.val (.int p0), .val (.int p1), .val (.int p2), .val (.int p3), .val (.int p4), .val (.int (vl p0 p1 p2 p3 p4)), .val (.ref r6_112), .val (.int g7_112), .unset, .unset] [(.int p4)])) rfl (by rw [hml]; rfl) (argsL := [(.int p4)]) (rest := []) (lenOf pd_0 rfl) rfl (by show 2 * 0 + _ ≤ _; exact Nat.le_of_eq rfl) (hb hby at_120) (fun _ _ => ⟨rfl, rfl, (Nat.le_of_ble_eq_true rfl), (Nat.le_of_ble_eq_true rfl)⟩)
      dsimp only [Pt.U, Pt.locs, Pt.cells, Pt.slots] at X2 l2 y2 z2 st2 hQ2
      subst l2 y2 z2
      obtain ⟨rfl, N2q, e2⟩ := hQ2
      have N2 := Fr.app N N2q
      have zs2 : n0 ≤ T2.heap.size := by rw [e2]; exact zs
      have A2_r6_112 := own_A.eq A_r6_112 e2
      refine own_st (T' := T2) (f' := (mkF m 123 #[.val (.int p0), .val (.int p1), .val (.int p2), .val (.int p3), .val (.int p4), .val (.int (vl p0 p1 p2 p3 p4)), .val (.ref r6_112), .val (.int g7_112), .unset, .unset] [(.int (f2 p4))])) ?_ (fun t q => st2 _ q)
      refine own_ite (fun hc123 => ?_) (fun hc123 => ?_)
      · refine own_st (T' := T2) (f' := (mkF m 129 #[.val (.int p0), .val (.int p1), .val (.int p2), .val (.int p3), .val (.int p4), .val (.int (vl p0 p1 p2 p3 p4)), .val (.ref r6_112), .val (.int g7_112), .unset, .unset] [])) ?_ (fun t q => XS.ifYes X2.here hx rfl (pc0 := 123) (pc' := 129) rfl (hb hby at_123) rfl ((if0 _ _).trans (teq hc123).1) (by decide) (by decide) q)
        exact B129 T2 _ r6_112 g7_112 F6_112 X2 N2 zs2 G_r6_112 A2_r6_112
      · refine own_st (T' := T2) (f' := (mkF m 126 #[.val (.int p0), .val (.int p1), .val (.int p2), .val (.int p3), .val (.int p4), .val (.int (vl p0 p1 p2 p3 p4)), .val (.ref r6_112), .val (.int g7_112), .unset, .unset] [])) ?_ (fun t q => XS.ifNo X2.here hx rfl (hb hby at_123) rfl ((if0 _ _).trans (feq hc123).1) q)
        refine own_st (T' := T2) (f' := (mkF m 127 #[.val (.int p0), .val (.int p1), .val (.int p2), .val (.int p3), .val (.int p4), .val (.int (vl p0 p1 p2 p3 p4)), .val (.ref r6_112), .val (.int g7_112), .unset, .unset] [(.int (0 : Int32))])) ?_ (fun t q => XS.iconst X2.here hx rfl (hb hby at_126) q)
        refine own_st (T' := T2) (f' := (mkF m 129 #[.val (.int p0), .val (.int p1), .val (.int p2), .val (.int p3), .val (.int p4), .val (.int (vl p0 p1 p2 p3 p4)), .val (.ref r6_112), .val (.int (0 : Int32)), .unset, .unset] [])) ?_ (fun t q => XS.istore X2.here hx rfl (hb hby at_127) rfl (l' := #[.val (.int p0), .val (.int p1), .val (.int p2), .val (.int p3), .val (.int p4), .val (.int (vl p0 p1 p2 p3 p4)), .val (.ref r6_112), .val (.int (0 : Int32)), .unset, .unset]) rfl q)
        exact B129 T2 _ r6_112 (0 : Int32) F6_112 X2 N2 zs2 G_r6_112 A2_r6_112
    · refine own_st (T' := T) (f' := (mkF m 129 #[.val (.int p0), .val (.int p1), .val (.int p2), .val (.int p3), .val (.int p4), .val (.int (vl p0 p1 p2 p3 p4)), .val (.ref r6_112), .val (.int g7_112), .unset, .unset] [])) ?_ (fun t q => XS.icmpYes X.here hx rfl (pc0 := 115) (pc' := 129) rfl (hb hby at_115) rfl (flt hc115).2.2.2 (by decide) (by decide) q)
      exact B129 T _ r6_112 g7_112 F6_112 X N zs G_r6_112 A_r6_112
  have B96 : ∀ (T : State) (locs : List Loc) (r6_96 : Addr) (g7_96 : Int32) (F6_96 : Nat → Int32) (X : Stand p l e room_1 s m #[(.int p0), (.int p1), (.int p2), (.int p3), (.int p4)] below meth c T locs 1 4) (N : Fr n0 locs) (zs : n0 ≤ T.heap.size) (G_r6_96 : n0 ≤ r6_96) (A_r6_96 : own_A Z T.heap r6_96 .byte (vl p0 p1 p2 p3 p4).toNatClampNeg F6_96), own_W p e below s 1 4 (own_GI n0 (fun _ => True) (f0_96 p0 p1 p2 p3 p4 g7_96 F6_96)) T (mkF m 96 #[.val (.int p0), .val (.int p1), .val (.int p2), .val (.int p3), .val (.int p4), .val (.int (vl p0 p1 p2 p3 p4)), .val (.ref r6_96), .val (.int g7_96), .unset, .unset] []) := by
    intro T locs r6_96 g7_96 F6_96 X N zs G_r6_96 A_r6_96
    unfold f0_96
    refine own_st (T' := T) (f' := (mkF m 98 #[.val (.int p0), .val (.int p1), .val (.int p2), .val (.int p3), .val (.int p4), .val (.int (vl p0 p1 p2 p3 p4)), .val (.ref r6_96), .val (.int g7_96), .unset, .unset] [(.int (vl p0 p1 p2 p3 p4))])) ?_ (fun t q => XS.iload X.here hx rfl (hb hby at_96) rfl q)
    refine own_st (T' := T) (f' := (mkF m 99 #[.val (.int p0), .val (.int p1), .val (.int p2), .val (.int p3), .val (.int p4), .val (.int (vl p0 p1 p2 p3 p4)), .val (.ref r6_96), .val (.int g7_96), .unset, .unset] [(.int (2 : Int32)), (.int (vl p0 p1 p2 p3 p4))])) ?_ (fun t q => XS.iconst X.here hx rfl (hb hby at_98) q)
    refine own_ite (fun hc99 => ?_) (fun hc99 => ?_)
    · refine own_st (T' := T) (f' := (mkF m 102 #[.val (.int p0), .val (.int p1), .val (.int p2), .val (.int p3), .val (.int p4), .val (.int (vl p0 p1 p2 p3 p4)), .val (.ref r6_96), .val (.int g7_96), .unset, .unset] [])) ?_ (fun t q => XS.icmpNo X.here hx rfl (hb hby at_99) rfl (tlt hc99).2.2.2 q)
      refine own_st (T' := T) (f' := (mkF m 103 #[.val (.int p0), .val (.int p1), .val (.int p2), .val (.int p3), .val (.int p4), .val (.int (vl p0 p1 p2 p3 p4)), .val (.ref r6_96), .val (.int g7_96), .unset, .unset] [(.int p3)])) ?_ (fun t q => XS.iloadN X.here hx rfl (hb hby at_102) rfl q)
      obtain ⟨_, _, ⟨T3, L3, k3, n3⟩, -, X3, ⟨Lc3, hQ3, l3, y3, z3⟩, st3⟩ := Jvm.LawKit.callS X hx (y := (⟨"com/example/cuvette/cuvette/mllp/FramesCanFramePinLaw", "isBlock", "(I)Z"⟩ : MethodName)) hown (mvT hZ (hw _ (List.mem_of_getElem? (i := 6) rfl))) (mvT hZ (hw _ (List.mem_of_getElem? (i := 7) rfl))) (mvT hZ (hw _ (List.mem_of_getElem? (i := 8) rfl))) (mvT hZ (hw _ (List.mem_of_getElem? (i := 9) rfl))) (by decide) (backOf (W := 0) (rm2 l Z a0 hw [] p3 T.heap n0) hZ (hw _ (List.mem_of_getElem? (i := 9) rfl)) (hw _ (List.mem_of_getElem? (i := 8) rfl)) (by decide) (by decide)) (g := (mkF m 103 #[.val (.int p0), .val (.int p1), .val (.int p2), .val (.int p3), .val (.int p4), .val (.int (vl p0 p1 p2 p3 p4)), .val (.ref r6_96), .val (.int g7_96), .unset, .unset] [(.int p3)])) rfl (by rw [hml]; rfl) (argsL := [(.int p3)]) (rest := []) (lenOf pd_0 rfl) rfl (by show 2 * 0 + _ ≤ _; exact Nat.le_of_eq rfl) (hb hby at_103) (fun _ _ => ⟨rfl, rfl, (Nat.le_of_ble_eq_true rfl), (Nat.le_of_ble_eq_true rfl)⟩)
      dsimp only [Pt.U, Pt.locs, Pt.cells, Pt.slots] at X3 l3 y3 z3 st3 hQ3
      subst l3 y3 z3
      obtain ⟨rfl, N3q, e3⟩ := hQ3
      have N3 := Fr.app N N3q
      have zs3 : n0 ≤ T3.heap.size := by rw [e3]; exact zs
      have A3_r6_96 := own_A.eq A_r6_96 e3
      refine own_st (T' := T3) (f' := (mkF m 106 #[.val (.int p0), .val (.int p1), .val (.int p2), .val (.int p3), .val (.int p4), .val (.int (vl p0 p1 p2 p3 p4)), .val (.ref r6_96), .val (.int g7_96), .unset, .unset] [(.int (f2 p3))])) ?_ (fun t q => st3 _ q)
      refine own_ite (fun hc106 => ?_) (fun hc106 => ?_)
      · refine own_st (T' := T3) (f' := (mkF m 112 #[.val (.int p0), .val (.int p1), .val (.int p2), .val (.int p3), .val (.int p4), .val (.int (vl p0 p1 p2 p3 p4)), .val (.ref r6_96), .val (.int g7_96), .unset, .unset] [])) ?_ (fun t q => XS.ifYes X3.here hx rfl (pc0 := 106) (pc' := 112) rfl (hb hby at_106) rfl ((if0 _ _).trans (teq hc106).1) (by decide) (by decide) q)
        exact B112 T3 _ r6_96 g7_96 F6_96 X3 N3 zs3 G_r6_96 A3_r6_96
      · refine own_st (T' := T3) (f' := (mkF m 109 #[.val (.int p0), .val (.int p1), .val (.int p2), .val (.int p3), .val (.int p4), .val (.int (vl p0 p1 p2 p3 p4)), .val (.ref r6_96), .val (.int g7_96), .unset, .unset] [])) ?_ (fun t q => XS.ifNo X3.here hx rfl (hb hby at_106) rfl ((if0 _ _).trans (feq hc106).1) q)
        refine own_st (T' := T3) (f' := (mkF m 110 #[.val (.int p0), .val (.int p1), .val (.int p2), .val (.int p3), .val (.int p4), .val (.int (vl p0 p1 p2 p3 p4)), .val (.ref r6_96), .val (.int g7_96), .unset, .unset] [(.int (0 : Int32))])) ?_ (fun t q => XS.iconst X3.here hx rfl (hb hby at_109) q)
        refine own_st (T' := T3) (f' := (mkF m 112 #[.val (.int p0), .val (.int p1), .val (.int p2), .val (.int p3), .val (.int p4), .val (.int (vl p0 p1 p2 p3 p4)), .val (.ref r6_96), .val (.int (0 : Int32)), .unset, .unset] [])) ?_ (fun t q => XS.istore X3.here hx rfl (hb hby at_110) rfl (l' := #[.val (.int p0), .val (.int p1), .val (.int p2), .val (.int p3), .val (.int p4), .val (.int (vl p0 p1 p2 p3 p4)), .val (.ref r6_96), .val (.int (0 : Int32)), .unset, .unset]) rfl q)
        exact B112 T3 _ r6_96 (0 : Int32) F6_96 X3 N3 zs3 G_r6_96 A3_r6_96
    · refine own_st (T' := T) (f' := (mkF m 112 #[.val (.int p0), .val (.int p1), .val (.int p2), .val (.int p3), .val (.int p4), .val (.int (vl p0 p1 p2 p3 p4)), .val (.ref r6_96), .val (.int g7_96), .unset, .unset] [])) ?_ (fun t q => XS.icmpYes X.here hx rfl (pc0 := 99) (pc' := 112) rfl (hb hby at_99) rfl (flt hc99).2.2.2 (by decide) (by decide) q)
      exact B112 T _ r6_96 g7_96 F6_96 X N zs G_r6_96 A_r6_96
  have B80 : ∀ (T : State) (locs : List Loc) (r6_80 : Addr) (g7_80 : Int32) (F6_80 : Nat → Int32) (X : Stand p l e room_1 s m #[(.int p0), (.int p1), (.int p2), (.int p3), (.int p4)] below meth c T locs 1 4) (N : Fr n0 locs) (zs : n0 ≤ T.heap.size) (G_r6_80 : n0 ≤ r6_80) (A_r6_80 : own_A Z T.heap r6_80 .byte (vl p0 p1 p2 p3 p4).toNatClampNeg F6_80), own_W p e below s 1 4 (own_GI n0 (fun _ => True) (f0_80 p0 p1 p2 p3 p4 g7_80 F6_80)) T (mkF m 80 #[.val (.int p0), .val (.int p1), .val (.int p2), .val (.int p3), .val (.int p4), .val (.int (vl p0 p1 p2 p3 p4)), .val (.ref r6_80), .val (.int g7_80), .unset, .unset] []) := by
    intro T locs r6_80 g7_80 F6_80 X N zs G_r6_80 A_r6_80
    unfold f0_80
    refine own_st (T' := T) (f' := (mkF m 82 #[.val (.int p0), .val (.int p1), .val (.int p2), .val (.int p3), .val (.int p4), .val (.int (vl p0 p1 p2 p3 p4)), .val (.ref r6_80), .val (.int g7_80), .unset, .unset] [(.int (vl p0 p1 p2 p3 p4))])) ?_ (fun t q => XS.iload X.here hx rfl (hb hby at_80) rfl q)
    refine own_st (T' := T) (f' := (mkF m 83 #[.val (.int p0), .val (.int p1), .val (.int p2), .val (.int p3), .val (.int p4), .val (.int (vl p0 p1 p2 p3 p4)), .val (.ref r6_80), .val (.int g7_80), .unset, .unset] [(.int (1 : Int32)), (.int (vl p0 p1 p2 p3 p4))])) ?_ (fun t q => XS.iconst X.here hx rfl (hb hby at_82) q)
    refine own_ite (fun hc83 => ?_) (fun hc83 => ?_)
    · refine own_st (T' := T) (f' := (mkF m 86 #[.val (.int p0), .val (.int p1), .val (.int p2), .val (.int p3), .val (.int p4), .val (.int (vl p0 p1 p2 p3 p4)), .val (.ref r6_80), .val (.int g7_80), .unset, .unset] [])) ?_ (fun t q => XS.icmpNo X.here hx rfl (hb hby at_83) rfl (tlt hc83).2.2.2 q)
      refine own_st (T' := T) (f' := (mkF m 87 #[.val (.int p0), .val (.int p1), .val (.int p2), .val (.int p3), .val (.int p4), .val (.int (vl p0 p1 p2 p3 p4)), .val (.ref r6_80), .val (.int g7_80), .unset, .unset] [(.int p2)])) ?_ (fun t q => XS.iloadN X.here hx rfl (hb hby at_86) rfl q)
      obtain ⟨_, _, ⟨T4, L4, k4, n4⟩, -, X4, ⟨Lc4, hQ4, l4, y4, z4⟩, st4⟩ := Jvm.LawKit.callS X hx (y := (⟨"com/example/cuvette/cuvette/mllp/FramesCanFramePinLaw", "isBlock", "(I)Z"⟩ : MethodName)) hown (mvT hZ (hw _ (List.mem_of_getElem? (i := 6) rfl))) (mvT hZ (hw _ (List.mem_of_getElem? (i := 7) rfl))) (mvT hZ (hw _ (List.mem_of_getElem? (i := 8) rfl))) (mvT hZ (hw _ (List.mem_of_getElem? (i := 9) rfl))) (by decide) (backOf (W := 0) (rm2 l Z a0 hw [] p2 T.heap n0) hZ (hw _ (List.mem_of_getElem? (i := 9) rfl)) (hw _ (List.mem_of_getElem? (i := 8) rfl)) (by decide) (by decide)) (g := (mkF m 87 #[.val (.int p0), .val (.int p1), .val (.int p2), .val (.int p3), .val (.int p4), .val (.int (vl p0 p1 p2 p3 p4)), .val (.ref r6_80), .val (.int g7_80), .unset, .unset] [(.int p2)])) rfl (by rw [hml]; rfl) (argsL := [(.int p2)]) (rest := []) (lenOf pd_0 rfl) rfl (by show 2 * 0 + _ ≤ _; exact Nat.le_of_eq rfl) (hb hby at_87) (fun _ _ => ⟨rfl, rfl, (Nat.le_of_ble_eq_true rfl), (Nat.le_of_ble_eq_true rfl)⟩)
      dsimp only [Pt.U, Pt.locs, Pt.cells, Pt.slots] at X4 l4 y4 z4 st4 hQ4
      subst l4 y4 z4
      obtain ⟨rfl, N4q, e4⟩ := hQ4
      have N4 := Fr.app N N4q
      have zs4 : n0 ≤ T4.heap.size := by rw [e4]; exact zs
      have A4_r6_80 := own_A.eq A_r6_80 e4
      refine own_st (T' := T4) (f' := (mkF m 90 #[.val (.int p0), .val (.int p1), .val (.int p2), .val (.int p3), .val (.int p4), .val (.int (vl p0 p1 p2 p3 p4)), .val (.ref r6_80), .val (.int g7_80), .unset, .unset] [(.int (f2 p2))])) ?_ (fun t q => st4 _ q)
      refine own_ite (fun hc90 => ?_) (fun hc90 => ?_)
      · refine own_st (T' := T4) (f' := (mkF m 96 #[.val (.int p0), .val (.int p1), .val (.int p2), .val (.int p3), .val (.int p4), .val (.int (vl p0 p1 p2 p3 p4)), .val (.ref r6_80), .val (.int g7_80), .unset, .unset] [])) ?_ (fun t q => XS.ifYes X4.here hx rfl (pc0 := 90) (pc' := 96) rfl (hb hby at_90) rfl ((if0 _ _).trans (teq hc90).1) (by decide) (by decide) q)
        exact B96 T4 _ r6_80 g7_80 F6_80 X4 N4 zs4 G_r6_80 A4_r6_80
      · refine own_st (T' := T4) (f' := (mkF m 93 #[.val (.int p0), .val (.int p1), .val (.int p2), .val (.int p3), .val (.int p4), .val (.int (vl p0 p1 p2 p3 p4)), .val (.ref r6_80), .val (.int g7_80), .unset, .unset] [])) ?_ (fun t q => XS.ifNo X4.here hx rfl (hb hby at_90) rfl ((if0 _ _).trans (feq hc90).1) q)
        refine own_st (T' := T4) (f' := (mkF m 94 #[.val (.int p0), .val (.int p1), .val (.int p2), .val (.int p3), .val (.int p4), .val (.int (vl p0 p1 p2 p3 p4)), .val (.ref r6_80), .val (.int g7_80), .unset, .unset] [(.int (0 : Int32))])) ?_ (fun t q => XS.iconst X4.here hx rfl (hb hby at_93) q)
        refine own_st (T' := T4) (f' := (mkF m 96 #[.val (.int p0), .val (.int p1), .val (.int p2), .val (.int p3), .val (.int p4), .val (.int (vl p0 p1 p2 p3 p4)), .val (.ref r6_80), .val (.int (0 : Int32)), .unset, .unset] [])) ?_ (fun t q => XS.istore X4.here hx rfl (hb hby at_94) rfl (l' := #[.val (.int p0), .val (.int p1), .val (.int p2), .val (.int p3), .val (.int p4), .val (.int (vl p0 p1 p2 p3 p4)), .val (.ref r6_80), .val (.int (0 : Int32)), .unset, .unset]) rfl q)
        exact B96 T4 _ r6_80 (0 : Int32) F6_80 X4 N4 zs4 G_r6_80 A4_r6_80
    · refine own_st (T' := T) (f' := (mkF m 96 #[.val (.int p0), .val (.int p1), .val (.int p2), .val (.int p3), .val (.int p4), .val (.int (vl p0 p1 p2 p3 p4)), .val (.ref r6_80), .val (.int g7_80), .unset, .unset] [])) ?_ (fun t q => XS.icmpYes X.here hx rfl (pc0 := 83) (pc' := 96) rfl (hb hby at_83) rfl (flt hc83).2.2.2 (by decide) (by decide) q)
      exact B96 T _ r6_80 g7_80 F6_80 X N zs G_r6_80 A_r6_80
  have B62 : ∀ (T : State) (locs : List Loc) (r6_62 : Addr) (F6_62 : Nat → Int32) (X : Stand p l e room_1 s m #[(.int p0), (.int p1), (.int p2), (.int p3), (.int p4)] below meth c T locs 1 4) (N : Fr n0 locs) (zs : n0 ≤ T.heap.size) (G_r6_62 : n0 ≤ r6_62) (A_r6_62 : own_A Z T.heap r6_62 .byte (vl p0 p1 p2 p3 p4).toNatClampNeg F6_62), own_W p e below s 1 4 (own_GI n0 (fun _ => True) (f0_62 p0 p1 p2 p3 p4 F6_62)) T (mkF m 62 #[.val (.int p0), .val (.int p1), .val (.int p2), .val (.int p3), .val (.int p4), .val (.int (vl p0 p1 p2 p3 p4)), .val (.ref r6_62), .unset, .unset, .unset] []) := by
    intro T locs r6_62 F6_62 X N zs G_r6_62 A_r6_62
    unfold f0_62
    refine own_st (T' := T) (f' := (mkF m 63 #[.val (.int p0), .val (.int p1), .val (.int p2), .val (.int p3), .val (.int p4), .val (.int (vl p0 p1 p2 p3 p4)), .val (.ref r6_62), .unset, .unset, .unset] [(.int (1 : Int32))])) ?_ (fun t q => XS.iconst X.here hx rfl (hb hby at_62) q)
    refine own_st (T' := T) (f' := (mkF m 65 #[.val (.int p0), .val (.int p1), .val (.int p2), .val (.int p3), .val (.int p4), .val (.int (vl p0 p1 p2 p3 p4)), .val (.ref r6_62), .val (.int (1 : Int32)), .unset, .unset] [])) ?_ (fun t q => XS.istore X.here hx rfl (hb hby at_63) rfl (l' := #[.val (.int p0), .val (.int p1), .val (.int p2), .val (.int p3), .val (.int p4), .val (.int (vl p0 p1 p2 p3 p4)), .val (.ref r6_62), .val (.int (1 : Int32)), .unset, .unset]) rfl q)
    refine own_st (T' := T) (f' := (mkF m 67 #[.val (.int p0), .val (.int p1), .val (.int p2), .val (.int p3), .val (.int p4), .val (.int (vl p0 p1 p2 p3 p4)), .val (.ref r6_62), .val (.int (1 : Int32)), .unset, .unset] [(.int (vl p0 p1 p2 p3 p4))])) ?_ (fun t q => XS.iload X.here hx rfl (hb hby at_65) rfl q)
    refine own_ite (fun hc67 => ?_) (fun hc67 => ?_)
    · refine own_st (T' := T) (f' := (mkF m 70 #[.val (.int p0), .val (.int p1), .val (.int p2), .val (.int p3), .val (.int p4), .val (.int (vl p0 p1 p2 p3 p4)), .val (.ref r6_62), .val (.int (1 : Int32)), .unset, .unset] [])) ?_ (fun t q => XS.ifNo X.here hx rfl (hb hby at_67) rfl ((if0 _ _).trans (tlt hc67).2.2.2) q)
      refine own_st (T' := T) (f' := (mkF m 71 #[.val (.int p0), .val (.int p1), .val (.int p2), .val (.int p3), .val (.int p4), .val (.int (vl p0 p1 p2 p3 p4)), .val (.ref r6_62), .val (.int (1 : Int32)), .unset, .unset] [(.int p1)])) ?_ (fun t q => XS.iloadN X.here hx rfl (hb hby at_70) rfl q)
      obtain ⟨_, _, ⟨T5, L5, k5, n5⟩, -, X5, ⟨Lc5, hQ5, l5, y5, z5⟩, st5⟩ := Jvm.LawKit.callS X hx (y := (⟨"com/example/cuvette/cuvette/mllp/FramesCanFramePinLaw", "isBlock", "(I)Z"⟩ : MethodName)) hown (mvT hZ (hw _ (List.mem_of_getElem? (i := 6) rfl))) (mvT hZ (hw _ (List.mem_of_getElem? (i := 7) rfl))) (mvT hZ (hw _ (List.mem_of_getElem? (i := 8) rfl))) (mvT hZ (hw _ (List.mem_of_getElem? (i := 9) rfl))) (by decide) (backOf (W := 0) (rm2 l Z a0 hw [] p1 T.heap n0) hZ (hw _ (List.mem_of_getElem? (i := 9) rfl)) (hw _ (List.mem_of_getElem? (i := 8) rfl)) (by decide) (by decide)) (g := (mkF m 71 #[.val (.int p0), .val (.int p1), .val (.int p2), .val (.int p3), .val (.int p4), .val (.int (vl p0 p1 p2 p3 p4)), .val (.ref r6_62), .val (.int (1 : Int32)), .unset, .unset] [(.int p1)])) rfl (by rw [hml]; rfl) (argsL := [(.int p1)]) (rest := []) (lenOf pd_0 rfl) rfl (by show 2 * 0 + _ ≤ _; exact Nat.le_of_eq rfl) (hb hby at_71) (fun _ _ => ⟨rfl, rfl, (Nat.le_of_ble_eq_true rfl), (Nat.le_of_ble_eq_true rfl)⟩)
      dsimp only [Pt.U, Pt.locs, Pt.cells, Pt.slots] at X5 l5 y5 z5 st5 hQ5
      subst l5 y5 z5
      obtain ⟨rfl, N5q, e5⟩ := hQ5
      have N5 := Fr.app N N5q
      have zs5 : n0 ≤ T5.heap.size := by rw [e5]; exact zs
      have A5_r6_62 := own_A.eq A_r6_62 e5
      refine own_st (T' := T5) (f' := (mkF m 74 #[.val (.int p0), .val (.int p1), .val (.int p2), .val (.int p3), .val (.int p4), .val (.int (vl p0 p1 p2 p3 p4)), .val (.ref r6_62), .val (.int (1 : Int32)), .unset, .unset] [(.int (f2 p1))])) ?_ (fun t q => st5 _ q)
      refine own_ite (fun hc74 => ?_) (fun hc74 => ?_)
      · refine own_st (T' := T5) (f' := (mkF m 80 #[.val (.int p0), .val (.int p1), .val (.int p2), .val (.int p3), .val (.int p4), .val (.int (vl p0 p1 p2 p3 p4)), .val (.ref r6_62), .val (.int (1 : Int32)), .unset, .unset] [])) ?_ (fun t q => XS.ifYes X5.here hx rfl (pc0 := 74) (pc' := 80) rfl (hb hby at_74) rfl ((if0 _ _).trans (teq hc74).1) (by decide) (by decide) q)
        exact B80 T5 _ r6_62 (1 : Int32) F6_62 X5 N5 zs5 G_r6_62 A5_r6_62
      · refine own_st (T' := T5) (f' := (mkF m 77 #[.val (.int p0), .val (.int p1), .val (.int p2), .val (.int p3), .val (.int p4), .val (.int (vl p0 p1 p2 p3 p4)), .val (.ref r6_62), .val (.int (1 : Int32)), .unset, .unset] [])) ?_ (fun t q => XS.ifNo X5.here hx rfl (hb hby at_74) rfl ((if0 _ _).trans (feq hc74).1) q)
        refine own_st (T' := T5) (f' := (mkF m 78 #[.val (.int p0), .val (.int p1), .val (.int p2), .val (.int p3), .val (.int p4), .val (.int (vl p0 p1 p2 p3 p4)), .val (.ref r6_62), .val (.int (1 : Int32)), .unset, .unset] [(.int (0 : Int32))])) ?_ (fun t q => XS.iconst X5.here hx rfl (hb hby at_77) q)
        refine own_st (T' := T5) (f' := (mkF m 80 #[.val (.int p0), .val (.int p1), .val (.int p2), .val (.int p3), .val (.int p4), .val (.int (vl p0 p1 p2 p3 p4)), .val (.ref r6_62), .val (.int (0 : Int32)), .unset, .unset] [])) ?_ (fun t q => XS.istore X5.here hx rfl (hb hby at_78) rfl (l' := #[.val (.int p0), .val (.int p1), .val (.int p2), .val (.int p3), .val (.int p4), .val (.int (vl p0 p1 p2 p3 p4)), .val (.ref r6_62), .val (.int (0 : Int32)), .unset, .unset]) rfl q)
        exact B80 T5 _ r6_62 (0 : Int32) F6_62 X5 N5 zs5 G_r6_62 A5_r6_62
    · refine own_st (T' := T) (f' := (mkF m 80 #[.val (.int p0), .val (.int p1), .val (.int p2), .val (.int p3), .val (.int p4), .val (.int (vl p0 p1 p2 p3 p4)), .val (.ref r6_62), .val (.int (1 : Int32)), .unset, .unset] [])) ?_ (fun t q => XS.ifYes X.here hx rfl (pc0 := 67) (pc' := 80) rfl (hb hby at_67) rfl ((if0 _ _).trans (flt hc67).2.2.2) (by decide) (by decide) q)
      exact B80 T _ r6_62 (1 : Int32) F6_62 X N zs G_r6_62 A_r6_62
  have B49 : ∀ (T : State) (locs : List Loc) (r6_49 : Addr) (F6_49 : Nat → Int32) (X : Stand p l e room_1 s m #[(.int p0), (.int p1), (.int p2), (.int p3), (.int p4)] below meth c T locs 1 4) (N : Fr n0 locs) (zs : n0 ≤ T.heap.size) (G_r6_49 : n0 ≤ r6_49) (A_r6_49 : own_A Z T.heap r6_49 .byte (vl p0 p1 p2 p3 p4).toNatClampNeg F6_49), own_W p e below s 1 4 (own_GI n0 (fun _ => True) (f0_49 p0 p1 p2 p3 p4 F6_49)) T (mkF m 49 #[.val (.int p0), .val (.int p1), .val (.int p2), .val (.int p3), .val (.int p4), .val (.int (vl p0 p1 p2 p3 p4)), .val (.ref r6_49), .unset, .unset, .unset] []) := by
    intro T locs r6_49 F6_49 X N zs G_r6_49 A_r6_49
    unfold f0_49
    refine own_st (T' := T) (f' := (mkF m 51 #[.val (.int p0), .val (.int p1), .val (.int p2), .val (.int p3), .val (.int p4), .val (.int (vl p0 p1 p2 p3 p4)), .val (.ref r6_49), .unset, .unset, .unset] [(.int (vl p0 p1 p2 p3 p4))])) ?_ (fun t q => XS.iload X.here hx rfl (hb hby at_49) rfl q)
    refine own_st (T' := T) (f' := (mkF m 52 #[.val (.int p0), .val (.int p1), .val (.int p2), .val (.int p3), .val (.int p4), .val (.int (vl p0 p1 p2 p3 p4)), .val (.ref r6_49), .unset, .unset, .unset] [(.int (3 : Int32)), (.int (vl p0 p1 p2 p3 p4))])) ?_ (fun t q => XS.iconst X.here hx rfl (hb hby at_51) q)
    refine own_ite (fun hc52 => ?_) (fun hc52 => ?_)
    · refine own_st (T' := T) (f' := (mkF m 55 #[.val (.int p0), .val (.int p1), .val (.int p2), .val (.int p3), .val (.int p4), .val (.int (vl p0 p1 p2 p3 p4)), .val (.ref r6_49), .unset, .unset, .unset] [])) ?_ (fun t q => XS.icmpNo X.here hx rfl (hb hby at_52) rfl (tlt hc52).2.2.2 q)
      refine own_st (T' := T) (f' := (mkF m 57 #[.val (.int p0), .val (.int p1), .val (.int p2), .val (.int p3), .val (.int p4), .val (.int (vl p0 p1 p2 p3 p4)), .val (.ref r6_49), .unset, .unset, .unset] [(.ref r6_49)])) ?_ (fun t q => XS.aload X.here hx rfl (hb hby at_55) rfl rfl q)
      refine own_st (T' := T) (f' := (mkF m 58 #[.val (.int p0), .val (.int p1), .val (.int p2), .val (.int p3), .val (.int p4), .val (.int (vl p0 p1 p2 p3 p4)), .val (.ref r6_49), .unset, .unset, .unset] [(.int (3 : Int32)), (.ref r6_49)])) ?_ (fun t q => XS.iconst X.here hx rfl (hb hby at_57) q)
      refine own_st (T' := T) (f' := (mkF m 60 #[.val (.int p0), .val (.int p1), .val (.int p2), .val (.int p3), .val (.int p4), .val (.int (vl p0 p1 p2 p3 p4)), .val (.ref r6_49), .unset, .unset, .unset] [(.int p4), (.int (3 : Int32)), (.ref r6_49)])) ?_ (fun t q => XS.iload X.here hx rfl (hb hby at_58) rfl q)
      refine own_st (T' := T) (f' := (mkF m 61 #[.val (.int p0), .val (.int p1), .val (.int p2), .val (.int p3), .val (.int p4), .val (.int (vl p0 p1 p2 p3 p4)), .val (.ref r6_49), .unset, .unset, .unset] [(.int (p4.toInt8.toInt32)), (.int (3 : Int32)), (.ref r6_49)])) ?_ (fun t q => XS.i2b X.here hx rfl (hb hby at_60) rfl q)
      refine own_bast X hx hZ A_r6_49 (j := (3 : Int32)) (x := (p4.toInt8.toInt32)) (own_idx (by decide) hc52 (Nat.le_refl _)) (hb hby at_61) N G_r6_49 (fun T6 lo6 X6 N6 K6 A6_r6_49 => ?_)
      have zs6 : n0 ≤ T6.heap.size := Nat.le_trans zs K6.1
      show own_W _ _ _ _ _ _ _ T6 (mkF m 62 #[.val (.int p0), .val (.int p1), .val (.int p2), .val (.int p3), .val (.int p4), .val (.int (vl p0 p1 p2 p3 p4)), .val (.ref r6_49), .unset, .unset, .unset] [])
      exact B62 T6 _ r6_49 (own_up F6_49 3 (nar .byte (p4.toInt8.toInt32))) X6 N6 zs6 G_r6_49 A6_r6_49
    · refine own_st (T' := T) (f' := (mkF m 62 #[.val (.int p0), .val (.int p1), .val (.int p2), .val (.int p3), .val (.int p4), .val (.int (vl p0 p1 p2 p3 p4)), .val (.ref r6_49), .unset, .unset, .unset] [])) ?_ (fun t q => XS.icmpYes X.here hx rfl (pc0 := 52) (pc' := 62) rfl (hb hby at_52) rfl (flt hc52).2.2.2 (by decide) (by decide) q)
      exact B62 T _ r6_49 F6_49 X N zs G_r6_49 A_r6_49
  have B37 : ∀ (T : State) (locs : List Loc) (r6_37 : Addr) (F6_37 : Nat → Int32) (X : Stand p l e room_1 s m #[(.int p0), (.int p1), (.int p2), (.int p3), (.int p4)] below meth c T locs 1 4) (N : Fr n0 locs) (zs : n0 ≤ T.heap.size) (G_r6_37 : n0 ≤ r6_37) (A_r6_37 : own_A Z T.heap r6_37 .byte (vl p0 p1 p2 p3 p4).toNatClampNeg F6_37), own_W p e below s 1 4 (own_GI n0 (fun _ => True) (f0_37 p0 p1 p2 p3 p4 F6_37)) T (mkF m 37 #[.val (.int p0), .val (.int p1), .val (.int p2), .val (.int p3), .val (.int p4), .val (.int (vl p0 p1 p2 p3 p4)), .val (.ref r6_37), .unset, .unset, .unset] []) := by
    intro T locs r6_37 F6_37 X N zs G_r6_37 A_r6_37
    unfold f0_37
    refine own_st (T' := T) (f' := (mkF m 39 #[.val (.int p0), .val (.int p1), .val (.int p2), .val (.int p3), .val (.int p4), .val (.int (vl p0 p1 p2 p3 p4)), .val (.ref r6_37), .unset, .unset, .unset] [(.int (vl p0 p1 p2 p3 p4))])) ?_ (fun t q => XS.iload X.here hx rfl (hb hby at_37) rfl q)
    refine own_st (T' := T) (f' := (mkF m 40 #[.val (.int p0), .val (.int p1), .val (.int p2), .val (.int p3), .val (.int p4), .val (.int (vl p0 p1 p2 p3 p4)), .val (.ref r6_37), .unset, .unset, .unset] [(.int (2 : Int32)), (.int (vl p0 p1 p2 p3 p4))])) ?_ (fun t q => XS.iconst X.here hx rfl (hb hby at_39) q)
    refine own_ite (fun hc40 => ?_) (fun hc40 => ?_)
    · refine own_st (T' := T) (f' := (mkF m 43 #[.val (.int p0), .val (.int p1), .val (.int p2), .val (.int p3), .val (.int p4), .val (.int (vl p0 p1 p2 p3 p4)), .val (.ref r6_37), .unset, .unset, .unset] [])) ?_ (fun t q => XS.icmpNo X.here hx rfl (hb hby at_40) rfl (tlt hc40).2.2.2 q)
      refine own_st (T' := T) (f' := (mkF m 45 #[.val (.int p0), .val (.int p1), .val (.int p2), .val (.int p3), .val (.int p4), .val (.int (vl p0 p1 p2 p3 p4)), .val (.ref r6_37), .unset, .unset, .unset] [(.ref r6_37)])) ?_ (fun t q => XS.aload X.here hx rfl (hb hby at_43) rfl rfl q)
      refine own_st (T' := T) (f' := (mkF m 46 #[.val (.int p0), .val (.int p1), .val (.int p2), .val (.int p3), .val (.int p4), .val (.int (vl p0 p1 p2 p3 p4)), .val (.ref r6_37), .unset, .unset, .unset] [(.int (2 : Int32)), (.ref r6_37)])) ?_ (fun t q => XS.iconst X.here hx rfl (hb hby at_45) q)
      refine own_st (T' := T) (f' := (mkF m 47 #[.val (.int p0), .val (.int p1), .val (.int p2), .val (.int p3), .val (.int p4), .val (.int (vl p0 p1 p2 p3 p4)), .val (.ref r6_37), .unset, .unset, .unset] [(.int p3), (.int (2 : Int32)), (.ref r6_37)])) ?_ (fun t q => XS.iloadN X.here hx rfl (hb hby at_46) rfl q)
      refine own_st (T' := T) (f' := (mkF m 48 #[.val (.int p0), .val (.int p1), .val (.int p2), .val (.int p3), .val (.int p4), .val (.int (vl p0 p1 p2 p3 p4)), .val (.ref r6_37), .unset, .unset, .unset] [(.int (p3.toInt8.toInt32)), (.int (2 : Int32)), (.ref r6_37)])) ?_ (fun t q => XS.i2b X.here hx rfl (hb hby at_47) rfl q)
      refine own_bast X hx hZ A_r6_37 (j := (2 : Int32)) (x := (p3.toInt8.toInt32)) (own_idx (by decide) hc40 (Nat.le_refl _)) (hb hby at_48) N G_r6_37 (fun T7 lo7 X7 N7 K7 A7_r6_37 => ?_)
      have zs7 : n0 ≤ T7.heap.size := Nat.le_trans zs K7.1
      show own_W _ _ _ _ _ _ _ T7 (mkF m 49 #[.val (.int p0), .val (.int p1), .val (.int p2), .val (.int p3), .val (.int p4), .val (.int (vl p0 p1 p2 p3 p4)), .val (.ref r6_37), .unset, .unset, .unset] [])
      exact B49 T7 _ r6_37 (own_up F6_37 2 (nar .byte (p3.toInt8.toInt32))) X7 N7 zs7 G_r6_37 A7_r6_37
    · refine own_st (T' := T) (f' := (mkF m 49 #[.val (.int p0), .val (.int p1), .val (.int p2), .val (.int p3), .val (.int p4), .val (.int (vl p0 p1 p2 p3 p4)), .val (.ref r6_37), .unset, .unset, .unset] [])) ?_ (fun t q => XS.icmpYes X.here hx rfl (pc0 := 40) (pc' := 49) rfl (hb hby at_40) rfl (flt hc40).2.2.2 (by decide) (by decide) q)
      exact B49 T _ r6_37 F6_37 X N zs G_r6_37 A_r6_37
  have B25 : ∀ (T : State) (locs : List Loc) (r6_25 : Addr) (F6_25 : Nat → Int32) (X : Stand p l e room_1 s m #[(.int p0), (.int p1), (.int p2), (.int p3), (.int p4)] below meth c T locs 1 4) (N : Fr n0 locs) (zs : n0 ≤ T.heap.size) (G_r6_25 : n0 ≤ r6_25) (A_r6_25 : own_A Z T.heap r6_25 .byte (vl p0 p1 p2 p3 p4).toNatClampNeg F6_25), own_W p e below s 1 4 (own_GI n0 (fun _ => True) (f0_25 p0 p1 p2 p3 p4 F6_25)) T (mkF m 25 #[.val (.int p0), .val (.int p1), .val (.int p2), .val (.int p3), .val (.int p4), .val (.int (vl p0 p1 p2 p3 p4)), .val (.ref r6_25), .unset, .unset, .unset] []) := by
    intro T locs r6_25 F6_25 X N zs G_r6_25 A_r6_25
    unfold f0_25
    refine own_st (T' := T) (f' := (mkF m 27 #[.val (.int p0), .val (.int p1), .val (.int p2), .val (.int p3), .val (.int p4), .val (.int (vl p0 p1 p2 p3 p4)), .val (.ref r6_25), .unset, .unset, .unset] [(.int (vl p0 p1 p2 p3 p4))])) ?_ (fun t q => XS.iload X.here hx rfl (hb hby at_25) rfl q)
    refine own_st (T' := T) (f' := (mkF m 28 #[.val (.int p0), .val (.int p1), .val (.int p2), .val (.int p3), .val (.int p4), .val (.int (vl p0 p1 p2 p3 p4)), .val (.ref r6_25), .unset, .unset, .unset] [(.int (1 : Int32)), (.int (vl p0 p1 p2 p3 p4))])) ?_ (fun t q => XS.iconst X.here hx rfl (hb hby at_27) q)
    refine own_ite (fun hc28 => ?_) (fun hc28 => ?_)
    · refine own_st (T' := T) (f' := (mkF m 31 #[.val (.int p0), .val (.int p1), .val (.int p2), .val (.int p3), .val (.int p4), .val (.int (vl p0 p1 p2 p3 p4)), .val (.ref r6_25), .unset, .unset, .unset] [])) ?_ (fun t q => XS.icmpNo X.here hx rfl (hb hby at_28) rfl (tlt hc28).2.2.2 q)
      refine own_st (T' := T) (f' := (mkF m 33 #[.val (.int p0), .val (.int p1), .val (.int p2), .val (.int p3), .val (.int p4), .val (.int (vl p0 p1 p2 p3 p4)), .val (.ref r6_25), .unset, .unset, .unset] [(.ref r6_25)])) ?_ (fun t q => XS.aload X.here hx rfl (hb hby at_31) rfl rfl q)
      refine own_st (T' := T) (f' := (mkF m 34 #[.val (.int p0), .val (.int p1), .val (.int p2), .val (.int p3), .val (.int p4), .val (.int (vl p0 p1 p2 p3 p4)), .val (.ref r6_25), .unset, .unset, .unset] [(.int (1 : Int32)), (.ref r6_25)])) ?_ (fun t q => XS.iconst X.here hx rfl (hb hby at_33) q)
      refine own_st (T' := T) (f' := (mkF m 35 #[.val (.int p0), .val (.int p1), .val (.int p2), .val (.int p3), .val (.int p4), .val (.int (vl p0 p1 p2 p3 p4)), .val (.ref r6_25), .unset, .unset, .unset] [(.int p2), (.int (1 : Int32)), (.ref r6_25)])) ?_ (fun t q => XS.iloadN X.here hx rfl (hb hby at_34) rfl q)
      refine own_st (T' := T) (f' := (mkF m 36 #[.val (.int p0), .val (.int p1), .val (.int p2), .val (.int p3), .val (.int p4), .val (.int (vl p0 p1 p2 p3 p4)), .val (.ref r6_25), .unset, .unset, .unset] [(.int (p2.toInt8.toInt32)), (.int (1 : Int32)), (.ref r6_25)])) ?_ (fun t q => XS.i2b X.here hx rfl (hb hby at_35) rfl q)
      refine own_bast X hx hZ A_r6_25 (j := (1 : Int32)) (x := (p2.toInt8.toInt32)) (own_idx (by decide) hc28 (Nat.le_refl _)) (hb hby at_36) N G_r6_25 (fun T8 lo8 X8 N8 K8 A8_r6_25 => ?_)
      have zs8 : n0 ≤ T8.heap.size := Nat.le_trans zs K8.1
      show own_W _ _ _ _ _ _ _ T8 (mkF m 37 #[.val (.int p0), .val (.int p1), .val (.int p2), .val (.int p3), .val (.int p4), .val (.int (vl p0 p1 p2 p3 p4)), .val (.ref r6_25), .unset, .unset, .unset] [])
      exact B37 T8 _ r6_25 (own_up F6_25 1 (nar .byte (p2.toInt8.toInt32))) X8 N8 zs8 G_r6_25 A8_r6_25
    · refine own_st (T' := T) (f' := (mkF m 37 #[.val (.int p0), .val (.int p1), .val (.int p2), .val (.int p3), .val (.int p4), .val (.int (vl p0 p1 p2 p3 p4)), .val (.ref r6_25), .unset, .unset, .unset] [])) ?_ (fun t q => XS.icmpYes X.here hx rfl (pc0 := 28) (pc' := 37) rfl (hb hby at_28) rfl (flt hc28).2.2.2 (by decide) (by decide) q)
      exact B37 T _ r6_25 F6_25 X N zs G_r6_25 A_r6_25
  show own_W p e below s 1 4 (own_GI n0 (fun _ => True) (f0 p0 p1 p2 p3 p4)) s₁ (entryFrame m #[(.int p0), (.int p1), (.int p2), (.int p3), (.int p4)] maxLocals)
  refine own_to (ef_0 m p0 p1 p2 p3 p4) ?_
  unfold f0
  refine own_st (T' := s₁) (f' := (mkF m 1 #[.val (.int p0), .val (.int p1), .val (.int p2), .val (.int p3), .val (.int p4), .unset, .unset, .unset, .unset, .unset] [(.int p0)])) ?_ (fun t q => XS.iloadN X0.here hx rfl (hb hby at_0) rfl q)
  refine own_st (T' := s₁) (f' := (mkF m 3 #[.val (.int p0), .val (.int p1), .val (.int p2), .val (.int p3), .val (.int p4), .unset, .unset, .unset, .unset, .unset] [(.int (2147483647 : Int32)), (.int p0)])) ?_ (fun t q => X0.ldcInt hx hown (mvT hZ (hw _ (List.mem_of_getElem? (i := 0) rfl))) (g := (mkF m 1 #[.val (.int p0), .val (.int p1), .val (.int p2), .val (.int p3), .val (.int p4), .unset, .unset, .unset, .unset, .unset] [(.int p0)])) rfl (hb hby at_1) _ q)
  refine own_st (T' := s₁) (f' := (mkF m 4 #[.val (.int p0), .val (.int p1), .val (.int p2), .val (.int p3), .val (.int p4), .unset, .unset, .unset, .unset, .unset] [(.int (p0 &&& (2147483647 : Int32)))])) ?_ (fun t q => XS.iand X0.here hx rfl (hb hby at_3) rfl q)
  refine own_st (T' := s₁) (f' := (mkF m 5 #[.val (.int p0), .val (.int p1), .val (.int p2), .val (.int p3), .val (.int p4), .unset, .unset, .unset, .unset, .unset] [(.int (5 : Int32)), (.int (p0 &&& (2147483647 : Int32)))])) ?_ (fun t q => XS.iconst X0.here hx rfl (hb hby at_4) q)
  refine own_st (T' := s₁) (f' := (mkF m 6 #[.val (.int p0), .val (.int p1), .val (.int p2), .val (.int p3), .val (.int p4), .unset, .unset, .unset, .unset, .unset] [(.int ((p0 &&& (2147483647 : Int32)) - ((p0 &&& (2147483647 : Int32)) / (5 : Int32)) * (5 : Int32)))])) ?_ (fun t q => XS.irem X0.here hx rfl (hb hby at_5) rfl (by decide) q)
  refine own_st (T' := s₁) (f' := (mkF m 8 #[.val (.int p0), .val (.int p1), .val (.int p2), .val (.int p3), .val (.int p4), .val (.int (vl p0 p1 p2 p3 p4)), .unset, .unset, .unset, .unset] [])) ?_ (fun t q => XS.istore X0.here hx rfl (hb hby at_6) rfl (l' := #[.val (.int p0), .val (.int p1), .val (.int p2), .val (.int p3), .val (.int p4), .val (.int (vl p0 p1 p2 p3 p4)), .unset, .unset, .unset, .unset]) rfl q)
  refine own_st (T' := s₁) (f' := (mkF m 10 #[.val (.int p0), .val (.int p1), .val (.int p2), .val (.int p3), .val (.int p4), .val (.int (vl p0 p1 p2 p3 p4)), .unset, .unset, .unset, .unset] [(.int (vl p0 p1 p2 p3 p4))])) ?_ (fun t q => XS.iload X0.here hx rfl (hb hby at_8) rfl q)
  refine own_newB X0 hx hZ (hw _ (List.mem_of_getElem? (i := 1) rfl)) (z := (vl p0 p1 p2 p3 p4)) (own_l1 p0 p1 p2 p3 p4) (cap := 4) (own_l2 p0 p1 p2 p3 p4) (by decide) (by decide) (by decide) (hb hby at_10) (fun T9 b9 X9 ge9 E9 A9_b9 => ?_)
  have G9 : n0 ≤ b9 := Nat.le_trans zs0 ge9
  have zs9 : n0 ≤ T9.heap.size := Nat.le_trans zs0 E9.1
  show own_W _ _ _ _ _ _ _ T9 (mkF m 12 #[.val (.int p0), .val (.int p1), .val (.int p2), .val (.int p3), .val (.int p4), .val (.int (vl p0 p1 p2 p3 p4)), .unset, .unset, .unset, .unset] [(.ref b9)])
  refine own_st (T' := T9) (f' := (mkF m 14 #[.val (.int p0), .val (.int p1), .val (.int p2), .val (.int p3), .val (.int p4), .val (.int (vl p0 p1 p2 p3 p4)), .val (.ref b9), .unset, .unset, .unset] [])) ?_ (fun t q => XS.astore X9.here hx rfl (hb hby at_12) rfl rfl (l' := #[.val (.int p0), .val (.int p1), .val (.int p2), .val (.int p3), .val (.int p4), .val (.int (vl p0 p1 p2 p3 p4)), .val (.ref b9), .unset, .unset, .unset]) rfl q)
  refine own_st (T' := T9) (f' := (mkF m 16 #[.val (.int p0), .val (.int p1), .val (.int p2), .val (.int p3), .val (.int p4), .val (.int (vl p0 p1 p2 p3 p4)), .val (.ref b9), .unset, .unset, .unset] [(.int (vl p0 p1 p2 p3 p4))])) ?_ (fun t q => XS.iload X9.here hx rfl (hb hby at_14) rfl q)
  refine own_ite (fun hc16 => ?_) (fun hc16 => ?_)
  · refine own_st (T' := T9) (f' := (mkF m 19 #[.val (.int p0), .val (.int p1), .val (.int p2), .val (.int p3), .val (.int p4), .val (.int (vl p0 p1 p2 p3 p4)), .val (.ref b9), .unset, .unset, .unset] [])) ?_ (fun t q => XS.ifNo X9.here hx rfl (hb hby at_16) rfl ((if0 _ _).trans (tlt hc16).2.2.2) q)
    refine own_st (T' := T9) (f' := (mkF m 21 #[.val (.int p0), .val (.int p1), .val (.int p2), .val (.int p3), .val (.int p4), .val (.int (vl p0 p1 p2 p3 p4)), .val (.ref b9), .unset, .unset, .unset] [(.ref b9)])) ?_ (fun t q => XS.aload X9.here hx rfl (hb hby at_19) rfl rfl q)
    refine own_st (T' := T9) (f' := (mkF m 22 #[.val (.int p0), .val (.int p1), .val (.int p2), .val (.int p3), .val (.int p4), .val (.int (vl p0 p1 p2 p3 p4)), .val (.ref b9), .unset, .unset, .unset] [(.int (0 : Int32)), (.ref b9)])) ?_ (fun t q => XS.iconst X9.here hx rfl (hb hby at_21) q)
    refine own_st (T' := T9) (f' := (mkF m 23 #[.val (.int p0), .val (.int p1), .val (.int p2), .val (.int p3), .val (.int p4), .val (.int (vl p0 p1 p2 p3 p4)), .val (.ref b9), .unset, .unset, .unset] [(.int p1), (.int (0 : Int32)), (.ref b9)])) ?_ (fun t q => XS.iloadN X9.here hx rfl (hb hby at_22) rfl q)
    refine own_st (T' := T9) (f' := (mkF m 24 #[.val (.int p0), .val (.int p1), .val (.int p2), .val (.int p3), .val (.int p4), .val (.int (vl p0 p1 p2 p3 p4)), .val (.ref b9), .unset, .unset, .unset] [(.int (p1.toInt8.toInt32)), (.int (0 : Int32)), (.ref b9)])) ?_ (fun t q => XS.i2b X9.here hx rfl (hb hby at_23) rfl q)
    refine own_bast X9 hx hZ A9_b9 (j := (0 : Int32)) (x := (p1.toInt8.toInt32)) (own_idx (by decide) hc16 (Nat.le_refl _)) (hb hby at_24) N0 G9 (fun T10 lo10 X10 N10 K10 A10_b9 => ?_)
    have zs10 : n0 ≤ T10.heap.size := Nat.le_trans zs9 K10.1
    show own_W _ _ _ _ _ _ _ T10 (mkF m 25 #[.val (.int p0), .val (.int p1), .val (.int p2), .val (.int p3), .val (.int p4), .val (.int (vl p0 p1 p2 p3 p4)), .val (.ref b9), .unset, .unset, .unset] [])
    exact B25 T10 _ b9 (own_up (fun _ => 0) 0 (nar .byte (p1.toInt8.toInt32))) X10 N10 zs10 G9 A10_b9
  · refine own_st (T' := T9) (f' := (mkF m 25 #[.val (.int p0), .val (.int p1), .val (.int p2), .val (.int p3), .val (.int p4), .val (.int (vl p0 p1 p2 p3 p4)), .val (.ref b9), .unset, .unset, .unset] [])) ?_ (fun t q => XS.ifYes X9.here hx rfl (pc0 := 16) (pc' := 25) rfl (hb hby at_16) rfl ((if0 _ _).trans (flt hc16).2.2.2) (by decide) (by decide) q)
    exact B25 T9 _ b9 (fun _ => 0) X9 N0 zs9 G9 A9_b9

theorem own_dec (z : Int32) (h : 0 ≤ z.toInt ∧ z.toInt < 5) : z = 0 ∨ z = 1 ∨ z = 2 ∨ z = 3 ∨ z = 4 := by
  simp only [← Int32.toInt_inj, Int32.reduceToInt]; omega
theorem own_narb (a : Int32) : nar .byte (a.toInt8.toInt32) = a.toInt8.toInt32 := by
  show a.toInt8.toInt32.toInt8.toInt32 = _
  simp
theorem own_blk (a : Int32) : f2 a = (if a.toInt8.toInt32 = 11 then 1 else if a.toInt8.toInt32 = 28 then 1 else 0) := by
  have h : (a.toInt8.toInt32).toInt = a.toInt.bmod 256 := by rw [Int8.toInt_toInt32, Int32.toInt_toInt8]
  have m : (a &&& 255).toInt = a.toInt % 256 := Jvm.Kit.i32_mask a 255 (k := 8) (by decide) (by decide)
  have e1 : ((a &&& 255) = 11) = (a.toInt8.toInt32 = 11) := by
    apply propext
    rw [← Int32.toInt_inj, ← Int32.toInt_inj, h, m, Int.bmod_def]
    show _ = (11 : Int) ↔ _ = (11 : Int)
    split <;> omega
  have e2 : ((a &&& 255) = 28) = (a.toInt8.toInt32 = 28) := by
    apply propext
    rw [← Int32.toInt_inj, ← Int32.toInt_inj, h, m, Int.bmod_def]
    show _ = (28 : Int) ↔ _ = (28 : Int)
    split <;> omega
  simp only [f2, e1, e2]
theorem own_blk2 (a : Int32) : (f2 a = 0) = ¬ (a.toInt8.toInt32 = 11 ∨ a.toInt8.toInt32 = 28) := by
  rw [own_blk]
  by_cases h1 : a.toInt8.toInt32 = 11
  · simp [h1]
  · by_cases h2 : a.toInt8.toInt32 = 28
    · simp [h1, h2]
    · simp [h1, h2]
theorem own_stp (n : Nat) (F : Nat → Int32) (k : Nat) (i : Int32) : f1_7 n F (k + 1) i = (if i < Int32.ofNat n then (if (F i.toNatClampNeg = 11 ∨ F i.toNatClampNeg = 28) then 0 else f1_7 n F k (i + 1)) else 1) := by
  rw [f1_7]
  by_cases h1 : F i.toNatClampNeg = 11
  · simp [h1]
  · by_cases h2 : F i.toNatClampNeg = 28
    · simp [h1, h2]
    · simp [h1, h2]
theorem own_same {A : Prop} {B : Prop} [Decidable A] [Decidable B] {x y : Int32} (h : ¬ A → B) : (if A then x else (if B then x else y)) = x := by
  by_cases a : A
  · rw [if_pos a]
  · rw [if_neg a, if_pos (h a)]
theorem own_129 (p0 p1 p2 p3 p4 : Int32) (g : Int32) (F : Nat → Int32) (hg : f1 (vl p0 p1 p2 p3 p4).toNatClampNeg F = g) (a0 : ¬ vl p0 p1 p2 p3 p4 < 1 → F 0 = p1.toInt8.toInt32) (a1 : ¬ vl p0 p1 p2 p3 p4 < 2 → F 1 = p2.toInt8.toInt32) (a2 : ¬ vl p0 p1 p2 p3 p4 < 3 → F 2 = p3.toInt8.toInt32) (a3 : ¬ vl p0 p1 p2 p3 p4 < 4 → F 3 = p4.toInt8.toInt32) : f0_129 p0 p1 p2 p3 p4 g F = 1 := by
  have h := own_l p0 p1 p2 p3 p4
  unfold f0_129
  rw [if_pos (own_cof h.1), own_same a0]
  unfold f0_159
  rw [own_same a1]
  unfold f0_174
  rw [own_same a2]
  unfold f0_189
  rw [own_same a3]
  unfold f0_205 f0_210
  rw [hg, if_pos rfl, if_neg (by decide)]
theorem own_e4 (p0 p1 p2 p3 p4 : Int32) (g : Int32) (F : Nat → Int32) : f0_112 p0 p1 p2 p3 p4 g F = f0_129 p0 p1 p2 p3 p4 (if 3 < vl p0 p1 p2 p3 p4 then (if f2 p4 = 0 then g else 0) else g) F := by
  unfold f0_112
  by_cases a : 3 < vl p0 p1 p2 p3 p4
  · by_cases b : f2 p4 = 0 <;> simp only [a, b, if_true, if_false]
  · simp only [a, if_false]
theorem own_e3 (p0 p1 p2 p3 p4 : Int32) (g : Int32) (F : Nat → Int32) : f0_96 p0 p1 p2 p3 p4 g F = f0_112 p0 p1 p2 p3 p4 (if 2 < vl p0 p1 p2 p3 p4 then (if f2 p3 = 0 then g else 0) else g) F := by
  unfold f0_96
  by_cases a : 2 < vl p0 p1 p2 p3 p4
  · by_cases b : f2 p3 = 0 <;> simp only [a, b, if_true, if_false]
  · simp only [a, if_false]
theorem own_e2 (p0 p1 p2 p3 p4 : Int32) (g : Int32) (F : Nat → Int32) : f0_80 p0 p1 p2 p3 p4 g F = f0_96 p0 p1 p2 p3 p4 (if 1 < vl p0 p1 p2 p3 p4 then (if f2 p2 = 0 then g else 0) else g) F := by
  unfold f0_80
  by_cases a : 1 < vl p0 p1 p2 p3 p4
  · by_cases b : f2 p2 = 0 <;> simp only [a, b, if_true, if_false]
  · simp only [a, if_false]
theorem own_e1 (p0 p1 p2 p3 p4 : Int32) (F : Nat → Int32) : f0_62 p0 p1 p2 p3 p4 F = f0_80 p0 p1 p2 p3 p4 (if 0 < vl p0 p1 p2 p3 p4 then (if f2 p1 = 0 then 1 else 0) else 1) F := by
  unfold f0_62
  by_cases a : 0 < vl p0 p1 p2 p3 p4
  · by_cases b : f2 p1 = 0 <;> simp only [a, b, if_true, if_false]
  · simp only [a, if_false]
set_option maxHeartbeats 4000000 in
theorem own_l_0 (p0 p1 p2 p3 p4 : Int32) (h : vl p0 p1 p2 p3 p4 = 0) : f0 p0 p1 p2 p3 p4 = 1 := by
  unfold f0
  rw [h, if_neg (by decide)]
  unfold f0_25
  rw [h, if_neg (by decide)]
  unfold f0_37
  rw [h, if_neg (by decide)]
  unfold f0_49
  rw [h, if_neg (by decide)]
  rw [own_e1, own_e2, own_e3, own_e4]
  refine own_129 p0 p1 p2 p3 p4 _ _ ?_ ?_ ?_ ?_ ?_
  · simp only [h, own_blk2, own_narb]
    simp [f1, own_stp, own_up]
  · rw [h]; intro z; exact absurd (by decide) z
  · rw [h]; intro z; exact absurd (by decide) z
  · rw [h]; intro z; exact absurd (by decide) z
  · rw [h]; intro z; exact absurd (by decide) z
set_option maxHeartbeats 4000000 in
theorem own_l_1 (p0 p1 p2 p3 p4 : Int32) (h : vl p0 p1 p2 p3 p4 = 1) : f0 p0 p1 p2 p3 p4 = 1 := by
  unfold f0
  rw [h, if_pos (by decide)]
  unfold f0_25
  rw [h, if_neg (by decide)]
  unfold f0_37
  rw [h, if_neg (by decide)]
  unfold f0_49
  rw [h, if_neg (by decide)]
  rw [own_e1, own_e2, own_e3, own_e4]
  refine own_129 p0 p1 p2 p3 p4 _ _ ?_ ?_ ?_ ?_ ?_
  · simp only [h, own_blk2, own_narb]
    by_cases q1 : (p1.toInt8.toInt32 = 11 ∨ p1.toInt8.toInt32 = 28) <;> simp [f1, own_stp, own_up, q1]
  · rw [h]; intro _; simp [own_up, own_narb]
  · rw [h]; intro z; exact absurd (by decide) z
  · rw [h]; intro z; exact absurd (by decide) z
  · rw [h]; intro z; exact absurd (by decide) z
set_option maxHeartbeats 4000000 in
theorem own_l_2 (p0 p1 p2 p3 p4 : Int32) (h : vl p0 p1 p2 p3 p4 = 2) : f0 p0 p1 p2 p3 p4 = 1 := by
  unfold f0
  rw [h, if_pos (by decide)]
  unfold f0_25
  rw [h, if_pos (by decide)]
  unfold f0_37
  rw [h, if_neg (by decide)]
  unfold f0_49
  rw [h, if_neg (by decide)]
  rw [own_e1, own_e2, own_e3, own_e4]
  refine own_129 p0 p1 p2 p3 p4 _ _ ?_ ?_ ?_ ?_ ?_
  · simp only [h, own_blk2, own_narb]
    by_cases q1 : (p1.toInt8.toInt32 = 11 ∨ p1.toInt8.toInt32 = 28) <;> by_cases q2 : (p2.toInt8.toInt32 = 11 ∨ p2.toInt8.toInt32 = 28) <;> simp [f1, own_stp, own_up, q1, q2]
  · rw [h]; intro _; simp [own_up, own_narb]
  · rw [h]; intro _; simp [own_up, own_narb]
  · rw [h]; intro z; exact absurd (by decide) z
  · rw [h]; intro z; exact absurd (by decide) z
set_option maxHeartbeats 4000000 in
theorem own_l_3 (p0 p1 p2 p3 p4 : Int32) (h : vl p0 p1 p2 p3 p4 = 3) : f0 p0 p1 p2 p3 p4 = 1 := by
  unfold f0
  rw [h, if_pos (by decide)]
  unfold f0_25
  rw [h, if_pos (by decide)]
  unfold f0_37
  rw [h, if_pos (by decide)]
  unfold f0_49
  rw [h, if_neg (by decide)]
  rw [own_e1, own_e2, own_e3, own_e4]
  refine own_129 p0 p1 p2 p3 p4 _ _ ?_ ?_ ?_ ?_ ?_
  · simp only [h, own_blk2, own_narb]
    by_cases q1 : (p1.toInt8.toInt32 = 11 ∨ p1.toInt8.toInt32 = 28) <;> by_cases q2 : (p2.toInt8.toInt32 = 11 ∨ p2.toInt8.toInt32 = 28) <;> by_cases q3 : (p3.toInt8.toInt32 = 11 ∨ p3.toInt8.toInt32 = 28) <;> simp [f1, own_stp, own_up, q1, q2, q3]
  · rw [h]; intro _; simp [own_up, own_narb]
  · rw [h]; intro _; simp [own_up, own_narb]
  · rw [h]; intro _; simp [own_up, own_narb]
  · rw [h]; intro z; exact absurd (by decide) z
set_option maxHeartbeats 4000000 in
theorem own_l_4 (p0 p1 p2 p3 p4 : Int32) (h : vl p0 p1 p2 p3 p4 = 4) : f0 p0 p1 p2 p3 p4 = 1 := by
  unfold f0
  rw [h, if_pos (by decide)]
  unfold f0_25
  rw [h, if_pos (by decide)]
  unfold f0_37
  rw [h, if_pos (by decide)]
  unfold f0_49
  rw [h, if_pos (by decide)]
  rw [own_e1, own_e2, own_e3, own_e4]
  refine own_129 p0 p1 p2 p3 p4 _ _ ?_ ?_ ?_ ?_ ?_
  · simp only [h, own_blk2, own_narb]
    by_cases q1 : (p1.toInt8.toInt32 = 11 ∨ p1.toInt8.toInt32 = 28) <;> by_cases q2 : (p2.toInt8.toInt32 = 11 ∨ p2.toInt8.toInt32 = 28) <;> by_cases q3 : (p3.toInt8.toInt32 = 11 ∨ p3.toInt8.toInt32 = 28) <;> by_cases q4 : (p4.toInt8.toInt32 = 11 ∨ p4.toInt8.toInt32 = 28) <;> simp [f1, own_stp, own_up, q1, q2, q3, q4]
  · rw [h]; intro _; simp [own_up, own_narb]
  · rw [h]; intro _; simp [own_up, own_narb]
  · rw [h]; intro _; simp [own_up, own_narb]
  · rw [h]; intro _; simp [own_up, own_narb]
theorem own_law (p0 p1 p2 p3 p4 : Int32) : f0 p0 p1 p2 p3 p4 = 1 := by
  have d1 := own_dec _ (own_l p0 p1 p2 p3 p4)
  rcases d1 with q | q | q | q | q
  · exact own_l_0 _ _ _ _ _ q
  · exact own_l_1 _ _ _ _ _ q
  · exact own_l_2 _ _ _ _ _ q
  · exact own_l_3 _ _ _ _ _ q
  · exact own_l_4 _ _ _ _ _ q
set_option maxRecDepth 65536 in
set_option maxHeartbeats 40000000 in
theorem comes_1 {Post : Tables → Env → Array Value → State → Outcome → State → Prop} (hpost : ∀ tb e args s v u, (limb_1_1.after args s (.returned v) u = true ∧ limb_1_2.after args s (.returned v) u = true ∧ True) → FrameEnd s (.returned v) u (Jvm.fieldLocs frame_1_writes args s ++ Jvm.arrayLocs frame_1_arrays args s ++ Jvm.staticLocs frame_1_statics s) 16 128 → Post tb e args s (.returned v) u) :
    ArmFor flags0 classFile x code maxLocals ret World_1 tables_1 room_1 Calls_1 rest_1 Pre_1 Post := by
  intro l hfl _ _ p e ha hc hk s m args below hf hA hF happ hP
  obtain ⟨hcalls, hrest, hpre⟩ := hP
  obtain ⟨-, -, -, hnamed, -, -, -, hat⟩ := (Spec.applies_iff hf).mp happ
  obtain ⟨hg, hn⟩ := and_e (Cond.before_iff.mp (show (Jvm.Cond.and given_1 narrow_1).before args s = true from hpre))
  obtain ⟨hcnt, g0⟩ := and_e hg
  obtain ⟨t0, g1⟩ := and_e g0
  obtain ⟨t1, g2⟩ := and_e g1
  obtain ⟨t2, g3⟩ := and_e g2
  obtain ⟨t3, g4⟩ := and_e g3
  have t4 := g4
  obtain ⟨w0, w1, w2, w3, w4, rfl⟩ : ∃ w0 w1 w2 w3 w4 : Value, args = #[w0, w1, w2, w3, w4] := by
    have hs : args.size = 5 := by simpa [Cond.value, given_1] using hcnt
    obtain ⟨L⟩ := args
    match L, hs with
    | [w0, w1, w2, w3, w4], _ => exact ⟨w0, w1, w2, w3, w4, rfl⟩
  have hw := fun d (hd : d ∈ tables_1) => atoms_spec (ws := Jvm.Cond.code x code maxLocals ret :: tables_1) hat d (List.mem_cons_of_mem _ hd)
  obtain ⟨i0, ei0⟩ := is_v t0
  obtain rfl : w0 = (.int i0) := Option.some.inj ei0
  obtain ⟨i1, ei1⟩ := is_v t1
  obtain rfl : w1 = (.int i1) := Option.some.inj ei1
  obtain ⟨i2, ei2⟩ := is_v t2
  obtain rfl : w2 = (.int i2) := Option.some.inj ei2
  obtain ⟨i3, ei3⟩ := is_v t3
  obtain rfl : w3 = (.int i3) := Option.some.inj ei3
  obtain ⟨i4, ei4⟩ := is_v t4
  obtain rfl : w4 = (.int i4) := Option.some.inj ei4
  obtain ⟨n, o, h1, h2, h3, v, L, rfl, ⟨hv, N, -⟩, hq⟩ := rm0 l s _ hw tables_1 i0 i1 i2 i3 i4 s.heap s.heap.size (Nat.le_refl _) p e ha hc hk s m _ below hf ((Spec.applies_iff_loose hf).mp happ).1 ⟨rfl, State.Warmed39.refl s, rfl⟩ trivial
  obtain rfl : v = some (.int 1) := by rw [hv, own_law]
  refine ⟨n, _, h1, h2, h3, hpost _ _ _ _ _ _ ⟨Cond.after_iff.mpr rfl, Cond.after_iff.mpr (eq_i res_at (Term.int_eval (1)) rfl), trivial⟩ ⟨hq.1, hq.2.1, (hq.2.2.sift fun y hy => Or.inr (N y hy)).mono (by decide) (by decide)⟩⟩
theorem main_1_1 : Claimed_1_1 := comes_1 fun _ _ _ _ _ _ h hF => ⟨h.1, hF⟩
theorem main_1_2 : Claimed_1_2 := comes_1 fun _ _ _ _ _ _ h hF => ⟨h.2.1, hF⟩
end Jvm.Pilot.@@N@@
namespace Jvm.Pilot.@@N@@
open Jvm Jvm.ClassFile Sem Op Lib Jvm.Free Jvm.Stand Jvm.Pilot.@@N@@.Jvm.D
/-! MADE BY PROGRAM (witnessworld.py) out of the Statement's table words and the real class files: 9 classes; the members and pool entries that the words name. The judged class is class 1, her method 2. -/
namespace start1
open Jvm.ClassFile
def u (s : String) : CpInfo := .utf8 (stringToUtf16 s)
/-- a pool by its gaps: so many unusable entries, then the entry; so many at the end -/
def gap : Nat → List CpInfo → List CpInfo
  | 0, r => r
  | n + 1, r => .unusable :: gap n r
def poolList (es : List (Nat × CpInfo)) (last : Nat) : List CpInfo := es.foldr (fun e r => gap e.1 (e.2 :: r)) (gap last [])
def pool (es : List (Nat × CpInfo)) (last : Nat) : Array CpInfo := ⟨poolList es last⟩
def fileOf (pool : Array CpInfo) (this : Nat) (attrs : Array Attribute := #[]) (ms : Array MethodInfo := #[]) (fl : Nat := 33) (sup : Nat := 0) (ifs : Array Nat := #[]) (fds : Array FieldInfo := #[]) : ClassFile where
  minorVersion := 0
  majorVersion := 65
  constantPool := pool
  accessFlags := fl
  thisClass := this
  superClass := sup
  interfaces := ifs
  fields := fds
  methods := ms
  attributes := attrs
def plain (name : String) (sup : Option ClassId) : Class where
  name := name
  kind := .ordinary
  loader := none
  accessFlags := 33
  super := sup
  interfaces := #[]
  cf := none
  fields := #[]
  methods := #[]
  instanceTypes := #[]
  staticTypes := #[]
  resolved := #[]
  callSites := []
  init := .initialized
  statics := none
  mirror := none

def pool0 : Array CpInfo := pool [(5, u "<init>"), (0, u "()V"), (1, .class_ 10), (1, u "java/lang/Object")] 113

def k0m0 : Method := { name := "<init>", desc := "()V", sig := { parameters := [], returnType := none }, accessFlags := 1, code := none }
/-- java/lang/Object -/
def k0 : Class := { plain "java/lang/Object" none with
  accessFlags := 33
  interfaces := #[]
  cf := some (fileOf pool0 8 #[] #[{ accessFlags := 1, nameIndex := 5, descriptorIndex := 6, attributes := #[] }] 33 0 #[] #[])
  fields := #[]
  methods := #[k0m0]
  instanceTypes := #[]
  staticTypes := #[]
  resolved := Array.replicate 124 none
  statics := none }

def pool1 : Array CpInfo := pool [(2, .class_ 4), (1, u "java/lang/Object"), (0, u "<init>"), (0, u "()V"), (0, .integer 2147483647), (0, .methodref 9 10), (0, .class_ 11), (0, .nameAndType 12 13), (0, u "com/example/cuvette/cuvette/mllp/FramesCanFramePinLaw"), (0, u "isBlock"), (0, u "(I)Z"), (0, .methodref 15 16), (0, .class_ 17), (0, .nameAndType 18 19), (0, u "com/example/cuvette/cuvette/mllp/Frames"), (0, u "canFrame"), (0, u "([B)Z"), (3, u "law"), (0, u "(IIIII)Z")] 4

def k1m0 : Method := { name := "<init>", desc := "()V", sig := { parameters := [], returnType := none }, accessFlags := 2, code := none }
def k1c1 : Code := { maxStack := 2, maxLocals := 2, code := method_2_code, exceptionTable := #[], attributes := #[] }
def k1m1 : Method := { name := "isBlock", desc := "(I)Z", sig := { parameters := [.int], returnType := some .boolean }, accessFlags := 10, code := some k1c1 }
def k1c2 : Code := { maxStack := 3, maxLocals := 10, code := code, exceptionTable := #[], attributes := #[] }
def k1m2 : Method := { name := "law", desc := "(IIIII)Z", sig := { parameters := [.int, .int, .int, .int, .int], returnType := some .boolean }, accessFlags := 9, code := some k1c2 }
/-- com/example/cuvette/cuvette/mllp/FramesCanFramePinLaw -/
def k1 : Class := { plain "com/example/cuvette/cuvette/mllp/FramesCanFramePinLaw" (some 0) with
  accessFlags := 49
  interfaces := #[]
  cf := some (fileOf pool1 9 #[] #[{ accessFlags := 2, nameIndex := 5, descriptorIndex := 6, attributes := #[] }, { accessFlags := 10, nameIndex := 12, descriptorIndex := 13, attributes := #[] }, { accessFlags := 9, nameIndex := 23, descriptorIndex := 24, attributes := #[] }] 49 2 #[] #[])
  fields := #[]
  methods := #[k1m0, k1m1, k1m2]
  instanceTypes := #[]
  staticTypes := #[]
  resolved := Array.replicate 29 none
  statics := none }

def pool2 : Array CpInfo := pool [(2, .class_ 4), (1, u "java/lang/Object"), (0, u "<init>"), (0, u "()V"), (0, .class_ 8), (0, u "com/example/cuvette/cuvette/mllp/Frames"), (2, u "canFrame"), (0, u "([B)Z"), (22, u "START_BLOCK"), (0, u "B"), (2, u "END_BLOCK"), (1, u "CARRIAGE_RETURN"), (1, u "MAX_MESSAGE_LENGTH"), (0, u "I")] 12

def k2m0 : Method := { name := "<init>", desc := "()V", sig := { parameters := [], returnType := none }, accessFlags := 2, code := none }
def k2c1 : Code := { maxStack := 2, maxLocals := 5, code := prog_50_method_2_code, exceptionTable := #[], attributes := #[] }
def k2m1 : Method := { name := "canFrame", desc := "([B)Z", sig := { parameters := [(.array .byte)], returnType := some .boolean }, accessFlags := 9, code := some k2c1 }
/-- com/example/cuvette/cuvette/mllp/Frames -/
def k2 : Class := { plain "com/example/cuvette/cuvette/mllp/Frames" (some 0) with
  accessFlags := 49
  interfaces := #[]
  cf := some (fileOf pool2 7 #[] #[{ accessFlags := 2, nameIndex := 5, descriptorIndex := 6, attributes := #[] }, { accessFlags := 9, nameIndex := 11, descriptorIndex := 12, attributes := #[] }] 49 2 #[] #[{ accessFlags := 25, nameIndex := 35, descriptorIndex := 36, attributes := #[] }, { accessFlags := 25, nameIndex := 39, descriptorIndex := 36, attributes := #[] }, { accessFlags := 25, nameIndex := 41, descriptorIndex := 36, attributes := #[] }, { accessFlags := 25, nameIndex := 43, descriptorIndex := 44, attributes := #[] }])
  fields := #[{ name := "START_BLOCK", type := .byte, accessFlags := 25, slot := 0, constantValue := 0 }, { name := "END_BLOCK", type := .byte, accessFlags := 25, slot := 1, constantValue := 0 }, { name := "CARRIAGE_RETURN", type := .byte, accessFlags := 25, slot := 2, constantValue := 0 }, { name := "MAX_MESSAGE_LENGTH", type := .int, accessFlags := 25, slot := 3, constantValue := 0 }]
  methods := #[k2m0, k2m1]
  instanceTypes := #[]
  staticTypes := #[.byte, .byte, .byte, .int]
  resolved := Array.replicate 57 none
  statics := none }

def pool3 : Array CpInfo := pool [(1, u "java/lang/Cloneable"), (0, .class_ 1), (0, u "java/lang/Object"), (0, .class_ 3)] 3

/-- java/lang/Cloneable -/
def k3 : Class := { plain "java/lang/Cloneable" (some 0) with
  accessFlags := 1537
  interfaces := #[]
  cf := some (fileOf pool3 2 #[] #[] 1537 4 #[] #[])
  fields := #[]
  methods := #[]
  instanceTypes := #[]
  staticTypes := #[]
  resolved := Array.replicate 8 none
  statics := none }

def pool4 : Array CpInfo := pool [(1, u "java/io/Serializable"), (0, .class_ 1), (0, u "java/lang/Object"), (0, .class_ 3)] 3

/-- java/io/Serializable -/
def k4 : Class := { plain "java/io/Serializable" (some 0) with
  accessFlags := 1537
  interfaces := #[]
  cf := some (fileOf pool4 2 #[] #[] 1537 4 #[] #[])
  fields := #[]
  methods := #[]
  instanceTypes := #[]
  staticTypes := #[]
  resolved := Array.replicate 8 none
  statics := none }

/-- the primitive byte -/
def k5 : Class := { plain "byte" none with kind := .primitive 'B', accessFlags := 0x411 }
/-- [B -/
def k6 : Class := { plain "[B" (some 0) with kind := .array 5 .byte, interfaces := #[3, 4], accessFlags := 1041 }

/-- the primitive int -/
def k7 : Class := { plain "int" none with kind := .primitive 'I', accessFlags := 0x411 }
/-- [I -/
def k8 : Class := { plain "[I" (some 0) with kind := .array 7 .int, interfaces := #[3, 4], accessFlags := 1041 }

def heap : Heap := #[]
def classes : Array Class := #[k0, k1, k2, k3, k4, k5, k6, k7, k8]
def interned : List (Array UInt16 × Addr) := []
def slotsUsed : Nat := 0
def theMethod : MethodId := ⟨1, 2⟩
def args0 : Array Value := #[.int 5, .int 5, .int 5, .int 5, .int 5]
def aboutOver (below : List Frame) : State where
  vm := { classes := classes, interned := interned.toArray }
  heap := heap
  slotsUsed := slotsUsed
  threads := #[{ frames := .invoking theMethod args0 :: below }]
def below0 : List Frame := [.native { method := ⟨0, 0⟩, args := #[] }]
def about1 : State := aboutOver below0
def p0 : Program := .bare "" "" ""
def e0 : Env := launch0.env 0 0 0
theorem w_frames : about1.frames = Frame.invoking theMethod args0 :: below0 := rfl
set_option maxRecDepth 65536 in
theorem w_args : argsFit about1.vm theMethod args0 = true := by decide +kernel
set_option maxRecDepth 65536 in
theorem w_heap : heapFits about1 = true := by decide +kernel
set_option maxRecDepth 65536 in
theorem w_runnable : about1.curStatus? = some .runnable := by decide +kernel
set_option maxRecDepth 65536 in
theorem w_alone : about1.alone = true := by decide +kernel
set_option maxRecDepth 65536 in
theorem w_named : about1.methodNamed? x = some theMethod := by decide +kernel
set_option maxRecDepth 65536 in
theorem w_hears : about1.hears theMethod below0 = true := by decide +kernel
set_option maxRecDepth 65536 in
theorem w_ripe : about1.ripe theMethod args0 below0 = true := by decide +kernel
theorem w_running : about1.status = .running := rfl
set_option maxRecDepth 65536 in
theorem w_room : about1.hasRoom e0.platform room_1 = true :=
  launch0.hasRoom_least _ room_1 (by decide +kernel) (by decide +kernel) (by decide +kernel) (by decide +kernel) (by decide +kernel) (by decide +kernel)
theorem allAtoms_all (ts : List Jvm.Cond) (a : Array Jvm.Value) (st : Jvm.State) : (allAtoms ts).before a st = ts.all (fun c => c.before a st) := by
  induction ts with
  | nil => rfl
  | cons c t ih =>
    show (Jvm.Cond.and c (allAtoms t)).before a st = _
    rw [Jvm.Cond.before_and, ih, List.all_cons]
def words1 : List Jvm.Cond := Jvm.Cond.code x code maxLocals ret :: tables_1
/-- a 'code' word, met by the world's own term for the bytes: nothing is compared byte by byte -/
theorem code_word {y : MethodName} {bytes : ByteArray} {mx : Nat} {rt : Option FieldType} {a : Array Value} {s : State} {m : MethodId} {meth : Method} {c : Code} (h1 : s.methodNamed? y = some m) (h2 : s.vm.method? m = some meth) (h3 : meth.code = some c) (h4 : c.code = bytes)
    (h5 : (c.maxLocals == mx && c.exceptionTable.isEmpty && decide (c.maxStack ≤ mostOperands) && decide (meth.sig.returnType = rt) && !meth.locks && decide (parseMethodDescriptor y.desc = some meth.sig)) = true) : (Jvm.Cond.code y bytes mx rt).before a s = true := by
  simp only [Bool.and_eq_true, beq_iff_eq, Bool.not_eq_true', decide_eq_true_eq] at h5
  obtain ⟨⟨⟨⟨⟨g1, g2⟩, g3⟩, g4⟩, g5⟩, g6⟩ := h5
  simp [Cond.before, Cond.holds, Cond.value, h1, h2, h3, h4, g1, g2, g3, g4, g5, g6]
def isCode : Jvm.Cond → Bool
  | .code _ _ _ _ => true
  | _ => false
theorem all_split {L : List Jvm.Cond} {P : Jvm.Cond → Bool} (h1 : L.all (fun c => isCode c || P c) = true) (h2 : ∀ c ∈ L.filter isCode, P c = true) : L.all P = true := by
  refine List.all_eq_true.mpr fun c hc => ?_
  have h := List.all_eq_true.mp h1 c hc
  rcases Bool.eq_false_or_eq_true (isCode c) with hi | hi
  · exact h2 c (List.mem_filter.mpr ⟨hc, hi⟩)
  · simpa [hi] using h
set_option maxRecDepth 65536 in
theorem w_c0 : (Jvm.Cond.code x code maxLocals ret).before args0 about1 = true := code_word (m := ⟨1, 2⟩) (meth := k1m2) (c := k1c2) (by decide +kernel) rfl rfl rfl (by decide +kernel)
set_option maxRecDepth 65536 in
theorem w_c1 : (Jvm.Cond.code ({ cls := "com/example/cuvette/cuvette/mllp/Frames", name := "canFrame", desc := "([B)Z" } : Jvm.MethodName) prog_50_method_2_code (5 : Nat) (Option.some Jvm.ClassFile.FieldType.boolean)).before args0 about1 = true := code_word (m := ⟨2, 1⟩) (meth := k2m1) (c := k2c1) (by decide +kernel) rfl rfl rfl (by decide +kernel)
set_option maxRecDepth 65536 in
theorem w_c2 : (Jvm.Cond.code ({ cls := "com/example/cuvette/cuvette/mllp/FramesCanFramePinLaw", name := "isBlock", desc := "(I)Z" } : Jvm.MethodName) method_2_code (2 : Nat) (Option.some Jvm.ClassFile.FieldType.boolean)).before args0 about1 = true := code_word (m := ⟨1, 1⟩) (meth := k1m1) (c := k1c1) (by decide +kernel) rfl rfl rfl (by decide +kernel)
def codes1 : List Jvm.Cond := [Jvm.Cond.code x code maxLocals ret, Jvm.Cond.code ({ cls := "com/example/cuvette/cuvette/mllp/Frames", name := "canFrame", desc := "([B)Z" } : Jvm.MethodName) prog_50_method_2_code (5 : Nat) (Option.some Jvm.ClassFile.FieldType.boolean), Jvm.Cond.code ({ cls := "com/example/cuvette/cuvette/mllp/FramesCanFramePinLaw", name := "isBlock", desc := "(I)Z" } : Jvm.MethodName) method_2_code (2 : Nat) (Option.some Jvm.ClassFile.FieldType.boolean)]
set_option maxRecDepth 65536 in
theorem codes_eq : words1.filter isCode = codes1 := rfl
theorem w_codes : ∀ c ∈ words1.filter isCode, c.before args0 about1 = true := by
  rw [codes_eq]
  intro c hc
  simp only [codes1, List.mem_cons, List.not_mem_nil, or_false] at hc
  rcases hc with rfl | rfl | rfl
  · exact w_c0
  · exact w_c1
  · exact w_c2
set_option maxRecDepth 65536 in
theorem w_t1 : words1.all (fun c => isCode c || c.before args0 about1) = true := by decide +kernel
theorem w_tables : (allAtoms (Jvm.Cond.code x code maxLocals ret :: tables_1)).before args0 about1 = true := by
  rw [allAtoms_all]
  show words1.all (fun c => c.before args0 about1) = true
  refine all_split ?_ w_codes
  rw [w_t1]
set_option maxRecDepth 65536 in
theorem w_case : (Jvm.Cond.and given_1 narrow_1).before args0 about1 = true := by decide +kernel
theorem w_applies : (headSpec (Jvm.Cond.code x code maxLocals ret :: tables_1) room_1).applies x e0.platform about1 = true :=
  (Spec.applies_iff w_frames).mpr ⟨w_running, w_runnable, w_alone, w_named, w_hears, w_ripe, w_room, w_tables⟩
theorem atStart : AtStart classFile x code maxLocals ret World_1 tables_1 room_1 Calls_1 rest_1 Pre_1 launch0 p0 e0 about1 theMethod args0 below0 :=
  ⟨lists_1, trivial, launch0.admits_env _ _ _, launch0.least_env, fairChoices_fair.cas, fairChoices_fair.clock, w_frames, w_args, w_heap, w_applies, trivial, trivial, w_case⟩
end start1
theorem witness_1 : WitnessClaimed_1 := ⟨start1.p0, start1.e0, start1.about1, start1.theMethod, start1.args0, start1.below0, start1.atStart⟩
end Jvm.Pilot.@@N@@
