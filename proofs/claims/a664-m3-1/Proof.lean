import JvmDerived
import JvmDerived.Pilot.@@N@@Statement
import JvmDerived.Pilot.@@N@@Code
set_option linter.unusedVariables false
set_option linter.unusedSimpArgs false
@@BLOCK:NumsL.lean.txt@@
namespace Jvm.Pilot.@@N@@
open Jvm Jvm.ClassFile Sem Op Lib Jvm.Free Jvm.Stand Jvm.LawKit Jvm.RoadKit Bundle Jvm.Pilot.@@N@@.Jvm.D
section OwnKit
variable {p : Program} {l : Launch} {e : Env} {R : Room} {s : State} {m : MethodId} {args : Array Value} {below : List Frame} {meth : Method} {c : Code} {T T' : State} {locs : List Loc} {cells slots : Nat}
/-- from here the body comes to its end and leaves what Q says -/
def own_W (p : Program) (e : Env) (below : List Frame) (s : State) (k n : Nat) (Q : Option Value → Heap → List Loc → Prop) (T : State) (f : JFrame) : Prop :=
  ∃ s₂ o, Steps p.tables e below (T.setTop f) s₂ ∧ s₂.status = .running ∧ Ended s₂ below o ∧ ∃ v L, o = .returned v ∧ Q v s₂.heap L ∧ FrameEnd s o s₂ L k n
theorem own_st {k n : Nat} {Q : Option Value → Heap → List Loc → Prop} {f f' : JFrame} (w : own_W p e below s k n Q T' f') (h : ∀ t, Steps p.tables e below (T'.setTop f') t → Steps p.tables e below (T.setTop f) t) : own_W p e below s k n Q T f := by
  obtain ⟨s₂, o, h1, r⟩ := w
  exact ⟨s₂, o, h _ h1, r⟩
theorem own_to {k n : Nat} {Q : Option Value → Heap → List Loc → Prop} {f f' : JFrame} (q : f = f') (w : own_W p e below s k n Q T f') : own_W p e below s k n Q T f := q ▸ w
theorem own_ite {k n : Nat} {α : Type} {G : α → Option Value → Heap → List Loc → Prop} {f : JFrame} {A : Prop} [Decidable A] {x y : α} (h1 : A → own_W p e below s k n (G x) T f) (h2 : ¬ A → own_W p e below s k n (G y) T f) : own_W p e below s k n (G (if A then x else y)) T f := by
  by_cases q : A
  · rw [if_pos q]; exact h1 q
  · rw [if_neg q]; exact h2 q
/-- an int is returned, nothing old is written, the heap is as P says -/
def own_GI (n0 : Nat) (P : Heap → Prop) (r : Int32) (v : Option Value) (h : Heap) (L : List Loc) : Prop := v = some (.int r) ∧ Fr n0 L ∧ P h
def own_GJ (n0 : Nat) (P : Heap → Prop) (r : Int64) (v : Option Value) (h : Heap) (L : List Loc) : Prop := v = some (.long r) ∧ Fr n0 L ∧ P h
theorem own_retI {k n : Nat} {Q : Option Value → Heap → List Loc → Prop} (X : Stand p l e R s m args below meth c T locs cells slots) (hx : p.tables.exec = Jvm.exec) (hlk : meth.locks = false) (hret : meth.sig.returnType = some .int) {pc : Nat} {Ls : Array Slot} {z : Int32} {rest : List Value} (hd : decode c.code pc = .ok (.ireturn, 1)) (hk : cells ≤ k) (hn : slots ≤ n) (q : Q (some (.int z)) T.heap locs) : own_W p e below s k n Q T (mkF m pc Ls (.int z :: rest)) := by
  obtain ⟨fs, hr, hrun, hended, hW, hsame⟩ := X.leave (v := some (.int z)) (fun h => by rw [hret] at h; cases h) hlk
  exact ⟨_, _, retOut X hx hret rfl (Or.inl ⟨rfl, Or.inl rfl, z, rfl⟩) hd hr, hrun, hended, _, _, rfl, q, ⟨_, rfl⟩, hW, hsame.mono hk hn⟩
theorem own_retN {k n : Nat} {Q : Option Value → Heap → List Loc → Prop} (X : Stand p l e R s m args below meth c T locs cells slots) (hx : p.tables.exec = Jvm.exec) (hlk : meth.locks = false) {t : FieldType} (hret : meth.sig.returnType = some t) (ht : t = .boolean ∨ t = .byte ∨ t = .char ∨ t = .short) {pc : Nat} {Ls : Array Slot} {z : Int32} {rest : List Value} (hd : decode c.code pc = .ok (.ireturn, 1)) (hk : cells ≤ k) (hn : slots ≤ n) (q : Q (some (.int (nar t z))) T.heap locs) : own_W p e below s k n Q T (mkF m pc Ls (.int z :: rest)) := by
  obtain ⟨fs, hr, hrun, hended, hW, hsame⟩ := X.leave (v := some (.int (nar t z))) (fun h => by rw [hret] at h; cases h) hlk
  exact ⟨_, _, retN X hx hret ht hd hr, hrun, hended, _, _, rfl, q, ⟨_, rfl⟩, hW, hsame.mono hk hn⟩
theorem own_retJ {k n : Nat} {Q : Option Value → Heap → List Loc → Prop} (X : Stand p l e R s m args below meth c T locs cells slots) (hx : p.tables.exec = Jvm.exec) (hlk : meth.locks = false) (hret : meth.sig.returnType = some .long) {pc : Nat} {Ls : Array Slot} {z : Int64} {rest : List Value} (hd : decode c.code pc = .ok (.lreturn, 1)) (hk : cells ≤ k) (hn : slots ≤ n) (q : Q (some (.long z)) T.heap locs) : own_W p e below s k n Q T (mkF m pc Ls (.long z :: rest)) := by
  obtain ⟨fs, hr, hrun, hended, hW, hsame⟩ := X.leave (v := some (.long z)) (fun h => by rw [hret] at h; cases h) hlk
  exact ⟨_, _, retOut X hx hret rfl (Or.inr (Or.inl ⟨rfl, rfl, z, rfl⟩)) hd hr, hrun, hended, _, _, rfl, q, ⟨_, rfl⟩, hW, hsame.mono hk hn⟩
theorem own_retA {k n : Nat} {Q : Option Value → Heap → List Loc → Prop} (X : Stand p l e R s m args below meth c T locs cells slots) (hx : p.tables.exec = Jvm.exec) (hlk : meth.locks = false) {t : FieldType} (hret : meth.sig.returnType = some t) (ht : t.isReference = true) {pc : Nat} {Ls : Array Slot} {z : Addr} {rest : List Value} (hn' : narrow t (.ref z) = .ref z) (hd : decode c.code pc = .ok (.areturn, 1)) (hk : cells ≤ k) (hn : slots ≤ n) (q : Q (some (.ref z)) T.heap locs) : own_W p e below s k n Q T (mkF m pc Ls (.ref z :: rest)) := by
  obtain ⟨fs, hr, hrun, hended, hW, hsame⟩ := X.leave (v := some (.ref z)) (fun h => by rw [hret] at h; cases h) hlk
  exact ⟨_, _, retOut X hx hret hn' (Or.inr (Or.inr (Or.inr (Or.inr ⟨rfl, ht, rfl⟩)))) hd hr, hrun, hended, _, _, rfl, q, ⟨_, rfl⟩, hW, hsame.mono hk hn⟩
theorem own_retV {k n : Nat} {Q : Option Value → Heap → List Loc → Prop} (X : Stand p l e R s m args below meth c T locs cells slots) (hx : p.tables.exec = Jvm.exec) (hlk : meth.locks = false) (hret : meth.sig.returnType = none) {pc : Nat} {Ls : Array Slot} (hd : decode c.code pc = .ok (.return_, 1)) (hk : cells ≤ k) (hn : slots ≤ n) (q : Q none T.heap locs) : own_W p e below s k n Q T (mkF m pc Ls []) := by
  obtain ⟨fs, hr, hrun, hended, hW, hsame⟩ := X.leave (v := none) (fun _ => rfl) hlk
  exact ⟨_, _, X.returnOut hx hret hd hr, hrun, hended, _, _, rfl, q, ⟨_, rfl⟩, hW, hsame.mono hk hn⟩
end OwnKit
section OwnNums
theorem own_rem {x y : Int32} (hx : 0 ≤ x.toInt) (hy : 0 < y.toInt) : (x - (x / y) * y).toInt = x.toInt % y.toInt := by
  have hd : (x / y).toInt = x.toInt.tdiv y.toInt := Jvm.Kit.i32_div (by omega)
  rw [Int.tdiv_eq_ediv_of_nonneg hx] at hd
  have hxl := Int32.toInt_lt x
  have h1 : y.toInt * (x.toInt / y.toInt) + x.toInt % y.toInt = x.toInt := Int.mul_ediv_add_emod x.toInt y.toInt
  have h2 := Int.emod_nonneg x.toInt (by omega : y.toInt ≠ 0)
  have h3 := Int.emod_lt_of_pos x.toInt hy
  have h4 : (x / y).toInt * y.toInt = x.toInt - x.toInt % y.toInt := by rw [hd, Int.mul_comm]; omega
  have h6 := Int.mul_nonneg (Int.le_of_lt hy) (Int.ediv_nonneg hx (Int.le_of_lt hy))
  have h5 : x.toInt % y.toInt ≤ x.toInt := by omega
  have hm : ((x / y) * y).toInt = x.toInt - x.toInt % y.toInt := by
    rw [Jvm.Kit.i32_mul (by omega) (by omega), h4]
  rw [Jvm.Kit.i32_sub (by omega) (by omega), hm]; omega
theorem own_and31 (x : Int32) : (x &&& (2147483647 : Int32)).toInt = x.toInt % 2147483648 := Jvm.Kit.i32_mask x 2147483647 (k := 31) (by decide) (by decide)
theorem own_i8 (x : Int32) : -128 ≤ (x.toInt8.toInt32).toInt ∧ (x.toInt8.toInt32).toInt < 128 := by
  rw [Int8.toInt_toInt32]
  have h1 := Int8.le_toInt x.toInt8
  have h2 := Int8.toInt_lt x.toInt8
  omega
end OwnNums
section OwnArr
variable {p : Program} {l : Launch} {e : Env} {R : Room} {s : State} {m : MethodId} {args : Array Value} {below : List Frame} {meth : Method} {c : Code} {T T' : State} {locs : List Loc} {cells slots : Nat} {Z : State} {h h' : Heap} {a b : Addr} {n : Nat} {f : Nat → Int32} {ty : FieldType}
/-- an array of n places whose i-th holds f i -/
def own_A (Z : State) (h : Heap) (a : Addr) (ty : FieldType) (n : Nat) (f : Nat → Int32) : Prop := ∃ c : Cell, Arr Z h a c ty ∧ c.slots.size = n ∧ ∀ i, i < n → c.slots[i]? = some (.int (f i))
def own_up (f : Nat → Int32) (j : Nat) (x : Int32) : Nat → Int32 := fun i => if i = j then x else f i
def own_in (j : Int32) (n : Nat) : Prop := ¬ j < 0 ∧ j.toNatClampNeg < n
theorem own_A.lt (A : own_A Z h a ty n f) : a < h.size := by obtain ⟨c, A, -⟩ := A; exact A.lt
theorem own_A.ext (A : own_A Z h a ty n f) (E : Ext h h') : own_A Z h' a ty n f := by obtain ⟨c, A, r⟩ := A; exact ⟨c, A.ext E, r⟩
theorem own_A.keep {ws : List Addr} (A : own_A Z h a ty n f) (K : Keep h h' ws) (q : a ∉ ws) : own_A Z h' a ty n f := by obtain ⟨c, A, r⟩ := A; exact ⟨c, ⟨K.2.1 a c A.1 q, A.2⟩, r⟩
theorem own_A.eq (A : own_A Z h a ty n f) (q : h' = h) : own_A Z h' a ty n f := q ▸ A
theorem own_A.set {j : Nat} {x : Int32} (A : own_A Z h a ty n f) (W : Wr h h' a j (.int x)) : own_A Z h' a ty n (own_up f j x) := by
  obtain ⟨cl, Ar, S, H⟩ := A
  refine ⟨_, Ar.same W, by rw [sz_set]; exact S, fun i hi => ?_⟩
  show (cl.slots.setIfInBounds j (.int x))[i]? = _
  unfold own_up
  by_cases q : i = j
  · subst q
    rw [if_pos rfl, Array.getElem?_setIfInBounds_self_of_lt (by omega)]
  · rw [if_neg q, Array.getElem?_setIfInBounds_ne (fun z => q z.symm)]; exact H i hi
theorem own_bald {k n' : Nat} {Q : Option Value → Heap → List Loc → Prop} (X : Stand p l e R s m args below meth c T locs cells slots) (hx : p.tables.exec = Jvm.exec) (hZ : Z.Warmed39 s.vm) (A : own_A Z T.heap a .byte n f) {j : Int32} (hj : own_in j n) {pc : Nat} {Ls : Array Slot} {rest : List Value} (hd : decode c.code pc = .ok (.baload, 1)) (w : own_W p e below s k n' Q T (mkF m (pc + 1) Ls (.int (f j.toNatClampNeg) :: rest))) : own_W p e below s k n' Q T (mkF m pc Ls (.int j :: .ref a :: rest)) := by
  obtain ⟨cl, Ar, S, H⟩ := A
  refine own_st w (fun t q => X.baloadBytes hx (j := j) (v := .int (f j.toNatClampNeg)) Ar.1 (State.isArrayOf_alike hZ.alike Ar.2.1) Ar.2.2 (fun u => u.elim hj.1 (fun u => absurd hj.2 (by omega))) (H _ hj.2) (g := mkF m pc Ls (.int j :: .ref a :: rest)) rfl rfl hd _ q)
theorem own_iald {k n' : Nat} {Q : Option Value → Heap → List Loc → Prop} (X : Stand p l e R s m args below meth c T locs cells slots) (hx : p.tables.exec = Jvm.exec) (hZ : Z.Warmed39 s.vm) (A : own_A Z T.heap a .int n f) {j : Int32} (hj : own_in j n) {pc : Nat} {Ls : Array Slot} {rest : List Value} (hd : decode c.code pc = .ok (.iaload, 1)) (w : own_W p e below s k n' Q T (mkF m (pc + 1) Ls (.int (f j.toNatClampNeg) :: rest))) : own_W p e below s k n' Q T (mkF m pc Ls (.int j :: .ref a :: rest)) := by
  obtain ⟨cl, Ar, S, H⟩ := A
  refine own_st w (fun t q => X.iaload hx (j := j) (v := .int (f j.toNatClampNeg)) Ar.1 (State.isArrayOf_alike hZ.alike Ar.2.1) Ar.2.2 (fun u => u.elim hj.1 (fun u => absurd hj.2 (by omega))) (H _ hj.2) (g := mkF m pc Ls (.int j :: .ref a :: rest)) rfl rfl hd _ q)
theorem own_alen {k n' : Nat} {Q : Option Value → Heap → List Loc → Prop} (X : Stand p l e R s m args below meth c T locs cells slots) (hx : p.tables.exec = Jvm.exec) (hZ : Z.Warmed39 s.vm) (A : own_A Z T.heap a ty n f) {pc : Nat} {Ls : Array Slot} {rest : List Value} (hd : decode c.code pc = .ok (.arraylength, 1)) (w : own_W p e below s k n' Q T (mkF m (pc + 1) Ls (.int (Int32.ofNat n) :: rest))) : own_W p e below s k n' Q T (mkF m pc Ls (.ref a :: rest)) := by
  obtain ⟨cl, Ar, S, H⟩ := A
  subst S
  exact own_st w (fun t q => X.arraylength hx (cell := cl) Ar.1 (State.isArrayOf_alike hZ.alike Ar.2.1) (g := mkF m pc Ls (.ref a :: rest)) rfl (rest := rest) rfl hd _ q)
theorem own_bast {k n' : Nat} {Q : Option Value → Heap → List Loc → Prop} (X : Stand p l e R s m args below meth c T locs cells slots) (hx : p.tables.exec = Jvm.exec) (hZ : Z.Warmed39 s.vm) (A : own_A Z T.heap a .byte n f) {j x : Int32} (hj : own_in j n) {pc : Nat} {Ls : Array Slot} {rest : List Value} (hd : decode c.code pc = .ok (.bastore, 1)) {n0 : Nat} (N : Fr n0 locs) (g : n0 ≤ a)
    (w : ∀ (T' : State) (locs' : List Loc), Stand p l e R s m args below meth c T' locs' cells slots → Fr n0 locs' → Keep T.heap T'.heap [a] → own_A Z T'.heap a .byte n (own_up f j.toNatClampNeg (nar .byte x)) → own_W p e below s k n' Q T' (mkF m (pc + 1) Ls rest)) : own_W p e below s k n' Q T (mkF m pc Ls (.int x :: .int j :: .ref a :: rest)) := by
  obtain ⟨cl, Ar, S, H⟩ := A
  obtain ⟨T', h', X', e', W', st⟩ := stB X hx hZ rfl Ar (j := j) (x := x) (fun u => u.elim hj.1 (fun u => absurd hj.2 (by omega))) (g := mkF m pc Ls (.int x :: .int j :: .ref a :: rest)) rfl rfl hd
  subst e'
  exact own_st (w T' _ X' (Fr.snoc X' N g) (Keep.of_wr W') (own_A.set ⟨cl, Ar, S, H⟩ W')) (fun t q => st _ q)
theorem own_iast {k n' : Nat} {Q : Option Value → Heap → List Loc → Prop} (X : Stand p l e R s m args below meth c T locs cells slots) (hx : p.tables.exec = Jvm.exec) (hZ : Z.Warmed39 s.vm) (A : own_A Z T.heap a .int n f) {j x : Int32} (hj : own_in j n) {pc : Nat} {Ls : Array Slot} {rest : List Value} (hd : decode c.code pc = .ok (.iastore, 1)) {n0 : Nat} (N : Fr n0 locs) (g : n0 ≤ a)
    (w : ∀ (T' : State) (locs' : List Loc), Stand p l e R s m args below meth c T' locs' cells slots → Fr n0 locs' → Keep T.heap T'.heap [a] → own_A Z T'.heap a .int n (own_up f j.toNatClampNeg x) → own_W p e below s k n' Q T' (mkF m (pc + 1) Ls rest)) : own_W p e below s k n' Q T (mkF m pc Ls (.int x :: .int j :: .ref a :: rest)) := by
  obtain ⟨cl, Ar, S, H⟩ := A
  obtain ⟨T', h', X', e', W', st⟩ := stI X hx hZ rfl Ar (j := j) (x := x) (fun u => u.elim hj.1 (fun u => absurd hj.2 (by omega))) (g := mkF m pc Ls (.int x :: .int j :: .ref a :: rest)) rfl rfl hd
  subst e'
  exact own_st (w T' _ X' (Fr.snoc X' N g) (Keep.of_wr W') (own_A.set ⟨cl, Ar, S, H⟩ W')) (fun t q => st _ q)
theorem own_newB {k n' : Nat} {Q : Option Value → Heap → List Loc → Prop} {a0 : Array Value} (X : Stand p l e R s m args below meth c T locs cells slots) (hx : p.tables.exec = Jvm.exec) (hZ : Z.Warmed39 s.vm) (wd : (Jvm.Cond.arrayClass .byte).before a0 Z = true) {z : Int32} (hz : ¬ z < 0) {cap : Nat} (hcap : z.toNatClampNeg ≤ cap) (hb8 : cap * 8 ≤ 536870912) (hc : cells + 1 ≤ R.cells) (hl : slots + cap ≤ R.slots) {pc : Nat} {Ls : Array Slot} {rest : List Value} (hd : decode c.code pc = .ok (.newarray .byte, 2))
    (w : ∀ (T' : State) (b : Addr), Stand p l e R s m args below meth c T' locs (cells + 1) (slots + cap) → T.heap.size ≤ b → Ext T.heap T'.heap → own_A Z T'.heap b .byte z.toNatClampNeg (fun _ => 0) → own_W p e below s k n' Q T' (mkF m (pc + 2) Ls (.ref b :: rest))) : own_W p e below s k n' Q T (mkF m pc Ls (.int z :: rest)) := by
  obtain ⟨T', h', cA, X', e', E', A', st⟩ := newP X hx hZ (aty := .byte) wd rfl (g := mkF m pc Ls (.int z :: rest)) rfl hd rfl hz hcap hb8 hc hl
  subst e'
  refine own_st (w T' _ X' (Nat.le_refl _) E' ⟨_, A', sz_new _ _ _, fun i hi => ?_⟩) (fun t q => st _ q)
  show (Array.replicate z.toNatClampNeg (defaultValue .byte))[i]? = _
  simp [hi]; rfl
theorem own_newI {k n' : Nat} {Q : Option Value → Heap → List Loc → Prop} {a0 : Array Value} (X : Stand p l e R s m args below meth c T locs cells slots) (hx : p.tables.exec = Jvm.exec) (hZ : Z.Warmed39 s.vm) (wd : (Jvm.Cond.arrayClass .int).before a0 Z = true) {z : Int32} (hz : ¬ z < 0) {cap : Nat} (hcap : z.toNatClampNeg ≤ cap) (hb8 : cap * 8 ≤ 536870912) (hc : cells + 1 ≤ R.cells) (hl : slots + cap ≤ R.slots) {pc : Nat} {Ls : Array Slot} {rest : List Value} (hd : decode c.code pc = .ok (.newarray .int, 2))
    (w : ∀ (T' : State) (b : Addr), Stand p l e R s m args below meth c T' locs (cells + 1) (slots + cap) → T.heap.size ≤ b → Ext T.heap T'.heap → own_A Z T'.heap b .int z.toNatClampNeg (fun _ => 0) → own_W p e below s k n' Q T' (mkF m (pc + 2) Ls (.ref b :: rest))) : own_W p e below s k n' Q T (mkF m pc Ls (.int z :: rest)) := by
  obtain ⟨T', h', cA, X', e', E', A', st⟩ := newP X hx hZ (aty := .int) wd rfl (g := mkF m pc Ls (.int z :: rest)) rfl hd rfl hz hcap hb8 hc hl
  subst e'
  refine own_st (w T' _ X' (Nat.le_refl _) E' ⟨_, A', sz_new _ _ _, fun i hi => ?_⟩) (fun t q => st _ q)
  show (Array.replicate z.toNatClampNeg (defaultValue .int))[i]? = _
  simp [hi]; rfl
end OwnArr
section OwnIdx
theorem own_idx {j e : Int32} {n : Nat} (h0 : ¬ j < 0) (h : j < e) (he : e.toNatClampNeg ≤ n) : own_in j n := by
  refine ⟨h0, ?_⟩
  simp only [Int32.lt_iff_toInt_lt, Int32.toNatClampNeg, Int32.reduceToInt] at *
  omega
theorem own_inc {i e : Int32} (h : i < e) : (i + 1).toInt = i.toInt + 1 := by
  have h1 := Int32.toInt_lt e
  have h2 := Int32.le_toInt i
  have k : (1 : Int32).toInt = 1 := rfl
  rw [Int32.lt_iff_toInt_lt] at h
  rw [Jvm.Kit.i32_add (by omega) (by omega), k]
theorem own_back {i e : Int32} {k : Nat} (h : i < e) (hk : (e.toInt - i.toInt).toNat < k + 1) : (e.toInt - (i + 1).toInt).toNat < k := by
  rw [own_inc h]
  rw [Int32.lt_iff_toInt_lt] at h
  omega
theorem own_nn {i e : Int32} (h : i < e) (h0 : ¬ i < 0) : ¬ (i + 1) < 0 := by
  have k : (0 : Int32).toInt = 0 := rfl
  rw [Int32.lt_iff_toInt_lt, k] at h0 ⊢
  rw [own_inc h]
  omega
end OwnIdx
section OwnIdx2
theorem own_ge {z k : Int32} {j : Nat} (h : ¬ z < k) (hk : k.toInt = j + 1) : j < z.toNatClampNeg := by
  rw [Int32.lt_iff_toInt_lt] at h
  rw [Int32.toNatClampNeg]; omega
theorem own_ofN {n : Nat} (h : n < 2147483648) : (Int32.ofNat n).toInt = n := Int32.toInt_ofNat_of_lt (by omega)
theorem own_ofC {n : Nat} (h : n < 2147483648) : (Int32.ofNat n).toNatClampNeg = n := by rw [Int32.toNatClampNeg, own_ofN h]; omega
theorem own_cof {z : Int32} (h : 0 ≤ z.toInt) : Int32.ofNat z.toNatClampNeg = z := by
  have h2 := Int32.toInt_lt z
  apply Int32.toInt_inj.mp
  rw [Int32.toNatClampNeg, own_ofN (by omega)]; omega
abbrev own_r (p d : Int32) : Int32 := (p &&& (2147483647 : Int32)) - ((p &&& (2147483647 : Int32)) / d) * d
theorem own_rb (p d : Int32) (hd : 0 < d.toInt) : 0 ≤ (own_r p d).toInt ∧ (own_r p d).toInt < d.toInt := by
  have h : (own_r p d).toInt = (p.toInt % 2147483648) % d.toInt := by
    rw [own_rem (by rw [own_and31]; omega) hd, own_and31]
  rw [h]
  exact ⟨Int.emod_nonneg _ (by omega), Int.emod_lt_of_pos _ hd⟩
end OwnIdx2
theorem d1_0 : decode prog_25_method_5_code 0 = .ok (.iload_n 1, 1) := by decide +kernel
theorem d1_1 : decode prog_25_method_5_code 1 = .ok (.istore 4, 2) := by decide +kernel
theorem d1_3 : decode prog_25_method_5_code 3 = .ok (.iload 4, 2) := by decide +kernel
theorem d1_5 : decode prog_25_method_5_code 5 = .ok (.iload_n 2, 1) := by decide +kernel
theorem d1_6 : decode prog_25_method_5_code 6 = .ok (.if_icmp .ge 17, 3) := by decide +kernel
theorem d1_9 : decode prog_25_method_5_code 9 = .ok (.aload_n 0, 1) := by decide +kernel
theorem d1_10 : decode prog_25_method_5_code 10 = .ok (.iload 4, 2) := by decide +kernel
theorem d1_12 : decode prog_25_method_5_code 12 = .ok (.baload, 1) := by decide +kernel
theorem d1_13 : decode prog_25_method_5_code 13 = .ok (.iload_n 3, 1) := by decide +kernel
theorem d1_14 : decode prog_25_method_5_code 14 = .ok (.if_icmp .eq 9, 3) := by decide +kernel
theorem d1_17 : decode prog_25_method_5_code 17 = .ok (.iinc 4 1, 3) := by decide +kernel
theorem d1_20 : decode prog_25_method_5_code 20 = .ok (.goto (-17), 3) := by decide +kernel
theorem d1_23 : decode prog_25_method_5_code 23 = .ok (.iload 4, 2) := by decide +kernel
theorem d1_25 : decode prog_25_method_5_code 25 = .ok (.ireturn, 1) := by decide +kernel
theorem pn_1 : plainFor (⟨"com/example/cuvette/cuvette/hl7/Er7", "indexOf", "([BIIB)I"⟩ : MethodName) = true := by first | exact plainFor_of_name (by first | (simp [plainName, overriddenIn]; done) | decide +kernel) | decide +kernel
theorem ef_1 (m : MethodId) (x0 : Addr) (x1 : Int32) (x2 : Int32) (x3 : Int32) : entryFrame m #[(.ref x0), (.int x1), (.int x2), (.int x3)] 5 = mkF m 0 #[.val (.ref x0), .val (.int x1), .val (.int x2), .val (.int x3), .unset] [] := by first | (simp [entryFrame, mkF, argsToLocals, Value.category, maxLocals]; done) | rfl
def f1_3 (p1 : Int32) (p2 : Int32) (p3 : Int32) (F : Nat → Int32) : Nat → Int32 → Int32
  | 0, _ => 0
  | k + 1, g4_3 => (if g4_3 < p2 then (if (F g4_3.toNatClampNeg) = p3 then g4_3 else (f1_3 p1 p2 p3 F k (g4_3 + (1 : Int32)))) else g4_3)
def f1 (p1 : Int32) (p2 : Int32) (p3 : Int32) (F : Nat → Int32) : Int32 := (f1_3 p1 p2 p3 F 10 p1)
set_option maxRecDepth 65536 in
set_option maxHeartbeats 40000000 in
theorem rm1 (l : Launch) (Z : State) (a0 : Array Value) (hw : ∀ d ∈ tables_1, d.before a0 Z = true) (ws : List Jvm.Cond) (o0 : Addr) (p1 : Int32) (p2 : Int32) (p3 : Int32) (n : Nat) (F : Nat → Int32) (h0 : Heap) (n0 : Nat) (A_o0 : own_A Z h0 o0 .byte n F) (hlo : ¬ p1 < 0) (hhi : p2.toNatClampNeg ≤ n) (hm : (p2.toInt - p1.toInt).toNat < 10) :
    MetFree l (⟨"com/example/cuvette/cuvette/hl7/Er7", "indexOf", "([BIIB)I"⟩ : MethodName) (head1 (Jvm.Cond.code (⟨"com/example/cuvette/cuvette/hl7/Er7", "indexOf", "([BIIB)I"⟩ : MethodName) prog_25_method_5_code 5 (some .int) :: ws) ({ frames := 0, cells := 0, slots := 0, locals := 0 } : Room)) (fun a U => a = #[(.ref o0), (.int p1), (.int p2), (.int p3)] ∧ Z.Warmed39 U.vm ∧ U.heap = h0) (fun _ _ _ _ _ => True) (fun _ U o U' => ∃ v L, o = .returned v ∧ own_GI n0 (fun h => h = h0) (f1 p1 p2 p3 F) v U'.heap L ∧ FrameEnd U o U' L ({ frames := 0, cells := 0, slots := 0, locals := 0 } : Room).cells ({ frames := 0, cells := 0, slots := 0, locals := 0 } : Room).slots) := by
  refine MetFree.of_bodySF pn_1 hisR ?_
  intro p e s m args below meth c s₁ Bd hml0 hP hK
  obtain ⟨rfl, hZ, hh⟩ := hP
  have hx := Bd.exec
  have hby := Bd.bytes
  have hml : c.maxLocals = 5 := hml0
  have hown : s.vm.findClass "com/example/cuvette/cuvette/hl7/Er7" = some m.cls := findClass_of_methodNamed Bd.named
  have hlk : meth.locks = false := BodyLoose.notSynchronized Bd
  have X0 : Stand p l e ({ frames := 0, cells := 0, slots := 0, locals := 0 } : Room) s m #[(.ref o0), (.int p1), (.int p2), (.int p3)] below meth c s₁ [] 0 0 := Stand.of_body Bd
  have e0 : s₁.heap = h0 := by rw [← hh, Bd.state]; rfl
  have N0 := Fr.nil n0
  have B3 : ∀ (k : Nat) (T : State) (locs : List Loc) (g4_3 : Int32) (X : Stand p l e ({ frames := 0, cells := 0, slots := 0, locals := 0 } : Room) s m #[(.ref o0), (.int p1), (.int p2), (.int p3)] below meth c T locs 0 0) (N : Fr n0 locs) (eh : T.heap = h0) (hk : (p2.toInt - g4_3.toInt).toNat < k) (hi : ¬ g4_3 < 0), own_W p e below s 0 0 (own_GI n0 (fun h => h = h0) (f1_3 p1 p2 p3 F k g4_3)) T (mkF m 3 #[.val (.ref o0), .val (.int p1), .val (.int p2), .val (.int p3), .val (.int g4_3)] []) := by
    intro k
    induction k with
    | zero =>
      intro T locs g4_3 X N eh hk hi
      exact absurd hk (Nat.not_lt_zero _)
    | succ k ih =>
      intro T locs g4_3 X N eh hk hi
      rw [f1_3]
      refine own_st (T' := T) (f' := (mkF m 5 #[.val (.ref o0), .val (.int p1), .val (.int p2), .val (.int p3), .val (.int g4_3)] [(.int g4_3)])) ?_ (fun t q => XS.iload X.here hx rfl (hb hby d1_3) rfl q)
      refine own_st (T' := T) (f' := (mkF m 6 #[.val (.ref o0), .val (.int p1), .val (.int p2), .val (.int p3), .val (.int g4_3)] [(.int p2), (.int g4_3)])) ?_ (fun t q => XS.iloadN X.here hx rfl (hb hby d1_5) rfl q)
      refine own_ite (fun hc6 => ?_) (fun hc6 => ?_)
      · refine own_st (T' := T) (f' := (mkF m 9 #[.val (.ref o0), .val (.int p1), .val (.int p2), .val (.int p3), .val (.int g4_3)] [])) ?_ (fun t q => XS.icmpNo X.here hx rfl (hb hby d1_6) rfl (tlt hc6).2.1 q)
        refine own_st (T' := T) (f' := (mkF m 10 #[.val (.ref o0), .val (.int p1), .val (.int p2), .val (.int p3), .val (.int g4_3)] [(.ref o0)])) ?_ (fun t q => XS.aloadN X.here hx rfl (hb hby d1_9) rfl rfl q)
        refine own_st (T' := T) (f' := (mkF m 12 #[.val (.ref o0), .val (.int p1), .val (.int p2), .val (.int p3), .val (.int g4_3)] [(.int g4_3), (.ref o0)])) ?_ (fun t q => XS.iload X.here hx rfl (hb hby d1_10) rfl q)
        refine own_bald X hx hZ (own_A.eq A_o0 eh) (j := g4_3) (own_idx hi hc6 hhi) (hb hby d1_12) ?_
        show own_W _ _ _ _ _ _ _ T (mkF m 13 #[.val (.ref o0), .val (.int p1), .val (.int p2), .val (.int p3), .val (.int g4_3)] [(.int (F g4_3.toNatClampNeg))])
        refine own_st (T' := T) (f' := (mkF m 14 #[.val (.ref o0), .val (.int p1), .val (.int p2), .val (.int p3), .val (.int g4_3)] [(.int p3), (.int (F g4_3.toNatClampNeg))])) ?_ (fun t q => XS.iloadN X.here hx rfl (hb hby d1_13) rfl q)
        refine own_ite (fun hc14 => ?_) (fun hc14 => ?_)
        · refine own_st (T' := T) (f' := (mkF m 23 #[.val (.ref o0), .val (.int p1), .val (.int p2), .val (.int p3), .val (.int g4_3)] [])) ?_ (fun t q => XS.icmpYes X.here hx rfl (pc0 := 14) (pc' := 23) rfl (hb hby d1_14) rfl (teq hc14).1 (by decide) (by decide) q)
          refine own_st (T' := T) (f' := (mkF m 25 #[.val (.ref o0), .val (.int p1), .val (.int p2), .val (.int p3), .val (.int g4_3)] [(.int g4_3)])) ?_ (fun t q => XS.iload X.here hx rfl (hb hby d1_23) rfl q)
          exact own_retI X hx hlk Bd.returns (hb hby d1_25) (by decide) (by decide) ⟨rfl, N, eh⟩
        · refine own_st (T' := T) (f' := (mkF m 17 #[.val (.ref o0), .val (.int p1), .val (.int p2), .val (.int p3), .val (.int g4_3)] [])) ?_ (fun t q => XS.icmpNo X.here hx rfl (hb hby d1_14) rfl (feq hc14).1 q)
          refine own_st (T' := T) (f' := (mkF m 20 #[.val (.ref o0), .val (.int p1), .val (.int p2), .val (.int p3), .val (.int (g4_3 + (1 : Int32)))] [])) ?_ (fun t q => XS.iinc X.here hx rfl (hb hby d1_17) rfl (l' := #[.val (.ref o0), .val (.int p1), .val (.int p2), .val (.int p3), .val (.int (g4_3 + (1 : Int32)))]) rfl q)
          refine own_st (T' := T) (f' := (mkF m 3 #[.val (.ref o0), .val (.int p1), .val (.int p2), .val (.int p3), .val (.int (g4_3 + (1 : Int32)))] [])) ?_ (fun t q => XS.goto X.here hx rfl (pc0 := 20) (pc' := 3) rfl (hb hby d1_20) (by decide) (by decide) q)
          exact ih T _ (g4_3 + (1 : Int32)) X N eh (own_back hc6 hk) (own_nn hc6 hi)
      · refine own_st (T' := T) (f' := (mkF m 23 #[.val (.ref o0), .val (.int p1), .val (.int p2), .val (.int p3), .val (.int g4_3)] [])) ?_ (fun t q => XS.icmpYes X.here hx rfl (pc0 := 6) (pc' := 23) rfl (hb hby d1_6) rfl (flt hc6).2.1 (by decide) (by decide) q)
        refine own_st (T' := T) (f' := (mkF m 25 #[.val (.ref o0), .val (.int p1), .val (.int p2), .val (.int p3), .val (.int g4_3)] [(.int g4_3)])) ?_ (fun t q => XS.iload X.here hx rfl (hb hby d1_23) rfl q)
        exact own_retI X hx hlk Bd.returns (hb hby d1_25) (by decide) (by decide) ⟨rfl, N, eh⟩
  show own_W p e below s 0 0 (own_GI n0 (fun h => h = h0) (f1 p1 p2 p3 F)) s₁ (entryFrame m #[(.ref o0), (.int p1), (.int p2), (.int p3)] 5)
  refine own_to (ef_1 m o0 p1 p2 p3) ?_
  unfold f1
  refine own_st (T' := s₁) (f' := (mkF m 1 #[.val (.ref o0), .val (.int p1), .val (.int p2), .val (.int p3), .unset] [(.int p1)])) ?_ (fun t q => XS.iloadN X0.here hx rfl (hb hby d1_0) rfl q)
  refine own_st (T' := s₁) (f' := (mkF m 3 #[.val (.ref o0), .val (.int p1), .val (.int p2), .val (.int p3), .val (.int p1)] [])) ?_ (fun t q => XS.istore X0.here hx rfl (hb hby d1_1) rfl (l' := #[.val (.ref o0), .val (.int p1), .val (.int p2), .val (.int p3), .val (.int p1)]) rfl q)
  exact B3 10 s₁ _ p1 X0 N0 e0 (hm) (hlo)
theorem pd_0 : parseMethodDescriptor "([BIIB)I" = some ⟨[(.array .byte), .int, .int, .byte], some .int⟩ := by decide +kernel
theorem pn_0 : plainFor x = true := by first | exact plainFor_of_name (by first | (simp [plainName, overriddenIn]; done) | decide +kernel) | decide +kernel
theorem ef_0 (m : MethodId) (x0 : Int32) (x1 : Int32) (x2 : Int32) (x3 : Int32) (x4 : Int32) : entryFrame m #[(.int x0), (.int x1), (.int x2), (.int x3), (.int x4)] maxLocals = mkF m 0 #[.val (.int x0), .val (.int x1), .val (.int x2), .val (.int x3), .val (.int x4), .unset, .unset, .unset, .unset, .unset, .unset] [] := by first | (simp [entryFrame, mkF, argsToLocals, Value.category, maxLocals]; done) | rfl
def vF (p0 : Int32) (p1 : Int32) (p2 : Int32) (p3 : Int32) (p4 : Int32) (g100_14 : Int32) : Nat → Int32 := (own_up (own_up (own_up (own_up (fun _ => 0) 0 (nar .byte ((p0 &&& g100_14).toInt8.toInt32))) 1 (nar .byte ((((p0.toUInt32 >>> ((8 : Int32) &&& 31).toUInt32).toInt32) &&& g100_14).toInt8.toInt32))) 2 (nar .byte ((((p0.toUInt32 >>> ((16 : Int32) &&& 31).toUInt32).toInt32) &&& g100_14).toInt8.toInt32))) 3 (nar .byte ((((p0.toUInt32 >>> ((24 : Int32) &&& 31).toUInt32).toInt32) &&& g100_14).toInt8.toInt32)))
def vb (p0 : Int32) (p1 : Int32) (p2 : Int32) (p3 : Int32) (p4 : Int32) (g100_14 : Int32) : Int32 := ((p1 &&& g100_14).toInt8.toInt32)
def vs (p0 : Int32) (p1 : Int32) (p2 : Int32) (p3 : Int32) (p4 : Int32) : Int32 := ((p2 &&& (2147483647 : Int32)) - ((p2 &&& (2147483647 : Int32)) / (5 : Int32)) * (5 : Int32))
def ve (p0 : Int32) (p1 : Int32) (p2 : Int32) (p3 : Int32) (p4 : Int32) : Int32 := ((vs p0 p1 p2 p3 p4) + ((p3 &&& (2147483647 : Int32)) - ((p3 &&& (2147483647 : Int32)) / ((5 : Int32) - (vs p0 p1 p2 p3 p4))) * ((5 : Int32) - (vs p0 p1 p2 p3 p4))))
def f0_195 (p0 : Int32) (p1 : Int32) (p2 : Int32) (p3 : Int32) (p4 : Int32) (g5_195 : Int32) (g7_195 : Int32) (g10_195 : Int32) (F6_195 : Nat → Int32) : Int32 := (if (f1 (vs p0 p1 p2 p3 p4) (ve p0 p1 p2 p3 p4) g7_195 F6_195) = g10_195 then (1 : Int32) else (0 : Int32))
def f0_171 (p0 : Int32) (p1 : Int32) (p2 : Int32) (p3 : Int32) (p4 : Int32) (g5_171 : Int32) (g7_171 : Int32) (g10_171 : Int32) (F6_171 : Nat → Int32) : Int32 := (if (0 : Int32) < (vs p0 p1 p2 p3 p4) then (f0_195 p0 p1 p2 p3 p4 g5_171 g7_171 g10_171 F6_171) else (if (0 : Int32) < (ve p0 p1 p2 p3 p4) then (if (F6_171 0) = g7_171 then (f0_195 p0 p1 p2 p3 p4 g5_171 g7_171 (0 : Int32) F6_171) else (f0_195 p0 p1 p2 p3 p4 g5_171 g7_171 g10_171 F6_171)) else (f0_195 p0 p1 p2 p3 p4 g5_171 g7_171 g10_171 F6_171)))
def f0_147 (p0 : Int32) (p1 : Int32) (p2 : Int32) (p3 : Int32) (p4 : Int32) (g5_147 : Int32) (g7_147 : Int32) (g10_147 : Int32) (F6_147 : Nat → Int32) : Int32 := (if (1 : Int32) < (vs p0 p1 p2 p3 p4) then (f0_171 p0 p1 p2 p3 p4 g5_147 g7_147 g10_147 F6_147) else (if (1 : Int32) < (ve p0 p1 p2 p3 p4) then (if (F6_147 1) = g7_147 then (f0_171 p0 p1 p2 p3 p4 g5_147 g7_147 (1 : Int32) F6_147) else (f0_171 p0 p1 p2 p3 p4 g5_147 g7_147 g10_147 F6_147)) else (f0_171 p0 p1 p2 p3 p4 g5_147 g7_147 g10_147 F6_147)))
def f0_123 (p0 : Int32) (p1 : Int32) (p2 : Int32) (p3 : Int32) (p4 : Int32) (g5_123 : Int32) (g7_123 : Int32) (g10_123 : Int32) (F6_123 : Nat → Int32) : Int32 := (if (2 : Int32) < (vs p0 p1 p2 p3 p4) then (f0_147 p0 p1 p2 p3 p4 g5_123 g7_123 g10_123 F6_123) else (if (2 : Int32) < (ve p0 p1 p2 p3 p4) then (if (F6_123 2) = g7_123 then (f0_147 p0 p1 p2 p3 p4 g5_123 g7_123 (2 : Int32) F6_123) else (f0_147 p0 p1 p2 p3 p4 g5_123 g7_123 g10_123 F6_123)) else (f0_147 p0 p1 p2 p3 p4 g5_123 g7_123 g10_123 F6_123)))
def f0_14 (p0 : Int32) (p1 : Int32) (p2 : Int32) (p3 : Int32) (p4 : Int32) (g100_14 : Int32) : Int32 := (if (3 : Int32) < (vs p0 p1 p2 p3 p4) then (f0_123 p0 p1 p2 p3 p4 g100_14 (vb p0 p1 p2 p3 p4 g100_14) (ve p0 p1 p2 p3 p4) (vF p0 p1 p2 p3 p4 g100_14)) else (if (3 : Int32) < (ve p0 p1 p2 p3 p4) then (if ((vF p0 p1 p2 p3 p4 g100_14) 3) = (vb p0 p1 p2 p3 p4 g100_14) then (f0_123 p0 p1 p2 p3 p4 g100_14 (vb p0 p1 p2 p3 p4 g100_14) (3 : Int32) (vF p0 p1 p2 p3 p4 g100_14)) else (f0_123 p0 p1 p2 p3 p4 g100_14 (vb p0 p1 p2 p3 p4 g100_14) (ve p0 p1 p2 p3 p4) (vF p0 p1 p2 p3 p4 g100_14))) else (f0_123 p0 p1 p2 p3 p4 g100_14 (vb p0 p1 p2 p3 p4 g100_14) (ve p0 p1 p2 p3 p4) (vF p0 p1 p2 p3 p4 g100_14))))
def f0 (p0 : Int32) (p1 : Int32) (p2 : Int32) (p3 : Int32) (p4 : Int32) : Int32 := (if (p4 &&& (1 : Int32)) = (0 : Int32) then (f0_14 p0 p1 p2 p3 p4 (255 : Int32)) else (f0_14 p0 p1 p2 p3 p4 (1 : Int32)))
theorem own_s (p0 p1 p2 p3 p4 : Int32) : 0 ≤ (vs p0 p1 p2 p3 p4).toInt ∧ (vs p0 p1 p2 p3 p4).toInt < 5 := own_rb p2 5 (by decide)
theorem own_5s (p0 p1 p2 p3 p4 : Int32) : ((5 : Int32) - vs p0 p1 p2 p3 p4).toInt = 5 - (vs p0 p1 p2 p3 p4).toInt := by
  have h := own_s p0 p1 p2 p3 p4
  have k : (5 : Int32).toInt = 5 := rfl
  rw [Jvm.Kit.i32_sub (by omega) (by omega), k]
theorem own_nz (p0 p1 p2 p3 p4 : Int32) : ((5 : Int32) - vs p0 p1 p2 p3 p4) ≠ 0 := by
  intro q
  have h := congrArg Int32.toInt q
  rw [own_5s, show (0 : Int32).toInt = 0 from rfl] at h
  have := own_s p0 p1 p2 p3 p4
  omega
theorem own_e (p0 p1 p2 p3 p4 : Int32) : (vs p0 p1 p2 p3 p4).toInt ≤ (ve p0 p1 p2 p3 p4).toInt ∧ (ve p0 p1 p2 p3 p4).toInt < 5 := by
  have h := own_s p0 p1 p2 p3 p4
  have h5 := own_5s p0 p1 p2 p3 p4
  have h3 := own_rb p3 (5 - vs p0 p1 p2 p3 p4) (by omega)
  have he : (ve p0 p1 p2 p3 p4).toInt = (vs p0 p1 p2 p3 p4).toInt + (own_r p3 (5 - vs p0 p1 p2 p3 p4)).toInt := by
    show (vs p0 p1 p2 p3 p4 + own_r p3 (5 - vs p0 p1 p2 p3 p4)).toInt = _
    exact Jvm.Kit.i32_add (by omega) (by omega)
  omega
theorem own_p1 (p0 p1 p2 p3 p4 : Int32) : ¬ vs p0 p1 p2 p3 p4 < 0 := by
  have h := own_s p0 p1 p2 p3 p4
  rw [Int32.lt_iff_toInt_lt, show (0 : Int32).toInt = 0 from rfl]; omega
theorem own_p2 (p0 p1 p2 p3 p4 : Int32) : (ve p0 p1 p2 p3 p4).toNatClampNeg ≤ 4 := by
  have h := own_e p0 p1 p2 p3 p4
  rw [Int32.toNatClampNeg]; omega
theorem own_p3 (p0 p1 p2 p3 p4 : Int32) : ((ve p0 p1 p2 p3 p4).toInt - (vs p0 p1 p2 p3 p4).toInt).toNat < 10 := by
  have h := own_e p0 p1 p2 p3 p4
  have h' := own_s p0 p1 p2 p3 p4
  omega
set_option maxRecDepth 65536 in
set_option maxHeartbeats 40000000 in
theorem rm0 (l : Launch) (Z : State) (a0 : Array Value) (hw : ∀ d ∈ tables_1, d.before a0 Z = true) (ws : List Jvm.Cond) (p0 : Int32) (p1 : Int32) (p2 : Int32) (p3 : Int32) (p4 : Int32) (h0 : Heap) (n0 : Nat) (Z0 : n0 ≤ h0.size) :
    MetFree l x (head1 (Jvm.Cond.code x code maxLocals ret :: ws) room_1) (fun a U => a = #[(.int p0), (.int p1), (.int p2), (.int p3), (.int p4)] ∧ Z.Warmed39 U.vm ∧ U.heap = h0) (fun _ _ _ _ _ => True) (fun _ U o U' => ∃ v L, o = .returned v ∧ own_GI n0 (fun _ => True) (f0 p0 p1 p2 p3 p4) v U'.heap L ∧ FrameEnd U o U' L 1 4) := by
  refine MetFree.of_bodySF pn_0 hisR ?_
  intro p e s m args below meth c s₁ Bd hml0 hP hK
  obtain ⟨rfl, hZ, hh⟩ := hP
  have hx := Bd.exec
  have hby := Bd.bytes
  have hml : c.maxLocals = 11 := hml0
  have hown : s.vm.findClass "com/example/cuvette/cuvette/hl7/Er7IndexOfPinLaw" = some m.cls := findClass_of_methodNamed Bd.named
  have hlk : meth.locks = false := BodyLoose.notSynchronized Bd
  have X0 : Stand p l e room_1 s m #[(.int p0), (.int p1), (.int p2), (.int p3), (.int p4)] below meth c s₁ [] 0 0 := Stand.of_body Bd
  have e0 : s₁.heap = h0 := by rw [← hh, Bd.state]; rfl
  have N0 := Fr.nil n0
  have zs0 : n0 ≤ s₁.heap.size := by rw [e0]; exact Z0
  have B195 : ∀ (T : State) (locs : List Loc) (g5_195 : Int32) (r6_195 : Addr) (g7_195 : Int32) (g10_195 : Int32) (F6_195 : Nat → Int32) (X : Stand p l e room_1 s m #[(.int p0), (.int p1), (.int p2), (.int p3), (.int p4)] below meth c T locs 1 4) (N : Fr n0 locs) (zs : n0 ≤ T.heap.size) (G_r6_195 : n0 ≤ r6_195) (A_r6_195 : own_A Z T.heap r6_195 .byte 4 F6_195), own_W p e below s 1 4 (own_GI n0 (fun _ => True) (f0_195 p0 p1 p2 p3 p4 g5_195 g7_195 g10_195 F6_195)) T (mkF m 195 #[.val (.int p0), .val (.int p1), .val (.int p2), .val (.int p3), .val (.int p4), .val (.int g5_195), .val (.ref r6_195), .val (.int g7_195), .val (.int (vs p0 p1 p2 p3 p4)), .val (.int (ve p0 p1 p2 p3 p4)), .val (.int g10_195)] []) := by
    intro T locs g5_195 r6_195 g7_195 g10_195 F6_195 X N zs G_r6_195 A_r6_195
    unfold f0_195
    refine own_st (T' := T) (f' := (mkF m 197 #[.val (.int p0), .val (.int p1), .val (.int p2), .val (.int p3), .val (.int p4), .val (.int g5_195), .val (.ref r6_195), .val (.int g7_195), .val (.int (vs p0 p1 p2 p3 p4)), .val (.int (ve p0 p1 p2 p3 p4)), .val (.int g10_195)] [(.ref r6_195)])) ?_ (fun t q => XS.aload X.here hx rfl (hb hby at_195) rfl rfl q)
    refine own_st (T' := T) (f' := (mkF m 199 #[.val (.int p0), .val (.int p1), .val (.int p2), .val (.int p3), .val (.int p4), .val (.int g5_195), .val (.ref r6_195), .val (.int g7_195), .val (.int (vs p0 p1 p2 p3 p4)), .val (.int (ve p0 p1 p2 p3 p4)), .val (.int g10_195)] [(.int (vs p0 p1 p2 p3 p4)), (.ref r6_195)])) ?_ (fun t q => XS.iload X.here hx rfl (hb hby at_197) rfl q)
    refine own_st (T' := T) (f' := (mkF m 201 #[.val (.int p0), .val (.int p1), .val (.int p2), .val (.int p3), .val (.int p4), .val (.int g5_195), .val (.ref r6_195), .val (.int g7_195), .val (.int (vs p0 p1 p2 p3 p4)), .val (.int (ve p0 p1 p2 p3 p4)), .val (.int g10_195)] [(.int (ve p0 p1 p2 p3 p4)), (.int (vs p0 p1 p2 p3 p4)), (.ref r6_195)])) ?_ (fun t q => XS.iload X.here hx rfl (hb hby at_199) rfl q)
    refine own_st (T' := T) (f' := (mkF m 203 #[.val (.int p0), .val (.int p1), .val (.int p2), .val (.int p3), .val (.int p4), .val (.int g5_195), .val (.ref r6_195), .val (.int g7_195), .val (.int (vs p0 p1 p2 p3 p4)), .val (.int (ve p0 p1 p2 p3 p4)), .val (.int g10_195)] [(.int g7_195), (.int (ve p0 p1 p2 p3 p4)), (.int (vs p0 p1 p2 p3 p4)), (.ref r6_195)])) ?_ (fun t q => XS.iload X.here hx rfl (hb hby at_201) rfl q)
    obtain ⟨_, _, ⟨T1, L1, k1, n1⟩, -, X1, ⟨Lc1, hQ1, l1, y1, z1⟩, st1⟩ := Jvm.LawKit.callS X hx (y := (⟨"com/example/cuvette/cuvette/hl7/Er7", "indexOf", "([BIIB)I"⟩ : MethodName)) hown (mvT hZ (hw _ (List.mem_of_getElem? (i := 2) rfl))) (mvT hZ (hw _ (List.mem_of_getElem? (i := 3) rfl))) (mvT hZ (hw _ (List.mem_of_getElem? (i := 4) rfl))) (mvT hZ (hw _ (List.mem_of_getElem? (i := 5) rfl))) (by decide) (backOf (W := 0) (rm1 l Z a0 hw [] r6_195 (vs p0 p1 p2 p3 p4) (ve p0 p1 p2 p3 p4) g7_195 4 F6_195 T.heap n0 A_r6_195 (own_p1 p0 p1 p2 p3 p4) (own_p2 p0 p1 p2 p3 p4) (own_p3 p0 p1 p2 p3 p4)) hZ (hw _ (List.mem_of_getElem? (i := 5) rfl)) (hw _ (List.mem_of_getElem? (i := 4) rfl)) (by decide) (by decide)) (g := (mkF m 203 #[.val (.int p0), .val (.int p1), .val (.int p2), .val (.int p3), .val (.int p4), .val (.int g5_195), .val (.ref r6_195), .val (.int g7_195), .val (.int (vs p0 p1 p2 p3 p4)), .val (.int (ve p0 p1 p2 p3 p4)), .val (.int g10_195)] [(.int g7_195), (.int (ve p0 p1 p2 p3 p4)), (.int (vs p0 p1 p2 p3 p4)), (.ref r6_195)])) rfl (by rw [hml]; rfl) (argsL := [(.ref r6_195), (.int (vs p0 p1 p2 p3 p4)), (.int (ve p0 p1 p2 p3 p4)), (.int g7_195)]) (rest := []) (lenOf pd_0 rfl) rfl (by show 2 * 0 + _ ≤ _; exact Nat.le_of_eq rfl) (hb hby at_203) (fun _ _ => ⟨rfl, rfl, (Nat.le_of_ble_eq_true rfl), (Nat.le_of_ble_eq_true rfl)⟩)
    dsimp only [Pt.U, Pt.locs, Pt.cells, Pt.slots] at X1 l1 y1 z1 st1 hQ1
    subst l1 y1 z1
    obtain ⟨rfl, N1q, e1⟩ := hQ1
    have N1 := Fr.app N N1q
    have zs1 : n0 ≤ T1.heap.size := by rw [e1]; exact zs
    have A1_r6_195 := own_A.eq A_r6_195 e1
    refine own_st (T' := T1) (f' := (mkF m 206 #[.val (.int p0), .val (.int p1), .val (.int p2), .val (.int p3), .val (.int p4), .val (.int g5_195), .val (.ref r6_195), .val (.int g7_195), .val (.int (vs p0 p1 p2 p3 p4)), .val (.int (ve p0 p1 p2 p3 p4)), .val (.int g10_195)] [(.int (f1 (vs p0 p1 p2 p3 p4) (ve p0 p1 p2 p3 p4) g7_195 F6_195))])) ?_ (fun t q => st1 _ q)
    refine own_st (T' := T1) (f' := (mkF m 208 #[.val (.int p0), .val (.int p1), .val (.int p2), .val (.int p3), .val (.int p4), .val (.int g5_195), .val (.ref r6_195), .val (.int g7_195), .val (.int (vs p0 p1 p2 p3 p4)), .val (.int (ve p0 p1 p2 p3 p4)), .val (.int g10_195)] [(.int g10_195), (.int (f1 (vs p0 p1 p2 p3 p4) (ve p0 p1 p2 p3 p4) g7_195 F6_195))])) ?_ (fun t q => XS.iload X1.here hx rfl (hb hby at_206) rfl q)
    refine own_ite (fun hc208 => ?_) (fun hc208 => ?_)
    · refine own_st (T' := T1) (f' := (mkF m 211 #[.val (.int p0), .val (.int p1), .val (.int p2), .val (.int p3), .val (.int p4), .val (.int g5_195), .val (.ref r6_195), .val (.int g7_195), .val (.int (vs p0 p1 p2 p3 p4)), .val (.int (ve p0 p1 p2 p3 p4)), .val (.int g10_195)] [])) ?_ (fun t q => XS.icmpNo X1.here hx rfl (hb hby at_208) rfl (teq hc208).2 q)
      refine own_st (T' := T1) (f' := (mkF m 212 #[.val (.int p0), .val (.int p1), .val (.int p2), .val (.int p3), .val (.int p4), .val (.int g5_195), .val (.ref r6_195), .val (.int g7_195), .val (.int (vs p0 p1 p2 p3 p4)), .val (.int (ve p0 p1 p2 p3 p4)), .val (.int g10_195)] [(.int (1 : Int32))])) ?_ (fun t q => XS.iconst X1.here hx rfl (hb hby at_211) q)
      refine own_st (T' := T1) (f' := (mkF m 216 #[.val (.int p0), .val (.int p1), .val (.int p2), .val (.int p3), .val (.int p4), .val (.int g5_195), .val (.ref r6_195), .val (.int g7_195), .val (.int (vs p0 p1 p2 p3 p4)), .val (.int (ve p0 p1 p2 p3 p4)), .val (.int g10_195)] [(.int (1 : Int32))])) ?_ (fun t q => XS.goto X1.here hx rfl (pc0 := 212) (pc' := 216) rfl (hb hby at_212) (by decide) (by decide) q)
      exact own_retN X1 hx hlk (t := .boolean) Bd.returns (by simp) (hb hby at_216) (by decide) (by decide) ⟨rfl, N1, trivial⟩
    · refine own_st (T' := T1) (f' := (mkF m 215 #[.val (.int p0), .val (.int p1), .val (.int p2), .val (.int p3), .val (.int p4), .val (.int g5_195), .val (.ref r6_195), .val (.int g7_195), .val (.int (vs p0 p1 p2 p3 p4)), .val (.int (ve p0 p1 p2 p3 p4)), .val (.int g10_195)] [])) ?_ (fun t q => XS.icmpYes X1.here hx rfl (pc0 := 208) (pc' := 215) rfl (hb hby at_208) rfl (feq hc208).2 (by decide) (by decide) q)
      refine own_st (T' := T1) (f' := (mkF m 216 #[.val (.int p0), .val (.int p1), .val (.int p2), .val (.int p3), .val (.int p4), .val (.int g5_195), .val (.ref r6_195), .val (.int g7_195), .val (.int (vs p0 p1 p2 p3 p4)), .val (.int (ve p0 p1 p2 p3 p4)), .val (.int g10_195)] [(.int (0 : Int32))])) ?_ (fun t q => XS.iconst X1.here hx rfl (hb hby at_215) q)
      exact own_retN X1 hx hlk (t := .boolean) Bd.returns (by simp) (hb hby at_216) (by decide) (by decide) ⟨rfl, N1, trivial⟩
  have B171 : ∀ (T : State) (locs : List Loc) (g5_171 : Int32) (r6_171 : Addr) (g7_171 : Int32) (g10_171 : Int32) (F6_171 : Nat → Int32) (X : Stand p l e room_1 s m #[(.int p0), (.int p1), (.int p2), (.int p3), (.int p4)] below meth c T locs 1 4) (N : Fr n0 locs) (zs : n0 ≤ T.heap.size) (G_r6_171 : n0 ≤ r6_171) (A_r6_171 : own_A Z T.heap r6_171 .byte 4 F6_171), own_W p e below s 1 4 (own_GI n0 (fun _ => True) (f0_171 p0 p1 p2 p3 p4 g5_171 g7_171 g10_171 F6_171)) T (mkF m 171 #[.val (.int p0), .val (.int p1), .val (.int p2), .val (.int p3), .val (.int p4), .val (.int g5_171), .val (.ref r6_171), .val (.int g7_171), .val (.int (vs p0 p1 p2 p3 p4)), .val (.int (ve p0 p1 p2 p3 p4)), .val (.int g10_171)] []) := by
    intro T locs g5_171 r6_171 g7_171 g10_171 F6_171 X N zs G_r6_171 A_r6_171
    unfold f0_171
    refine own_st (T' := T) (f' := (mkF m 172 #[.val (.int p0), .val (.int p1), .val (.int p2), .val (.int p3), .val (.int p4), .val (.int g5_171), .val (.ref r6_171), .val (.int g7_171), .val (.int (vs p0 p1 p2 p3 p4)), .val (.int (ve p0 p1 p2 p3 p4)), .val (.int g10_171)] [(.int (0 : Int32))])) ?_ (fun t q => XS.iconst X.here hx rfl (hb hby at_171) q)
    refine own_st (T' := T) (f' := (mkF m 174 #[.val (.int p0), .val (.int p1), .val (.int p2), .val (.int p3), .val (.int p4), .val (.int g5_171), .val (.ref r6_171), .val (.int g7_171), .val (.int (vs p0 p1 p2 p3 p4)), .val (.int (ve p0 p1 p2 p3 p4)), .val (.int g10_171)] [(.int (vs p0 p1 p2 p3 p4)), (.int (0 : Int32))])) ?_ (fun t q => XS.iload X.here hx rfl (hb hby at_172) rfl q)
    refine own_ite (fun hc174 => ?_) (fun hc174 => ?_)
    · refine own_st (T' := T) (f' := (mkF m 195 #[.val (.int p0), .val (.int p1), .val (.int p2), .val (.int p3), .val (.int p4), .val (.int g5_171), .val (.ref r6_171), .val (.int g7_171), .val (.int (vs p0 p1 p2 p3 p4)), .val (.int (ve p0 p1 p2 p3 p4)), .val (.int g10_171)] [])) ?_ (fun t q => XS.icmpYes X.here hx rfl (pc0 := 174) (pc' := 195) rfl (hb hby at_174) rfl (tlt hc174).1 (by decide) (by decide) q)
      exact B195 T _ g5_171 r6_171 g7_171 g10_171 F6_171 X N zs G_r6_171 A_r6_171
    · refine own_st (T' := T) (f' := (mkF m 177 #[.val (.int p0), .val (.int p1), .val (.int p2), .val (.int p3), .val (.int p4), .val (.int g5_171), .val (.ref r6_171), .val (.int g7_171), .val (.int (vs p0 p1 p2 p3 p4)), .val (.int (ve p0 p1 p2 p3 p4)), .val (.int g10_171)] [])) ?_ (fun t q => XS.icmpNo X.here hx rfl (hb hby at_174) rfl (flt hc174).1 q)
      refine own_st (T' := T) (f' := (mkF m 178 #[.val (.int p0), .val (.int p1), .val (.int p2), .val (.int p3), .val (.int p4), .val (.int g5_171), .val (.ref r6_171), .val (.int g7_171), .val (.int (vs p0 p1 p2 p3 p4)), .val (.int (ve p0 p1 p2 p3 p4)), .val (.int g10_171)] [(.int (0 : Int32))])) ?_ (fun t q => XS.iconst X.here hx rfl (hb hby at_177) q)
      refine own_st (T' := T) (f' := (mkF m 180 #[.val (.int p0), .val (.int p1), .val (.int p2), .val (.int p3), .val (.int p4), .val (.int g5_171), .val (.ref r6_171), .val (.int g7_171), .val (.int (vs p0 p1 p2 p3 p4)), .val (.int (ve p0 p1 p2 p3 p4)), .val (.int g10_171)] [(.int (ve p0 p1 p2 p3 p4)), (.int (0 : Int32))])) ?_ (fun t q => XS.iload X.here hx rfl (hb hby at_178) rfl q)
      refine own_ite (fun hc180 => ?_) (fun hc180 => ?_)
      · refine own_st (T' := T) (f' := (mkF m 183 #[.val (.int p0), .val (.int p1), .val (.int p2), .val (.int p3), .val (.int p4), .val (.int g5_171), .val (.ref r6_171), .val (.int g7_171), .val (.int (vs p0 p1 p2 p3 p4)), .val (.int (ve p0 p1 p2 p3 p4)), .val (.int g10_171)] [])) ?_ (fun t q => XS.icmpNo X.here hx rfl (hb hby at_180) rfl (tlt hc180).2.1 q)
        refine own_st (T' := T) (f' := (mkF m 185 #[.val (.int p0), .val (.int p1), .val (.int p2), .val (.int p3), .val (.int p4), .val (.int g5_171), .val (.ref r6_171), .val (.int g7_171), .val (.int (vs p0 p1 p2 p3 p4)), .val (.int (ve p0 p1 p2 p3 p4)), .val (.int g10_171)] [(.ref r6_171)])) ?_ (fun t q => XS.aload X.here hx rfl (hb hby at_183) rfl rfl q)
        refine own_st (T' := T) (f' := (mkF m 186 #[.val (.int p0), .val (.int p1), .val (.int p2), .val (.int p3), .val (.int p4), .val (.int g5_171), .val (.ref r6_171), .val (.int g7_171), .val (.int (vs p0 p1 p2 p3 p4)), .val (.int (ve p0 p1 p2 p3 p4)), .val (.int g10_171)] [(.int (0 : Int32)), (.ref r6_171)])) ?_ (fun t q => XS.iconst X.here hx rfl (hb hby at_185) q)
        refine own_bald X hx hZ A_r6_171 (j := (0 : Int32)) ⟨by decide, by decide⟩ (hb hby at_186) ?_
        show own_W _ _ _ _ _ _ _ T (mkF m 187 #[.val (.int p0), .val (.int p1), .val (.int p2), .val (.int p3), .val (.int p4), .val (.int g5_171), .val (.ref r6_171), .val (.int g7_171), .val (.int (vs p0 p1 p2 p3 p4)), .val (.int (ve p0 p1 p2 p3 p4)), .val (.int g10_171)] [(.int (F6_171 0))])
        refine own_st (T' := T) (f' := (mkF m 189 #[.val (.int p0), .val (.int p1), .val (.int p2), .val (.int p3), .val (.int p4), .val (.int g5_171), .val (.ref r6_171), .val (.int g7_171), .val (.int (vs p0 p1 p2 p3 p4)), .val (.int (ve p0 p1 p2 p3 p4)), .val (.int g10_171)] [(.int g7_171), (.int (F6_171 0))])) ?_ (fun t q => XS.iload X.here hx rfl (hb hby at_187) rfl q)
        refine own_ite (fun hc189 => ?_) (fun hc189 => ?_)
        · refine own_st (T' := T) (f' := (mkF m 192 #[.val (.int p0), .val (.int p1), .val (.int p2), .val (.int p3), .val (.int p4), .val (.int g5_171), .val (.ref r6_171), .val (.int g7_171), .val (.int (vs p0 p1 p2 p3 p4)), .val (.int (ve p0 p1 p2 p3 p4)), .val (.int g10_171)] [])) ?_ (fun t q => XS.icmpNo X.here hx rfl (hb hby at_189) rfl (teq hc189).2 q)
          refine own_st (T' := T) (f' := (mkF m 193 #[.val (.int p0), .val (.int p1), .val (.int p2), .val (.int p3), .val (.int p4), .val (.int g5_171), .val (.ref r6_171), .val (.int g7_171), .val (.int (vs p0 p1 p2 p3 p4)), .val (.int (ve p0 p1 p2 p3 p4)), .val (.int g10_171)] [(.int (0 : Int32))])) ?_ (fun t q => XS.iconst X.here hx rfl (hb hby at_192) q)
          refine own_st (T' := T) (f' := (mkF m 195 #[.val (.int p0), .val (.int p1), .val (.int p2), .val (.int p3), .val (.int p4), .val (.int g5_171), .val (.ref r6_171), .val (.int g7_171), .val (.int (vs p0 p1 p2 p3 p4)), .val (.int (ve p0 p1 p2 p3 p4)), .val (.int (0 : Int32))] [])) ?_ (fun t q => XS.istore X.here hx rfl (hb hby at_193) rfl (l' := #[.val (.int p0), .val (.int p1), .val (.int p2), .val (.int p3), .val (.int p4), .val (.int g5_171), .val (.ref r6_171), .val (.int g7_171), .val (.int (vs p0 p1 p2 p3 p4)), .val (.int (ve p0 p1 p2 p3 p4)), .val (.int (0 : Int32))]) rfl q)
          exact B195 T _ g5_171 r6_171 g7_171 (0 : Int32) F6_171 X N zs G_r6_171 A_r6_171
        · refine own_st (T' := T) (f' := (mkF m 195 #[.val (.int p0), .val (.int p1), .val (.int p2), .val (.int p3), .val (.int p4), .val (.int g5_171), .val (.ref r6_171), .val (.int g7_171), .val (.int (vs p0 p1 p2 p3 p4)), .val (.int (ve p0 p1 p2 p3 p4)), .val (.int g10_171)] [])) ?_ (fun t q => XS.icmpYes X.here hx rfl (pc0 := 189) (pc' := 195) rfl (hb hby at_189) rfl (feq hc189).2 (by decide) (by decide) q)
          exact B195 T _ g5_171 r6_171 g7_171 g10_171 F6_171 X N zs G_r6_171 A_r6_171
      · refine own_st (T' := T) (f' := (mkF m 195 #[.val (.int p0), .val (.int p1), .val (.int p2), .val (.int p3), .val (.int p4), .val (.int g5_171), .val (.ref r6_171), .val (.int g7_171), .val (.int (vs p0 p1 p2 p3 p4)), .val (.int (ve p0 p1 p2 p3 p4)), .val (.int g10_171)] [])) ?_ (fun t q => XS.icmpYes X.here hx rfl (pc0 := 180) (pc' := 195) rfl (hb hby at_180) rfl (flt hc180).2.1 (by decide) (by decide) q)
        exact B195 T _ g5_171 r6_171 g7_171 g10_171 F6_171 X N zs G_r6_171 A_r6_171
  have B147 : ∀ (T : State) (locs : List Loc) (g5_147 : Int32) (r6_147 : Addr) (g7_147 : Int32) (g10_147 : Int32) (F6_147 : Nat → Int32) (X : Stand p l e room_1 s m #[(.int p0), (.int p1), (.int p2), (.int p3), (.int p4)] below meth c T locs 1 4) (N : Fr n0 locs) (zs : n0 ≤ T.heap.size) (G_r6_147 : n0 ≤ r6_147) (A_r6_147 : own_A Z T.heap r6_147 .byte 4 F6_147), own_W p e below s 1 4 (own_GI n0 (fun _ => True) (f0_147 p0 p1 p2 p3 p4 g5_147 g7_147 g10_147 F6_147)) T (mkF m 147 #[.val (.int p0), .val (.int p1), .val (.int p2), .val (.int p3), .val (.int p4), .val (.int g5_147), .val (.ref r6_147), .val (.int g7_147), .val (.int (vs p0 p1 p2 p3 p4)), .val (.int (ve p0 p1 p2 p3 p4)), .val (.int g10_147)] []) := by
    intro T locs g5_147 r6_147 g7_147 g10_147 F6_147 X N zs G_r6_147 A_r6_147
    unfold f0_147
    refine own_st (T' := T) (f' := (mkF m 148 #[.val (.int p0), .val (.int p1), .val (.int p2), .val (.int p3), .val (.int p4), .val (.int g5_147), .val (.ref r6_147), .val (.int g7_147), .val (.int (vs p0 p1 p2 p3 p4)), .val (.int (ve p0 p1 p2 p3 p4)), .val (.int g10_147)] [(.int (1 : Int32))])) ?_ (fun t q => XS.iconst X.here hx rfl (hb hby at_147) q)
    refine own_st (T' := T) (f' := (mkF m 150 #[.val (.int p0), .val (.int p1), .val (.int p2), .val (.int p3), .val (.int p4), .val (.int g5_147), .val (.ref r6_147), .val (.int g7_147), .val (.int (vs p0 p1 p2 p3 p4)), .val (.int (ve p0 p1 p2 p3 p4)), .val (.int g10_147)] [(.int (vs p0 p1 p2 p3 p4)), (.int (1 : Int32))])) ?_ (fun t q => XS.iload X.here hx rfl (hb hby at_148) rfl q)
    refine own_ite (fun hc150 => ?_) (fun hc150 => ?_)
    · refine own_st (T' := T) (f' := (mkF m 171 #[.val (.int p0), .val (.int p1), .val (.int p2), .val (.int p3), .val (.int p4), .val (.int g5_147), .val (.ref r6_147), .val (.int g7_147), .val (.int (vs p0 p1 p2 p3 p4)), .val (.int (ve p0 p1 p2 p3 p4)), .val (.int g10_147)] [])) ?_ (fun t q => XS.icmpYes X.here hx rfl (pc0 := 150) (pc' := 171) rfl (hb hby at_150) rfl (tlt hc150).1 (by decide) (by decide) q)
      exact B171 T _ g5_147 r6_147 g7_147 g10_147 F6_147 X N zs G_r6_147 A_r6_147
    · refine own_st (T' := T) (f' := (mkF m 153 #[.val (.int p0), .val (.int p1), .val (.int p2), .val (.int p3), .val (.int p4), .val (.int g5_147), .val (.ref r6_147), .val (.int g7_147), .val (.int (vs p0 p1 p2 p3 p4)), .val (.int (ve p0 p1 p2 p3 p4)), .val (.int g10_147)] [])) ?_ (fun t q => XS.icmpNo X.here hx rfl (hb hby at_150) rfl (flt hc150).1 q)
      refine own_st (T' := T) (f' := (mkF m 154 #[.val (.int p0), .val (.int p1), .val (.int p2), .val (.int p3), .val (.int p4), .val (.int g5_147), .val (.ref r6_147), .val (.int g7_147), .val (.int (vs p0 p1 p2 p3 p4)), .val (.int (ve p0 p1 p2 p3 p4)), .val (.int g10_147)] [(.int (1 : Int32))])) ?_ (fun t q => XS.iconst X.here hx rfl (hb hby at_153) q)
      refine own_st (T' := T) (f' := (mkF m 156 #[.val (.int p0), .val (.int p1), .val (.int p2), .val (.int p3), .val (.int p4), .val (.int g5_147), .val (.ref r6_147), .val (.int g7_147), .val (.int (vs p0 p1 p2 p3 p4)), .val (.int (ve p0 p1 p2 p3 p4)), .val (.int g10_147)] [(.int (ve p0 p1 p2 p3 p4)), (.int (1 : Int32))])) ?_ (fun t q => XS.iload X.here hx rfl (hb hby at_154) rfl q)
      refine own_ite (fun hc156 => ?_) (fun hc156 => ?_)
      · refine own_st (T' := T) (f' := (mkF m 159 #[.val (.int p0), .val (.int p1), .val (.int p2), .val (.int p3), .val (.int p4), .val (.int g5_147), .val (.ref r6_147), .val (.int g7_147), .val (.int (vs p0 p1 p2 p3 p4)), .val (.int (ve p0 p1 p2 p3 p4)), .val (.int g10_147)] [])) ?_ (fun t q => XS.icmpNo X.here hx rfl (hb hby at_156) rfl (tlt hc156).2.1 q)
        refine own_st (T' := T) (f' := (mkF m 161 #[.val (.int p0), .val (.int p1), .val (.int p2), .val (.int p3), .val (.int p4), .val (.int g5_147), .val (.ref r6_147), .val (.int g7_147), .val (.int (vs p0 p1 p2 p3 p4)), .val (.int (ve p0 p1 p2 p3 p4)), .val (.int g10_147)] [(.ref r6_147)])) ?_ (fun t q => XS.aload X.here hx rfl (hb hby at_159) rfl rfl q)
        refine own_st (T' := T) (f' := (mkF m 162 #[.val (.int p0), .val (.int p1), .val (.int p2), .val (.int p3), .val (.int p4), .val (.int g5_147), .val (.ref r6_147), .val (.int g7_147), .val (.int (vs p0 p1 p2 p3 p4)), .val (.int (ve p0 p1 p2 p3 p4)), .val (.int g10_147)] [(.int (1 : Int32)), (.ref r6_147)])) ?_ (fun t q => XS.iconst X.here hx rfl (hb hby at_161) q)
        refine own_bald X hx hZ A_r6_147 (j := (1 : Int32)) ⟨by decide, by decide⟩ (hb hby at_162) ?_
        show own_W _ _ _ _ _ _ _ T (mkF m 163 #[.val (.int p0), .val (.int p1), .val (.int p2), .val (.int p3), .val (.int p4), .val (.int g5_147), .val (.ref r6_147), .val (.int g7_147), .val (.int (vs p0 p1 p2 p3 p4)), .val (.int (ve p0 p1 p2 p3 p4)), .val (.int g10_147)] [(.int (F6_147 1))])
        refine own_st (T' := T) (f' := (mkF m 165 #[.val (.int p0), .val (.int p1), .val (.int p2), .val (.int p3), .val (.int p4), .val (.int g5_147), .val (.ref r6_147), .val (.int g7_147), .val (.int (vs p0 p1 p2 p3 p4)), .val (.int (ve p0 p1 p2 p3 p4)), .val (.int g10_147)] [(.int g7_147), (.int (F6_147 1))])) ?_ (fun t q => XS.iload X.here hx rfl (hb hby at_163) rfl q)
        refine own_ite (fun hc165 => ?_) (fun hc165 => ?_)
        · refine own_st (T' := T) (f' := (mkF m 168 #[.val (.int p0), .val (.int p1), .val (.int p2), .val (.int p3), .val (.int p4), .val (.int g5_147), .val (.ref r6_147), .val (.int g7_147), .val (.int (vs p0 p1 p2 p3 p4)), .val (.int (ve p0 p1 p2 p3 p4)), .val (.int g10_147)] [])) ?_ (fun t q => XS.icmpNo X.here hx rfl (hb hby at_165) rfl (teq hc165).2 q)
          refine own_st (T' := T) (f' := (mkF m 169 #[.val (.int p0), .val (.int p1), .val (.int p2), .val (.int p3), .val (.int p4), .val (.int g5_147), .val (.ref r6_147), .val (.int g7_147), .val (.int (vs p0 p1 p2 p3 p4)), .val (.int (ve p0 p1 p2 p3 p4)), .val (.int g10_147)] [(.int (1 : Int32))])) ?_ (fun t q => XS.iconst X.here hx rfl (hb hby at_168) q)
          refine own_st (T' := T) (f' := (mkF m 171 #[.val (.int p0), .val (.int p1), .val (.int p2), .val (.int p3), .val (.int p4), .val (.int g5_147), .val (.ref r6_147), .val (.int g7_147), .val (.int (vs p0 p1 p2 p3 p4)), .val (.int (ve p0 p1 p2 p3 p4)), .val (.int (1 : Int32))] [])) ?_ (fun t q => XS.istore X.here hx rfl (hb hby at_169) rfl (l' := #[.val (.int p0), .val (.int p1), .val (.int p2), .val (.int p3), .val (.int p4), .val (.int g5_147), .val (.ref r6_147), .val (.int g7_147), .val (.int (vs p0 p1 p2 p3 p4)), .val (.int (ve p0 p1 p2 p3 p4)), .val (.int (1 : Int32))]) rfl q)
          exact B171 T _ g5_147 r6_147 g7_147 (1 : Int32) F6_147 X N zs G_r6_147 A_r6_147
        · refine own_st (T' := T) (f' := (mkF m 171 #[.val (.int p0), .val (.int p1), .val (.int p2), .val (.int p3), .val (.int p4), .val (.int g5_147), .val (.ref r6_147), .val (.int g7_147), .val (.int (vs p0 p1 p2 p3 p4)), .val (.int (ve p0 p1 p2 p3 p4)), .val (.int g10_147)] [])) ?_ (fun t q => XS.icmpYes X.here hx rfl (pc0 := 165) (pc' := 171) rfl (hb hby at_165) rfl (feq hc165).2 (by decide) (by decide) q)
          exact B171 T _ g5_147 r6_147 g7_147 g10_147 F6_147 X N zs G_r6_147 A_r6_147
      · refine own_st (T' := T) (f' := (mkF m 171 #[.val (.int p0), .val (.int p1), .val (.int p2), .val (.int p3), .val (.int p4), .val (.int g5_147), .val (.ref r6_147), .val (.int g7_147), .val (.int (vs p0 p1 p2 p3 p4)), .val (.int (ve p0 p1 p2 p3 p4)), .val (.int g10_147)] [])) ?_ (fun t q => XS.icmpYes X.here hx rfl (pc0 := 156) (pc' := 171) rfl (hb hby at_156) rfl (flt hc156).2.1 (by decide) (by decide) q)
        exact B171 T _ g5_147 r6_147 g7_147 g10_147 F6_147 X N zs G_r6_147 A_r6_147
  have B123 : ∀ (T : State) (locs : List Loc) (g5_123 : Int32) (r6_123 : Addr) (g7_123 : Int32) (g10_123 : Int32) (F6_123 : Nat → Int32) (X : Stand p l e room_1 s m #[(.int p0), (.int p1), (.int p2), (.int p3), (.int p4)] below meth c T locs 1 4) (N : Fr n0 locs) (zs : n0 ≤ T.heap.size) (G_r6_123 : n0 ≤ r6_123) (A_r6_123 : own_A Z T.heap r6_123 .byte 4 F6_123), own_W p e below s 1 4 (own_GI n0 (fun _ => True) (f0_123 p0 p1 p2 p3 p4 g5_123 g7_123 g10_123 F6_123)) T (mkF m 123 #[.val (.int p0), .val (.int p1), .val (.int p2), .val (.int p3), .val (.int p4), .val (.int g5_123), .val (.ref r6_123), .val (.int g7_123), .val (.int (vs p0 p1 p2 p3 p4)), .val (.int (ve p0 p1 p2 p3 p4)), .val (.int g10_123)] []) := by
    intro T locs g5_123 r6_123 g7_123 g10_123 F6_123 X N zs G_r6_123 A_r6_123
    unfold f0_123
    refine own_st (T' := T) (f' := (mkF m 124 #[.val (.int p0), .val (.int p1), .val (.int p2), .val (.int p3), .val (.int p4), .val (.int g5_123), .val (.ref r6_123), .val (.int g7_123), .val (.int (vs p0 p1 p2 p3 p4)), .val (.int (ve p0 p1 p2 p3 p4)), .val (.int g10_123)] [(.int (2 : Int32))])) ?_ (fun t q => XS.iconst X.here hx rfl (hb hby at_123) q)
    refine own_st (T' := T) (f' := (mkF m 126 #[.val (.int p0), .val (.int p1), .val (.int p2), .val (.int p3), .val (.int p4), .val (.int g5_123), .val (.ref r6_123), .val (.int g7_123), .val (.int (vs p0 p1 p2 p3 p4)), .val (.int (ve p0 p1 p2 p3 p4)), .val (.int g10_123)] [(.int (vs p0 p1 p2 p3 p4)), (.int (2 : Int32))])) ?_ (fun t q => XS.iload X.here hx rfl (hb hby at_124) rfl q)
    refine own_ite (fun hc126 => ?_) (fun hc126 => ?_)
    · refine own_st (T' := T) (f' := (mkF m 147 #[.val (.int p0), .val (.int p1), .val (.int p2), .val (.int p3), .val (.int p4), .val (.int g5_123), .val (.ref r6_123), .val (.int g7_123), .val (.int (vs p0 p1 p2 p3 p4)), .val (.int (ve p0 p1 p2 p3 p4)), .val (.int g10_123)] [])) ?_ (fun t q => XS.icmpYes X.here hx rfl (pc0 := 126) (pc' := 147) rfl (hb hby at_126) rfl (tlt hc126).1 (by decide) (by decide) q)
      exact B147 T _ g5_123 r6_123 g7_123 g10_123 F6_123 X N zs G_r6_123 A_r6_123
    · refine own_st (T' := T) (f' := (mkF m 129 #[.val (.int p0), .val (.int p1), .val (.int p2), .val (.int p3), .val (.int p4), .val (.int g5_123), .val (.ref r6_123), .val (.int g7_123), .val (.int (vs p0 p1 p2 p3 p4)), .val (.int (ve p0 p1 p2 p3 p4)), .val (.int g10_123)] [])) ?_ (fun t q => XS.icmpNo X.here hx rfl (hb hby at_126) rfl (flt hc126).1 q)
      refine own_st (T' := T) (f' := (mkF m 130 #[.val (.int p0), .val (.int p1), .val (.int p2), .val (.int p3), .val (.int p4), .val (.int g5_123), .val (.ref r6_123), .val (.int g7_123), .val (.int (vs p0 p1 p2 p3 p4)), .val (.int (ve p0 p1 p2 p3 p4)), .val (.int g10_123)] [(.int (2 : Int32))])) ?_ (fun t q => XS.iconst X.here hx rfl (hb hby at_129) q)
      refine own_st (T' := T) (f' := (mkF m 132 #[.val (.int p0), .val (.int p1), .val (.int p2), .val (.int p3), .val (.int p4), .val (.int g5_123), .val (.ref r6_123), .val (.int g7_123), .val (.int (vs p0 p1 p2 p3 p4)), .val (.int (ve p0 p1 p2 p3 p4)), .val (.int g10_123)] [(.int (ve p0 p1 p2 p3 p4)), (.int (2 : Int32))])) ?_ (fun t q => XS.iload X.here hx rfl (hb hby at_130) rfl q)
      refine own_ite (fun hc132 => ?_) (fun hc132 => ?_)
      · refine own_st (T' := T) (f' := (mkF m 135 #[.val (.int p0), .val (.int p1), .val (.int p2), .val (.int p3), .val (.int p4), .val (.int g5_123), .val (.ref r6_123), .val (.int g7_123), .val (.int (vs p0 p1 p2 p3 p4)), .val (.int (ve p0 p1 p2 p3 p4)), .val (.int g10_123)] [])) ?_ (fun t q => XS.icmpNo X.here hx rfl (hb hby at_132) rfl (tlt hc132).2.1 q)
        refine own_st (T' := T) (f' := (mkF m 137 #[.val (.int p0), .val (.int p1), .val (.int p2), .val (.int p3), .val (.int p4), .val (.int g5_123), .val (.ref r6_123), .val (.int g7_123), .val (.int (vs p0 p1 p2 p3 p4)), .val (.int (ve p0 p1 p2 p3 p4)), .val (.int g10_123)] [(.ref r6_123)])) ?_ (fun t q => XS.aload X.here hx rfl (hb hby at_135) rfl rfl q)
        refine own_st (T' := T) (f' := (mkF m 138 #[.val (.int p0), .val (.int p1), .val (.int p2), .val (.int p3), .val (.int p4), .val (.int g5_123), .val (.ref r6_123), .val (.int g7_123), .val (.int (vs p0 p1 p2 p3 p4)), .val (.int (ve p0 p1 p2 p3 p4)), .val (.int g10_123)] [(.int (2 : Int32)), (.ref r6_123)])) ?_ (fun t q => XS.iconst X.here hx rfl (hb hby at_137) q)
        refine own_bald X hx hZ A_r6_123 (j := (2 : Int32)) ⟨by decide, by decide⟩ (hb hby at_138) ?_
        show own_W _ _ _ _ _ _ _ T (mkF m 139 #[.val (.int p0), .val (.int p1), .val (.int p2), .val (.int p3), .val (.int p4), .val (.int g5_123), .val (.ref r6_123), .val (.int g7_123), .val (.int (vs p0 p1 p2 p3 p4)), .val (.int (ve p0 p1 p2 p3 p4)), .val (.int g10_123)] [(.int (F6_123 2))])
        refine own_st (T' := T) (f' := (mkF m 141 #[.val (.int p0), .val (.int p1), .val (.int p2), .val (.int p3), .val (.int p4), .val (.int g5_123), .val (.ref r6_123), .val (.int g7_123), .val (.int (vs p0 p1 p2 p3 p4)), .val (.int (ve p0 p1 p2 p3 p4)), .val (.int g10_123)] [(.int g7_123), (.int (F6_123 2))])) ?_ (fun t q => XS.iload X.here hx rfl (hb hby at_139) rfl q)
        refine own_ite (fun hc141 => ?_) (fun hc141 => ?_)
        · refine own_st (T' := T) (f' := (mkF m 144 #[.val (.int p0), .val (.int p1), .val (.int p2), .val (.int p3), .val (.int p4), .val (.int g5_123), .val (.ref r6_123), .val (.int g7_123), .val (.int (vs p0 p1 p2 p3 p4)), .val (.int (ve p0 p1 p2 p3 p4)), .val (.int g10_123)] [])) ?_ (fun t q => XS.icmpNo X.here hx rfl (hb hby at_141) rfl (teq hc141).2 q)
          refine own_st (T' := T) (f' := (mkF m 145 #[.val (.int p0), .val (.int p1), .val (.int p2), .val (.int p3), .val (.int p4), .val (.int g5_123), .val (.ref r6_123), .val (.int g7_123), .val (.int (vs p0 p1 p2 p3 p4)), .val (.int (ve p0 p1 p2 p3 p4)), .val (.int g10_123)] [(.int (2 : Int32))])) ?_ (fun t q => XS.iconst X.here hx rfl (hb hby at_144) q)
          refine own_st (T' := T) (f' := (mkF m 147 #[.val (.int p0), .val (.int p1), .val (.int p2), .val (.int p3), .val (.int p4), .val (.int g5_123), .val (.ref r6_123), .val (.int g7_123), .val (.int (vs p0 p1 p2 p3 p4)), .val (.int (ve p0 p1 p2 p3 p4)), .val (.int (2 : Int32))] [])) ?_ (fun t q => XS.istore X.here hx rfl (hb hby at_145) rfl (l' := #[.val (.int p0), .val (.int p1), .val (.int p2), .val (.int p3), .val (.int p4), .val (.int g5_123), .val (.ref r6_123), .val (.int g7_123), .val (.int (vs p0 p1 p2 p3 p4)), .val (.int (ve p0 p1 p2 p3 p4)), .val (.int (2 : Int32))]) rfl q)
          exact B147 T _ g5_123 r6_123 g7_123 (2 : Int32) F6_123 X N zs G_r6_123 A_r6_123
        · refine own_st (T' := T) (f' := (mkF m 147 #[.val (.int p0), .val (.int p1), .val (.int p2), .val (.int p3), .val (.int p4), .val (.int g5_123), .val (.ref r6_123), .val (.int g7_123), .val (.int (vs p0 p1 p2 p3 p4)), .val (.int (ve p0 p1 p2 p3 p4)), .val (.int g10_123)] [])) ?_ (fun t q => XS.icmpYes X.here hx rfl (pc0 := 141) (pc' := 147) rfl (hb hby at_141) rfl (feq hc141).2 (by decide) (by decide) q)
          exact B147 T _ g5_123 r6_123 g7_123 g10_123 F6_123 X N zs G_r6_123 A_r6_123
      · refine own_st (T' := T) (f' := (mkF m 147 #[.val (.int p0), .val (.int p1), .val (.int p2), .val (.int p3), .val (.int p4), .val (.int g5_123), .val (.ref r6_123), .val (.int g7_123), .val (.int (vs p0 p1 p2 p3 p4)), .val (.int (ve p0 p1 p2 p3 p4)), .val (.int g10_123)] [])) ?_ (fun t q => XS.icmpYes X.here hx rfl (pc0 := 132) (pc' := 147) rfl (hb hby at_132) rfl (flt hc132).2.1 (by decide) (by decide) q)
        exact B147 T _ g5_123 r6_123 g7_123 g10_123 F6_123 X N zs G_r6_123 A_r6_123
  have B14 : ∀ (T : State) (locs : List Loc) (g100_14 : Int32) (X : Stand p l e room_1 s m #[(.int p0), (.int p1), (.int p2), (.int p3), (.int p4)] below meth c T locs 0 0) (N : Fr n0 locs) (zs : n0 ≤ T.heap.size), own_W p e below s 1 4 (own_GI n0 (fun _ => True) (f0_14 p0 p1 p2 p3 p4 g100_14)) T (mkF m 14 #[.val (.int p0), .val (.int p1), .val (.int p2), .val (.int p3), .val (.int p4), .unset, .unset, .unset, .unset, .unset, .unset] [(.int g100_14)]) := by
    intro T locs g100_14 X N zs
    unfold f0_14
    refine own_st (T' := T) (f' := (mkF m 16 #[.val (.int p0), .val (.int p1), .val (.int p2), .val (.int p3), .val (.int p4), .val (.int g100_14), .unset, .unset, .unset, .unset, .unset] [])) ?_ (fun t q => XS.istore X.here hx rfl (hb hby at_14) rfl (l' := #[.val (.int p0), .val (.int p1), .val (.int p2), .val (.int p3), .val (.int p4), .val (.int g100_14), .unset, .unset, .unset, .unset, .unset]) rfl q)
    refine own_st (T' := T) (f' := (mkF m 17 #[.val (.int p0), .val (.int p1), .val (.int p2), .val (.int p3), .val (.int p4), .val (.int g100_14), .unset, .unset, .unset, .unset, .unset] [(.int (4 : Int32))])) ?_ (fun t q => XS.iconst X.here hx rfl (hb hby at_16) q)
    refine own_newB X hx hZ (hw _ (List.mem_of_getElem? (i := 0) rfl)) (z := (4 : Int32)) (by decide) (cap := 4) (by decide) (by decide) (by decide) (by decide) (hb hby at_17) (fun T2 b2 X2 ge2 E2 A2_b2 => ?_)
    have G2 : n0 ≤ b2 := Nat.le_trans zs ge2
    have zs2 : n0 ≤ T2.heap.size := Nat.le_trans zs E2.1
    show own_W _ _ _ _ _ _ _ T2 (mkF m 19 #[.val (.int p0), .val (.int p1), .val (.int p2), .val (.int p3), .val (.int p4), .val (.int g100_14), .unset, .unset, .unset, .unset, .unset] [(.ref b2)])
    refine own_st (T' := T2) (f' := (mkF m 21 #[.val (.int p0), .val (.int p1), .val (.int p2), .val (.int p3), .val (.int p4), .val (.int g100_14), .val (.ref b2), .unset, .unset, .unset, .unset] [])) ?_ (fun t q => XS.astore X2.here hx rfl (hb hby at_19) rfl rfl (l' := #[.val (.int p0), .val (.int p1), .val (.int p2), .val (.int p3), .val (.int p4), .val (.int g100_14), .val (.ref b2), .unset, .unset, .unset, .unset]) rfl q)
    refine own_st (T' := T2) (f' := (mkF m 23 #[.val (.int p0), .val (.int p1), .val (.int p2), .val (.int p3), .val (.int p4), .val (.int g100_14), .val (.ref b2), .unset, .unset, .unset, .unset] [(.ref b2)])) ?_ (fun t q => XS.aload X2.here hx rfl (hb hby at_21) rfl rfl q)
    refine own_st (T' := T2) (f' := (mkF m 24 #[.val (.int p0), .val (.int p1), .val (.int p2), .val (.int p3), .val (.int p4), .val (.int g100_14), .val (.ref b2), .unset, .unset, .unset, .unset] [(.int (0 : Int32)), (.ref b2)])) ?_ (fun t q => XS.iconst X2.here hx rfl (hb hby at_23) q)
    refine own_st (T' := T2) (f' := (mkF m 25 #[.val (.int p0), .val (.int p1), .val (.int p2), .val (.int p3), .val (.int p4), .val (.int g100_14), .val (.ref b2), .unset, .unset, .unset, .unset] [(.int p0), (.int (0 : Int32)), (.ref b2)])) ?_ (fun t q => XS.iloadN X2.here hx rfl (hb hby at_24) rfl q)
    refine own_st (T' := T2) (f' := (mkF m 27 #[.val (.int p0), .val (.int p1), .val (.int p2), .val (.int p3), .val (.int p4), .val (.int g100_14), .val (.ref b2), .unset, .unset, .unset, .unset] [(.int g100_14), (.int p0), (.int (0 : Int32)), (.ref b2)])) ?_ (fun t q => XS.iload X2.here hx rfl (hb hby at_25) rfl q)
    refine own_st (T' := T2) (f' := (mkF m 28 #[.val (.int p0), .val (.int p1), .val (.int p2), .val (.int p3), .val (.int p4), .val (.int g100_14), .val (.ref b2), .unset, .unset, .unset, .unset] [(.int (p0 &&& g100_14)), (.int (0 : Int32)), (.ref b2)])) ?_ (fun t q => XS.iand X2.here hx rfl (hb hby at_27) rfl q)
    refine own_st (T' := T2) (f' := (mkF m 29 #[.val (.int p0), .val (.int p1), .val (.int p2), .val (.int p3), .val (.int p4), .val (.int g100_14), .val (.ref b2), .unset, .unset, .unset, .unset] [(.int ((p0 &&& g100_14).toInt8.toInt32)), (.int (0 : Int32)), (.ref b2)])) ?_ (fun t q => XS.i2b X2.here hx rfl (hb hby at_28) rfl q)
    refine own_bast X2 hx hZ A2_b2 (j := (0 : Int32)) (x := ((p0 &&& g100_14).toInt8.toInt32)) ⟨by decide, by decide⟩ (hb hby at_29) N G2 (fun T3 lo3 X3 N3 K3 A3_b2 => ?_)
    have zs3 : n0 ≤ T3.heap.size := Nat.le_trans zs2 K3.1
    show own_W _ _ _ _ _ _ _ T3 (mkF m 30 #[.val (.int p0), .val (.int p1), .val (.int p2), .val (.int p3), .val (.int p4), .val (.int g100_14), .val (.ref b2), .unset, .unset, .unset, .unset] [])
    refine own_st (T' := T3) (f' := (mkF m 32 #[.val (.int p0), .val (.int p1), .val (.int p2), .val (.int p3), .val (.int p4), .val (.int g100_14), .val (.ref b2), .unset, .unset, .unset, .unset] [(.ref b2)])) ?_ (fun t q => XS.aload X3.here hx rfl (hb hby at_30) rfl rfl q)
    refine own_st (T' := T3) (f' := (mkF m 33 #[.val (.int p0), .val (.int p1), .val (.int p2), .val (.int p3), .val (.int p4), .val (.int g100_14), .val (.ref b2), .unset, .unset, .unset, .unset] [(.int (1 : Int32)), (.ref b2)])) ?_ (fun t q => XS.iconst X3.here hx rfl (hb hby at_32) q)
    refine own_st (T' := T3) (f' := (mkF m 34 #[.val (.int p0), .val (.int p1), .val (.int p2), .val (.int p3), .val (.int p4), .val (.int g100_14), .val (.ref b2), .unset, .unset, .unset, .unset] [(.int p0), (.int (1 : Int32)), (.ref b2)])) ?_ (fun t q => XS.iloadN X3.here hx rfl (hb hby at_33) rfl q)
    refine own_st (T' := T3) (f' := (mkF m 36 #[.val (.int p0), .val (.int p1), .val (.int p2), .val (.int p3), .val (.int p4), .val (.int g100_14), .val (.ref b2), .unset, .unset, .unset, .unset] [(.int (8 : Int32)), (.int p0), (.int (1 : Int32)), (.ref b2)])) ?_ (fun t q => XS.bipush X3.here hx rfl (hb hby at_34) q)
    refine own_st (T' := T3) (f' := (mkF m 37 #[.val (.int p0), .val (.int p1), .val (.int p2), .val (.int p3), .val (.int p4), .val (.int g100_14), .val (.ref b2), .unset, .unset, .unset, .unset] [(.int ((p0.toUInt32 >>> ((8 : Int32) &&& 31).toUInt32).toInt32)), (.int (1 : Int32)), (.ref b2)])) ?_ (fun t q => XS.iushr X3.here hx rfl (hb hby at_36) rfl q)
    refine own_st (T' := T3) (f' := (mkF m 39 #[.val (.int p0), .val (.int p1), .val (.int p2), .val (.int p3), .val (.int p4), .val (.int g100_14), .val (.ref b2), .unset, .unset, .unset, .unset] [(.int g100_14), (.int ((p0.toUInt32 >>> ((8 : Int32) &&& 31).toUInt32).toInt32)), (.int (1 : Int32)), (.ref b2)])) ?_ (fun t q => XS.iload X3.here hx rfl (hb hby at_37) rfl q)
    refine own_st (T' := T3) (f' := (mkF m 40 #[.val (.int p0), .val (.int p1), .val (.int p2), .val (.int p3), .val (.int p4), .val (.int g100_14), .val (.ref b2), .unset, .unset, .unset, .unset] [(.int (((p0.toUInt32 >>> ((8 : Int32) &&& 31).toUInt32).toInt32) &&& g100_14)), (.int (1 : Int32)), (.ref b2)])) ?_ (fun t q => XS.iand X3.here hx rfl (hb hby at_39) rfl q)
    refine own_st (T' := T3) (f' := (mkF m 41 #[.val (.int p0), .val (.int p1), .val (.int p2), .val (.int p3), .val (.int p4), .val (.int g100_14), .val (.ref b2), .unset, .unset, .unset, .unset] [(.int ((((p0.toUInt32 >>> ((8 : Int32) &&& 31).toUInt32).toInt32) &&& g100_14).toInt8.toInt32)), (.int (1 : Int32)), (.ref b2)])) ?_ (fun t q => XS.i2b X3.here hx rfl (hb hby at_40) rfl q)
    refine own_bast X3 hx hZ A3_b2 (j := (1 : Int32)) (x := ((((p0.toUInt32 >>> ((8 : Int32) &&& 31).toUInt32).toInt32) &&& g100_14).toInt8.toInt32)) ⟨by decide, by decide⟩ (hb hby at_41) N3 G2 (fun T4 lo4 X4 N4 K4 A4_b2 => ?_)
    have zs4 : n0 ≤ T4.heap.size := Nat.le_trans zs3 K4.1
    show own_W _ _ _ _ _ _ _ T4 (mkF m 42 #[.val (.int p0), .val (.int p1), .val (.int p2), .val (.int p3), .val (.int p4), .val (.int g100_14), .val (.ref b2), .unset, .unset, .unset, .unset] [])
    refine own_st (T' := T4) (f' := (mkF m 44 #[.val (.int p0), .val (.int p1), .val (.int p2), .val (.int p3), .val (.int p4), .val (.int g100_14), .val (.ref b2), .unset, .unset, .unset, .unset] [(.ref b2)])) ?_ (fun t q => XS.aload X4.here hx rfl (hb hby at_42) rfl rfl q)
    refine own_st (T' := T4) (f' := (mkF m 45 #[.val (.int p0), .val (.int p1), .val (.int p2), .val (.int p3), .val (.int p4), .val (.int g100_14), .val (.ref b2), .unset, .unset, .unset, .unset] [(.int (2 : Int32)), (.ref b2)])) ?_ (fun t q => XS.iconst X4.here hx rfl (hb hby at_44) q)
    refine own_st (T' := T4) (f' := (mkF m 46 #[.val (.int p0), .val (.int p1), .val (.int p2), .val (.int p3), .val (.int p4), .val (.int g100_14), .val (.ref b2), .unset, .unset, .unset, .unset] [(.int p0), (.int (2 : Int32)), (.ref b2)])) ?_ (fun t q => XS.iloadN X4.here hx rfl (hb hby at_45) rfl q)
    refine own_st (T' := T4) (f' := (mkF m 48 #[.val (.int p0), .val (.int p1), .val (.int p2), .val (.int p3), .val (.int p4), .val (.int g100_14), .val (.ref b2), .unset, .unset, .unset, .unset] [(.int (16 : Int32)), (.int p0), (.int (2 : Int32)), (.ref b2)])) ?_ (fun t q => XS.bipush X4.here hx rfl (hb hby at_46) q)
    refine own_st (T' := T4) (f' := (mkF m 49 #[.val (.int p0), .val (.int p1), .val (.int p2), .val (.int p3), .val (.int p4), .val (.int g100_14), .val (.ref b2), .unset, .unset, .unset, .unset] [(.int ((p0.toUInt32 >>> ((16 : Int32) &&& 31).toUInt32).toInt32)), (.int (2 : Int32)), (.ref b2)])) ?_ (fun t q => XS.iushr X4.here hx rfl (hb hby at_48) rfl q)
    refine own_st (T' := T4) (f' := (mkF m 51 #[.val (.int p0), .val (.int p1), .val (.int p2), .val (.int p3), .val (.int p4), .val (.int g100_14), .val (.ref b2), .unset, .unset, .unset, .unset] [(.int g100_14), (.int ((p0.toUInt32 >>> ((16 : Int32) &&& 31).toUInt32).toInt32)), (.int (2 : Int32)), (.ref b2)])) ?_ (fun t q => XS.iload X4.here hx rfl (hb hby at_49) rfl q)
    refine own_st (T' := T4) (f' := (mkF m 52 #[.val (.int p0), .val (.int p1), .val (.int p2), .val (.int p3), .val (.int p4), .val (.int g100_14), .val (.ref b2), .unset, .unset, .unset, .unset] [(.int (((p0.toUInt32 >>> ((16 : Int32) &&& 31).toUInt32).toInt32) &&& g100_14)), (.int (2 : Int32)), (.ref b2)])) ?_ (fun t q => XS.iand X4.here hx rfl (hb hby at_51) rfl q)
    refine own_st (T' := T4) (f' := (mkF m 53 #[.val (.int p0), .val (.int p1), .val (.int p2), .val (.int p3), .val (.int p4), .val (.int g100_14), .val (.ref b2), .unset, .unset, .unset, .unset] [(.int ((((p0.toUInt32 >>> ((16 : Int32) &&& 31).toUInt32).toInt32) &&& g100_14).toInt8.toInt32)), (.int (2 : Int32)), (.ref b2)])) ?_ (fun t q => XS.i2b X4.here hx rfl (hb hby at_52) rfl q)
    refine own_bast X4 hx hZ A4_b2 (j := (2 : Int32)) (x := ((((p0.toUInt32 >>> ((16 : Int32) &&& 31).toUInt32).toInt32) &&& g100_14).toInt8.toInt32)) ⟨by decide, by decide⟩ (hb hby at_53) N4 G2 (fun T5 lo5 X5 N5 K5 A5_b2 => ?_)
    have zs5 : n0 ≤ T5.heap.size := Nat.le_trans zs4 K5.1
    show own_W _ _ _ _ _ _ _ T5 (mkF m 54 #[.val (.int p0), .val (.int p1), .val (.int p2), .val (.int p3), .val (.int p4), .val (.int g100_14), .val (.ref b2), .unset, .unset, .unset, .unset] [])
    refine own_st (T' := T5) (f' := (mkF m 56 #[.val (.int p0), .val (.int p1), .val (.int p2), .val (.int p3), .val (.int p4), .val (.int g100_14), .val (.ref b2), .unset, .unset, .unset, .unset] [(.ref b2)])) ?_ (fun t q => XS.aload X5.here hx rfl (hb hby at_54) rfl rfl q)
    refine own_st (T' := T5) (f' := (mkF m 57 #[.val (.int p0), .val (.int p1), .val (.int p2), .val (.int p3), .val (.int p4), .val (.int g100_14), .val (.ref b2), .unset, .unset, .unset, .unset] [(.int (3 : Int32)), (.ref b2)])) ?_ (fun t q => XS.iconst X5.here hx rfl (hb hby at_56) q)
    refine own_st (T' := T5) (f' := (mkF m 58 #[.val (.int p0), .val (.int p1), .val (.int p2), .val (.int p3), .val (.int p4), .val (.int g100_14), .val (.ref b2), .unset, .unset, .unset, .unset] [(.int p0), (.int (3 : Int32)), (.ref b2)])) ?_ (fun t q => XS.iloadN X5.here hx rfl (hb hby at_57) rfl q)
    refine own_st (T' := T5) (f' := (mkF m 60 #[.val (.int p0), .val (.int p1), .val (.int p2), .val (.int p3), .val (.int p4), .val (.int g100_14), .val (.ref b2), .unset, .unset, .unset, .unset] [(.int (24 : Int32)), (.int p0), (.int (3 : Int32)), (.ref b2)])) ?_ (fun t q => XS.bipush X5.here hx rfl (hb hby at_58) q)
    refine own_st (T' := T5) (f' := (mkF m 61 #[.val (.int p0), .val (.int p1), .val (.int p2), .val (.int p3), .val (.int p4), .val (.int g100_14), .val (.ref b2), .unset, .unset, .unset, .unset] [(.int ((p0.toUInt32 >>> ((24 : Int32) &&& 31).toUInt32).toInt32)), (.int (3 : Int32)), (.ref b2)])) ?_ (fun t q => XS.iushr X5.here hx rfl (hb hby at_60) rfl q)
    refine own_st (T' := T5) (f' := (mkF m 63 #[.val (.int p0), .val (.int p1), .val (.int p2), .val (.int p3), .val (.int p4), .val (.int g100_14), .val (.ref b2), .unset, .unset, .unset, .unset] [(.int g100_14), (.int ((p0.toUInt32 >>> ((24 : Int32) &&& 31).toUInt32).toInt32)), (.int (3 : Int32)), (.ref b2)])) ?_ (fun t q => XS.iload X5.here hx rfl (hb hby at_61) rfl q)
    refine own_st (T' := T5) (f' := (mkF m 64 #[.val (.int p0), .val (.int p1), .val (.int p2), .val (.int p3), .val (.int p4), .val (.int g100_14), .val (.ref b2), .unset, .unset, .unset, .unset] [(.int (((p0.toUInt32 >>> ((24 : Int32) &&& 31).toUInt32).toInt32) &&& g100_14)), (.int (3 : Int32)), (.ref b2)])) ?_ (fun t q => XS.iand X5.here hx rfl (hb hby at_63) rfl q)
    refine own_st (T' := T5) (f' := (mkF m 65 #[.val (.int p0), .val (.int p1), .val (.int p2), .val (.int p3), .val (.int p4), .val (.int g100_14), .val (.ref b2), .unset, .unset, .unset, .unset] [(.int ((((p0.toUInt32 >>> ((24 : Int32) &&& 31).toUInt32).toInt32) &&& g100_14).toInt8.toInt32)), (.int (3 : Int32)), (.ref b2)])) ?_ (fun t q => XS.i2b X5.here hx rfl (hb hby at_64) rfl q)
    refine own_bast X5 hx hZ A5_b2 (j := (3 : Int32)) (x := ((((p0.toUInt32 >>> ((24 : Int32) &&& 31).toUInt32).toInt32) &&& g100_14).toInt8.toInt32)) ⟨by decide, by decide⟩ (hb hby at_65) N5 G2 (fun T6 lo6 X6 N6 K6 A6_b2 => ?_)
    have zs6 : n0 ≤ T6.heap.size := Nat.le_trans zs5 K6.1
    show own_W _ _ _ _ _ _ _ T6 (mkF m 66 #[.val (.int p0), .val (.int p1), .val (.int p2), .val (.int p3), .val (.int p4), .val (.int g100_14), .val (.ref b2), .unset, .unset, .unset, .unset] [])
    refine own_st (T' := T6) (f' := (mkF m 67 #[.val (.int p0), .val (.int p1), .val (.int p2), .val (.int p3), .val (.int p4), .val (.int g100_14), .val (.ref b2), .unset, .unset, .unset, .unset] [(.int p1)])) ?_ (fun t q => XS.iloadN X6.here hx rfl (hb hby at_66) rfl q)
    refine own_st (T' := T6) (f' := (mkF m 69 #[.val (.int p0), .val (.int p1), .val (.int p2), .val (.int p3), .val (.int p4), .val (.int g100_14), .val (.ref b2), .unset, .unset, .unset, .unset] [(.int g100_14), (.int p1)])) ?_ (fun t q => XS.iload X6.here hx rfl (hb hby at_67) rfl q)
    refine own_st (T' := T6) (f' := (mkF m 70 #[.val (.int p0), .val (.int p1), .val (.int p2), .val (.int p3), .val (.int p4), .val (.int g100_14), .val (.ref b2), .unset, .unset, .unset, .unset] [(.int (p1 &&& g100_14))])) ?_ (fun t q => XS.iand X6.here hx rfl (hb hby at_69) rfl q)
    refine own_st (T' := T6) (f' := (mkF m 71 #[.val (.int p0), .val (.int p1), .val (.int p2), .val (.int p3), .val (.int p4), .val (.int g100_14), .val (.ref b2), .unset, .unset, .unset, .unset] [(.int ((p1 &&& g100_14).toInt8.toInt32))])) ?_ (fun t q => XS.i2b X6.here hx rfl (hb hby at_70) rfl q)
    refine own_st (T' := T6) (f' := (mkF m 73 #[.val (.int p0), .val (.int p1), .val (.int p2), .val (.int p3), .val (.int p4), .val (.int g100_14), .val (.ref b2), .val (.int (vb p0 p1 p2 p3 p4 g100_14)), .unset, .unset, .unset] [])) ?_ (fun t q => XS.istore X6.here hx rfl (hb hby at_71) rfl (l' := #[.val (.int p0), .val (.int p1), .val (.int p2), .val (.int p3), .val (.int p4), .val (.int g100_14), .val (.ref b2), .val (.int (vb p0 p1 p2 p3 p4 g100_14)), .unset, .unset, .unset]) rfl q)
    refine own_st (T' := T6) (f' := (mkF m 74 #[.val (.int p0), .val (.int p1), .val (.int p2), .val (.int p3), .val (.int p4), .val (.int g100_14), .val (.ref b2), .val (.int (vb p0 p1 p2 p3 p4 g100_14)), .unset, .unset, .unset] [(.int p2)])) ?_ (fun t q => XS.iloadN X6.here hx rfl (hb hby at_73) rfl q)
    refine own_st (T' := T6) (f' := (mkF m 76 #[.val (.int p0), .val (.int p1), .val (.int p2), .val (.int p3), .val (.int p4), .val (.int g100_14), .val (.ref b2), .val (.int (vb p0 p1 p2 p3 p4 g100_14)), .unset, .unset, .unset] [(.int (2147483647 : Int32)), (.int p2)])) ?_ (fun t q => X6.ldcInt hx hown (mvT hZ (hw _ (List.mem_of_getElem? (i := 1) rfl))) (g := (mkF m 74 #[.val (.int p0), .val (.int p1), .val (.int p2), .val (.int p3), .val (.int p4), .val (.int g100_14), .val (.ref b2), .val (.int (vb p0 p1 p2 p3 p4 g100_14)), .unset, .unset, .unset] [(.int p2)])) rfl (hb hby at_74) _ q)
    refine own_st (T' := T6) (f' := (mkF m 77 #[.val (.int p0), .val (.int p1), .val (.int p2), .val (.int p3), .val (.int p4), .val (.int g100_14), .val (.ref b2), .val (.int (vb p0 p1 p2 p3 p4 g100_14)), .unset, .unset, .unset] [(.int (p2 &&& (2147483647 : Int32)))])) ?_ (fun t q => XS.iand X6.here hx rfl (hb hby at_76) rfl q)
    refine own_st (T' := T6) (f' := (mkF m 78 #[.val (.int p0), .val (.int p1), .val (.int p2), .val (.int p3), .val (.int p4), .val (.int g100_14), .val (.ref b2), .val (.int (vb p0 p1 p2 p3 p4 g100_14)), .unset, .unset, .unset] [(.int (5 : Int32)), (.int (p2 &&& (2147483647 : Int32)))])) ?_ (fun t q => XS.iconst X6.here hx rfl (hb hby at_77) q)
    refine own_st (T' := T6) (f' := (mkF m 79 #[.val (.int p0), .val (.int p1), .val (.int p2), .val (.int p3), .val (.int p4), .val (.int g100_14), .val (.ref b2), .val (.int (vb p0 p1 p2 p3 p4 g100_14)), .unset, .unset, .unset] [(.int ((p2 &&& (2147483647 : Int32)) - ((p2 &&& (2147483647 : Int32)) / (5 : Int32)) * (5 : Int32)))])) ?_ (fun t q => XS.irem X6.here hx rfl (hb hby at_78) rfl (by decide) q)
    refine own_st (T' := T6) (f' := (mkF m 81 #[.val (.int p0), .val (.int p1), .val (.int p2), .val (.int p3), .val (.int p4), .val (.int g100_14), .val (.ref b2), .val (.int (vb p0 p1 p2 p3 p4 g100_14)), .val (.int (vs p0 p1 p2 p3 p4)), .unset, .unset] [])) ?_ (fun t q => XS.istore X6.here hx rfl (hb hby at_79) rfl (l' := #[.val (.int p0), .val (.int p1), .val (.int p2), .val (.int p3), .val (.int p4), .val (.int g100_14), .val (.ref b2), .val (.int (vb p0 p1 p2 p3 p4 g100_14)), .val (.int (vs p0 p1 p2 p3 p4)), .unset, .unset]) rfl q)
    refine own_st (T' := T6) (f' := (mkF m 83 #[.val (.int p0), .val (.int p1), .val (.int p2), .val (.int p3), .val (.int p4), .val (.int g100_14), .val (.ref b2), .val (.int (vb p0 p1 p2 p3 p4 g100_14)), .val (.int (vs p0 p1 p2 p3 p4)), .unset, .unset] [(.int (vs p0 p1 p2 p3 p4))])) ?_ (fun t q => XS.iload X6.here hx rfl (hb hby at_81) rfl q)
    refine own_st (T' := T6) (f' := (mkF m 84 #[.val (.int p0), .val (.int p1), .val (.int p2), .val (.int p3), .val (.int p4), .val (.int g100_14), .val (.ref b2), .val (.int (vb p0 p1 p2 p3 p4 g100_14)), .val (.int (vs p0 p1 p2 p3 p4)), .unset, .unset] [(.int p3), (.int (vs p0 p1 p2 p3 p4))])) ?_ (fun t q => XS.iloadN X6.here hx rfl (hb hby at_83) rfl q)
    refine own_st (T' := T6) (f' := (mkF m 86 #[.val (.int p0), .val (.int p1), .val (.int p2), .val (.int p3), .val (.int p4), .val (.int g100_14), .val (.ref b2), .val (.int (vb p0 p1 p2 p3 p4 g100_14)), .val (.int (vs p0 p1 p2 p3 p4)), .unset, .unset] [(.int (2147483647 : Int32)), (.int p3), (.int (vs p0 p1 p2 p3 p4))])) ?_ (fun t q => X6.ldcInt hx hown (mvT hZ (hw _ (List.mem_of_getElem? (i := 1) rfl))) (g := (mkF m 84 #[.val (.int p0), .val (.int p1), .val (.int p2), .val (.int p3), .val (.int p4), .val (.int g100_14), .val (.ref b2), .val (.int (vb p0 p1 p2 p3 p4 g100_14)), .val (.int (vs p0 p1 p2 p3 p4)), .unset, .unset] [(.int p3), (.int (vs p0 p1 p2 p3 p4))])) rfl (hb hby at_84) _ q)
    refine own_st (T' := T6) (f' := (mkF m 87 #[.val (.int p0), .val (.int p1), .val (.int p2), .val (.int p3), .val (.int p4), .val (.int g100_14), .val (.ref b2), .val (.int (vb p0 p1 p2 p3 p4 g100_14)), .val (.int (vs p0 p1 p2 p3 p4)), .unset, .unset] [(.int (p3 &&& (2147483647 : Int32))), (.int (vs p0 p1 p2 p3 p4))])) ?_ (fun t q => XS.iand X6.here hx rfl (hb hby at_86) rfl q)
    refine own_st (T' := T6) (f' := (mkF m 88 #[.val (.int p0), .val (.int p1), .val (.int p2), .val (.int p3), .val (.int p4), .val (.int g100_14), .val (.ref b2), .val (.int (vb p0 p1 p2 p3 p4 g100_14)), .val (.int (vs p0 p1 p2 p3 p4)), .unset, .unset] [(.int (5 : Int32)), (.int (p3 &&& (2147483647 : Int32))), (.int (vs p0 p1 p2 p3 p4))])) ?_ (fun t q => XS.iconst X6.here hx rfl (hb hby at_87) q)
    refine own_st (T' := T6) (f' := (mkF m 90 #[.val (.int p0), .val (.int p1), .val (.int p2), .val (.int p3), .val (.int p4), .val (.int g100_14), .val (.ref b2), .val (.int (vb p0 p1 p2 p3 p4 g100_14)), .val (.int (vs p0 p1 p2 p3 p4)), .unset, .unset] [(.int (vs p0 p1 p2 p3 p4)), (.int (5 : Int32)), (.int (p3 &&& (2147483647 : Int32))), (.int (vs p0 p1 p2 p3 p4))])) ?_ (fun t q => XS.iload X6.here hx rfl (hb hby at_88) rfl q)
    refine own_st (T' := T6) (f' := (mkF m 91 #[.val (.int p0), .val (.int p1), .val (.int p2), .val (.int p3), .val (.int p4), .val (.int g100_14), .val (.ref b2), .val (.int (vb p0 p1 p2 p3 p4 g100_14)), .val (.int (vs p0 p1 p2 p3 p4)), .unset, .unset] [(.int ((5 : Int32) - (vs p0 p1 p2 p3 p4))), (.int (p3 &&& (2147483647 : Int32))), (.int (vs p0 p1 p2 p3 p4))])) ?_ (fun t q => XS.isub X6.here hx rfl (hb hby at_90) rfl q)
    refine own_st (T' := T6) (f' := (mkF m 92 #[.val (.int p0), .val (.int p1), .val (.int p2), .val (.int p3), .val (.int p4), .val (.int g100_14), .val (.ref b2), .val (.int (vb p0 p1 p2 p3 p4 g100_14)), .val (.int (vs p0 p1 p2 p3 p4)), .unset, .unset] [(.int ((p3 &&& (2147483647 : Int32)) - ((p3 &&& (2147483647 : Int32)) / ((5 : Int32) - (vs p0 p1 p2 p3 p4))) * ((5 : Int32) - (vs p0 p1 p2 p3 p4)))), (.int (vs p0 p1 p2 p3 p4))])) ?_ (fun t q => XS.irem X6.here hx rfl (hb hby at_91) rfl (own_nz p0 p1 p2 p3 p4) q)
    refine own_st (T' := T6) (f' := (mkF m 93 #[.val (.int p0), .val (.int p1), .val (.int p2), .val (.int p3), .val (.int p4), .val (.int g100_14), .val (.ref b2), .val (.int (vb p0 p1 p2 p3 p4 g100_14)), .val (.int (vs p0 p1 p2 p3 p4)), .unset, .unset] [(.int ((vs p0 p1 p2 p3 p4) + ((p3 &&& (2147483647 : Int32)) - ((p3 &&& (2147483647 : Int32)) / ((5 : Int32) - (vs p0 p1 p2 p3 p4))) * ((5 : Int32) - (vs p0 p1 p2 p3 p4)))))])) ?_ (fun t q => XS.iadd X6.here hx rfl (hb hby at_92) rfl q)
    refine own_st (T' := T6) (f' := (mkF m 95 #[.val (.int p0), .val (.int p1), .val (.int p2), .val (.int p3), .val (.int p4), .val (.int g100_14), .val (.ref b2), .val (.int (vb p0 p1 p2 p3 p4 g100_14)), .val (.int (vs p0 p1 p2 p3 p4)), .val (.int (ve p0 p1 p2 p3 p4)), .unset] [])) ?_ (fun t q => XS.istore X6.here hx rfl (hb hby at_93) rfl (l' := #[.val (.int p0), .val (.int p1), .val (.int p2), .val (.int p3), .val (.int p4), .val (.int g100_14), .val (.ref b2), .val (.int (vb p0 p1 p2 p3 p4 g100_14)), .val (.int (vs p0 p1 p2 p3 p4)), .val (.int (ve p0 p1 p2 p3 p4)), .unset]) rfl q)
    refine own_st (T' := T6) (f' := (mkF m 97 #[.val (.int p0), .val (.int p1), .val (.int p2), .val (.int p3), .val (.int p4), .val (.int g100_14), .val (.ref b2), .val (.int (vb p0 p1 p2 p3 p4 g100_14)), .val (.int (vs p0 p1 p2 p3 p4)), .val (.int (ve p0 p1 p2 p3 p4)), .unset] [(.int (ve p0 p1 p2 p3 p4))])) ?_ (fun t q => XS.iload X6.here hx rfl (hb hby at_95) rfl q)
    refine own_st (T' := T6) (f' := (mkF m 99 #[.val (.int p0), .val (.int p1), .val (.int p2), .val (.int p3), .val (.int p4), .val (.int g100_14), .val (.ref b2), .val (.int (vb p0 p1 p2 p3 p4 g100_14)), .val (.int (vs p0 p1 p2 p3 p4)), .val (.int (ve p0 p1 p2 p3 p4)), .val (.int (ve p0 p1 p2 p3 p4))] [])) ?_ (fun t q => XS.istore X6.here hx rfl (hb hby at_97) rfl (l' := #[.val (.int p0), .val (.int p1), .val (.int p2), .val (.int p3), .val (.int p4), .val (.int g100_14), .val (.ref b2), .val (.int (vb p0 p1 p2 p3 p4 g100_14)), .val (.int (vs p0 p1 p2 p3 p4)), .val (.int (ve p0 p1 p2 p3 p4)), .val (.int (ve p0 p1 p2 p3 p4))]) rfl q)
    refine own_st (T' := T6) (f' := (mkF m 100 #[.val (.int p0), .val (.int p1), .val (.int p2), .val (.int p3), .val (.int p4), .val (.int g100_14), .val (.ref b2), .val (.int (vb p0 p1 p2 p3 p4 g100_14)), .val (.int (vs p0 p1 p2 p3 p4)), .val (.int (ve p0 p1 p2 p3 p4)), .val (.int (ve p0 p1 p2 p3 p4))] [(.int (3 : Int32))])) ?_ (fun t q => XS.iconst X6.here hx rfl (hb hby at_99) q)
    refine own_st (T' := T6) (f' := (mkF m 102 #[.val (.int p0), .val (.int p1), .val (.int p2), .val (.int p3), .val (.int p4), .val (.int g100_14), .val (.ref b2), .val (.int (vb p0 p1 p2 p3 p4 g100_14)), .val (.int (vs p0 p1 p2 p3 p4)), .val (.int (ve p0 p1 p2 p3 p4)), .val (.int (ve p0 p1 p2 p3 p4))] [(.int (vs p0 p1 p2 p3 p4)), (.int (3 : Int32))])) ?_ (fun t q => XS.iload X6.here hx rfl (hb hby at_100) rfl q)
    refine own_ite (fun hc102 => ?_) (fun hc102 => ?_)
    · refine own_st (T' := T6) (f' := (mkF m 123 #[.val (.int p0), .val (.int p1), .val (.int p2), .val (.int p3), .val (.int p4), .val (.int g100_14), .val (.ref b2), .val (.int (vb p0 p1 p2 p3 p4 g100_14)), .val (.int (vs p0 p1 p2 p3 p4)), .val (.int (ve p0 p1 p2 p3 p4)), .val (.int (ve p0 p1 p2 p3 p4))] [])) ?_ (fun t q => XS.icmpYes X6.here hx rfl (pc0 := 102) (pc' := 123) rfl (hb hby at_102) rfl (tlt hc102).1 (by decide) (by decide) q)
      exact B123 T6 _ g100_14 b2 (vb p0 p1 p2 p3 p4 g100_14) (ve p0 p1 p2 p3 p4) (vF p0 p1 p2 p3 p4 g100_14) X6 N6 zs6 G2 A6_b2
    · refine own_st (T' := T6) (f' := (mkF m 105 #[.val (.int p0), .val (.int p1), .val (.int p2), .val (.int p3), .val (.int p4), .val (.int g100_14), .val (.ref b2), .val (.int (vb p0 p1 p2 p3 p4 g100_14)), .val (.int (vs p0 p1 p2 p3 p4)), .val (.int (ve p0 p1 p2 p3 p4)), .val (.int (ve p0 p1 p2 p3 p4))] [])) ?_ (fun t q => XS.icmpNo X6.here hx rfl (hb hby at_102) rfl (flt hc102).1 q)
      refine own_st (T' := T6) (f' := (mkF m 106 #[.val (.int p0), .val (.int p1), .val (.int p2), .val (.int p3), .val (.int p4), .val (.int g100_14), .val (.ref b2), .val (.int (vb p0 p1 p2 p3 p4 g100_14)), .val (.int (vs p0 p1 p2 p3 p4)), .val (.int (ve p0 p1 p2 p3 p4)), .val (.int (ve p0 p1 p2 p3 p4))] [(.int (3 : Int32))])) ?_ (fun t q => XS.iconst X6.here hx rfl (hb hby at_105) q)
      refine own_st (T' := T6) (f' := (mkF m 108 #[.val (.int p0), .val (.int p1), .val (.int p2), .val (.int p3), .val (.int p4), .val (.int g100_14), .val (.ref b2), .val (.int (vb p0 p1 p2 p3 p4 g100_14)), .val (.int (vs p0 p1 p2 p3 p4)), .val (.int (ve p0 p1 p2 p3 p4)), .val (.int (ve p0 p1 p2 p3 p4))] [(.int (ve p0 p1 p2 p3 p4)), (.int (3 : Int32))])) ?_ (fun t q => XS.iload X6.here hx rfl (hb hby at_106) rfl q)
      refine own_ite (fun hc108 => ?_) (fun hc108 => ?_)
      · refine own_st (T' := T6) (f' := (mkF m 111 #[.val (.int p0), .val (.int p1), .val (.int p2), .val (.int p3), .val (.int p4), .val (.int g100_14), .val (.ref b2), .val (.int (vb p0 p1 p2 p3 p4 g100_14)), .val (.int (vs p0 p1 p2 p3 p4)), .val (.int (ve p0 p1 p2 p3 p4)), .val (.int (ve p0 p1 p2 p3 p4))] [])) ?_ (fun t q => XS.icmpNo X6.here hx rfl (hb hby at_108) rfl (tlt hc108).2.1 q)
        refine own_st (T' := T6) (f' := (mkF m 113 #[.val (.int p0), .val (.int p1), .val (.int p2), .val (.int p3), .val (.int p4), .val (.int g100_14), .val (.ref b2), .val (.int (vb p0 p1 p2 p3 p4 g100_14)), .val (.int (vs p0 p1 p2 p3 p4)), .val (.int (ve p0 p1 p2 p3 p4)), .val (.int (ve p0 p1 p2 p3 p4))] [(.ref b2)])) ?_ (fun t q => XS.aload X6.here hx rfl (hb hby at_111) rfl rfl q)
        refine own_st (T' := T6) (f' := (mkF m 114 #[.val (.int p0), .val (.int p1), .val (.int p2), .val (.int p3), .val (.int p4), .val (.int g100_14), .val (.ref b2), .val (.int (vb p0 p1 p2 p3 p4 g100_14)), .val (.int (vs p0 p1 p2 p3 p4)), .val (.int (ve p0 p1 p2 p3 p4)), .val (.int (ve p0 p1 p2 p3 p4))] [(.int (3 : Int32)), (.ref b2)])) ?_ (fun t q => XS.iconst X6.here hx rfl (hb hby at_113) q)
        refine own_bald X6 hx hZ A6_b2 (j := (3 : Int32)) ⟨by decide, by decide⟩ (hb hby at_114) ?_
        show own_W _ _ _ _ _ _ _ T6 (mkF m 115 #[.val (.int p0), .val (.int p1), .val (.int p2), .val (.int p3), .val (.int p4), .val (.int g100_14), .val (.ref b2), .val (.int (vb p0 p1 p2 p3 p4 g100_14)), .val (.int (vs p0 p1 p2 p3 p4)), .val (.int (ve p0 p1 p2 p3 p4)), .val (.int (ve p0 p1 p2 p3 p4))] [(.int ((vF p0 p1 p2 p3 p4 g100_14) 3))])
        refine own_st (T' := T6) (f' := (mkF m 117 #[.val (.int p0), .val (.int p1), .val (.int p2), .val (.int p3), .val (.int p4), .val (.int g100_14), .val (.ref b2), .val (.int (vb p0 p1 p2 p3 p4 g100_14)), .val (.int (vs p0 p1 p2 p3 p4)), .val (.int (ve p0 p1 p2 p3 p4)), .val (.int (ve p0 p1 p2 p3 p4))] [(.int (vb p0 p1 p2 p3 p4 g100_14)), (.int ((vF p0 p1 p2 p3 p4 g100_14) 3))])) ?_ (fun t q => XS.iload X6.here hx rfl (hb hby at_115) rfl q)
        refine own_ite (fun hc117 => ?_) (fun hc117 => ?_)
        · refine own_st (T' := T6) (f' := (mkF m 120 #[.val (.int p0), .val (.int p1), .val (.int p2), .val (.int p3), .val (.int p4), .val (.int g100_14), .val (.ref b2), .val (.int (vb p0 p1 p2 p3 p4 g100_14)), .val (.int (vs p0 p1 p2 p3 p4)), .val (.int (ve p0 p1 p2 p3 p4)), .val (.int (ve p0 p1 p2 p3 p4))] [])) ?_ (fun t q => XS.icmpNo X6.here hx rfl (hb hby at_117) rfl (teq hc117).2 q)
          refine own_st (T' := T6) (f' := (mkF m 121 #[.val (.int p0), .val (.int p1), .val (.int p2), .val (.int p3), .val (.int p4), .val (.int g100_14), .val (.ref b2), .val (.int (vb p0 p1 p2 p3 p4 g100_14)), .val (.int (vs p0 p1 p2 p3 p4)), .val (.int (ve p0 p1 p2 p3 p4)), .val (.int (ve p0 p1 p2 p3 p4))] [(.int (3 : Int32))])) ?_ (fun t q => XS.iconst X6.here hx rfl (hb hby at_120) q)
          refine own_st (T' := T6) (f' := (mkF m 123 #[.val (.int p0), .val (.int p1), .val (.int p2), .val (.int p3), .val (.int p4), .val (.int g100_14), .val (.ref b2), .val (.int (vb p0 p1 p2 p3 p4 g100_14)), .val (.int (vs p0 p1 p2 p3 p4)), .val (.int (ve p0 p1 p2 p3 p4)), .val (.int (3 : Int32))] [])) ?_ (fun t q => XS.istore X6.here hx rfl (hb hby at_121) rfl (l' := #[.val (.int p0), .val (.int p1), .val (.int p2), .val (.int p3), .val (.int p4), .val (.int g100_14), .val (.ref b2), .val (.int (vb p0 p1 p2 p3 p4 g100_14)), .val (.int (vs p0 p1 p2 p3 p4)), .val (.int (ve p0 p1 p2 p3 p4)), .val (.int (3 : Int32))]) rfl q)
          exact B123 T6 _ g100_14 b2 (vb p0 p1 p2 p3 p4 g100_14) (3 : Int32) (vF p0 p1 p2 p3 p4 g100_14) X6 N6 zs6 G2 A6_b2
        · refine own_st (T' := T6) (f' := (mkF m 123 #[.val (.int p0), .val (.int p1), .val (.int p2), .val (.int p3), .val (.int p4), .val (.int g100_14), .val (.ref b2), .val (.int (vb p0 p1 p2 p3 p4 g100_14)), .val (.int (vs p0 p1 p2 p3 p4)), .val (.int (ve p0 p1 p2 p3 p4)), .val (.int (ve p0 p1 p2 p3 p4))] [])) ?_ (fun t q => XS.icmpYes X6.here hx rfl (pc0 := 117) (pc' := 123) rfl (hb hby at_117) rfl (feq hc117).2 (by decide) (by decide) q)
          exact B123 T6 _ g100_14 b2 (vb p0 p1 p2 p3 p4 g100_14) (ve p0 p1 p2 p3 p4) (vF p0 p1 p2 p3 p4 g100_14) X6 N6 zs6 G2 A6_b2
      · refine own_st (T' := T6) (f' := (mkF m 123 #[.val (.int p0), .val (.int p1), .val (.int p2), .val (.int p3), .val (.int p4), .val (.int g100_14), .val (.ref b2), .val (.int (vb p0 p1 p2 p3 p4 g100_14)), .val (.int (vs p0 p1 p2 p3 p4)), .val (.int (ve p0 p1 p2 p3 p4)), .val (.int (ve p0 p1 p2 p3 p4))] [])) ?_ (fun t q => XS.icmpYes X6.here hx rfl (pc0 := 108) (pc' := 123) rfl (hb hby at_108) rfl (flt hc108).2.1 (by decide) (by decide) q)
        exact B123 T6 _ g100_14 b2 (vb p0 p1 p2 p3 p4 g100_14) (ve p0 p1 p2 p3 p4) (vF p0 p1 p2 p3 p4 g100_14) X6 N6 zs6 G2 A6_b2
  show own_W p e below s 1 4 (own_GI n0 (fun _ => True) (f0 p0 p1 p2 p3 p4)) s₁ (entryFrame m #[(.int p0), (.int p1), (.int p2), (.int p3), (.int p4)] maxLocals)
  refine own_to (ef_0 m p0 p1 p2 p3 p4) ?_
  unfold f0
  refine own_st (T' := s₁) (f' := (mkF m 2 #[.val (.int p0), .val (.int p1), .val (.int p2), .val (.int p3), .val (.int p4), .unset, .unset, .unset, .unset, .unset, .unset] [(.int p4)])) ?_ (fun t q => XS.iload X0.here hx rfl (hb hby at_0) rfl q)
  refine own_st (T' := s₁) (f' := (mkF m 3 #[.val (.int p0), .val (.int p1), .val (.int p2), .val (.int p3), .val (.int p4), .unset, .unset, .unset, .unset, .unset, .unset] [(.int (1 : Int32)), (.int p4)])) ?_ (fun t q => XS.iconst X0.here hx rfl (hb hby at_2) q)
  refine own_st (T' := s₁) (f' := (mkF m 4 #[.val (.int p0), .val (.int p1), .val (.int p2), .val (.int p3), .val (.int p4), .unset, .unset, .unset, .unset, .unset, .unset] [(.int (p4 &&& (1 : Int32)))])) ?_ (fun t q => XS.iand X0.here hx rfl (hb hby at_3) rfl q)
  refine own_ite (fun hc4 => ?_) (fun hc4 => ?_)
  · refine own_st (T' := s₁) (f' := (mkF m 11 #[.val (.int p0), .val (.int p1), .val (.int p2), .val (.int p3), .val (.int p4), .unset, .unset, .unset, .unset, .unset, .unset] [])) ?_ (fun t q => XS.ifYes X0.here hx rfl (pc0 := 4) (pc' := 11) rfl (hb hby at_4) rfl ((if0 _ _).trans (teq hc4).1) (by decide) (by decide) q)
    refine own_st (T' := s₁) (f' := (mkF m 14 #[.val (.int p0), .val (.int p1), .val (.int p2), .val (.int p3), .val (.int p4), .unset, .unset, .unset, .unset, .unset, .unset] [(.int (255 : Int32))])) ?_ (fun t q => XS.sipush X0.here hx rfl (hb hby at_11) q)
    exact B14 s₁ _ (255 : Int32) X0 N0 zs0
  · refine own_st (T' := s₁) (f' := (mkF m 7 #[.val (.int p0), .val (.int p1), .val (.int p2), .val (.int p3), .val (.int p4), .unset, .unset, .unset, .unset, .unset, .unset] [])) ?_ (fun t q => XS.ifNo X0.here hx rfl (hb hby at_4) rfl ((if0 _ _).trans (feq hc4).1) q)
    refine own_st (T' := s₁) (f' := (mkF m 8 #[.val (.int p0), .val (.int p1), .val (.int p2), .val (.int p3), .val (.int p4), .unset, .unset, .unset, .unset, .unset, .unset] [(.int (1 : Int32))])) ?_ (fun t q => XS.iconst X0.here hx rfl (hb hby at_7) q)
    refine own_st (T' := s₁) (f' := (mkF m 14 #[.val (.int p0), .val (.int p1), .val (.int p2), .val (.int p3), .val (.int p4), .unset, .unset, .unset, .unset, .unset, .unset] [(.int (1 : Int32))])) ?_ (fun t q => XS.goto X0.here hx rfl (pc0 := 8) (pc' := 14) rfl (hb hby at_8) (by decide) (by decide) q)
    exact B14 s₁ _ (1 : Int32) X0 N0 zs0

theorem own_dec (z : Int32) (h : 0 ≤ z.toInt ∧ z.toInt < 5) : z = 0 ∨ z = 1 ∨ z = 2 ∨ z = 3 ∨ z = 4 := by
  simp only [← Int32.toInt_inj, Int32.reduceToInt]; omega
theorem own_fin (p0 p1 p2 p3 p4 g5 b : Int32) (F : Nat → Int32) : (if (3 : Int32) < vs p0 p1 p2 p3 p4 then f0_123 p0 p1 p2 p3 p4 g5 b (ve p0 p1 p2 p3 p4) F else (if (3 : Int32) < ve p0 p1 p2 p3 p4 then (if F 3 = b then f0_123 p0 p1 p2 p3 p4 g5 b 3 F else f0_123 p0 p1 p2 p3 p4 g5 b (ve p0 p1 p2 p3 p4) F) else f0_123 p0 p1 p2 p3 p4 g5 b (ve p0 p1 p2 p3 p4) F)) = 1 := by
  have h1 := own_s p0 p1 p2 p3 p4
  have h2 := own_e p0 p1 p2 p3 p4
  have d1 := own_dec _ h1
  have d2 := own_dec _ (⟨by omega, h2.2⟩ : 0 ≤ (ve p0 p1 p2 p3 p4).toInt ∧ (ve p0 p1 p2 p3 p4).toInt < 5)
  simp only [f0_123, f0_147, f0_171, f0_195]
  generalize vs p0 p1 p2 p3 p4 = z at *
  generalize ve p0 p1 p2 p3 p4 = w at *
  rcases d1 with rfl | rfl | rfl | rfl | rfl <;> rcases d2 with rfl | rfl | rfl | rfl | rfl <;>
    first
    | (exfalso; revert h2; decide)
    | (clear h1 h2; simp [f1, f1_3, show Int32.toNatClampNeg 0 = 0 from rfl, show Int32.toNatClampNeg 1 = 1 from rfl, show Int32.toNatClampNeg 2 = 2 from rfl, show Int32.toNatClampNeg 3 = 3 from rfl]; done)
    | (clear h1 h2; simp [f1, f1_3, show Int32.toNatClampNeg 0 = 0 from rfl, show Int32.toNatClampNeg 1 = 1 from rfl, show Int32.toNatClampNeg 2 = 2 from rfl, show Int32.toNatClampNeg 3 = 3 from rfl]; repeat' split <;> simp_all)
theorem own_law (p0 p1 p2 p3 p4 : Int32) : f0 p0 p1 p2 p3 p4 = 1 := by
  have h : ∀ g, f0_14 p0 p1 p2 p3 p4 g = 1 := fun g => own_fin p0 p1 p2 p3 p4 g _ _
  unfold f0
  rw [h, h, ite_self]
set_option maxRecDepth 65536 in
set_option maxHeartbeats 40000000 in
theorem comes_1 {Post : Tables → Env → Array Value → State → Outcome → State → Prop} (hpost : ∀ tb e args s v u, (limb_1_1.after args s (.returned v) u = true ∧ limb_1_2.after args s (.returned v) u = true ∧ True) → FrameEnd s (.returned v) u (Jvm.fieldLocs frame_1_writes args s ++ Jvm.arrayLocs frame_1_arrays args s ++ Jvm.staticLocs frame_1_statics s) 16 128 → Post tb e args s (.returned v) u) :
    ArmFor flags0 classFile x code maxLocals ret World_1 tables_1 room_1 Calls_1 rest_1 Pre_1 Post := by
  intro l hfl _ _ p e ha hc hk s m args below hf hA hF happ hP
  obtain ⟨hcalls, hrest, hpre⟩ := hP
  obtain ⟨-, -, -, hnamed, -, -, -, hat⟩ := (Spec.applies_iff hf).mp happ
  obtain ⟨hg, hn⟩ := and_e (Cond.before_iff.mp (show (Jvm.Cond.and given_1 narrow_1).before args s = true from hpre))
  obtain ⟨hcnt, g0⟩ := and_e hg
  obtain ⟨t0, g1⟩ := and_e g0
  obtain ⟨t1, g2⟩ := and_e g1
  obtain ⟨t2, g3⟩ := and_e g2
  obtain ⟨t3, g4⟩ := and_e g3
  have t4 := g4
  obtain ⟨w0, w1, w2, w3, w4, rfl⟩ : ∃ w0 w1 w2 w3 w4 : Value, args = #[w0, w1, w2, w3, w4] := by
    have hs : args.size = 5 := by simpa [Cond.value, given_1] using hcnt
    obtain ⟨L⟩ := args
    match L, hs with
    | [w0, w1, w2, w3, w4], _ => exact ⟨w0, w1, w2, w3, w4, rfl⟩
  have hw := fun d (hd : d ∈ tables_1) => atoms_spec (ws := Jvm.Cond.code x code maxLocals ret :: tables_1) hat d (List.mem_cons_of_mem _ hd)
  obtain ⟨i0, ei0⟩ := is_v t0
  obtain rfl : w0 = (.int i0) := Option.some.inj ei0
  obtain ⟨i1, ei1⟩ := is_v t1
  obtain rfl : w1 = (.int i1) := Option.some.inj ei1
  obtain ⟨i2, ei2⟩ := is_v t2
  obtain rfl : w2 = (.int i2) := Option.some.inj ei2
  obtain ⟨i3, ei3⟩ := is_v t3
  obtain rfl : w3 = (.int i3) := Option.some.inj ei3
  obtain ⟨i4, ei4⟩ := is_v t4
  obtain rfl : w4 = (.int i4) := Option.some.inj ei4
  obtain ⟨n, o, h1, h2, h3, v, L, rfl, ⟨hv, N, -⟩, hq⟩ := rm0 l s _ hw tables_1 i0 i1 i2 i3 i4 s.heap s.heap.size (Nat.le_refl _) p e ha hc hk s m _ below hf ((Spec.applies_iff_loose hf).mp happ).1 ⟨rfl, State.Warmed39.refl s, rfl⟩ trivial
  obtain rfl : v = some (.int 1) := by rw [hv, own_law]
  refine ⟨n, _, h1, h2, h3, hpost _ _ _ _ _ _ ⟨Cond.after_iff.mpr rfl, Cond.after_iff.mpr (eq_i res_at (Term.int_eval (1)) rfl), trivial⟩ ⟨hq.1, hq.2.1, (hq.2.2.sift fun y hy => Or.inr (N y hy)).mono (by decide) (by decide)⟩⟩
theorem main_1_1 : Claimed_1_1 := comes_1 fun _ _ _ _ _ _ h hF => ⟨h.1, hF⟩
theorem main_1_2 : Claimed_1_2 := comes_1 fun _ _ _ _ _ _ h hF => ⟨h.2.1, hF⟩
end Jvm.Pilot.@@N@@
namespace Jvm.Pilot.@@N@@
open Jvm Jvm.ClassFile Sem Op Lib Jvm.Free Jvm.Stand Jvm.Pilot.@@N@@.Jvm.D
/-! MADE BY PROGRAM (witnessworld.py) out of the Statement's table words and the real class files: 9 classes; the members and pool entries that the words name. The judged class is class 1, her method 1. -/
namespace start1
open Jvm.ClassFile
def u (s : String) : CpInfo := .utf8 (stringToUtf16 s)
/-- a pool by its gaps: so many unusable entries, then the entry; so many at the end -/
def gap : Nat → List CpInfo → List CpInfo
  | 0, r => r
  | n + 1, r => .unusable :: gap n r
def poolList (es : List (Nat × CpInfo)) (last : Nat) : List CpInfo := es.foldr (fun e r => gap e.1 (e.2 :: r)) (gap last [])
def pool (es : List (Nat × CpInfo)) (last : Nat) : Array CpInfo := ⟨poolList es last⟩
def fileOf (pool : Array CpInfo) (this : Nat) (attrs : Array Attribute := #[]) (ms : Array MethodInfo := #[]) (fl : Nat := 33) (sup : Nat := 0) (ifs : Array Nat := #[]) (fds : Array FieldInfo := #[]) : ClassFile where
  minorVersion := 0
  majorVersion := 65
  constantPool := pool
  accessFlags := fl
  thisClass := this
  superClass := sup
  interfaces := ifs
  fields := fds
  methods := ms
  attributes := attrs
def plain (name : String) (sup : Option ClassId) : Class where
  name := name
  kind := .ordinary
  loader := none
  accessFlags := 33
  super := sup
  interfaces := #[]
  cf := none
  fields := #[]
  methods := #[]
  instanceTypes := #[]
  staticTypes := #[]
  resolved := #[]
  callSites := []
  init := .initialized
  statics := none
  mirror := none

def pool0 : Array CpInfo := pool [(5, u "<init>"), (0, u "()V"), (1, .class_ 10), (1, u "java/lang/Object")] 113

def k0m0 : Method := { name := "<init>", desc := "()V", sig := { parameters := [], returnType := none }, accessFlags := 1, code := none }
/-- java/lang/Object -/
def k0 : Class := { plain "java/lang/Object" none with
  accessFlags := 33
  interfaces := #[]
  cf := some (fileOf pool0 8 #[] #[{ accessFlags := 1, nameIndex := 5, descriptorIndex := 6, attributes := #[] }] 33 0 #[] #[])
  fields := #[]
  methods := #[k0m0]
  instanceTypes := #[]
  staticTypes := #[]
  resolved := Array.replicate 124 none
  statics := none }

def pool1 : Array CpInfo := pool [(2, .class_ 4), (1, u "java/lang/Object"), (0, u "<init>"), (0, u "()V"), (0, .integer 2147483647), (0, .methodref 9 10), (0, .class_ 11), (0, .nameAndType 12 13), (0, u "com/example/cuvette/cuvette/hl7/Er7"), (0, u "indexOf"), (0, u "([BIIB)I"), (0, .class_ 15), (0, u "com/example/cuvette/cuvette/hl7/Er7IndexOfPinLaw"), (2, u "law"), (0, u "(IIIII)Z")] 5

def k1m0 : Method := { name := "<init>", desc := "()V", sig := { parameters := [], returnType := none }, accessFlags := 1, code := none }
def k1c1 : Code := { maxStack := 4, maxLocals := 11, code := code, exceptionTable := #[], attributes := #[] }
def k1m1 : Method := { name := "law", desc := "(IIIII)Z", sig := { parameters := [.int, .int, .int, .int, .int], returnType := some .boolean }, accessFlags := 9, code := some k1c1 }
/-- com/example/cuvette/cuvette/hl7/Er7IndexOfPinLaw -/
def k1 : Class := { plain "com/example/cuvette/cuvette/hl7/Er7IndexOfPinLaw" (some 0) with
  accessFlags := 49
  interfaces := #[]
  cf := some (fileOf pool1 14 #[] #[{ accessFlags := 1, nameIndex := 5, descriptorIndex := 6, attributes := #[] }, { accessFlags := 9, nameIndex := 18, descriptorIndex := 19, attributes := #[] }] 49 2 #[] #[])
  fields := #[]
  methods := #[k1m0, k1m1]
  instanceTypes := #[]
  staticTypes := #[]
  resolved := Array.replicate 25 none
  statics := none }

def pool2 : Array CpInfo := pool [(2, .class_ 4), (1, u "java/lang/Object"), (0, u "<init>"), (0, u "()V"), (0, .class_ 8), (0, u "com/example/cuvette/cuvette/hl7/Er7"), (12, u "CARRIAGE_RETURN"), (0, u "B"), (2, u "LINE_FEED"), (1, u "HEADER"), (0, u "Ljava/lang/String;"), (7, u "indexOf"), (0, u "([BIIB)I")] 6

def k2m0 : Method := { name := "<init>", desc := "()V", sig := { parameters := [], returnType := none }, accessFlags := 2, code := none }
def k2c1 : Code := { maxStack := 2, maxLocals := 5, code := prog_25_method_5_code, exceptionTable := #[], attributes := #[] }
def k2m1 : Method := { name := "indexOf", desc := "([BIIB)I", sig := { parameters := [(.array .byte), .int, .int, .byte], returnType := some .int }, accessFlags := 8, code := some k2c1 }
/-- com/example/cuvette/cuvette/hl7/Er7 -/
def k2 : Class := { plain "com/example/cuvette/cuvette/hl7/Er7" (some 0) with
  accessFlags := 48
  interfaces := #[]
  cf := some (fileOf pool2 7 #[] #[{ accessFlags := 2, nameIndex := 5, descriptorIndex := 6, attributes := #[] }, { accessFlags := 8, nameIndex := 36, descriptorIndex := 37, attributes := #[] }] 48 2 #[] #[{ accessFlags := 24, nameIndex := 21, descriptorIndex := 22, attributes := #[] }, { accessFlags := 24, nameIndex := 25, descriptorIndex := 22, attributes := #[] }, { accessFlags := 24, nameIndex := 27, descriptorIndex := 28, attributes := #[] }])
  fields := #[{ name := "CARRIAGE_RETURN", type := .byte, accessFlags := 24, slot := 0, constantValue := 0 }, { name := "LINE_FEED", type := .byte, accessFlags := 24, slot := 1, constantValue := 0 }, { name := "HEADER", type := (.object "java/lang/String"), accessFlags := 24, slot := 2, constantValue := 0 }]
  methods := #[k2m0, k2m1]
  instanceTypes := #[]
  staticTypes := #[.byte, .byte, (.object "java/lang/String")]
  resolved := Array.replicate 44 none
  statics := none }

def pool3 : Array CpInfo := pool [(1, u "java/lang/Cloneable"), (0, .class_ 1), (0, u "java/lang/Object"), (0, .class_ 3)] 3

/-- java/lang/Cloneable -/
def k3 : Class := { plain "java/lang/Cloneable" (some 0) with
  accessFlags := 1537
  interfaces := #[]
  cf := some (fileOf pool3 2 #[] #[] 1537 4 #[] #[])
  fields := #[]
  methods := #[]
  instanceTypes := #[]
  staticTypes := #[]
  resolved := Array.replicate 8 none
  statics := none }

def pool4 : Array CpInfo := pool [(1, u "java/io/Serializable"), (0, .class_ 1), (0, u "java/lang/Object"), (0, .class_ 3)] 3

/-- java/io/Serializable -/
def k4 : Class := { plain "java/io/Serializable" (some 0) with
  accessFlags := 1537
  interfaces := #[]
  cf := some (fileOf pool4 2 #[] #[] 1537 4 #[] #[])
  fields := #[]
  methods := #[]
  instanceTypes := #[]
  staticTypes := #[]
  resolved := Array.replicate 8 none
  statics := none }

/-- the primitive byte -/
def k5 : Class := { plain "byte" none with kind := .primitive 'B', accessFlags := 0x411 }
/-- [B -/
def k6 : Class := { plain "[B" (some 0) with kind := .array 5 .byte, interfaces := #[3, 4], accessFlags := 1041 }

/-- the primitive int -/
def k7 : Class := { plain "int" none with kind := .primitive 'I', accessFlags := 0x411 }
/-- [I -/
def k8 : Class := { plain "[I" (some 0) with kind := .array 7 .int, interfaces := #[3, 4], accessFlags := 1041 }

def heap : Heap := #[]
def classes : Array Class := #[k0, k1, k2, k3, k4, k5, k6, k7, k8]
def interned : List (Array UInt16 × Addr) := []
def slotsUsed : Nat := 0
def theMethod : MethodId := ⟨1, 1⟩
def args0 : Array Value := #[.int 5, .int 5, .int 5, .int 5, .int 5]
def aboutOver (below : List Frame) : State where
  vm := { classes := classes, interned := interned.toArray }
  heap := heap
  slotsUsed := slotsUsed
  threads := #[{ frames := .invoking theMethod args0 :: below }]
def below0 : List Frame := [.native { method := ⟨0, 0⟩, args := #[] }]
def about1 : State := aboutOver below0
def p0 : Program := .bare "" "" ""
def e0 : Env := launch0.env 0 0 0
theorem w_frames : about1.frames = Frame.invoking theMethod args0 :: below0 := rfl
set_option maxRecDepth 65536 in
theorem w_args : argsFit about1.vm theMethod args0 = true := by decide +kernel
set_option maxRecDepth 65536 in
theorem w_heap : heapFits about1 = true := by decide +kernel
set_option maxRecDepth 65536 in
theorem w_runnable : about1.curStatus? = some .runnable := by decide +kernel
set_option maxRecDepth 65536 in
theorem w_alone : about1.alone = true := by decide +kernel
set_option maxRecDepth 65536 in
theorem w_named : about1.methodNamed? x = some theMethod := by decide +kernel
set_option maxRecDepth 65536 in
theorem w_hears : about1.hears theMethod below0 = true := by decide +kernel
set_option maxRecDepth 65536 in
theorem w_ripe : about1.ripe theMethod args0 below0 = true := by decide +kernel
theorem w_running : about1.status = .running := rfl
set_option maxRecDepth 65536 in
theorem w_room : about1.hasRoom e0.platform room_1 = true :=
  launch0.hasRoom_least _ room_1 (by decide +kernel) (by decide +kernel) (by decide +kernel) (by decide +kernel) (by decide +kernel) (by decide +kernel)
theorem allAtoms_all (ts : List Jvm.Cond) (a : Array Jvm.Value) (st : Jvm.State) : (allAtoms ts).before a st = ts.all (fun c => c.before a st) := by
  induction ts with
  | nil => rfl
  | cons c t ih =>
    show (Jvm.Cond.and c (allAtoms t)).before a st = _
    rw [Jvm.Cond.before_and, ih, List.all_cons]
def words1 : List Jvm.Cond := Jvm.Cond.code x code maxLocals ret :: tables_1
/-- a 'code' word, met by the world's own term for the bytes: nothing is compared byte by byte -/
theorem code_word {y : MethodName} {bytes : ByteArray} {mx : Nat} {rt : Option FieldType} {a : Array Value} {s : State} {m : MethodId} {meth : Method} {c : Code} (h1 : s.methodNamed? y = some m) (h2 : s.vm.method? m = some meth) (h3 : meth.code = some c) (h4 : c.code = bytes)
    (h5 : (c.maxLocals == mx && c.exceptionTable.isEmpty && decide (c.maxStack ≤ mostOperands) && decide (meth.sig.returnType = rt) && !meth.locks && decide (parseMethodDescriptor y.desc = some meth.sig)) = true) : (Jvm.Cond.code y bytes mx rt).before a s = true := by
  simp only [Bool.and_eq_true, beq_iff_eq, Bool.not_eq_true', decide_eq_true_eq] at h5
  obtain ⟨⟨⟨⟨⟨g1, g2⟩, g3⟩, g4⟩, g5⟩, g6⟩ := h5
  simp [Cond.before, Cond.holds, Cond.value, h1, h2, h3, h4, g1, g2, g3, g4, g5, g6]
def isCode : Jvm.Cond → Bool
  | .code _ _ _ _ => true
  | _ => false
theorem all_split {L : List Jvm.Cond} {P : Jvm.Cond → Bool} (h1 : L.all (fun c => isCode c || P c) = true) (h2 : ∀ c ∈ L.filter isCode, P c = true) : L.all P = true := by
  refine List.all_eq_true.mpr fun c hc => ?_
  have h := List.all_eq_true.mp h1 c hc
  rcases Bool.eq_false_or_eq_true (isCode c) with hi | hi
  · exact h2 c (List.mem_filter.mpr ⟨hc, hi⟩)
  · simpa [hi] using h
set_option maxRecDepth 65536 in
theorem w_c0 : (Jvm.Cond.code x code maxLocals ret).before args0 about1 = true := code_word (m := ⟨1, 1⟩) (meth := k1m1) (c := k1c1) (by decide +kernel) rfl rfl rfl (by decide +kernel)
set_option maxRecDepth 65536 in
theorem w_c1 : (Jvm.Cond.code ({ cls := "com/example/cuvette/cuvette/hl7/Er7", name := "indexOf", desc := "([BIIB)I" } : Jvm.MethodName) prog_25_method_5_code (5 : Nat) (Option.some Jvm.ClassFile.FieldType.int)).before args0 about1 = true := code_word (m := ⟨2, 1⟩) (meth := k2m1) (c := k2c1) (by decide +kernel) rfl rfl rfl (by decide +kernel)
def codes1 : List Jvm.Cond := [Jvm.Cond.code x code maxLocals ret, Jvm.Cond.code ({ cls := "com/example/cuvette/cuvette/hl7/Er7", name := "indexOf", desc := "([BIIB)I" } : Jvm.MethodName) prog_25_method_5_code (5 : Nat) (Option.some Jvm.ClassFile.FieldType.int)]
set_option maxRecDepth 65536 in
theorem codes_eq : words1.filter isCode = codes1 := rfl
theorem w_codes : ∀ c ∈ words1.filter isCode, c.before args0 about1 = true := by
  rw [codes_eq]
  intro c hc
  simp only [codes1, List.mem_cons, List.not_mem_nil, or_false] at hc
  rcases hc with rfl | rfl
  · exact w_c0
  · exact w_c1
set_option maxRecDepth 65536 in
theorem w_t1 : words1.all (fun c => isCode c || c.before args0 about1) = true := by decide +kernel
theorem w_tables : (allAtoms (Jvm.Cond.code x code maxLocals ret :: tables_1)).before args0 about1 = true := by
  rw [allAtoms_all]
  show words1.all (fun c => c.before args0 about1) = true
  refine all_split ?_ w_codes
  rw [w_t1]
set_option maxRecDepth 65536 in
theorem w_case : (Jvm.Cond.and given_1 narrow_1).before args0 about1 = true := by decide +kernel
theorem w_applies : (headSpec (Jvm.Cond.code x code maxLocals ret :: tables_1) room_1).applies x e0.platform about1 = true :=
  (Spec.applies_iff w_frames).mpr ⟨w_running, w_runnable, w_alone, w_named, w_hears, w_ripe, w_room, w_tables⟩
theorem atStart : AtStart classFile x code maxLocals ret World_1 tables_1 room_1 Calls_1 rest_1 Pre_1 launch0 p0 e0 about1 theMethod args0 below0 :=
  ⟨lists_1, trivial, launch0.admits_env _ _ _, launch0.least_env, fairChoices_fair.cas, fairChoices_fair.clock, w_frames, w_args, w_heap, w_applies, trivial, trivial, w_case⟩
end start1
theorem witness_1 : WitnessClaimed_1 := ⟨start1.p0, start1.e0, start1.about1, start1.theMethod, start1.args0, start1.below0, start1.atStart⟩
end Jvm.Pilot.@@N@@
