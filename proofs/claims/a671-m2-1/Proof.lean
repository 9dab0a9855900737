import JvmDerived
import JvmDerived.Pilot.@@N@@Statement
import JvmDerived.Pilot.@@N@@Code
set_option linter.unusedVariables false
set_option linter.unusedSimpArgs false
@@BLOCK:NumsL.lean.txt@@
namespace Jvm.Pilot.@@N@@
open Jvm Jvm.ClassFile Sem Op Lib Jvm.Free Jvm.Stand Jvm.LawKit Jvm.RoadKit Bundle Jvm.Pilot.@@N@@.Jvm.D
section OwnKit
variable {p : Program} {l : Launch} {e : Env} {R : Room} {s : State} {m : MethodId} {args : Array Value} {below : List Frame} {meth : Method} {c : Code} {T T' : State} {locs : List Loc} {cells slots : Nat}
/-- from here the body comes to its end and leaves what Q says -/
def own_W (p : Program) (e : Env) (below : List Frame) (s : State) (k n : Nat) (Q : Option Value → Heap → List Loc → Prop) (T : State) (f : JFrame) : Prop :=
  ∃ s₂ o, Steps p.tables e below (T.setTop f) s₂ ∧ s₂.status = .running ∧ Ended s₂ below o ∧ ∃ v L, o = .returned v ∧ Q v s₂.heap L ∧ FrameEnd s o s₂ L k n
theorem own_st {k n : Nat} {Q : Option Value → Heap → List Loc → Prop} {f f' : JFrame} (w : own_W p e below s k n Q T' f') (h : ∀ t, Steps p.tables e below (T'.setTop f') t → Steps p.tables e below (T.setTop f) t) : own_W p e below s k n Q T f := by
  obtain ⟨s₂, o, h1, r⟩ := w
  exact ⟨s₂, o, h _ h1, r⟩
theorem own_to {k n : Nat} {Q : Option Value → Heap → List Loc → Prop} {f f' : JFrame} (q : f = f') (w : own_W p e below s k n Q T f') : own_W p e below s k n Q T f := q ▸ w
theorem own_ite {k n : Nat} {α : Type} {G : α → Option Value → Heap → List Loc → Prop} {f : JFrame} {A : Prop} [Decidable A] {x y : α} (h1 : A → own_W p e below s k n (G x) T f) (h2 : ¬ A → own_W p e below s k n (G y) T f) : own_W p e below s k n (G (if A then x else y)) T f := by
  by_cases q : A
  · rw [if_pos q]; exact h1 q
  · rw [if_neg q]; exact h2 q
/-- an int is returned, nothing old is written, the heap is as P says -/
def own_GI (n0 : Nat) (P : Heap → Prop) (r : Int32) (v : Option Value) (h : Heap) (L : List Loc) : Prop := v = some (.int r) ∧ Fr n0 L ∧ P h
def own_GJ (n0 : Nat) (P : Heap → Prop) (r : Int64) (v : Option Value) (h : Heap) (L : List Loc) : Prop := v = some (.long r) ∧ Fr n0 L ∧ P h
theorem own_retI {k n : Nat} {Q : Option Value → Heap → List Loc → Prop} (X : Stand p l e R s m args below meth c T locs cells slots) (hx : p.tables.exec = Jvm.exec) (hlk : meth.locks = false) (hret : meth.sig.returnType = some .int) {pc : Nat} {Ls : Array Slot} {z : Int32} {rest : List Value} (hd : decode c.code pc = .ok (.ireturn, 1)) (hk : cells ≤ k) (hn : slots ≤ n) (q : Q (some (.int z)) T.heap locs) : own_W p e below s k n Q T (mkF m pc Ls (.int z :: rest)) := by
  obtain ⟨fs, hr, hrun, hended, hW, hsame⟩ := X.leave (v := some (.int z)) (fun h => by rw [hret] at h; cases h) hlk
  exact ⟨_, _, retOut X hx hret rfl (Or.inl ⟨rfl, Or.inl rfl, z, rfl⟩) hd hr, hrun, hended, _, _, rfl, q, ⟨_, rfl⟩, hW, hsame.mono hk hn⟩
theorem own_retN {k n : Nat} {Q : Option Value → Heap → List Loc → Prop} (X : Stand p l e R s m args below meth c T locs cells slots) (hx : p.tables.exec = Jvm.exec) (hlk : meth.locks = false) {t : FieldType} (hret : meth.sig.returnType = some t) (ht : t = .boolean ∨ t = .byte ∨ t = .char ∨ t = .short) {pc : Nat} {Ls : Array Slot} {z : Int32} {rest : List Value} (hd : decode c.code pc = .ok (.ireturn, 1)) (hk : cells ≤ k) (hn : slots ≤ n) (q : Q (some (.int (nar t z))) T.heap locs) : own_W p e below s k n Q T (mkF m pc Ls (.int z :: rest)) := by
  obtain ⟨fs, hr, hrun, hended, hW, hsame⟩ := X.leave (v := some (.int (nar t z))) (fun h => by rw [hret] at h; cases h) hlk
  exact ⟨_, _, retN X hx hret ht hd hr, hrun, hended, _, _, rfl, q, ⟨_, rfl⟩, hW, hsame.mono hk hn⟩
theorem own_retJ {k n : Nat} {Q : Option Value → Heap → List Loc → Prop} (X : Stand p l e R s m args below meth c T locs cells slots) (hx : p.tables.exec = Jvm.exec) (hlk : meth.locks = false) (hret : meth.sig.returnType = some .long) {pc : Nat} {Ls : Array Slot} {z : Int64} {rest : List Value} (hd : decode c.code pc = .ok (.lreturn, 1)) (hk : cells ≤ k) (hn : slots ≤ n) (q : Q (some (.long z)) T.heap locs) : own_W p e below s k n Q T (mkF m pc Ls (.long z :: rest)) := by
  obtain ⟨fs, hr, hrun, hended, hW, hsame⟩ := X.leave (v := some (.long z)) (fun h => by rw [hret] at h; cases h) hlk
  exact ⟨_, _, retOut X hx hret rfl (Or.inr (Or.inl ⟨rfl, rfl, z, rfl⟩)) hd hr, hrun, hended, _, _, rfl, q, ⟨_, rfl⟩, hW, hsame.mono hk hn⟩
theorem own_retA {k n : Nat} {Q : Option Value → Heap → List Loc → Prop} (X : Stand p l e R s m args below meth c T locs cells slots) (hx : p.tables.exec = Jvm.exec) (hlk : meth.locks = false) {t : FieldType} (hret : meth.sig.returnType = some t) (ht : t.isReference = true) {pc : Nat} {Ls : Array Slot} {z : Addr} {rest : List Value} (hn' : narrow t (.ref z) = .ref z) (hd : decode c.code pc = .ok (.areturn, 1)) (hk : cells ≤ k) (hn : slots ≤ n) (q : Q (some (.ref z)) T.heap locs) : own_W p e below s k n Q T (mkF m pc Ls (.ref z :: rest)) := by
  obtain ⟨fs, hr, hrun, hended, hW, hsame⟩ := X.leave (v := some (.ref z)) (fun h => by rw [hret] at h; cases h) hlk
  exact ⟨_, _, retOut X hx hret hn' (Or.inr (Or.inr (Or.inr (Or.inr ⟨rfl, ht, rfl⟩)))) hd hr, hrun, hended, _, _, rfl, q, ⟨_, rfl⟩, hW, hsame.mono hk hn⟩
theorem own_retV {k n : Nat} {Q : Option Value → Heap → List Loc → Prop} (X : Stand p l e R s m args below meth c T locs cells slots) (hx : p.tables.exec = Jvm.exec) (hlk : meth.locks = false) (hret : meth.sig.returnType = none) {pc : Nat} {Ls : Array Slot} (hd : decode c.code pc = .ok (.return_, 1)) (hk : cells ≤ k) (hn : slots ≤ n) (q : Q none T.heap locs) : own_W p e below s k n Q T (mkF m pc Ls []) := by
  obtain ⟨fs, hr, hrun, hended, hW, hsame⟩ := X.leave (v := none) (fun _ => rfl) hlk
  exact ⟨_, _, X.returnOut hx hret hd hr, hrun, hended, _, _, rfl, q, ⟨_, rfl⟩, hW, hsame.mono hk hn⟩
end OwnKit
section OwnNums
theorem own_rem {x y : Int32} (hx : 0 ≤ x.toInt) (hy : 0 < y.toInt) : (x - (x / y) * y).toInt = x.toInt % y.toInt := by
  have hd : (x / y).toInt = x.toInt.tdiv y.toInt := Jvm.Kit.i32_div (by omega)
  rw [Int.tdiv_eq_ediv_of_nonneg hx] at hd
  have hxl := Int32.toInt_lt x
  have h1 : y.toInt * (x.toInt / y.toInt) + x.toInt % y.toInt = x.toInt := Int.mul_ediv_add_emod x.toInt y.toInt
  have h2 := Int.emod_nonneg x.toInt (by omega : y.toInt ≠ 0)
  have h3 := Int.emod_lt_of_pos x.toInt hy
  have h4 : (x / y).toInt * y.toInt = x.toInt - x.toInt % y.toInt := by rw [hd, Int.mul_comm]; omega
  have h6 := Int.mul_nonneg (Int.le_of_lt hy) (Int.ediv_nonneg hx (Int.le_of_lt hy))
  have h5 : x.toInt % y.toInt ≤ x.toInt := by omega
  have hm : ((x / y) * y).toInt = x.toInt - x.toInt % y.toInt := by
    rw [Jvm.Kit.i32_mul (by omega) (by omega), h4]
  rw [Jvm.Kit.i32_sub (by omega) (by omega), hm]; omega
theorem own_and31 (x : Int32) : (x &&& (2147483647 : Int32)).toInt = x.toInt % 2147483648 := Jvm.Kit.i32_mask x 2147483647 (k := 31) (by decide) (by decide)
theorem own_i8 (x : Int32) : -128 ≤ (x.toInt8.toInt32).toInt ∧ (x.toInt8.toInt32).toInt < 128 := by
  rw [Int8.toInt_toInt32]
  have h1 := Int8.le_toInt x.toInt8
  have h2 := Int8.toInt_lt x.toInt8
  omega
end OwnNums
section OwnArr
variable {p : Program} {l : Launch} {e : Env} {R : Room} {s : State} {m : MethodId} {args : Array Value} {below : List Frame} {meth : Method} {c : Code} {T T' : State} {locs : List Loc} {cells slots : Nat} {Z : State} {h h' : Heap} {a b : Addr} {n : Nat} {f : Nat → Int32} {ty : FieldType}
/-- an array of n places whose i-th holds f i -/
def own_A (Z : State) (h : Heap) (a : Addr) (ty : FieldType) (n : Nat) (f : Nat → Int32) : Prop := ∃ c : Cell, Arr Z h a c ty ∧ c.slots.size = n ∧ ∀ i, i < n → c.slots[i]? = some (.int (f i))
def own_up (f : Nat → Int32) (j : Nat) (x : Int32) : Nat → Int32 := fun i => if i = j then x else f i
def own_in (j : Int32) (n : Nat) : Prop := ¬ j < 0 ∧ j.toNatClampNeg < n
theorem own_A.lt (A : own_A Z h a ty n f) : a < h.size := by obtain ⟨c, A, -⟩ := A; exact A.lt
theorem own_A.ext (A : own_A Z h a ty n f) (E : Ext h h') : own_A Z h' a ty n f := by obtain ⟨c, A, r⟩ := A; exact ⟨c, A.ext E, r⟩
theorem own_A.keep {ws : List Addr} (A : own_A Z h a ty n f) (K : Keep h h' ws) (q : a ∉ ws) : own_A Z h' a ty n f := by obtain ⟨c, A, r⟩ := A; exact ⟨c, ⟨K.2.1 a c A.1 q, A.2⟩, r⟩
theorem own_A.eq (A : own_A Z h a ty n f) (q : h' = h) : own_A Z h' a ty n f := q ▸ A
theorem own_A.set {j : Nat} {x : Int32} (A : own_A Z h a ty n f) (W : Wr h h' a j (.int x)) : own_A Z h' a ty n (own_up f j x) := by
  obtain ⟨cl, Ar, S, H⟩ := A
  refine ⟨_, Ar.same W, by rw [sz_set]; exact S, fun i hi => ?_⟩
  show (cl.slots.setIfInBounds j (.int x))[i]? = _
  unfold own_up
  by_cases q : i = j
  · subst q
    rw [if_pos rfl, Array.getElem?_setIfInBounds_self_of_lt (by omega)]
  · rw [if_neg q, Array.getElem?_setIfInBounds_ne (fun z => q z.symm)]; exact H i hi
theorem own_bald {k n' : Nat} {Q : Option Value → Heap → List Loc → Prop} (X : Stand p l e R s m args below meth c T locs cells slots) (hx : p.tables.exec = Jvm.exec) (hZ : Z.Warmed39 s.vm) (A : own_A Z T.heap a .byte n f) {j : Int32} (hj : own_in j n) {pc : Nat} {Ls : Array Slot} {rest : List Value} (hd : decode c.code pc = .ok (.baload, 1)) (w : own_W p e below s k n' Q T (mkF m (pc + 1) Ls (.int (f j.toNatClampNeg) :: rest))) : own_W p e below s k n' Q T (mkF m pc Ls (.int j :: .ref a :: rest)) := by
  obtain ⟨cl, Ar, S, H⟩ := A
  refine own_st w (fun t q => X.baloadBytes hx (j := j) (v := .int (f j.toNatClampNeg)) Ar.1 (State.isArrayOf_alike hZ.alike Ar.2.1) Ar.2.2 (fun u => u.elim hj.1 (fun u => absurd hj.2 (by omega))) (H _ hj.2) (g := mkF m pc Ls (.int j :: .ref a :: rest)) rfl rfl hd _ q)
theorem own_iald {k n' : Nat} {Q : Option Value → Heap → List Loc → Prop} (X : Stand p l e R s m args below meth c T locs cells slots) (hx : p.tables.exec = Jvm.exec) (hZ : Z.Warmed39 s.vm) (A : own_A Z T.heap a .int n f) {j : Int32} (hj : own_in j n) {pc : Nat} {Ls : Array Slot} {rest : List Value} (hd : decode c.code pc = .ok (.iaload, 1)) (w : own_W p e below s k n' Q T (mkF m (pc + 1) Ls (.int (f j.toNatClampNeg) :: rest))) : own_W p e below s k n' Q T (mkF m pc Ls (.int j :: .ref a :: rest)) := by
  obtain ⟨cl, Ar, S, H⟩ := A
  refine own_st w (fun t q => X.iaload hx (j := j) (v := .int (f j.toNatClampNeg)) Ar.1 (State.isArrayOf_alike hZ.alike Ar.2.1) Ar.2.2 (fun u => u.elim hj.1 (fun u => absurd hj.2 (by omega))) (H _ hj.2) (g := mkF m pc Ls (.int j :: .ref a :: rest)) rfl rfl hd _ q)
theorem own_alen {k n' : Nat} {Q : Option Value → Heap → List Loc → Prop} (X : Stand p l e R s m args below meth c T locs cells slots) (hx : p.tables.exec = Jvm.exec) (hZ : Z.Warmed39 s.vm) (A : own_A Z T.heap a ty n f) {pc : Nat} {Ls : Array Slot} {rest : List Value} (hd : decode c.code pc = .ok (.arraylength, 1)) (w : own_W p e below s k n' Q T (mkF m (pc + 1) Ls (.int (Int32.ofNat n) :: rest))) : own_W p e below s k n' Q T (mkF m pc Ls (.ref a :: rest)) := by
  obtain ⟨cl, Ar, S, H⟩ := A
  subst S
  exact own_st w (fun t q => X.arraylength hx (cell := cl) Ar.1 (State.isArrayOf_alike hZ.alike Ar.2.1) (g := mkF m pc Ls (.ref a :: rest)) rfl (rest := rest) rfl hd _ q)
theorem own_bast {k n' : Nat} {Q : Option Value → Heap → List Loc → Prop} (X : Stand p l e R s m args below meth c T locs cells slots) (hx : p.tables.exec = Jvm.exec) (hZ : Z.Warmed39 s.vm) (A : own_A Z T.heap a .byte n f) {j x : Int32} (hj : own_in j n) {pc : Nat} {Ls : Array Slot} {rest : List Value} (hd : decode c.code pc = .ok (.bastore, 1)) {n0 : Nat} (N : Fr n0 locs) (g : n0 ≤ a)
    (w : ∀ (T' : State) (locs' : List Loc), Stand p l e R s m args below meth c T' locs' cells slots → Fr n0 locs' → Keep T.heap T'.heap [a] → own_A Z T'.heap a .byte n (own_up f j.toNatClampNeg (nar .byte x)) → own_W p e below s k n' Q T' (mkF m (pc + 1) Ls rest)) : own_W p e below s k n' Q T (mkF m pc Ls (.int x :: .int j :: .ref a :: rest)) := by
  obtain ⟨cl, Ar, S, H⟩ := A
  obtain ⟨T', h', X', e', W', st⟩ := stB X hx hZ rfl Ar (j := j) (x := x) (fun u => u.elim hj.1 (fun u => absurd hj.2 (by omega))) (g := mkF m pc Ls (.int x :: .int j :: .ref a :: rest)) rfl rfl hd
  subst e'
  exact own_st (w T' _ X' (Fr.snoc X' N g) (Keep.of_wr W') (own_A.set ⟨cl, Ar, S, H⟩ W')) (fun t q => st _ q)
theorem own_iast {k n' : Nat} {Q : Option Value → Heap → List Loc → Prop} (X : Stand p l e R s m args below meth c T locs cells slots) (hx : p.tables.exec = Jvm.exec) (hZ : Z.Warmed39 s.vm) (A : own_A Z T.heap a .int n f) {j x : Int32} (hj : own_in j n) {pc : Nat} {Ls : Array Slot} {rest : List Value} (hd : decode c.code pc = .ok (.iastore, 1)) {n0 : Nat} (N : Fr n0 locs) (g : n0 ≤ a)
    (w : ∀ (T' : State) (locs' : List Loc), Stand p l e R s m args below meth c T' locs' cells slots → Fr n0 locs' → Keep T.heap T'.heap [a] → own_A Z T'.heap a .int n (own_up f j.toNatClampNeg x) → own_W p e below s k n' Q T' (mkF m (pc + 1) Ls rest)) : own_W p e below s k n' Q T (mkF m pc Ls (.int x :: .int j :: .ref a :: rest)) := by
  obtain ⟨cl, Ar, S, H⟩ := A
  obtain ⟨T', h', X', e', W', st⟩ := stI X hx hZ rfl Ar (j := j) (x := x) (fun u => u.elim hj.1 (fun u => absurd hj.2 (by omega))) (g := mkF m pc Ls (.int x :: .int j :: .ref a :: rest)) rfl rfl hd
  subst e'
  exact own_st (w T' _ X' (Fr.snoc X' N g) (Keep.of_wr W') (own_A.set ⟨cl, Ar, S, H⟩ W')) (fun t q => st _ q)
theorem own_newB {k n' : Nat} {Q : Option Value → Heap → List Loc → Prop} {a0 : Array Value} (X : Stand p l e R s m args below meth c T locs cells slots) (hx : p.tables.exec = Jvm.exec) (hZ : Z.Warmed39 s.vm) (wd : (Jvm.Cond.arrayClass .byte).before a0 Z = true) {z : Int32} (hz : ¬ z < 0) {cap : Nat} (hcap : z.toNatClampNeg ≤ cap) (hb8 : cap * 8 ≤ 536870912) (hc : cells + 1 ≤ R.cells) (hl : slots + cap ≤ R.slots) {pc : Nat} {Ls : Array Slot} {rest : List Value} (hd : decode c.code pc = .ok (.newarray .byte, 2))
    (w : ∀ (T' : State) (b : Addr), Stand p l e R s m args below meth c T' locs (cells + 1) (slots + cap) → T.heap.size ≤ b → Ext T.heap T'.heap → own_A Z T'.heap b .byte z.toNatClampNeg (fun _ => 0) → own_W p e below s k n' Q T' (mkF m (pc + 2) Ls (.ref b :: rest))) : own_W p e below s k n' Q T (mkF m pc Ls (.int z :: rest)) := by
  obtain ⟨T', h', cA, X', e', E', A', st⟩ := newP X hx hZ (aty := .byte) wd rfl (g := mkF m pc Ls (.int z :: rest)) rfl hd rfl hz hcap hb8 hc hl
  subst e'
  refine own_st (w T' _ X' (Nat.le_refl _) E' ⟨_, A', sz_new _ _ _, fun i hi => ?_⟩) (fun t q => st _ q)
  show (Array.replicate z.toNatClampNeg (defaultValue .byte))[i]? = _
  simp [hi]; rfl
theorem own_newI {k n' : Nat} {Q : Option Value → Heap → List Loc → Prop} {a0 : Array Value} (X : Stand p l e R s m args below meth c T locs cells slots) (hx : p.tables.exec = Jvm.exec) (hZ : Z.Warmed39 s.vm) (wd : (Jvm.Cond.arrayClass .int).before a0 Z = true) {z : Int32} (hz : ¬ z < 0) {cap : Nat} (hcap : z.toNatClampNeg ≤ cap) (hb8 : cap * 8 ≤ 536870912) (hc : cells + 1 ≤ R.cells) (hl : slots + cap ≤ R.slots) {pc : Nat} {Ls : Array Slot} {rest : List Value} (hd : decode c.code pc = .ok (.newarray .int, 2))
    (w : ∀ (T' : State) (b : Addr), Stand p l e R s m args below meth c T' locs (cells + 1) (slots + cap) → T.heap.size ≤ b → Ext T.heap T'.heap → own_A Z T'.heap b .int z.toNatClampNeg (fun _ => 0) → own_W p e below s k n' Q T' (mkF m (pc + 2) Ls (.ref b :: rest))) : own_W p e below s k n' Q T (mkF m pc Ls (.int z :: rest)) := by
  obtain ⟨T', h', cA, X', e', E', A', st⟩ := newP X hx hZ (aty := .int) wd rfl (g := mkF m pc Ls (.int z :: rest)) rfl hd rfl hz hcap hb8 hc hl
  subst e'
  refine own_st (w T' _ X' (Nat.le_refl _) E' ⟨_, A', sz_new _ _ _, fun i hi => ?_⟩) (fun t q => st _ q)
  show (Array.replicate z.toNatClampNeg (defaultValue .int))[i]? = _
  simp [hi]; rfl
end OwnArr
section OwnIdx
theorem own_idx {j e : Int32} {n : Nat} (h0 : ¬ j < 0) (h : j < e) (he : e.toNatClampNeg ≤ n) : own_in j n := by
  refine ⟨h0, ?_⟩
  simp only [Int32.lt_iff_toInt_lt, Int32.toNatClampNeg, Int32.reduceToInt] at *
  omega
theorem own_inc {i e : Int32} (h : i < e) : (i + 1).toInt = i.toInt + 1 := by
  have h1 := Int32.toInt_lt e
  have h2 := Int32.le_toInt i
  have k : (1 : Int32).toInt = 1 := rfl
  rw [Int32.lt_iff_toInt_lt] at h
  rw [Jvm.Kit.i32_add (by omega) (by omega), k]
theorem own_back {i e : Int32} {k : Nat} (h : i < e) (hk : (e.toInt - i.toInt).toNat < k + 1) : (e.toInt - (i + 1).toInt).toNat < k := by
  rw [own_inc h]
  rw [Int32.lt_iff_toInt_lt] at h
  omega
theorem own_nn {i e : Int32} (h : i < e) (h0 : ¬ i < 0) : ¬ (i + 1) < 0 := by
  have k : (0 : Int32).toInt = 0 := rfl
  rw [Int32.lt_iff_toInt_lt, k] at h0 ⊢
  rw [own_inc h]
  omega
end OwnIdx
section OwnIdx2
theorem own_ge {z k : Int32} {j : Nat} (h : ¬ z < k) (hk : k.toInt = j + 1) : j < z.toNatClampNeg := by
  rw [Int32.lt_iff_toInt_lt] at h
  rw [Int32.toNatClampNeg]; omega
theorem own_ofN {n : Nat} (h : n < 2147483648) : (Int32.ofNat n).toInt = n := Int32.toInt_ofNat_of_lt (by omega)
theorem own_ofC {n : Nat} (h : n < 2147483648) : (Int32.ofNat n).toNatClampNeg = n := by rw [Int32.toNatClampNeg, own_ofN h]; omega
theorem own_cof {z : Int32} (h : 0 ≤ z.toInt) : Int32.ofNat z.toNatClampNeg = z := by
  have h2 := Int32.toInt_lt z
  apply Int32.toInt_inj.mp
  rw [Int32.toNatClampNeg, own_ofN (by omega)]; omega
abbrev own_r (p d : Int32) : Int32 := (p &&& (2147483647 : Int32)) - ((p &&& (2147483647 : Int32)) / d) * d
theorem own_rb (p d : Int32) (hd : 0 < d.toInt) : 0 ≤ (own_r p d).toInt ∧ (own_r p d).toInt < d.toInt := by
  have h : (own_r p d).toInt = (p.toInt % 2147483648) % d.toInt := by
    rw [own_rem (by rw [own_and31]; omega) hd, own_and31]
  rw [h]
  exact ⟨Int.emod_nonneg _ (by omega), Int.emod_lt_of_pos _ hd⟩
end OwnIdx2
section OwnUtf
theorem own_k0 : (0 : Int32).toInt = 0 := rfl
theorem own_k1 : (1 : Int32).toInt = 1 := rfl
theorem own_k2 : (2 : Int32).toInt = 2 := rfl
theorem own_k3 : (3 : Int32).toInt = 3 := rfl
theorem own_at0 {a : Int32} {n : Nat} (h : ¬ a < 0) (h' : a.toInt + 3 < n) (hn : n ≤ 8) : own_in a n := by
  refine ⟨h, ?_⟩
  rw [Int32.lt_iff_toInt_lt, own_k0] at h
  rw [Int32.toNatClampNeg]; omega
theorem own_at1 {a : Int32} {n : Nat} (h : ¬ a < 0) (h' : a.toInt + 3 < n) (hn : n ≤ 8) : own_in (a + 1) n := by
  rw [Int32.lt_iff_toInt_lt, own_k0] at h
  have e : (a + 1).toInt = a.toInt + 1 := Jvm.Kit.i32_add (by rw [own_k1]; omega) (by rw [own_k1]; omega)
  refine ⟨by rw [Int32.lt_iff_toInt_lt, own_k0]; omega, ?_⟩
  rw [Int32.toNatClampNeg]; omega
theorem own_at2 {a : Int32} {n : Nat} (h : ¬ a < 0) (h' : a.toInt + 3 < n) (hn : n ≤ 8) : own_in (a + 2) n := by
  rw [Int32.lt_iff_toInt_lt, own_k0] at h
  have e : (a + 2).toInt = a.toInt + 2 := Jvm.Kit.i32_add (by rw [own_k2]; omega) (by rw [own_k2]; omega)
  refine ⟨by rw [Int32.lt_iff_toInt_lt, own_k0]; omega, ?_⟩
  rw [Int32.toNatClampNeg]; omega
theorem own_at3 {a : Int32} {n : Nat} (h : ¬ a < 0) (h' : a.toInt + 3 < n) (hn : n ≤ 8) : own_in (a + 3) n := by
  rw [Int32.lt_iff_toInt_lt, own_k0] at h
  have e : (a + 3).toInt = a.toInt + 3 := Jvm.Kit.i32_add (by rw [own_k3]; omega) (by rw [own_k3]; omega)
  refine ⟨by rw [Int32.lt_iff_toInt_lt, own_k0]; omega, ?_⟩
  rw [Int32.toNatClampNeg]; omega
theorem own_and3 (x : Int32) : (x &&& (3 : Int32)).toInt = x.toInt % 4 := Jvm.Kit.i32_mask x 3 (k := 2) (by decide) (by decide)
theorem own_a1 (x : Int32) : ¬ (x &&& (3 : Int32)) < 0 := by
  rw [Int32.lt_iff_toInt_lt, own_k0, own_and3]; omega
theorem own_a2 (x : Int32) : (x &&& (3 : Int32)).toInt + 3 < ((8 : Nat) : Int) := by
  rw [own_and3]; omega
end OwnUtf
section OwnUtf2
theorem own_nat {x : Int32} (h : 0 ≤ x.toInt) : (x.toBitVec.toNat : Int) = x.toInt := by
  have h' : 0 ≤ x.toBitVec.toInt := h
  show _ = x.toBitVec.toInt
  have hl := x.toBitVec.isLt
  rw [BitVec.toInt_eq_toNat_cond] at h' ⊢
  split at h'
  · rw [if_pos ‹_›]
  · omega
theorem own_small {x : Int32} (h : x.toBitVec.toNat < 2147483648) : x.toInt = x.toBitVec.toNat := by
  show x.toBitVec.toInt = _
  rw [BitVec.toInt_eq_toNat_cond, if_pos (by omega)]
theorem own_or {x y : Int32} (k : Nat) (hx : 0 ≤ x.toInt) (hm : x.toInt % ((2 ^ k : Nat) : Int) = 0) (hy0 : 0 ≤ y.toInt) (hy : y.toInt < ((2 ^ k : Nat) : Int)) (hs : x.toInt + y.toInt < 2147483648) : (x ||| y).toInt = x.toInt + y.toInt := by
  have nx := own_nat hx
  have ny := own_nat hy0
  have e : (x ||| y).toBitVec.toNat = x.toBitVec.toNat + y.toBitVec.toNat := by
    rw [Int32.toBitVec_or, BitVec.toNat_or]
    have hm' : x.toBitVec.toNat % 2 ^ k = 0 := by
      rw [← nx] at hm
      exact_mod_cast hm
    have hy' : y.toBitVec.toNat < 2 ^ k := by
      rw [← ny] at hy
      exact_mod_cast hy
    have q : x.toBitVec.toNat = (x.toBitVec.toNat / 2 ^ k) <<< k := by
      rw [Nat.shiftLeft_eq]
      exact (Nat.div_mul_cancel (Nat.dvd_of_mod_eq_zero hm')).symm
    rw [q]
    exact (Nat.shiftLeft_add_eq_or_of_lt hy' _).symm
  rw [own_small (by omega), e]
  omega
theorem own_div {x y : Int32} (hx : 0 ≤ x.toInt) (hy : 0 < y.toInt) : (x / y).toInt = x.toInt / y.toInt := by
  rw [Jvm.Kit.i32_div (by omega), Int.tdiv_eq_ediv_of_nonneg hx]
theorem own_byte (v : Int32) : (nar .byte (v.toInt8.toInt32)).toInt = v.toInt.bmod 256 := by
  show (v.toInt8.toInt32.toInt8.toInt32).toInt = _
  rw [Int8.toInt8_toInt32, Int8.toInt_toInt32, Int32.toInt_toInt8]
theorem own_byteN {v : Int32} (h1 : 128 ≤ v.toInt) (h2 : v.toInt < 256) : (nar .byte (v.toInt8.toInt32)).toInt = v.toInt - 256 := by
  rw [own_byte, Int.bmod_def]; split <;> omega
theorem own_byteP {v : Int32} (h1 : 0 ≤ v.toInt) (h2 : v.toInt < 128) : (nar .byte (v.toInt8.toInt32)).toInt = v.toInt := by
  rw [own_byte, Int.bmod_def]; split <;> omega
theorem own_224a : ∀ i : Fin 64, ((Int32.ofInt ((i.val : Int) - 64) &&& 224) = 192) ↔ i.val < 32 := by decide +kernel
theorem own_240a : ∀ i : Fin 64, ((Int32.ofInt ((i.val : Int) - 64) &&& 240) = 224) ↔ (32 ≤ i.val ∧ i.val < 48) := by decide +kernel
theorem own_isF {x : Int32} (h1 : -64 ≤ x.toInt) (h2 : x.toInt < 0) : ∃ i : Fin 64, x = Int32.ofInt ((i.val : Int) - 64) ∧ (i.val : Int) = x.toInt + 64 := by
  refine ⟨⟨(x.toInt + 64).toNat, by omega⟩, ?_, ?_⟩
  · show x = Int32.ofInt (((x.toInt + 64).toNat : Int) - 64)
    rw [show (((x.toInt + 64).toNat : Int) - 64) = x.toInt by omega, Int32.ofInt_toInt]
  · show (((x.toInt + 64).toNat : Nat) : Int) = _
    omega
theorem own_224 {x : Int32} (h1 : -64 ≤ x.toInt) (h2 : x.toInt < 0) : ((x &&& 224) = 192) ↔ x.toInt < -32 := by
  obtain ⟨i, e, f⟩ := own_isF h1 h2
  have := own_224a i
  rw [← e] at this
  rw [this]; omega
theorem own_240 {x : Int32} (h1 : -64 ≤ x.toInt) (h2 : x.toInt < 0) : ((x &&& 240) = 224) ↔ (-32 ≤ x.toInt ∧ x.toInt < -16) := by
  obtain ⟨i, e, f⟩ := own_isF h1 h2
  have := own_240a i
  rw [← e] at this
  rw [this]; omega
theorem own_m63 (x : Int32) : (x &&& (63 : Int32)).toInt = x.toInt % 64 := Jvm.Kit.i32_mask x 63 (k := 6) (by decide) (by decide)
theorem own_m31 (x : Int32) : (x &&& (31 : Int32)).toInt = x.toInt % 32 := Jvm.Kit.i32_mask x 31 (k := 5) (by decide) (by decide)
theorem own_m15 (x : Int32) : (x &&& (15 : Int32)).toInt = x.toInt % 16 := Jvm.Kit.i32_mask x 15 (k := 4) (by decide) (by decide)
theorem own_m7 (x : Int32) : (x &&& (7 : Int32)).toInt = x.toInt % 8 := Jvm.Kit.i32_mask x 7 (k := 3) (by decide) (by decide)
theorem own_s6 {x : Int32} (h1 : 0 ≤ x.toInt) (h2 : x.toInt < 8192) : (x <<< ((6 : Int32) &&& 31)).toInt = x.toInt * 64 := Jvm.Kit.i32_shl x _ (k := 6) (by decide) (by omega) (by omega)
theorem own_s12 {x : Int32} (h1 : 0 ≤ x.toInt) (h2 : x.toInt < 8192) : (x <<< ((12 : Int32) &&& 31)).toInt = x.toInt * 4096 := Jvm.Kit.i32_shl x _ (k := 12) (by decide) (by omega) (by omega)
theorem own_s18 {x : Int32} (h1 : 0 ≤ x.toInt) (h2 : x.toInt < 8192) : (x <<< ((18 : Int32) &&& 31)).toInt = x.toInt * 262144 := Jvm.Kit.i32_shl x _ (k := 18) (by decide) (by omega) (by omega)
end OwnUtf2
section OwnEnc
theorem own_iincW {tb : Tables} [Ours tb] {e : Env} {below : List Frame} {T target : State} {m : MethodId} {c : Code} {g : JFrame} (h : At T m c below) (hx : tb.exec = Jvm.exec) (hg : g.method = m) {k : Nat} {cst : Int} {x : Int32} {l' : Array Slot} (hd : decode c.code g.pc = .ok (.iinc k cst, 6)) (hl : g.locals[k]? = some (.val (.int x))) (hl' : storeLocals g.locals k (.int (x + Int32.ofInt cst)) = some l')
    (hr : Steps tb e below (T.setTop { g with pc := g.pc + 6, locals := l' }) target) : Steps tb e below (T.setTop g) target := by
  subst hg
  jvm_step h [h.top, hx, hd, hl, hl']
  exact hr
def own_GE (n0 : Nat) (Z : State) (a : Addr) (n : Nat) (r : Int32 × (Nat → Int32)) (v : Option Value) (h : Heap) (L : List Loc) : Prop := v = some (.int r.1) ∧ Fr n0 L ∧ own_A Z h a .byte n r.2
end OwnEnc
theorem d1_0 : decode prog_85_method_24_code 0 = .ok (.iload_n 0, 1) := by decide +kernel
theorem d1_1 : decode prog_85_method_24_code 1 = .ok (.sipush 128, 3) := by decide +kernel
theorem d1_4 : decode prog_85_method_24_code 4 = .ok (.if_icmp .ge 10, 3) := by decide +kernel
theorem d1_7 : decode prog_85_method_24_code 7 = .ok (.aload_n 1, 1) := by decide +kernel
theorem d1_8 : decode prog_85_method_24_code 8 = .ok (.iload_n 2, 1) := by decide +kernel
theorem d1_9 : decode prog_85_method_24_code 9 = .ok (.iload_n 0, 1) := by decide +kernel
theorem d1_10 : decode prog_85_method_24_code 10 = .ok (.i2b, 1) := by decide +kernel
theorem d1_11 : decode prog_85_method_24_code 11 = .ok (.bastore, 1) := by decide +kernel
theorem d1_12 : decode prog_85_method_24_code 12 = .ok (.iconst 1, 1) := by decide +kernel
theorem d1_13 : decode prog_85_method_24_code 13 = .ok (.ireturn, 1) := by decide +kernel
theorem d1_14 : decode prog_85_method_24_code 14 = .ok (.iload_n 0, 1) := by decide +kernel
theorem d1_15 : decode prog_85_method_24_code 15 = .ok (.sipush 2048, 3) := by decide +kernel
theorem d1_18 : decode prog_85_method_24_code 18 = .ok (.if_icmp .ge 31, 3) := by decide +kernel
theorem d1_21 : decode prog_85_method_24_code 21 = .ok (.aload_n 1, 1) := by decide +kernel
theorem d1_22 : decode prog_85_method_24_code 22 = .ok (.iload_n 2, 1) := by decide +kernel
theorem d1_23 : decode prog_85_method_24_code 23 = .ok (.sipush 192, 3) := by decide +kernel
theorem d1_26 : decode prog_85_method_24_code 26 = .ok (.iload_n 0, 1) := by decide +kernel
theorem d1_27 : decode prog_85_method_24_code 27 = .ok (.bipush 6, 2) := by decide +kernel
theorem d1_29 : decode prog_85_method_24_code 29 = .ok (.ishr, 1) := by decide +kernel
theorem d1_30 : decode prog_85_method_24_code 30 = .ok (.ior, 1) := by decide +kernel
theorem d1_31 : decode prog_85_method_24_code 31 = .ok (.i2b, 1) := by decide +kernel
theorem d1_32 : decode prog_85_method_24_code 32 = .ok (.bastore, 1) := by decide +kernel
theorem d1_33 : decode prog_85_method_24_code 33 = .ok (.aload_n 1, 1) := by decide +kernel
theorem d1_34 : decode prog_85_method_24_code 34 = .ok (.iload_n 2, 1) := by decide +kernel
theorem d1_35 : decode prog_85_method_24_code 35 = .ok (.iconst 1, 1) := by decide +kernel
theorem d1_36 : decode prog_85_method_24_code 36 = .ok (.iadd, 1) := by decide +kernel
theorem d1_37 : decode prog_85_method_24_code 37 = .ok (.sipush 128, 3) := by decide +kernel
theorem d1_40 : decode prog_85_method_24_code 40 = .ok (.iload_n 0, 1) := by decide +kernel
theorem d1_41 : decode prog_85_method_24_code 41 = .ok (.bipush 63, 2) := by decide +kernel
theorem d1_43 : decode prog_85_method_24_code 43 = .ok (.iand, 1) := by decide +kernel
theorem d1_44 : decode prog_85_method_24_code 44 = .ok (.ior, 1) := by decide +kernel
theorem d1_45 : decode prog_85_method_24_code 45 = .ok (.i2b, 1) := by decide +kernel
theorem d1_46 : decode prog_85_method_24_code 46 = .ok (.bastore, 1) := by decide +kernel
theorem d1_47 : decode prog_85_method_24_code 47 = .ok (.iconst 2, 1) := by decide +kernel
theorem d1_48 : decode prog_85_method_24_code 48 = .ok (.ireturn, 1) := by decide +kernel
theorem d1_49 : decode prog_85_method_24_code 49 = .ok (.iload_n 0, 1) := by decide +kernel
theorem d1_50 : decode prog_85_method_24_code 50 = .ok (.ldc 137, 2) := by decide +kernel
theorem d1_52 : decode prog_85_method_24_code 52 = .ok (.if_icmp .ge 48, 3) := by decide +kernel
theorem d1_55 : decode prog_85_method_24_code 55 = .ok (.aload_n 1, 1) := by decide +kernel
theorem d1_56 : decode prog_85_method_24_code 56 = .ok (.iload_n 2, 1) := by decide +kernel
theorem d1_57 : decode prog_85_method_24_code 57 = .ok (.sipush 224, 3) := by decide +kernel
theorem d1_60 : decode prog_85_method_24_code 60 = .ok (.iload_n 0, 1) := by decide +kernel
theorem d1_61 : decode prog_85_method_24_code 61 = .ok (.bipush 12, 2) := by decide +kernel
theorem d1_63 : decode prog_85_method_24_code 63 = .ok (.ishr, 1) := by decide +kernel
theorem d1_64 : decode prog_85_method_24_code 64 = .ok (.ior, 1) := by decide +kernel
theorem d1_65 : decode prog_85_method_24_code 65 = .ok (.i2b, 1) := by decide +kernel
theorem d1_66 : decode prog_85_method_24_code 66 = .ok (.bastore, 1) := by decide +kernel
theorem d1_67 : decode prog_85_method_24_code 67 = .ok (.aload_n 1, 1) := by decide +kernel
theorem d1_68 : decode prog_85_method_24_code 68 = .ok (.iload_n 2, 1) := by decide +kernel
theorem d1_69 : decode prog_85_method_24_code 69 = .ok (.iconst 1, 1) := by decide +kernel
theorem d1_70 : decode prog_85_method_24_code 70 = .ok (.iadd, 1) := by decide +kernel
theorem d1_71 : decode prog_85_method_24_code 71 = .ok (.sipush 128, 3) := by decide +kernel
theorem d1_74 : decode prog_85_method_24_code 74 = .ok (.iload_n 0, 1) := by decide +kernel
theorem d1_75 : decode prog_85_method_24_code 75 = .ok (.bipush 6, 2) := by decide +kernel
theorem d1_77 : decode prog_85_method_24_code 77 = .ok (.ishr, 1) := by decide +kernel
theorem d1_78 : decode prog_85_method_24_code 78 = .ok (.bipush 63, 2) := by decide +kernel
theorem d1_80 : decode prog_85_method_24_code 80 = .ok (.iand, 1) := by decide +kernel
theorem d1_81 : decode prog_85_method_24_code 81 = .ok (.ior, 1) := by decide +kernel
theorem d1_82 : decode prog_85_method_24_code 82 = .ok (.i2b, 1) := by decide +kernel
theorem d1_83 : decode prog_85_method_24_code 83 = .ok (.bastore, 1) := by decide +kernel
theorem d1_84 : decode prog_85_method_24_code 84 = .ok (.aload_n 1, 1) := by decide +kernel
theorem d1_85 : decode prog_85_method_24_code 85 = .ok (.iload_n 2, 1) := by decide +kernel
theorem d1_86 : decode prog_85_method_24_code 86 = .ok (.iconst 2, 1) := by decide +kernel
theorem d1_87 : decode prog_85_method_24_code 87 = .ok (.iadd, 1) := by decide +kernel
theorem d1_88 : decode prog_85_method_24_code 88 = .ok (.sipush 128, 3) := by decide +kernel
theorem d1_91 : decode prog_85_method_24_code 91 = .ok (.iload_n 0, 1) := by decide +kernel
theorem d1_92 : decode prog_85_method_24_code 92 = .ok (.bipush 63, 2) := by decide +kernel
theorem d1_94 : decode prog_85_method_24_code 94 = .ok (.iand, 1) := by decide +kernel
theorem d1_95 : decode prog_85_method_24_code 95 = .ok (.ior, 1) := by decide +kernel
theorem d1_96 : decode prog_85_method_24_code 96 = .ok (.i2b, 1) := by decide +kernel
theorem d1_97 : decode prog_85_method_24_code 97 = .ok (.bastore, 1) := by decide +kernel
theorem d1_98 : decode prog_85_method_24_code 98 = .ok (.iconst 3, 1) := by decide +kernel
theorem d1_99 : decode prog_85_method_24_code 99 = .ok (.ireturn, 1) := by decide +kernel
theorem d1_100 : decode prog_85_method_24_code 100 = .ok (.aload_n 1, 1) := by decide +kernel
theorem d1_101 : decode prog_85_method_24_code 101 = .ok (.iload_n 2, 1) := by decide +kernel
theorem d1_102 : decode prog_85_method_24_code 102 = .ok (.sipush 240, 3) := by decide +kernel
theorem d1_105 : decode prog_85_method_24_code 105 = .ok (.iload_n 0, 1) := by decide +kernel
theorem d1_106 : decode prog_85_method_24_code 106 = .ok (.bipush 18, 2) := by decide +kernel
theorem d1_108 : decode prog_85_method_24_code 108 = .ok (.ishr, 1) := by decide +kernel
theorem d1_109 : decode prog_85_method_24_code 109 = .ok (.ior, 1) := by decide +kernel
theorem d1_110 : decode prog_85_method_24_code 110 = .ok (.i2b, 1) := by decide +kernel
theorem d1_111 : decode prog_85_method_24_code 111 = .ok (.bastore, 1) := by decide +kernel
theorem d1_112 : decode prog_85_method_24_code 112 = .ok (.aload_n 1, 1) := by decide +kernel
theorem d1_113 : decode prog_85_method_24_code 113 = .ok (.iload_n 2, 1) := by decide +kernel
theorem d1_114 : decode prog_85_method_24_code 114 = .ok (.iconst 1, 1) := by decide +kernel
theorem d1_115 : decode prog_85_method_24_code 115 = .ok (.iadd, 1) := by decide +kernel
theorem d1_116 : decode prog_85_method_24_code 116 = .ok (.sipush 128, 3) := by decide +kernel
theorem d1_119 : decode prog_85_method_24_code 119 = .ok (.iload_n 0, 1) := by decide +kernel
theorem d1_120 : decode prog_85_method_24_code 120 = .ok (.bipush 12, 2) := by decide +kernel
theorem d1_122 : decode prog_85_method_24_code 122 = .ok (.ishr, 1) := by decide +kernel
theorem d1_123 : decode prog_85_method_24_code 123 = .ok (.bipush 63, 2) := by decide +kernel
theorem d1_125 : decode prog_85_method_24_code 125 = .ok (.iand, 1) := by decide +kernel
theorem d1_126 : decode prog_85_method_24_code 126 = .ok (.ior, 1) := by decide +kernel
theorem d1_127 : decode prog_85_method_24_code 127 = .ok (.i2b, 1) := by decide +kernel
theorem d1_128 : decode prog_85_method_24_code 128 = .ok (.bastore, 1) := by decide +kernel
theorem d1_129 : decode prog_85_method_24_code 129 = .ok (.aload_n 1, 1) := by decide +kernel
theorem d1_130 : decode prog_85_method_24_code 130 = .ok (.iload_n 2, 1) := by decide +kernel
theorem d1_131 : decode prog_85_method_24_code 131 = .ok (.iconst 2, 1) := by decide +kernel
theorem d1_132 : decode prog_85_method_24_code 132 = .ok (.iadd, 1) := by decide +kernel
theorem d1_133 : decode prog_85_method_24_code 133 = .ok (.sipush 128, 3) := by decide +kernel
theorem d1_136 : decode prog_85_method_24_code 136 = .ok (.iload_n 0, 1) := by decide +kernel
theorem d1_137 : decode prog_85_method_24_code 137 = .ok (.bipush 6, 2) := by decide +kernel
theorem d1_139 : decode prog_85_method_24_code 139 = .ok (.ishr, 1) := by decide +kernel
theorem d1_140 : decode prog_85_method_24_code 140 = .ok (.bipush 63, 2) := by decide +kernel
theorem d1_142 : decode prog_85_method_24_code 142 = .ok (.iand, 1) := by decide +kernel
theorem d1_143 : decode prog_85_method_24_code 143 = .ok (.ior, 1) := by decide +kernel
theorem d1_144 : decode prog_85_method_24_code 144 = .ok (.i2b, 1) := by decide +kernel
theorem d1_145 : decode prog_85_method_24_code 145 = .ok (.bastore, 1) := by decide +kernel
theorem d1_146 : decode prog_85_method_24_code 146 = .ok (.aload_n 1, 1) := by decide +kernel
theorem d1_147 : decode prog_85_method_24_code 147 = .ok (.iload_n 2, 1) := by decide +kernel
theorem d1_148 : decode prog_85_method_24_code 148 = .ok (.iconst 3, 1) := by decide +kernel
theorem d1_149 : decode prog_85_method_24_code 149 = .ok (.iadd, 1) := by decide +kernel
theorem d1_150 : decode prog_85_method_24_code 150 = .ok (.sipush 128, 3) := by decide +kernel
theorem d1_153 : decode prog_85_method_24_code 153 = .ok (.iload_n 0, 1) := by decide +kernel
theorem d1_154 : decode prog_85_method_24_code 154 = .ok (.bipush 63, 2) := by decide +kernel
theorem d1_156 : decode prog_85_method_24_code 156 = .ok (.iand, 1) := by decide +kernel
theorem d1_157 : decode prog_85_method_24_code 157 = .ok (.ior, 1) := by decide +kernel
theorem d1_158 : decode prog_85_method_24_code 158 = .ok (.i2b, 1) := by decide +kernel
theorem d1_159 : decode prog_85_method_24_code 159 = .ok (.bastore, 1) := by decide +kernel
theorem d1_160 : decode prog_85_method_24_code 160 = .ok (.iconst 4, 1) := by decide +kernel
theorem d1_161 : decode prog_85_method_24_code 161 = .ok (.ireturn, 1) := by decide +kernel
theorem pn_1 : plainFor (⟨"com/example/holyrood/holyrood/Utf8", "encode", "(I[BI)I"⟩ : MethodName) = true := by first | exact plainFor_of_name (by first | (simp [plainName, overriddenIn]; done) | decide +kernel) | decide +kernel
theorem ef_1 (m : MethodId) (x0 : Int32) (x1 : Addr) (x2 : Int32) : entryFrame m #[(.int x0), (.ref x1), (.int x2)] 3 = mkF m 0 #[.val (.int x0), .val (.ref x1), .val (.int x2)] [] := by first | (simp [entryFrame, mkF, argsToLocals, Value.category, maxLocals]; done) | rfl
def f1 (p0 : Int32) (p2 : Int32) (F : Nat → Int32) : Int32 × (Nat → Int32) := (if p0 < (128 : Int32) then ((1 : Int32), (own_up F p2.toNatClampNeg (nar .byte (p0.toInt8.toInt32)))) else (if p0 < (2048 : Int32) then ((2 : Int32), (own_up (own_up F p2.toNatClampNeg (nar .byte (((192 : Int32) ||| (p0 >>> ((6 : Int32) &&& 31))).toInt8.toInt32))) (p2 + (1 : Int32)).toNatClampNeg (nar .byte (((128 : Int32) ||| (p0 &&& (63 : Int32))).toInt8.toInt32)))) else (if p0 < (65536 : Int32) then ((3 : Int32), (own_up (own_up (own_up F p2.toNatClampNeg (nar .byte (((224 : Int32) ||| (p0 >>> ((12 : Int32) &&& 31))).toInt8.toInt32))) (p2 + (1 : Int32)).toNatClampNeg (nar .byte (((128 : Int32) ||| ((p0 >>> ((6 : Int32) &&& 31)) &&& (63 : Int32))).toInt8.toInt32))) (p2 + (2 : Int32)).toNatClampNeg (nar .byte (((128 : Int32) ||| (p0 &&& (63 : Int32))).toInt8.toInt32)))) else ((4 : Int32), (own_up (own_up (own_up (own_up F p2.toNatClampNeg (nar .byte (((240 : Int32) ||| (p0 >>> ((18 : Int32) &&& 31))).toInt8.toInt32))) (p2 + (1 : Int32)).toNatClampNeg (nar .byte (((128 : Int32) ||| ((p0 >>> ((12 : Int32) &&& 31)) &&& (63 : Int32))).toInt8.toInt32))) (p2 + (2 : Int32)).toNatClampNeg (nar .byte (((128 : Int32) ||| ((p0 >>> ((6 : Int32) &&& 31)) &&& (63 : Int32))).toInt8.toInt32))) (p2 + (3 : Int32)).toNatClampNeg (nar .byte (((128 : Int32) ||| (p0 &&& (63 : Int32))).toInt8.toInt32)))))))
set_option maxRecDepth 65536 in
set_option maxHeartbeats 40000000 in
theorem rm1 (l : Launch) (Z : State) (a0 : Array Value) (hw : ∀ d ∈ tables_1, d.before a0 Z = true) (ws : List Jvm.Cond) (p0 : Int32) (o1 : Addr) (p2 : Int32) (n : Nat) (F : Nat → Int32) (h0 : Heap) (n0 : Nat) (Z0 : n0 ≤ h0.size) (A_o1 : own_A Z h0 o1 .byte n F) (G_o1 : n0 ≤ o1) (hlo : ¬ p2 < 0) (hhi : p2.toInt + 3 < n) (hn : n ≤ 8) :
    MetFree l (⟨"com/example/holyrood/holyrood/Utf8", "encode", "(I[BI)I"⟩ : MethodName) (head1 (Jvm.Cond.code (⟨"com/example/holyrood/holyrood/Utf8", "encode", "(I[BI)I"⟩ : MethodName) prog_85_method_24_code 3 (some .int) :: ws) ({ frames := 0, cells := 0, slots := 0, locals := 0 } : Room)) (fun a U => a = #[(.int p0), (.ref o1), (.int p2)] ∧ Z.Warmed39 U.vm ∧ U.heap = h0) (fun _ _ _ _ _ => True) (fun _ U o U' => ∃ v L, o = .returned v ∧ own_GE n0 Z o1 n (f1 p0 p2 F) v U'.heap L ∧ FrameEnd U o U' L ({ frames := 0, cells := 0, slots := 0, locals := 0 } : Room).cells ({ frames := 0, cells := 0, slots := 0, locals := 0 } : Room).slots) := by
  refine MetFree.of_bodySF pn_1 hisR ?_
  intro p e s m args below meth c s₁ Bd hml0 hP hK
  obtain ⟨rfl, hZ, hh⟩ := hP
  have hx := Bd.exec
  have hby := Bd.bytes
  have hml : c.maxLocals = 3 := hml0
  have hown : s.vm.findClass "com/example/holyrood/holyrood/Utf8" = some m.cls := findClass_of_methodNamed Bd.named
  have hlk : meth.locks = false := BodyLoose.notSynchronized Bd
  have X0 : Stand p l e ({ frames := 0, cells := 0, slots := 0, locals := 0 } : Room) s m #[(.int p0), (.ref o1), (.int p2)] below meth c s₁ [] 0 0 := Stand.of_body Bd
  have e0 : s₁.heap = h0 := by rw [← hh, Bd.state]; rfl
  have N0 := Fr.nil n0
  have zs0 : n0 ≤ s₁.heap.size := by rw [e0]; exact Z0
  show own_W p e below s 0 0 (own_GE n0 Z o1 n (f1 p0 p2 F)) s₁ (entryFrame m #[(.int p0), (.ref o1), (.int p2)] 3)
  refine own_to (ef_1 m p0 o1 p2) ?_
  unfold f1
  refine own_st (T' := s₁) (f' := (mkF m 1 #[.val (.int p0), .val (.ref o1), .val (.int p2)] [(.int p0)])) ?_ (fun t q => XS.iloadN X0.here hx rfl (hb hby d1_0) rfl q)
  refine own_st (T' := s₁) (f' := (mkF m 4 #[.val (.int p0), .val (.ref o1), .val (.int p2)] [(.int (128 : Int32)), (.int p0)])) ?_ (fun t q => XS.sipush X0.here hx rfl (hb hby d1_1) q)
  refine own_ite (fun hc4 => ?_) (fun hc4 => ?_)
  · refine own_st (T' := s₁) (f' := (mkF m 7 #[.val (.int p0), .val (.ref o1), .val (.int p2)] [])) ?_ (fun t q => XS.icmpNo X0.here hx rfl (hb hby d1_4) rfl (tlt hc4).2.1 q)
    refine own_st (T' := s₁) (f' := (mkF m 8 #[.val (.int p0), .val (.ref o1), .val (.int p2)] [(.ref o1)])) ?_ (fun t q => XS.aloadN X0.here hx rfl (hb hby d1_7) rfl rfl q)
    refine own_st (T' := s₁) (f' := (mkF m 9 #[.val (.int p0), .val (.ref o1), .val (.int p2)] [(.int p2), (.ref o1)])) ?_ (fun t q => XS.iloadN X0.here hx rfl (hb hby d1_8) rfl q)
    refine own_st (T' := s₁) (f' := (mkF m 10 #[.val (.int p0), .val (.ref o1), .val (.int p2)] [(.int p0), (.int p2), (.ref o1)])) ?_ (fun t q => XS.iloadN X0.here hx rfl (hb hby d1_9) rfl q)
    refine own_st (T' := s₁) (f' := (mkF m 11 #[.val (.int p0), .val (.ref o1), .val (.int p2)] [(.int (p0.toInt8.toInt32)), (.int p2), (.ref o1)])) ?_ (fun t q => XS.i2b X0.here hx rfl (hb hby d1_10) rfl q)
    refine own_bast X0 hx hZ (own_A.eq A_o1 e0) (j := p2) (x := (p0.toInt8.toInt32)) (own_at0 hlo hhi hn) (hb hby d1_11) N0 G_o1 (fun T1 lo1 X1 N1 K1 A1_o1 => ?_)
    have zs1 : n0 ≤ T1.heap.size := Nat.le_trans zs0 K1.1
    show own_W _ _ _ _ _ _ _ T1 (mkF m 12 #[.val (.int p0), .val (.ref o1), .val (.int p2)] [])
    refine own_st (T' := T1) (f' := (mkF m 13 #[.val (.int p0), .val (.ref o1), .val (.int p2)] [(.int (1 : Int32))])) ?_ (fun t q => XS.iconst X1.here hx rfl (hb hby d1_12) q)
    exact own_retI X1 hx hlk Bd.returns (hb hby d1_13) (by decide) (by decide) ⟨rfl, N1, A1_o1⟩
  · refine own_st (T' := s₁) (f' := (mkF m 14 #[.val (.int p0), .val (.ref o1), .val (.int p2)] [])) ?_ (fun t q => XS.icmpYes X0.here hx rfl (pc0 := 4) (pc' := 14) rfl (hb hby d1_4) rfl (flt hc4).2.1 (by decide) (by decide) q)
    refine own_st (T' := s₁) (f' := (mkF m 15 #[.val (.int p0), .val (.ref o1), .val (.int p2)] [(.int p0)])) ?_ (fun t q => XS.iloadN X0.here hx rfl (hb hby d1_14) rfl q)
    refine own_st (T' := s₁) (f' := (mkF m 18 #[.val (.int p0), .val (.ref o1), .val (.int p2)] [(.int (2048 : Int32)), (.int p0)])) ?_ (fun t q => XS.sipush X0.here hx rfl (hb hby d1_15) q)
    refine own_ite (fun hc18 => ?_) (fun hc18 => ?_)
    · refine own_st (T' := s₁) (f' := (mkF m 21 #[.val (.int p0), .val (.ref o1), .val (.int p2)] [])) ?_ (fun t q => XS.icmpNo X0.here hx rfl (hb hby d1_18) rfl (tlt hc18).2.1 q)
      refine own_st (T' := s₁) (f' := (mkF m 22 #[.val (.int p0), .val (.ref o1), .val (.int p2)] [(.ref o1)])) ?_ (fun t q => XS.aloadN X0.here hx rfl (hb hby d1_21) rfl rfl q)
      refine own_st (T' := s₁) (f' := (mkF m 23 #[.val (.int p0), .val (.ref o1), .val (.int p2)] [(.int p2), (.ref o1)])) ?_ (fun t q => XS.iloadN X0.here hx rfl (hb hby d1_22) rfl q)
      refine own_st (T' := s₁) (f' := (mkF m 26 #[.val (.int p0), .val (.ref o1), .val (.int p2)] [(.int (192 : Int32)), (.int p2), (.ref o1)])) ?_ (fun t q => XS.sipush X0.here hx rfl (hb hby d1_23) q)
      refine own_st (T' := s₁) (f' := (mkF m 27 #[.val (.int p0), .val (.ref o1), .val (.int p2)] [(.int p0), (.int (192 : Int32)), (.int p2), (.ref o1)])) ?_ (fun t q => XS.iloadN X0.here hx rfl (hb hby d1_26) rfl q)
      refine own_st (T' := s₁) (f' := (mkF m 29 #[.val (.int p0), .val (.ref o1), .val (.int p2)] [(.int (6 : Int32)), (.int p0), (.int (192 : Int32)), (.int p2), (.ref o1)])) ?_ (fun t q => XS.bipush X0.here hx rfl (hb hby d1_27) q)
      refine own_st (T' := s₁) (f' := (mkF m 30 #[.val (.int p0), .val (.ref o1), .val (.int p2)] [(.int (p0 >>> ((6 : Int32) &&& 31))), (.int (192 : Int32)), (.int p2), (.ref o1)])) ?_ (fun t q => XS.ishr X0.here hx rfl (hb hby d1_29) rfl q)
      refine own_st (T' := s₁) (f' := (mkF m 31 #[.val (.int p0), .val (.ref o1), .val (.int p2)] [(.int ((192 : Int32) ||| (p0 >>> ((6 : Int32) &&& 31)))), (.int p2), (.ref o1)])) ?_ (fun t q => XS.ior X0.here hx rfl (hb hby d1_30) rfl q)
      refine own_st (T' := s₁) (f' := (mkF m 32 #[.val (.int p0), .val (.ref o1), .val (.int p2)] [(.int (((192 : Int32) ||| (p0 >>> ((6 : Int32) &&& 31))).toInt8.toInt32)), (.int p2), (.ref o1)])) ?_ (fun t q => XS.i2b X0.here hx rfl (hb hby d1_31) rfl q)
      refine own_bast X0 hx hZ (own_A.eq A_o1 e0) (j := p2) (x := (((192 : Int32) ||| (p0 >>> ((6 : Int32) &&& 31))).toInt8.toInt32)) (own_at0 hlo hhi hn) (hb hby d1_32) N0 G_o1 (fun T2 lo2 X2 N2 K2 A2_o1 => ?_)
      have zs2 : n0 ≤ T2.heap.size := Nat.le_trans zs0 K2.1
      show own_W _ _ _ _ _ _ _ T2 (mkF m 33 #[.val (.int p0), .val (.ref o1), .val (.int p2)] [])
      refine own_st (T' := T2) (f' := (mkF m 34 #[.val (.int p0), .val (.ref o1), .val (.int p2)] [(.ref o1)])) ?_ (fun t q => XS.aloadN X2.here hx rfl (hb hby d1_33) rfl rfl q)
      refine own_st (T' := T2) (f' := (mkF m 35 #[.val (.int p0), .val (.ref o1), .val (.int p2)] [(.int p2), (.ref o1)])) ?_ (fun t q => XS.iloadN X2.here hx rfl (hb hby d1_34) rfl q)
      refine own_st (T' := T2) (f' := (mkF m 36 #[.val (.int p0), .val (.ref o1), .val (.int p2)] [(.int (1 : Int32)), (.int p2), (.ref o1)])) ?_ (fun t q => XS.iconst X2.here hx rfl (hb hby d1_35) q)
      refine own_st (T' := T2) (f' := (mkF m 37 #[.val (.int p0), .val (.ref o1), .val (.int p2)] [(.int (p2 + (1 : Int32))), (.ref o1)])) ?_ (fun t q => XS.iadd X2.here hx rfl (hb hby d1_36) rfl q)
      refine own_st (T' := T2) (f' := (mkF m 40 #[.val (.int p0), .val (.ref o1), .val (.int p2)] [(.int (128 : Int32)), (.int (p2 + (1 : Int32))), (.ref o1)])) ?_ (fun t q => XS.sipush X2.here hx rfl (hb hby d1_37) q)
      refine own_st (T' := T2) (f' := (mkF m 41 #[.val (.int p0), .val (.ref o1), .val (.int p2)] [(.int p0), (.int (128 : Int32)), (.int (p2 + (1 : Int32))), (.ref o1)])) ?_ (fun t q => XS.iloadN X2.here hx rfl (hb hby d1_40) rfl q)
      refine own_st (T' := T2) (f' := (mkF m 43 #[.val (.int p0), .val (.ref o1), .val (.int p2)] [(.int (63 : Int32)), (.int p0), (.int (128 : Int32)), (.int (p2 + (1 : Int32))), (.ref o1)])) ?_ (fun t q => XS.bipush X2.here hx rfl (hb hby d1_41) q)
      refine own_st (T' := T2) (f' := (mkF m 44 #[.val (.int p0), .val (.ref o1), .val (.int p2)] [(.int (p0 &&& (63 : Int32))), (.int (128 : Int32)), (.int (p2 + (1 : Int32))), (.ref o1)])) ?_ (fun t q => XS.iand X2.here hx rfl (hb hby d1_43) rfl q)
      refine own_st (T' := T2) (f' := (mkF m 45 #[.val (.int p0), .val (.ref o1), .val (.int p2)] [(.int ((128 : Int32) ||| (p0 &&& (63 : Int32)))), (.int (p2 + (1 : Int32))), (.ref o1)])) ?_ (fun t q => XS.ior X2.here hx rfl (hb hby d1_44) rfl q)
      refine own_st (T' := T2) (f' := (mkF m 46 #[.val (.int p0), .val (.ref o1), .val (.int p2)] [(.int (((128 : Int32) ||| (p0 &&& (63 : Int32))).toInt8.toInt32)), (.int (p2 + (1 : Int32))), (.ref o1)])) ?_ (fun t q => XS.i2b X2.here hx rfl (hb hby d1_45) rfl q)
      refine own_bast X2 hx hZ A2_o1 (j := (p2 + (1 : Int32))) (x := (((128 : Int32) ||| (p0 &&& (63 : Int32))).toInt8.toInt32)) (own_at1 hlo hhi hn) (hb hby d1_46) N2 G_o1 (fun T3 lo3 X3 N3 K3 A3_o1 => ?_)
      have zs3 : n0 ≤ T3.heap.size := Nat.le_trans zs2 K3.1
      show own_W _ _ _ _ _ _ _ T3 (mkF m 47 #[.val (.int p0), .val (.ref o1), .val (.int p2)] [])
      refine own_st (T' := T3) (f' := (mkF m 48 #[.val (.int p0), .val (.ref o1), .val (.int p2)] [(.int (2 : Int32))])) ?_ (fun t q => XS.iconst X3.here hx rfl (hb hby d1_47) q)
      exact own_retI X3 hx hlk Bd.returns (hb hby d1_48) (by decide) (by decide) ⟨rfl, N3, A3_o1⟩
    · refine own_st (T' := s₁) (f' := (mkF m 49 #[.val (.int p0), .val (.ref o1), .val (.int p2)] [])) ?_ (fun t q => XS.icmpYes X0.here hx rfl (pc0 := 18) (pc' := 49) rfl (hb hby d1_18) rfl (flt hc18).2.1 (by decide) (by decide) q)
      refine own_st (T' := s₁) (f' := (mkF m 50 #[.val (.int p0), .val (.ref o1), .val (.int p2)] [(.int p0)])) ?_ (fun t q => XS.iloadN X0.here hx rfl (hb hby d1_49) rfl q)
      refine own_st (T' := s₁) (f' := (mkF m 52 #[.val (.int p0), .val (.ref o1), .val (.int p2)] [(.int (65536 : Int32)), (.int p0)])) ?_ (fun t q => X0.ldcInt hx hown (mvT hZ (hw _ (List.mem_of_getElem? (i := 18) rfl))) (g := (mkF m 50 #[.val (.int p0), .val (.ref o1), .val (.int p2)] [(.int p0)])) rfl (hb hby d1_50) _ q)
      refine own_ite (fun hc52 => ?_) (fun hc52 => ?_)
      · refine own_st (T' := s₁) (f' := (mkF m 55 #[.val (.int p0), .val (.ref o1), .val (.int p2)] [])) ?_ (fun t q => XS.icmpNo X0.here hx rfl (hb hby d1_52) rfl (tlt hc52).2.1 q)
        refine own_st (T' := s₁) (f' := (mkF m 56 #[.val (.int p0), .val (.ref o1), .val (.int p2)] [(.ref o1)])) ?_ (fun t q => XS.aloadN X0.here hx rfl (hb hby d1_55) rfl rfl q)
        refine own_st (T' := s₁) (f' := (mkF m 57 #[.val (.int p0), .val (.ref o1), .val (.int p2)] [(.int p2), (.ref o1)])) ?_ (fun t q => XS.iloadN X0.here hx rfl (hb hby d1_56) rfl q)
        refine own_st (T' := s₁) (f' := (mkF m 60 #[.val (.int p0), .val (.ref o1), .val (.int p2)] [(.int (224 : Int32)), (.int p2), (.ref o1)])) ?_ (fun t q => XS.sipush X0.here hx rfl (hb hby d1_57) q)
        refine own_st (T' := s₁) (f' := (mkF m 61 #[.val (.int p0), .val (.ref o1), .val (.int p2)] [(.int p0), (.int (224 : Int32)), (.int p2), (.ref o1)])) ?_ (fun t q => XS.iloadN X0.here hx rfl (hb hby d1_60) rfl q)
        refine own_st (T' := s₁) (f' := (mkF m 63 #[.val (.int p0), .val (.ref o1), .val (.int p2)] [(.int (12 : Int32)), (.int p0), (.int (224 : Int32)), (.int p2), (.ref o1)])) ?_ (fun t q => XS.bipush X0.here hx rfl (hb hby d1_61) q)
        refine own_st (T' := s₁) (f' := (mkF m 64 #[.val (.int p0), .val (.ref o1), .val (.int p2)] [(.int (p0 >>> ((12 : Int32) &&& 31))), (.int (224 : Int32)), (.int p2), (.ref o1)])) ?_ (fun t q => XS.ishr X0.here hx rfl (hb hby d1_63) rfl q)
        refine own_st (T' := s₁) (f' := (mkF m 65 #[.val (.int p0), .val (.ref o1), .val (.int p2)] [(.int ((224 : Int32) ||| (p0 >>> ((12 : Int32) &&& 31)))), (.int p2), (.ref o1)])) ?_ (fun t q => XS.ior X0.here hx rfl (hb hby d1_64) rfl q)
        refine own_st (T' := s₁) (f' := (mkF m 66 #[.val (.int p0), .val (.ref o1), .val (.int p2)] [(.int (((224 : Int32) ||| (p0 >>> ((12 : Int32) &&& 31))).toInt8.toInt32)), (.int p2), (.ref o1)])) ?_ (fun t q => XS.i2b X0.here hx rfl (hb hby d1_65) rfl q)
        refine own_bast X0 hx hZ (own_A.eq A_o1 e0) (j := p2) (x := (((224 : Int32) ||| (p0 >>> ((12 : Int32) &&& 31))).toInt8.toInt32)) (own_at0 hlo hhi hn) (hb hby d1_66) N0 G_o1 (fun T4 lo4 X4 N4 K4 A4_o1 => ?_)
        have zs4 : n0 ≤ T4.heap.size := Nat.le_trans zs0 K4.1
        show own_W _ _ _ _ _ _ _ T4 (mkF m 67 #[.val (.int p0), .val (.ref o1), .val (.int p2)] [])
        refine own_st (T' := T4) (f' := (mkF m 68 #[.val (.int p0), .val (.ref o1), .val (.int p2)] [(.ref o1)])) ?_ (fun t q => XS.aloadN X4.here hx rfl (hb hby d1_67) rfl rfl q)
        refine own_st (T' := T4) (f' := (mkF m 69 #[.val (.int p0), .val (.ref o1), .val (.int p2)] [(.int p2), (.ref o1)])) ?_ (fun t q => XS.iloadN X4.here hx rfl (hb hby d1_68) rfl q)
        refine own_st (T' := T4) (f' := (mkF m 70 #[.val (.int p0), .val (.ref o1), .val (.int p2)] [(.int (1 : Int32)), (.int p2), (.ref o1)])) ?_ (fun t q => XS.iconst X4.here hx rfl (hb hby d1_69) q)
        refine own_st (T' := T4) (f' := (mkF m 71 #[.val (.int p0), .val (.ref o1), .val (.int p2)] [(.int (p2 + (1 : Int32))), (.ref o1)])) ?_ (fun t q => XS.iadd X4.here hx rfl (hb hby d1_70) rfl q)
        refine own_st (T' := T4) (f' := (mkF m 74 #[.val (.int p0), .val (.ref o1), .val (.int p2)] [(.int (128 : Int32)), (.int (p2 + (1 : Int32))), (.ref o1)])) ?_ (fun t q => XS.sipush X4.here hx rfl (hb hby d1_71) q)
        refine own_st (T' := T4) (f' := (mkF m 75 #[.val (.int p0), .val (.ref o1), .val (.int p2)] [(.int p0), (.int (128 : Int32)), (.int (p2 + (1 : Int32))), (.ref o1)])) ?_ (fun t q => XS.iloadN X4.here hx rfl (hb hby d1_74) rfl q)
        refine own_st (T' := T4) (f' := (mkF m 77 #[.val (.int p0), .val (.ref o1), .val (.int p2)] [(.int (6 : Int32)), (.int p0), (.int (128 : Int32)), (.int (p2 + (1 : Int32))), (.ref o1)])) ?_ (fun t q => XS.bipush X4.here hx rfl (hb hby d1_75) q)
        refine own_st (T' := T4) (f' := (mkF m 78 #[.val (.int p0), .val (.ref o1), .val (.int p2)] [(.int (p0 >>> ((6 : Int32) &&& 31))), (.int (128 : Int32)), (.int (p2 + (1 : Int32))), (.ref o1)])) ?_ (fun t q => XS.ishr X4.here hx rfl (hb hby d1_77) rfl q)
        refine own_st (T' := T4) (f' := (mkF m 80 #[.val (.int p0), .val (.ref o1), .val (.int p2)] [(.int (63 : Int32)), (.int (p0 >>> ((6 : Int32) &&& 31))), (.int (128 : Int32)), (.int (p2 + (1 : Int32))), (.ref o1)])) ?_ (fun t q => XS.bipush X4.here hx rfl (hb hby d1_78) q)
        refine own_st (T' := T4) (f' := (mkF m 81 #[.val (.int p0), .val (.ref o1), .val (.int p2)] [(.int ((p0 >>> ((6 : Int32) &&& 31)) &&& (63 : Int32))), (.int (128 : Int32)), (.int (p2 + (1 : Int32))), (.ref o1)])) ?_ (fun t q => XS.iand X4.here hx rfl (hb hby d1_80) rfl q)
        refine own_st (T' := T4) (f' := (mkF m 82 #[.val (.int p0), .val (.ref o1), .val (.int p2)] [(.int ((128 : Int32) ||| ((p0 >>> ((6 : Int32) &&& 31)) &&& (63 : Int32)))), (.int (p2 + (1 : Int32))), (.ref o1)])) ?_ (fun t q => XS.ior X4.here hx rfl (hb hby d1_81) rfl q)
        refine own_st (T' := T4) (f' := (mkF m 83 #[.val (.int p0), .val (.ref o1), .val (.int p2)] [(.int (((128 : Int32) ||| ((p0 >>> ((6 : Int32) &&& 31)) &&& (63 : Int32))).toInt8.toInt32)), (.int (p2 + (1 : Int32))), (.ref o1)])) ?_ (fun t q => XS.i2b X4.here hx rfl (hb hby d1_82) rfl q)
        refine own_bast X4 hx hZ A4_o1 (j := (p2 + (1 : Int32))) (x := (((128 : Int32) ||| ((p0 >>> ((6 : Int32) &&& 31)) &&& (63 : Int32))).toInt8.toInt32)) (own_at1 hlo hhi hn) (hb hby d1_83) N4 G_o1 (fun T5 lo5 X5 N5 K5 A5_o1 => ?_)
        have zs5 : n0 ≤ T5.heap.size := Nat.le_trans zs4 K5.1
        show own_W _ _ _ _ _ _ _ T5 (mkF m 84 #[.val (.int p0), .val (.ref o1), .val (.int p2)] [])
        refine own_st (T' := T5) (f' := (mkF m 85 #[.val (.int p0), .val (.ref o1), .val (.int p2)] [(.ref o1)])) ?_ (fun t q => XS.aloadN X5.here hx rfl (hb hby d1_84) rfl rfl q)
        refine own_st (T' := T5) (f' := (mkF m 86 #[.val (.int p0), .val (.ref o1), .val (.int p2)] [(.int p2), (.ref o1)])) ?_ (fun t q => XS.iloadN X5.here hx rfl (hb hby d1_85) rfl q)
        refine own_st (T' := T5) (f' := (mkF m 87 #[.val (.int p0), .val (.ref o1), .val (.int p2)] [(.int (2 : Int32)), (.int p2), (.ref o1)])) ?_ (fun t q => XS.iconst X5.here hx rfl (hb hby d1_86) q)
        refine own_st (T' := T5) (f' := (mkF m 88 #[.val (.int p0), .val (.ref o1), .val (.int p2)] [(.int (p2 + (2 : Int32))), (.ref o1)])) ?_ (fun t q => XS.iadd X5.here hx rfl (hb hby d1_87) rfl q)
        refine own_st (T' := T5) (f' := (mkF m 91 #[.val (.int p0), .val (.ref o1), .val (.int p2)] [(.int (128 : Int32)), (.int (p2 + (2 : Int32))), (.ref o1)])) ?_ (fun t q => XS.sipush X5.here hx rfl (hb hby d1_88) q)
        refine own_st (T' := T5) (f' := (mkF m 92 #[.val (.int p0), .val (.ref o1), .val (.int p2)] [(.int p0), (.int (128 : Int32)), (.int (p2 + (2 : Int32))), (.ref o1)])) ?_ (fun t q => XS.iloadN X5.here hx rfl (hb hby d1_91) rfl q)
        refine own_st (T' := T5) (f' := (mkF m 94 #[.val (.int p0), .val (.ref o1), .val (.int p2)] [(.int (63 : Int32)), (.int p0), (.int (128 : Int32)), (.int (p2 + (2 : Int32))), (.ref o1)])) ?_ (fun t q => XS.bipush X5.here hx rfl (hb hby d1_92) q)
        refine own_st (T' := T5) (f' := (mkF m 95 #[.val (.int p0), .val (.ref o1), .val (.int p2)] [(.int (p0 &&& (63 : Int32))), (.int (128 : Int32)), (.int (p2 + (2 : Int32))), (.ref o1)])) ?_ (fun t q => XS.iand X5.here hx rfl (hb hby d1_94) rfl q)
        refine own_st (T' := T5) (f' := (mkF m 96 #[.val (.int p0), .val (.ref o1), .val (.int p2)] [(.int ((128 : Int32) ||| (p0 &&& (63 : Int32)))), (.int (p2 + (2 : Int32))), (.ref o1)])) ?_ (fun t q => XS.ior X5.here hx rfl (hb hby d1_95) rfl q)
        refine own_st (T' := T5) (f' := (mkF m 97 #[.val (.int p0), .val (.ref o1), .val (.int p2)] [(.int (((128 : Int32) ||| (p0 &&& (63 : Int32))).toInt8.toInt32)), (.int (p2 + (2 : Int32))), (.ref o1)])) ?_ (fun t q => XS.i2b X5.here hx rfl (hb hby d1_96) rfl q)
        refine own_bast X5 hx hZ A5_o1 (j := (p2 + (2 : Int32))) (x := (((128 : Int32) ||| (p0 &&& (63 : Int32))).toInt8.toInt32)) (own_at2 hlo hhi hn) (hb hby d1_97) N5 G_o1 (fun T6 lo6 X6 N6 K6 A6_o1 => ?_)
        have zs6 : n0 ≤ T6.heap.size := Nat.le_trans zs5 K6.1
        show own_W _ _ _ _ _ _ _ T6 (mkF m 98 #[.val (.int p0), .val (.ref o1), .val (.int p2)] [])
        refine own_st (T' := T6) (f' := (mkF m 99 #[.val (.int p0), .val (.ref o1), .val (.int p2)] [(.int (3 : Int32))])) ?_ (fun t q => XS.iconst X6.here hx rfl (hb hby d1_98) q)
        exact own_retI X6 hx hlk Bd.returns (hb hby d1_99) (by decide) (by decide) ⟨rfl, N6, A6_o1⟩
      · refine own_st (T' := s₁) (f' := (mkF m 100 #[.val (.int p0), .val (.ref o1), .val (.int p2)] [])) ?_ (fun t q => XS.icmpYes X0.here hx rfl (pc0 := 52) (pc' := 100) rfl (hb hby d1_52) rfl (flt hc52).2.1 (by decide) (by decide) q)
        refine own_st (T' := s₁) (f' := (mkF m 101 #[.val (.int p0), .val (.ref o1), .val (.int p2)] [(.ref o1)])) ?_ (fun t q => XS.aloadN X0.here hx rfl (hb hby d1_100) rfl rfl q)
        refine own_st (T' := s₁) (f' := (mkF m 102 #[.val (.int p0), .val (.ref o1), .val (.int p2)] [(.int p2), (.ref o1)])) ?_ (fun t q => XS.iloadN X0.here hx rfl (hb hby d1_101) rfl q)
        refine own_st (T' := s₁) (f' := (mkF m 105 #[.val (.int p0), .val (.ref o1), .val (.int p2)] [(.int (240 : Int32)), (.int p2), (.ref o1)])) ?_ (fun t q => XS.sipush X0.here hx rfl (hb hby d1_102) q)
        refine own_st (T' := s₁) (f' := (mkF m 106 #[.val (.int p0), .val (.ref o1), .val (.int p2)] [(.int p0), (.int (240 : Int32)), (.int p2), (.ref o1)])) ?_ (fun t q => XS.iloadN X0.here hx rfl (hb hby d1_105) rfl q)
        refine own_st (T' := s₁) (f' := (mkF m 108 #[.val (.int p0), .val (.ref o1), .val (.int p2)] [(.int (18 : Int32)), (.int p0), (.int (240 : Int32)), (.int p2), (.ref o1)])) ?_ (fun t q => XS.bipush X0.here hx rfl (hb hby d1_106) q)
        refine own_st (T' := s₁) (f' := (mkF m 109 #[.val (.int p0), .val (.ref o1), .val (.int p2)] [(.int (p0 >>> ((18 : Int32) &&& 31))), (.int (240 : Int32)), (.int p2), (.ref o1)])) ?_ (fun t q => XS.ishr X0.here hx rfl (hb hby d1_108) rfl q)
        refine own_st (T' := s₁) (f' := (mkF m 110 #[.val (.int p0), .val (.ref o1), .val (.int p2)] [(.int ((240 : Int32) ||| (p0 >>> ((18 : Int32) &&& 31)))), (.int p2), (.ref o1)])) ?_ (fun t q => XS.ior X0.here hx rfl (hb hby d1_109) rfl q)
        refine own_st (T' := s₁) (f' := (mkF m 111 #[.val (.int p0), .val (.ref o1), .val (.int p2)] [(.int (((240 : Int32) ||| (p0 >>> ((18 : Int32) &&& 31))).toInt8.toInt32)), (.int p2), (.ref o1)])) ?_ (fun t q => XS.i2b X0.here hx rfl (hb hby d1_110) rfl q)
        refine own_bast X0 hx hZ (own_A.eq A_o1 e0) (j := p2) (x := (((240 : Int32) ||| (p0 >>> ((18 : Int32) &&& 31))).toInt8.toInt32)) (own_at0 hlo hhi hn) (hb hby d1_111) N0 G_o1 (fun T7 lo7 X7 N7 K7 A7_o1 => ?_)
        have zs7 : n0 ≤ T7.heap.size := Nat.le_trans zs0 K7.1
        show own_W _ _ _ _ _ _ _ T7 (mkF m 112 #[.val (.int p0), .val (.ref o1), .val (.int p2)] [])
        refine own_st (T' := T7) (f' := (mkF m 113 #[.val (.int p0), .val (.ref o1), .val (.int p2)] [(.ref o1)])) ?_ (fun t q => XS.aloadN X7.here hx rfl (hb hby d1_112) rfl rfl q)
        refine own_st (T' := T7) (f' := (mkF m 114 #[.val (.int p0), .val (.ref o1), .val (.int p2)] [(.int p2), (.ref o1)])) ?_ (fun t q => XS.iloadN X7.here hx rfl (hb hby d1_113) rfl q)
        refine own_st (T' := T7) (f' := (mkF m 115 #[.val (.int p0), .val (.ref o1), .val (.int p2)] [(.int (1 : Int32)), (.int p2), (.ref o1)])) ?_ (fun t q => XS.iconst X7.here hx rfl (hb hby d1_114) q)
        refine own_st (T' := T7) (f' := (mkF m 116 #[.val (.int p0), .val (.ref o1), .val (.int p2)] [(.int (p2 + (1 : Int32))), (.ref o1)])) ?_ (fun t q => XS.iadd X7.here hx rfl (hb hby d1_115) rfl q)
        refine own_st (T' := T7) (f' := (mkF m 119 #[.val (.int p0), .val (.ref o1), .val (.int p2)] [(.int (128 : Int32)), (.int (p2 + (1 : Int32))), (.ref o1)])) ?_ (fun t q => XS.sipush X7.here hx rfl (hb hby d1_116) q)
        refine own_st (T' := T7) (f' := (mkF m 120 #[.val (.int p0), .val (.ref o1), .val (.int p2)] [(.int p0), (.int (128 : Int32)), (.int (p2 + (1 : Int32))), (.ref o1)])) ?_ (fun t q => XS.iloadN X7.here hx rfl (hb hby d1_119) rfl q)
        refine own_st (T' := T7) (f' := (mkF m 122 #[.val (.int p0), .val (.ref o1), .val (.int p2)] [(.int (12 : Int32)), (.int p0), (.int (128 : Int32)), (.int (p2 + (1 : Int32))), (.ref o1)])) ?_ (fun t q => XS.bipush X7.here hx rfl (hb hby d1_120) q)
        refine own_st (T' := T7) (f' := (mkF m 123 #[.val (.int p0), .val (.ref o1), .val (.int p2)] [(.int (p0 >>> ((12 : Int32) &&& 31))), (.int (128 : Int32)), (.int (p2 + (1 : Int32))), (.ref o1)])) ?_ (fun t q => XS.ishr X7.here hx rfl (hb hby d1_122) rfl q)
        refine own_st (T' := T7) (f' := (mkF m 125 #[.val (.int p0), .val (.ref o1), .val (.int p2)] [(.int (63 : Int32)), (.int (p0 >>> ((12 : Int32) &&& 31))), (.int (128 : Int32)), (.int (p2 + (1 : Int32))), (.ref o1)])) ?_ (fun t q => XS.bipush X7.here hx rfl (hb hby d1_123) q)
        refine own_st (T' := T7) (f' := (mkF m 126 #[.val (.int p0), .val (.ref o1), .val (.int p2)] [(.int ((p0 >>> ((12 : Int32) &&& 31)) &&& (63 : Int32))), (.int (128 : Int32)), (.int (p2 + (1 : Int32))), (.ref o1)])) ?_ (fun t q => XS.iand X7.here hx rfl (hb hby d1_125) rfl q)
        refine own_st (T' := T7) (f' := (mkF m 127 #[.val (.int p0), .val (.ref o1), .val (.int p2)] [(.int ((128 : Int32) ||| ((p0 >>> ((12 : Int32) &&& 31)) &&& (63 : Int32)))), (.int (p2 + (1 : Int32))), (.ref o1)])) ?_ (fun t q => XS.ior X7.here hx rfl (hb hby d1_126) rfl q)
        refine own_st (T' := T7) (f' := (mkF m 128 #[.val (.int p0), .val (.ref o1), .val (.int p2)] [(.int (((128 : Int32) ||| ((p0 >>> ((12 : Int32) &&& 31)) &&& (63 : Int32))).toInt8.toInt32)), (.int (p2 + (1 : Int32))), (.ref o1)])) ?_ (fun t q => XS.i2b X7.here hx rfl (hb hby d1_127) rfl q)
        refine own_bast X7 hx hZ A7_o1 (j := (p2 + (1 : Int32))) (x := (((128 : Int32) ||| ((p0 >>> ((12 : Int32) &&& 31)) &&& (63 : Int32))).toInt8.toInt32)) (own_at1 hlo hhi hn) (hb hby d1_128) N7 G_o1 (fun T8 lo8 X8 N8 K8 A8_o1 => ?_)
        have zs8 : n0 ≤ T8.heap.size := Nat.le_trans zs7 K8.1
        show own_W _ _ _ _ _ _ _ T8 (mkF m 129 #[.val (.int p0), .val (.ref o1), .val (.int p2)] [])
        refine own_st (T' := T8) (f' := (mkF m 130 #[.val (.int p0), .val (.ref o1), .val (.int p2)] [(.ref o1)])) ?_ (fun t q => XS.aloadN X8.here hx rfl (hb hby d1_129) rfl rfl q)
        refine own_st (T' := T8) (f' := (mkF m 131 #[.val (.int p0), .val (.ref o1), .val (.int p2)] [(.int p2), (.ref o1)])) ?_ (fun t q => XS.iloadN X8.here hx rfl (hb hby d1_130) rfl q)
        refine own_st (T' := T8) (f' := (mkF m 132 #[.val (.int p0), .val (.ref o1), .val (.int p2)] [(.int (2 : Int32)), (.int p2), (.ref o1)])) ?_ (fun t q => XS.iconst X8.here hx rfl (hb hby d1_131) q)
        refine own_st (T' := T8) (f' := (mkF m 133 #[.val (.int p0), .val (.ref o1), .val (.int p2)] [(.int (p2 + (2 : Int32))), (.ref o1)])) ?_ (fun t q => XS.iadd X8.here hx rfl (hb hby d1_132) rfl q)
        refine own_st (T' := T8) (f' := (mkF m 136 #[.val (.int p0), .val (.ref o1), .val (.int p2)] [(.int (128 : Int32)), (.int (p2 + (2 : Int32))), (.ref o1)])) ?_ (fun t q => XS.sipush X8.here hx rfl (hb hby d1_133) q)
        refine own_st (T' := T8) (f' := (mkF m 137 #[.val (.int p0), .val (.ref o1), .val (.int p2)] [(.int p0), (.int (128 : Int32)), (.int (p2 + (2 : Int32))), (.ref o1)])) ?_ (fun t q => XS.iloadN X8.here hx rfl (hb hby d1_136) rfl q)
        refine own_st (T' := T8) (f' := (mkF m 139 #[.val (.int p0), .val (.ref o1), .val (.int p2)] [(.int (6 : Int32)), (.int p0), (.int (128 : Int32)), (.int (p2 + (2 : Int32))), (.ref o1)])) ?_ (fun t q => XS.bipush X8.here hx rfl (hb hby d1_137) q)
        refine own_st (T' := T8) (f' := (mkF m 140 #[.val (.int p0), .val (.ref o1), .val (.int p2)] [(.int (p0 >>> ((6 : Int32) &&& 31))), (.int (128 : Int32)), (.int (p2 + (2 : Int32))), (.ref o1)])) ?_ (fun t q => XS.ishr X8.here hx rfl (hb hby d1_139) rfl q)
        refine own_st (T' := T8) (f' := (mkF m 142 #[.val (.int p0), .val (.ref o1), .val (.int p2)] [(.int (63 : Int32)), (.int (p0 >>> ((6 : Int32) &&& 31))), (.int (128 : Int32)), (.int (p2 + (2 : Int32))), (.ref o1)])) ?_ (fun t q => XS.bipush X8.here hx rfl (hb hby d1_140) q)
        refine own_st (T' := T8) (f' := (mkF m 143 #[.val (.int p0), .val (.ref o1), .val (.int p2)] [(.int ((p0 >>> ((6 : Int32) &&& 31)) &&& (63 : Int32))), (.int (128 : Int32)), (.int (p2 + (2 : Int32))), (.ref o1)])) ?_ (fun t q => XS.iand X8.here hx rfl (hb hby d1_142) rfl q)
        refine own_st (T' := T8) (f' := (mkF m 144 #[.val (.int p0), .val (.ref o1), .val (.int p2)] [(.int ((128 : Int32) ||| ((p0 >>> ((6 : Int32) &&& 31)) &&& (63 : Int32)))), (.int (p2 + (2 : Int32))), (.ref o1)])) ?_ (fun t q => XS.ior X8.here hx rfl (hb hby d1_143) rfl q)
        refine own_st (T' := T8) (f' := (mkF m 145 #[.val (.int p0), .val (.ref o1), .val (.int p2)] [(.int (((128 : Int32) ||| ((p0 >>> ((6 : Int32) &&& 31)) &&& (63 : Int32))).toInt8.toInt32)), (.int (p2 + (2 : Int32))), (.ref o1)])) ?_ (fun t q => XS.i2b X8.here hx rfl (hb hby d1_144) rfl q)
        refine own_bast X8 hx hZ A8_o1 (j := (p2 + (2 : Int32))) (x := (((128 : Int32) ||| ((p0 >>> ((6 : Int32) &&& 31)) &&& (63 : Int32))).toInt8.toInt32)) (own_at2 hlo hhi hn) (hb hby d1_145) N8 G_o1 (fun T9 lo9 X9 N9 K9 A9_o1 => ?_)
        have zs9 : n0 ≤ T9.heap.size := Nat.le_trans zs8 K9.1
        show own_W _ _ _ _ _ _ _ T9 (mkF m 146 #[.val (.int p0), .val (.ref o1), .val (.int p2)] [])
        refine own_st (T' := T9) (f' := (mkF m 147 #[.val (.int p0), .val (.ref o1), .val (.int p2)] [(.ref o1)])) ?_ (fun t q => XS.aloadN X9.here hx rfl (hb hby d1_146) rfl rfl q)
        refine own_st (T' := T9) (f' := (mkF m 148 #[.val (.int p0), .val (.ref o1), .val (.int p2)] [(.int p2), (.ref o1)])) ?_ (fun t q => XS.iloadN X9.here hx rfl (hb hby d1_147) rfl q)
        refine own_st (T' := T9) (f' := (mkF m 149 #[.val (.int p0), .val (.ref o1), .val (.int p2)] [(.int (3 : Int32)), (.int p2), (.ref o1)])) ?_ (fun t q => XS.iconst X9.here hx rfl (hb hby d1_148) q)
        refine own_st (T' := T9) (f' := (mkF m 150 #[.val (.int p0), .val (.ref o1), .val (.int p2)] [(.int (p2 + (3 : Int32))), (.ref o1)])) ?_ (fun t q => XS.iadd X9.here hx rfl (hb hby d1_149) rfl q)
        refine own_st (T' := T9) (f' := (mkF m 153 #[.val (.int p0), .val (.ref o1), .val (.int p2)] [(.int (128 : Int32)), (.int (p2 + (3 : Int32))), (.ref o1)])) ?_ (fun t q => XS.sipush X9.here hx rfl (hb hby d1_150) q)
        refine own_st (T' := T9) (f' := (mkF m 154 #[.val (.int p0), .val (.ref o1), .val (.int p2)] [(.int p0), (.int (128 : Int32)), (.int (p2 + (3 : Int32))), (.ref o1)])) ?_ (fun t q => XS.iloadN X9.here hx rfl (hb hby d1_153) rfl q)
        refine own_st (T' := T9) (f' := (mkF m 156 #[.val (.int p0), .val (.ref o1), .val (.int p2)] [(.int (63 : Int32)), (.int p0), (.int (128 : Int32)), (.int (p2 + (3 : Int32))), (.ref o1)])) ?_ (fun t q => XS.bipush X9.here hx rfl (hb hby d1_154) q)
        refine own_st (T' := T9) (f' := (mkF m 157 #[.val (.int p0), .val (.ref o1), .val (.int p2)] [(.int (p0 &&& (63 : Int32))), (.int (128 : Int32)), (.int (p2 + (3 : Int32))), (.ref o1)])) ?_ (fun t q => XS.iand X9.here hx rfl (hb hby d1_156) rfl q)
        refine own_st (T' := T9) (f' := (mkF m 158 #[.val (.int p0), .val (.ref o1), .val (.int p2)] [(.int ((128 : Int32) ||| (p0 &&& (63 : Int32)))), (.int (p2 + (3 : Int32))), (.ref o1)])) ?_ (fun t q => XS.ior X9.here hx rfl (hb hby d1_157) rfl q)
        refine own_st (T' := T9) (f' := (mkF m 159 #[.val (.int p0), .val (.ref o1), .val (.int p2)] [(.int (((128 : Int32) ||| (p0 &&& (63 : Int32))).toInt8.toInt32)), (.int (p2 + (3 : Int32))), (.ref o1)])) ?_ (fun t q => XS.i2b X9.here hx rfl (hb hby d1_158) rfl q)
        refine own_bast X9 hx hZ A9_o1 (j := (p2 + (3 : Int32))) (x := (((128 : Int32) ||| (p0 &&& (63 : Int32))).toInt8.toInt32)) (own_at3 hlo hhi hn) (hb hby d1_159) N9 G_o1 (fun T10 lo10 X10 N10 K10 A10_o1 => ?_)
        have zs10 : n0 ≤ T10.heap.size := Nat.le_trans zs9 K10.1
        show own_W _ _ _ _ _ _ _ T10 (mkF m 160 #[.val (.int p0), .val (.ref o1), .val (.int p2)] [])
        refine own_st (T' := T10) (f' := (mkF m 161 #[.val (.int p0), .val (.ref o1), .val (.int p2)] [(.int (4 : Int32))])) ?_ (fun t q => XS.iconst X10.here hx rfl (hb hby d1_160) q)
        exact own_retI X10 hx hlk Bd.returns (hb hby d1_161) (by decide) (by decide) ⟨rfl, N10, A10_o1⟩
theorem d2_0 : decode method_3_code 0 = .ok (.iload_n 1, 1) := by decide +kernel
theorem d2_1 : decode method_3_code 1 = .ok (.iload_n 2, 1) := by decide +kernel
theorem d2_2 : decode method_3_code 2 = .ok (.if_icmp .le 23, 3) := by decide +kernel
theorem d2_5 : decode method_3_code 5 = .ok (.iload_n 1, 1) := by decide +kernel
theorem d2_6 : decode method_3_code 6 = .ok (.iload_n 2, 1) := by decide +kernel
theorem d2_7 : decode method_3_code 7 = .ok (.iload_n 3, 1) := by decide +kernel
theorem d2_8 : decode method_3_code 8 = .ok (.iadd, 1) := by decide +kernel
theorem d2_9 : decode method_3_code 9 = .ok (.if_icmp .ge 16, 3) := by decide +kernel
theorem d2_12 : decode method_3_code 12 = .ok (.aload_n 0, 1) := by decide +kernel
theorem d2_13 : decode method_3_code 13 = .ok (.iload_n 1, 1) := by decide +kernel
theorem d2_14 : decode method_3_code 14 = .ok (.baload, 1) := by decide +kernel
theorem d2_15 : decode method_3_code 15 = .ok (.sipush 192, 3) := by decide +kernel
theorem d2_18 : decode method_3_code 18 = .ok (.iand, 1) := by decide +kernel
theorem d2_19 : decode method_3_code 19 = .ok (.sipush 128, 3) := by decide +kernel
theorem d2_22 : decode method_3_code 22 = .ok (.if_icmp .ne 7, 3) := by decide +kernel
theorem d2_25 : decode method_3_code 25 = .ok (.iconst 1, 1) := by decide +kernel
theorem d2_26 : decode method_3_code 26 = .ok (.goto 4, 3) := by decide +kernel
theorem d2_29 : decode method_3_code 29 = .ok (.iconst 0, 1) := by decide +kernel
theorem d2_30 : decode method_3_code 30 = .ok (.ireturn, 1) := by decide +kernel
theorem pn_2 : plainFor (⟨"com/example/holyrood/holyrood/Utf8EncodePinLaw", "continues", "([BIII)Z"⟩ : MethodName) = true := by first | exact plainFor_of_name (by first | (simp [plainName, overriddenIn]; done) | decide +kernel) | decide +kernel
theorem ef_2 (m : MethodId) (x0 : Addr) (x1 : Int32) (x2 : Int32) (x3 : Int32) : entryFrame m #[(.ref x0), (.int x1), (.int x2), (.int x3)] 4 = mkF m 0 #[.val (.ref x0), .val (.int x1), .val (.int x2), .val (.int x3)] [] := by first | (simp [entryFrame, mkF, argsToLocals, Value.category, maxLocals]; done) | rfl
def f2 (p1 : Int32) (p2 : Int32) (p3 : Int32) (F : Nat → Int32) : Int32 := (if p2 < p1 then (if p1 < (p2 + p3) then (if ((F p1.toNatClampNeg) &&& (192 : Int32)) = (128 : Int32) then (1 : Int32) else (0 : Int32)) else (1 : Int32)) else (1 : Int32))
set_option maxRecDepth 65536 in
set_option maxHeartbeats 40000000 in
theorem rm2 (l : Launch) (Z : State) (a0 : Array Value) (hw : ∀ d ∈ tables_1, d.before a0 Z = true) (ws : List Jvm.Cond) (o0 : Addr) (p1 : Int32) (p2 : Int32) (p3 : Int32) (n : Nat) (F : Nat → Int32) (h0 : Heap) (n0 : Nat) (A_o0 : own_A Z h0 o0 .byte n F) (hi : own_in p1 n) :
    MetFree l (⟨"com/example/holyrood/holyrood/Utf8EncodePinLaw", "continues", "([BIII)Z"⟩ : MethodName) (head1 (Jvm.Cond.code (⟨"com/example/holyrood/holyrood/Utf8EncodePinLaw", "continues", "([BIII)Z"⟩ : MethodName) method_3_code 4 (some .boolean) :: ws) ({ frames := 0, cells := 0, slots := 0, locals := 0 } : Room)) (fun a U => a = #[(.ref o0), (.int p1), (.int p2), (.int p3)] ∧ Z.Warmed39 U.vm ∧ U.heap = h0) (fun _ _ _ _ _ => True) (fun _ U o U' => ∃ v L, o = .returned v ∧ own_GI n0 (fun h => h = h0) (f2 p1 p2 p3 F) v U'.heap L ∧ FrameEnd U o U' L ({ frames := 0, cells := 0, slots := 0, locals := 0 } : Room).cells ({ frames := 0, cells := 0, slots := 0, locals := 0 } : Room).slots) := by
  refine MetFree.of_bodySF pn_2 hisR ?_
  intro p e s m args below meth c s₁ Bd hml0 hP hK
  obtain ⟨rfl, hZ, hh⟩ := hP
  have hx := Bd.exec
  have hby := Bd.bytes
  have hml : c.maxLocals = 4 := hml0
  have hown : s.vm.findClass "com/example/holyrood/holyrood/Utf8EncodePinLaw" = some m.cls := findClass_of_methodNamed Bd.named
  have hlk : meth.locks = false := BodyLoose.notSynchronized Bd
  have X0 : Stand p l e ({ frames := 0, cells := 0, slots := 0, locals := 0 } : Room) s m #[(.ref o0), (.int p1), (.int p2), (.int p3)] below meth c s₁ [] 0 0 := Stand.of_body Bd
  have e0 : s₁.heap = h0 := by rw [← hh, Bd.state]; rfl
  have N0 := Fr.nil n0
  show own_W p e below s 0 0 (own_GI n0 (fun h => h = h0) (f2 p1 p2 p3 F)) s₁ (entryFrame m #[(.ref o0), (.int p1), (.int p2), (.int p3)] 4)
  refine own_to (ef_2 m o0 p1 p2 p3) ?_
  unfold f2
  refine own_st (T' := s₁) (f' := (mkF m 1 #[.val (.ref o0), .val (.int p1), .val (.int p2), .val (.int p3)] [(.int p1)])) ?_ (fun t q => XS.iloadN X0.here hx rfl (hb hby d2_0) rfl q)
  refine own_st (T' := s₁) (f' := (mkF m 2 #[.val (.ref o0), .val (.int p1), .val (.int p2), .val (.int p3)] [(.int p2), (.int p1)])) ?_ (fun t q => XS.iloadN X0.here hx rfl (hb hby d2_1) rfl q)
  refine own_ite (fun hc2 => ?_) (fun hc2 => ?_)
  · refine own_st (T' := s₁) (f' := (mkF m 5 #[.val (.ref o0), .val (.int p1), .val (.int p2), .val (.int p3)] [])) ?_ (fun t q => XS.icmpNo X0.here hx rfl (hb hby d2_2) rfl (tlt hc2).2.2.2 q)
    refine own_st (T' := s₁) (f' := (mkF m 6 #[.val (.ref o0), .val (.int p1), .val (.int p2), .val (.int p3)] [(.int p1)])) ?_ (fun t q => XS.iloadN X0.here hx rfl (hb hby d2_5) rfl q)
    refine own_st (T' := s₁) (f' := (mkF m 7 #[.val (.ref o0), .val (.int p1), .val (.int p2), .val (.int p3)] [(.int p2), (.int p1)])) ?_ (fun t q => XS.iloadN X0.here hx rfl (hb hby d2_6) rfl q)
    refine own_st (T' := s₁) (f' := (mkF m 8 #[.val (.ref o0), .val (.int p1), .val (.int p2), .val (.int p3)] [(.int p3), (.int p2), (.int p1)])) ?_ (fun t q => XS.iloadN X0.here hx rfl (hb hby d2_7) rfl q)
    refine own_st (T' := s₁) (f' := (mkF m 9 #[.val (.ref o0), .val (.int p1), .val (.int p2), .val (.int p3)] [(.int (p2 + p3)), (.int p1)])) ?_ (fun t q => XS.iadd X0.here hx rfl (hb hby d2_8) rfl q)
    refine own_ite (fun hc9 => ?_) (fun hc9 => ?_)
    · refine own_st (T' := s₁) (f' := (mkF m 12 #[.val (.ref o0), .val (.int p1), .val (.int p2), .val (.int p3)] [])) ?_ (fun t q => XS.icmpNo X0.here hx rfl (hb hby d2_9) rfl (tlt hc9).2.1 q)
      refine own_st (T' := s₁) (f' := (mkF m 13 #[.val (.ref o0), .val (.int p1), .val (.int p2), .val (.int p3)] [(.ref o0)])) ?_ (fun t q => XS.aloadN X0.here hx rfl (hb hby d2_12) rfl rfl q)
      refine own_st (T' := s₁) (f' := (mkF m 14 #[.val (.ref o0), .val (.int p1), .val (.int p2), .val (.int p3)] [(.int p1), (.ref o0)])) ?_ (fun t q => XS.iloadN X0.here hx rfl (hb hby d2_13) rfl q)
      refine own_bald X0 hx hZ (own_A.eq A_o0 e0) (j := p1) hi (hb hby d2_14) ?_
      show own_W _ _ _ _ _ _ _ s₁ (mkF m 15 #[.val (.ref o0), .val (.int p1), .val (.int p2), .val (.int p3)] [(.int (F p1.toNatClampNeg))])
      refine own_st (T' := s₁) (f' := (mkF m 18 #[.val (.ref o0), .val (.int p1), .val (.int p2), .val (.int p3)] [(.int (192 : Int32)), (.int (F p1.toNatClampNeg))])) ?_ (fun t q => XS.sipush X0.here hx rfl (hb hby d2_15) q)
      refine own_st (T' := s₁) (f' := (mkF m 19 #[.val (.ref o0), .val (.int p1), .val (.int p2), .val (.int p3)] [(.int ((F p1.toNatClampNeg) &&& (192 : Int32)))])) ?_ (fun t q => XS.iand X0.here hx rfl (hb hby d2_18) rfl q)
      refine own_st (T' := s₁) (f' := (mkF m 22 #[.val (.ref o0), .val (.int p1), .val (.int p2), .val (.int p3)] [(.int (128 : Int32)), (.int ((F p1.toNatClampNeg) &&& (192 : Int32)))])) ?_ (fun t q => XS.sipush X0.here hx rfl (hb hby d2_19) q)
      refine own_ite (fun hc22 => ?_) (fun hc22 => ?_)
      · refine own_st (T' := s₁) (f' := (mkF m 25 #[.val (.ref o0), .val (.int p1), .val (.int p2), .val (.int p3)] [])) ?_ (fun t q => XS.icmpNo X0.here hx rfl (hb hby d2_22) rfl (teq hc22).2 q)
        refine own_st (T' := s₁) (f' := (mkF m 26 #[.val (.ref o0), .val (.int p1), .val (.int p2), .val (.int p3)] [(.int (1 : Int32))])) ?_ (fun t q => XS.iconst X0.here hx rfl (hb hby d2_25) q)
        refine own_st (T' := s₁) (f' := (mkF m 30 #[.val (.ref o0), .val (.int p1), .val (.int p2), .val (.int p3)] [(.int (1 : Int32))])) ?_ (fun t q => XS.goto X0.here hx rfl (pc0 := 26) (pc' := 30) rfl (hb hby d2_26) (by decide) (by decide) q)
        exact own_retN X0 hx hlk (t := .boolean) Bd.returns (by simp) (hb hby d2_30) (by decide) (by decide) ⟨rfl, N0, e0⟩
      · refine own_st (T' := s₁) (f' := (mkF m 29 #[.val (.ref o0), .val (.int p1), .val (.int p2), .val (.int p3)] [])) ?_ (fun t q => XS.icmpYes X0.here hx rfl (pc0 := 22) (pc' := 29) rfl (hb hby d2_22) rfl (feq hc22).2 (by decide) (by decide) q)
        refine own_st (T' := s₁) (f' := (mkF m 30 #[.val (.ref o0), .val (.int p1), .val (.int p2), .val (.int p3)] [(.int (0 : Int32))])) ?_ (fun t q => XS.iconst X0.here hx rfl (hb hby d2_29) q)
        exact own_retN X0 hx hlk (t := .boolean) Bd.returns (by simp) (hb hby d2_30) (by decide) (by decide) ⟨rfl, N0, e0⟩
    · refine own_st (T' := s₁) (f' := (mkF m 25 #[.val (.ref o0), .val (.int p1), .val (.int p2), .val (.int p3)] [])) ?_ (fun t q => XS.icmpYes X0.here hx rfl (pc0 := 9) (pc' := 25) rfl (hb hby d2_9) rfl (flt hc9).2.1 (by decide) (by decide) q)
      refine own_st (T' := s₁) (f' := (mkF m 26 #[.val (.ref o0), .val (.int p1), .val (.int p2), .val (.int p3)] [(.int (1 : Int32))])) ?_ (fun t q => XS.iconst X0.here hx rfl (hb hby d2_25) q)
      refine own_st (T' := s₁) (f' := (mkF m 30 #[.val (.ref o0), .val (.int p1), .val (.int p2), .val (.int p3)] [(.int (1 : Int32))])) ?_ (fun t q => XS.goto X0.here hx rfl (pc0 := 26) (pc' := 30) rfl (hb hby d2_26) (by decide) (by decide) q)
      exact own_retN X0 hx hlk (t := .boolean) Bd.returns (by simp) (hb hby d2_30) (by decide) (by decide) ⟨rfl, N0, e0⟩
  · refine own_st (T' := s₁) (f' := (mkF m 25 #[.val (.ref o0), .val (.int p1), .val (.int p2), .val (.int p3)] [])) ?_ (fun t q => XS.icmpYes X0.here hx rfl (pc0 := 2) (pc' := 25) rfl (hb hby d2_2) rfl (flt hc2).2.2.2 (by decide) (by decide) q)
    refine own_st (T' := s₁) (f' := (mkF m 26 #[.val (.ref o0), .val (.int p1), .val (.int p2), .val (.int p3)] [(.int (1 : Int32))])) ?_ (fun t q => XS.iconst X0.here hx rfl (hb hby d2_25) q)
    refine own_st (T' := s₁) (f' := (mkF m 30 #[.val (.ref o0), .val (.int p1), .val (.int p2), .val (.int p3)] [(.int (1 : Int32))])) ?_ (fun t q => XS.goto X0.here hx rfl (pc0 := 26) (pc' := 30) rfl (hb hby d2_26) (by decide) (by decide) q)
    exact own_retN X0 hx hlk (t := .boolean) Bd.returns (by simp) (hb hby d2_30) (by decide) (by decide) ⟨rfl, N0, e0⟩
theorem d3_0 : decode method_2_code 0 = .ok (.iload_n 1, 1) := by decide +kernel
theorem d3_1 : decode method_2_code 1 = .ok (.iload_n 2, 1) := by decide +kernel
theorem d3_2 : decode method_2_code 2 = .ok (.if_icmp .lt 10, 3) := by decide +kernel
theorem d3_5 : decode method_2_code 5 = .ok (.iload_n 1, 1) := by decide +kernel
theorem d3_6 : decode method_2_code 6 = .ok (.iload_n 2, 1) := by decide +kernel
theorem d3_7 : decode method_2_code 7 = .ok (.iload_n 3, 1) := by decide +kernel
theorem d3_8 : decode method_2_code 8 = .ok (.iadd, 1) := by decide +kernel
theorem d3_9 : decode method_2_code 9 = .ok (.if_icmp .lt 11, 3) := by decide +kernel
theorem d3_12 : decode method_2_code 12 = .ok (.aload_n 0, 1) := by decide +kernel
theorem d3_13 : decode method_2_code 13 = .ok (.iload_n 1, 1) := by decide +kernel
theorem d3_14 : decode method_2_code 14 = .ok (.baload, 1) := by decide +kernel
theorem d3_15 : decode method_2_code 15 = .ok (.iload 4, 2) := by decide +kernel
theorem d3_17 : decode method_2_code 17 = .ok (.if_icmp .ne 7, 3) := by decide +kernel
theorem d3_20 : decode method_2_code 20 = .ok (.iconst 1, 1) := by decide +kernel
theorem d3_21 : decode method_2_code 21 = .ok (.goto 4, 3) := by decide +kernel
theorem d3_24 : decode method_2_code 24 = .ok (.iconst 0, 1) := by decide +kernel
theorem d3_25 : decode method_2_code 25 = .ok (.ireturn, 1) := by decide +kernel
theorem pn_3 : plainFor (⟨"com/example/holyrood/holyrood/Utf8EncodePinLaw", "untouched", "([BIIIB)Z"⟩ : MethodName) = true := by first | exact plainFor_of_name (by first | (simp [plainName, overriddenIn]; done) | decide +kernel) | decide +kernel
theorem ef_3 (m : MethodId) (x0 : Addr) (x1 : Int32) (x2 : Int32) (x3 : Int32) (x4 : Int32) : entryFrame m #[(.ref x0), (.int x1), (.int x2), (.int x3), (.int x4)] 5 = mkF m 0 #[.val (.ref x0), .val (.int x1), .val (.int x2), .val (.int x3), .val (.int x4)] [] := by first | (simp [entryFrame, mkF, argsToLocals, Value.category, maxLocals]; done) | rfl
def f3_12 (p1 : Int32) (p2 : Int32) (p3 : Int32) (p4 : Int32) (F : Nat → Int32) : Int32 := (if (F p1.toNatClampNeg) = p4 then (1 : Int32) else (0 : Int32))
def f3 (p1 : Int32) (p2 : Int32) (p3 : Int32) (p4 : Int32) (F : Nat → Int32) : Int32 := (if p1 < p2 then (f3_12 p1 p2 p3 p4 F) else (if p1 < (p2 + p3) then (1 : Int32) else (f3_12 p1 p2 p3 p4 F)))
set_option maxRecDepth 65536 in
set_option maxHeartbeats 40000000 in
theorem rm3 (l : Launch) (Z : State) (a0 : Array Value) (hw : ∀ d ∈ tables_1, d.before a0 Z = true) (ws : List Jvm.Cond) (o0 : Addr) (p1 : Int32) (p2 : Int32) (p3 : Int32) (p4 : Int32) (n : Nat) (F : Nat → Int32) (h0 : Heap) (n0 : Nat) (A_o0 : own_A Z h0 o0 .byte n F) (hi : own_in p1 n) :
    MetFree l (⟨"com/example/holyrood/holyrood/Utf8EncodePinLaw", "untouched", "([BIIIB)Z"⟩ : MethodName) (head1 (Jvm.Cond.code (⟨"com/example/holyrood/holyrood/Utf8EncodePinLaw", "untouched", "([BIIIB)Z"⟩ : MethodName) method_2_code 5 (some .boolean) :: ws) ({ frames := 0, cells := 0, slots := 0, locals := 0 } : Room)) (fun a U => a = #[(.ref o0), (.int p1), (.int p2), (.int p3), (.int p4)] ∧ Z.Warmed39 U.vm ∧ U.heap = h0) (fun _ _ _ _ _ => True) (fun _ U o U' => ∃ v L, o = .returned v ∧ own_GI n0 (fun h => h = h0) (f3 p1 p2 p3 p4 F) v U'.heap L ∧ FrameEnd U o U' L ({ frames := 0, cells := 0, slots := 0, locals := 0 } : Room).cells ({ frames := 0, cells := 0, slots := 0, locals := 0 } : Room).slots) := by
  refine MetFree.of_bodySF pn_3 hisR ?_
  intro p e s m args below meth c s₁ Bd hml0 hP hK
  obtain ⟨rfl, hZ, hh⟩ := hP
  have hx := Bd.exec
  have hby := Bd.bytes
  have hml : c.maxLocals = 5 := hml0
  have hown : s.vm.findClass "com/example/holyrood/holyrood/Utf8EncodePinLaw" = some m.cls := findClass_of_methodNamed Bd.named
  have hlk : meth.locks = false := BodyLoose.notSynchronized Bd
  have X0 : Stand p l e ({ frames := 0, cells := 0, slots := 0, locals := 0 } : Room) s m #[(.ref o0), (.int p1), (.int p2), (.int p3), (.int p4)] below meth c s₁ [] 0 0 := Stand.of_body Bd
  have e0 : s₁.heap = h0 := by rw [← hh, Bd.state]; rfl
  have N0 := Fr.nil n0
  have B12 : ∀ (T : State) (locs : List Loc) (X : Stand p l e ({ frames := 0, cells := 0, slots := 0, locals := 0 } : Room) s m #[(.ref o0), (.int p1), (.int p2), (.int p3), (.int p4)] below meth c T locs 0 0) (N : Fr n0 locs) (eh : T.heap = h0), own_W p e below s 0 0 (own_GI n0 (fun h => h = h0) (f3_12 p1 p2 p3 p4 F)) T (mkF m 12 #[.val (.ref o0), .val (.int p1), .val (.int p2), .val (.int p3), .val (.int p4)] []) := by
    intro T locs X N eh
    unfold f3_12
    refine own_st (T' := T) (f' := (mkF m 13 #[.val (.ref o0), .val (.int p1), .val (.int p2), .val (.int p3), .val (.int p4)] [(.ref o0)])) ?_ (fun t q => XS.aloadN X.here hx rfl (hb hby d3_12) rfl rfl q)
    refine own_st (T' := T) (f' := (mkF m 14 #[.val (.ref o0), .val (.int p1), .val (.int p2), .val (.int p3), .val (.int p4)] [(.int p1), (.ref o0)])) ?_ (fun t q => XS.iloadN X.here hx rfl (hb hby d3_13) rfl q)
    refine own_bald X hx hZ (own_A.eq A_o0 eh) (j := p1) hi (hb hby d3_14) ?_
    show own_W _ _ _ _ _ _ _ T (mkF m 15 #[.val (.ref o0), .val (.int p1), .val (.int p2), .val (.int p3), .val (.int p4)] [(.int (F p1.toNatClampNeg))])
    refine own_st (T' := T) (f' := (mkF m 17 #[.val (.ref o0), .val (.int p1), .val (.int p2), .val (.int p3), .val (.int p4)] [(.int p4), (.int (F p1.toNatClampNeg))])) ?_ (fun t q => XS.iload X.here hx rfl (hb hby d3_15) rfl q)
    refine own_ite (fun hc17 => ?_) (fun hc17 => ?_)
    · refine own_st (T' := T) (f' := (mkF m 20 #[.val (.ref o0), .val (.int p1), .val (.int p2), .val (.int p3), .val (.int p4)] [])) ?_ (fun t q => XS.icmpNo X.here hx rfl (hb hby d3_17) rfl (teq hc17).2 q)
      refine own_st (T' := T) (f' := (mkF m 21 #[.val (.ref o0), .val (.int p1), .val (.int p2), .val (.int p3), .val (.int p4)] [(.int (1 : Int32))])) ?_ (fun t q => XS.iconst X.here hx rfl (hb hby d3_20) q)
      refine own_st (T' := T) (f' := (mkF m 25 #[.val (.ref o0), .val (.int p1), .val (.int p2), .val (.int p3), .val (.int p4)] [(.int (1 : Int32))])) ?_ (fun t q => XS.goto X.here hx rfl (pc0 := 21) (pc' := 25) rfl (hb hby d3_21) (by decide) (by decide) q)
      exact own_retN X hx hlk (t := .boolean) Bd.returns (by simp) (hb hby d3_25) (by decide) (by decide) ⟨rfl, N, eh⟩
    · refine own_st (T' := T) (f' := (mkF m 24 #[.val (.ref o0), .val (.int p1), .val (.int p2), .val (.int p3), .val (.int p4)] [])) ?_ (fun t q => XS.icmpYes X.here hx rfl (pc0 := 17) (pc' := 24) rfl (hb hby d3_17) rfl (feq hc17).2 (by decide) (by decide) q)
      refine own_st (T' := T) (f' := (mkF m 25 #[.val (.ref o0), .val (.int p1), .val (.int p2), .val (.int p3), .val (.int p4)] [(.int (0 : Int32))])) ?_ (fun t q => XS.iconst X.here hx rfl (hb hby d3_24) q)
      exact own_retN X hx hlk (t := .boolean) Bd.returns (by simp) (hb hby d3_25) (by decide) (by decide) ⟨rfl, N, eh⟩
  show own_W p e below s 0 0 (own_GI n0 (fun h => h = h0) (f3 p1 p2 p3 p4 F)) s₁ (entryFrame m #[(.ref o0), (.int p1), (.int p2), (.int p3), (.int p4)] 5)
  refine own_to (ef_3 m o0 p1 p2 p3 p4) ?_
  unfold f3
  refine own_st (T' := s₁) (f' := (mkF m 1 #[.val (.ref o0), .val (.int p1), .val (.int p2), .val (.int p3), .val (.int p4)] [(.int p1)])) ?_ (fun t q => XS.iloadN X0.here hx rfl (hb hby d3_0) rfl q)
  refine own_st (T' := s₁) (f' := (mkF m 2 #[.val (.ref o0), .val (.int p1), .val (.int p2), .val (.int p3), .val (.int p4)] [(.int p2), (.int p1)])) ?_ (fun t q => XS.iloadN X0.here hx rfl (hb hby d3_1) rfl q)
  refine own_ite (fun hc2 => ?_) (fun hc2 => ?_)
  · refine own_st (T' := s₁) (f' := (mkF m 12 #[.val (.ref o0), .val (.int p1), .val (.int p2), .val (.int p3), .val (.int p4)] [])) ?_ (fun t q => XS.icmpYes X0.here hx rfl (pc0 := 2) (pc' := 12) rfl (hb hby d3_2) rfl (tlt hc2).1 (by decide) (by decide) q)
    exact B12 s₁ _ X0 N0 e0
  · refine own_st (T' := s₁) (f' := (mkF m 5 #[.val (.ref o0), .val (.int p1), .val (.int p2), .val (.int p3), .val (.int p4)] [])) ?_ (fun t q => XS.icmpNo X0.here hx rfl (hb hby d3_2) rfl (flt hc2).1 q)
    refine own_st (T' := s₁) (f' := (mkF m 6 #[.val (.ref o0), .val (.int p1), .val (.int p2), .val (.int p3), .val (.int p4)] [(.int p1)])) ?_ (fun t q => XS.iloadN X0.here hx rfl (hb hby d3_5) rfl q)
    refine own_st (T' := s₁) (f' := (mkF m 7 #[.val (.ref o0), .val (.int p1), .val (.int p2), .val (.int p3), .val (.int p4)] [(.int p2), (.int p1)])) ?_ (fun t q => XS.iloadN X0.here hx rfl (hb hby d3_6) rfl q)
    refine own_st (T' := s₁) (f' := (mkF m 8 #[.val (.ref o0), .val (.int p1), .val (.int p2), .val (.int p3), .val (.int p4)] [(.int p3), (.int p2), (.int p1)])) ?_ (fun t q => XS.iloadN X0.here hx rfl (hb hby d3_7) rfl q)
    refine own_st (T' := s₁) (f' := (mkF m 9 #[.val (.ref o0), .val (.int p1), .val (.int p2), .val (.int p3), .val (.int p4)] [(.int (p2 + p3)), (.int p1)])) ?_ (fun t q => XS.iadd X0.here hx rfl (hb hby d3_8) rfl q)
    refine own_ite (fun hc9 => ?_) (fun hc9 => ?_)
    · refine own_st (T' := s₁) (f' := (mkF m 20 #[.val (.ref o0), .val (.int p1), .val (.int p2), .val (.int p3), .val (.int p4)] [])) ?_ (fun t q => XS.icmpYes X0.here hx rfl (pc0 := 9) (pc' := 20) rfl (hb hby d3_9) rfl (tlt hc9).1 (by decide) (by decide) q)
      refine own_st (T' := s₁) (f' := (mkF m 21 #[.val (.ref o0), .val (.int p1), .val (.int p2), .val (.int p3), .val (.int p4)] [(.int (1 : Int32))])) ?_ (fun t q => XS.iconst X0.here hx rfl (hb hby d3_20) q)
      refine own_st (T' := s₁) (f' := (mkF m 25 #[.val (.ref o0), .val (.int p1), .val (.int p2), .val (.int p3), .val (.int p4)] [(.int (1 : Int32))])) ?_ (fun t q => XS.goto X0.here hx rfl (pc0 := 21) (pc' := 25) rfl (hb hby d3_21) (by decide) (by decide) q)
      exact own_retN X0 hx hlk (t := .boolean) Bd.returns (by simp) (hb hby d3_25) (by decide) (by decide) ⟨rfl, N0, e0⟩
    · refine own_st (T' := s₁) (f' := (mkF m 12 #[.val (.ref o0), .val (.int p1), .val (.int p2), .val (.int p3), .val (.int p4)] [])) ?_ (fun t q => XS.icmpNo X0.here hx rfl (hb hby d3_9) rfl (flt hc9).1 q)
      exact B12 s₁ _ X0 N0 e0
theorem d4_0 : decode prog_85_method_6_code 0 = .ok (.aload_n 0, 1) := by decide +kernel
theorem d4_1 : decode prog_85_method_6_code 1 = .ok (.iload_n 1, 1) := by decide +kernel
theorem d4_2 : decode prog_85_method_6_code 2 = .ok (.baload, 1) := by decide +kernel
theorem d4_3 : decode prog_85_method_6_code 3 = .ok (.istore_n 2, 1) := by decide +kernel
theorem d4_4 : decode prog_85_method_6_code 4 = .ok (.iload_n 2, 1) := by decide +kernel
theorem d4_5 : decode prog_85_method_6_code 5 = .ok (.ifCond .lt 5, 3) := by decide +kernel
theorem d4_8 : decode prog_85_method_6_code 8 = .ok (.iload_n 2, 1) := by decide +kernel
theorem d4_9 : decode prog_85_method_6_code 9 = .ok (.ireturn, 1) := by decide +kernel
theorem d4_10 : decode prog_85_method_6_code 10 = .ok (.iload_n 2, 1) := by decide +kernel
theorem d4_11 : decode prog_85_method_6_code 11 = .ok (.sipush 224, 3) := by decide +kernel
theorem d4_14 : decode prog_85_method_6_code 14 = .ok (.iand, 1) := by decide +kernel
theorem d4_15 : decode prog_85_method_6_code 15 = .ok (.sipush 192, 3) := by decide +kernel
theorem d4_18 : decode prog_85_method_6_code 18 = .ok (.if_icmp .ne 20, 3) := by decide +kernel
theorem d4_21 : decode prog_85_method_6_code 21 = .ok (.iload_n 2, 1) := by decide +kernel
theorem d4_22 : decode prog_85_method_6_code 22 = .ok (.bipush 31, 2) := by decide +kernel
theorem d4_24 : decode prog_85_method_6_code 24 = .ok (.iand, 1) := by decide +kernel
theorem d4_25 : decode prog_85_method_6_code 25 = .ok (.bipush 6, 2) := by decide +kernel
theorem d4_27 : decode prog_85_method_6_code 27 = .ok (.ishl, 1) := by decide +kernel
theorem d4_28 : decode prog_85_method_6_code 28 = .ok (.aload_n 0, 1) := by decide +kernel
theorem d4_29 : decode prog_85_method_6_code 29 = .ok (.iload_n 1, 1) := by decide +kernel
theorem d4_30 : decode prog_85_method_6_code 30 = .ok (.iconst 1, 1) := by decide +kernel
theorem d4_31 : decode prog_85_method_6_code 31 = .ok (.iadd, 1) := by decide +kernel
theorem d4_32 : decode prog_85_method_6_code 32 = .ok (.baload, 1) := by decide +kernel
theorem d4_33 : decode prog_85_method_6_code 33 = .ok (.bipush 63, 2) := by decide +kernel
theorem d4_35 : decode prog_85_method_6_code 35 = .ok (.iand, 1) := by decide +kernel
theorem d4_36 : decode prog_85_method_6_code 36 = .ok (.ior, 1) := by decide +kernel
theorem d4_37 : decode prog_85_method_6_code 37 = .ok (.ireturn, 1) := by decide +kernel
theorem d4_38 : decode prog_85_method_6_code 38 = .ok (.iload_n 2, 1) := by decide +kernel
theorem d4_39 : decode prog_85_method_6_code 39 = .ok (.sipush 240, 3) := by decide +kernel
theorem d4_42 : decode prog_85_method_6_code 42 = .ok (.iand, 1) := by decide +kernel
theorem d4_43 : decode prog_85_method_6_code 43 = .ok (.sipush 224, 3) := by decide +kernel
theorem d4_46 : decode prog_85_method_6_code 46 = .ok (.if_icmp .ne 32, 3) := by decide +kernel
theorem d4_49 : decode prog_85_method_6_code 49 = .ok (.iload_n 2, 1) := by decide +kernel
theorem d4_50 : decode prog_85_method_6_code 50 = .ok (.bipush 15, 2) := by decide +kernel
theorem d4_52 : decode prog_85_method_6_code 52 = .ok (.iand, 1) := by decide +kernel
theorem d4_53 : decode prog_85_method_6_code 53 = .ok (.bipush 12, 2) := by decide +kernel
theorem d4_55 : decode prog_85_method_6_code 55 = .ok (.ishl, 1) := by decide +kernel
theorem d4_56 : decode prog_85_method_6_code 56 = .ok (.aload_n 0, 1) := by decide +kernel
theorem d4_57 : decode prog_85_method_6_code 57 = .ok (.iload_n 1, 1) := by decide +kernel
theorem d4_58 : decode prog_85_method_6_code 58 = .ok (.iconst 1, 1) := by decide +kernel
theorem d4_59 : decode prog_85_method_6_code 59 = .ok (.iadd, 1) := by decide +kernel
theorem d4_60 : decode prog_85_method_6_code 60 = .ok (.baload, 1) := by decide +kernel
theorem d4_61 : decode prog_85_method_6_code 61 = .ok (.bipush 63, 2) := by decide +kernel
theorem d4_63 : decode prog_85_method_6_code 63 = .ok (.iand, 1) := by decide +kernel
theorem d4_64 : decode prog_85_method_6_code 64 = .ok (.bipush 6, 2) := by decide +kernel
theorem d4_66 : decode prog_85_method_6_code 66 = .ok (.ishl, 1) := by decide +kernel
theorem d4_67 : decode prog_85_method_6_code 67 = .ok (.ior, 1) := by decide +kernel
theorem d4_68 : decode prog_85_method_6_code 68 = .ok (.aload_n 0, 1) := by decide +kernel
theorem d4_69 : decode prog_85_method_6_code 69 = .ok (.iload_n 1, 1) := by decide +kernel
theorem d4_70 : decode prog_85_method_6_code 70 = .ok (.iconst 2, 1) := by decide +kernel
theorem d4_71 : decode prog_85_method_6_code 71 = .ok (.iadd, 1) := by decide +kernel
theorem d4_72 : decode prog_85_method_6_code 72 = .ok (.baload, 1) := by decide +kernel
theorem d4_73 : decode prog_85_method_6_code 73 = .ok (.bipush 63, 2) := by decide +kernel
theorem d4_75 : decode prog_85_method_6_code 75 = .ok (.iand, 1) := by decide +kernel
theorem d4_76 : decode prog_85_method_6_code 76 = .ok (.ior, 1) := by decide +kernel
theorem d4_77 : decode prog_85_method_6_code 77 = .ok (.ireturn, 1) := by decide +kernel
theorem d4_78 : decode prog_85_method_6_code 78 = .ok (.iload_n 2, 1) := by decide +kernel
theorem d4_79 : decode prog_85_method_6_code 79 = .ok (.bipush 7, 2) := by decide +kernel
theorem d4_81 : decode prog_85_method_6_code 81 = .ok (.iand, 1) := by decide +kernel
theorem d4_82 : decode prog_85_method_6_code 82 = .ok (.bipush 18, 2) := by decide +kernel
theorem d4_84 : decode prog_85_method_6_code 84 = .ok (.ishl, 1) := by decide +kernel
theorem d4_85 : decode prog_85_method_6_code 85 = .ok (.aload_n 0, 1) := by decide +kernel
theorem d4_86 : decode prog_85_method_6_code 86 = .ok (.iload_n 1, 1) := by decide +kernel
theorem d4_87 : decode prog_85_method_6_code 87 = .ok (.iconst 1, 1) := by decide +kernel
theorem d4_88 : decode prog_85_method_6_code 88 = .ok (.iadd, 1) := by decide +kernel
theorem d4_89 : decode prog_85_method_6_code 89 = .ok (.baload, 1) := by decide +kernel
theorem d4_90 : decode prog_85_method_6_code 90 = .ok (.bipush 63, 2) := by decide +kernel
theorem d4_92 : decode prog_85_method_6_code 92 = .ok (.iand, 1) := by decide +kernel
theorem d4_93 : decode prog_85_method_6_code 93 = .ok (.bipush 12, 2) := by decide +kernel
theorem d4_95 : decode prog_85_method_6_code 95 = .ok (.ishl, 1) := by decide +kernel
theorem d4_96 : decode prog_85_method_6_code 96 = .ok (.ior, 1) := by decide +kernel
theorem d4_97 : decode prog_85_method_6_code 97 = .ok (.aload_n 0, 1) := by decide +kernel
theorem d4_98 : decode prog_85_method_6_code 98 = .ok (.iload_n 1, 1) := by decide +kernel
theorem d4_99 : decode prog_85_method_6_code 99 = .ok (.iconst 2, 1) := by decide +kernel
theorem d4_100 : decode prog_85_method_6_code 100 = .ok (.iadd, 1) := by decide +kernel
theorem d4_101 : decode prog_85_method_6_code 101 = .ok (.baload, 1) := by decide +kernel
theorem d4_102 : decode prog_85_method_6_code 102 = .ok (.bipush 63, 2) := by decide +kernel
theorem d4_104 : decode prog_85_method_6_code 104 = .ok (.iand, 1) := by decide +kernel
theorem d4_105 : decode prog_85_method_6_code 105 = .ok (.bipush 6, 2) := by decide +kernel
theorem d4_107 : decode prog_85_method_6_code 107 = .ok (.ishl, 1) := by decide +kernel
theorem d4_108 : decode prog_85_method_6_code 108 = .ok (.ior, 1) := by decide +kernel
theorem d4_109 : decode prog_85_method_6_code 109 = .ok (.aload_n 0, 1) := by decide +kernel
theorem d4_110 : decode prog_85_method_6_code 110 = .ok (.iload_n 1, 1) := by decide +kernel
theorem d4_111 : decode prog_85_method_6_code 111 = .ok (.iconst 3, 1) := by decide +kernel
theorem d4_112 : decode prog_85_method_6_code 112 = .ok (.iadd, 1) := by decide +kernel
theorem d4_113 : decode prog_85_method_6_code 113 = .ok (.baload, 1) := by decide +kernel
theorem d4_114 : decode prog_85_method_6_code 114 = .ok (.bipush 63, 2) := by decide +kernel
theorem d4_116 : decode prog_85_method_6_code 116 = .ok (.iand, 1) := by decide +kernel
theorem d4_117 : decode prog_85_method_6_code 117 = .ok (.ior, 1) := by decide +kernel
theorem d4_118 : decode prog_85_method_6_code 118 = .ok (.ireturn, 1) := by decide +kernel
theorem pn_4 : plainFor (⟨"com/example/holyrood/holyrood/Utf8", "decode", "([BI)I"⟩ : MethodName) = true := by first | exact plainFor_of_name (by first | (simp [plainName, overriddenIn]; done) | decide +kernel) | decide +kernel
theorem ef_4 (m : MethodId) (x0 : Addr) (x1 : Int32) : entryFrame m #[(.ref x0), (.int x1)] 3 = mkF m 0 #[.val (.ref x0), .val (.int x1), .unset] [] := by first | (simp [entryFrame, mkF, argsToLocals, Value.category, maxLocals]; done) | rfl
def f4 (p1 : Int32) (F : Nat → Int32) : Int32 := (if (F p1.toNatClampNeg) < (0 : Int32) then (if ((F p1.toNatClampNeg) &&& (224 : Int32)) = (192 : Int32) then ((((F p1.toNatClampNeg) &&& (31 : Int32)) <<< ((6 : Int32) &&& 31)) ||| ((F (p1 + (1 : Int32)).toNatClampNeg) &&& (63 : Int32))) else (if ((F p1.toNatClampNeg) &&& (240 : Int32)) = (224 : Int32) then (((((F p1.toNatClampNeg) &&& (15 : Int32)) <<< ((12 : Int32) &&& 31)) ||| (((F (p1 + (1 : Int32)).toNatClampNeg) &&& (63 : Int32)) <<< ((6 : Int32) &&& 31))) ||| ((F (p1 + (2 : Int32)).toNatClampNeg) &&& (63 : Int32))) else ((((((F p1.toNatClampNeg) &&& (7 : Int32)) <<< ((18 : Int32) &&& 31)) ||| (((F (p1 + (1 : Int32)).toNatClampNeg) &&& (63 : Int32)) <<< ((12 : Int32) &&& 31))) ||| (((F (p1 + (2 : Int32)).toNatClampNeg) &&& (63 : Int32)) <<< ((6 : Int32) &&& 31))) ||| ((F (p1 + (3 : Int32)).toNatClampNeg) &&& (63 : Int32))))) else (F p1.toNatClampNeg))
theorem own_d0 (a : Int32) (F : Nat → Int32) {x : Int32} (hx : F a.toNatClampNeg = x) (ex : 0 ≤ x.toInt) : f4 a F = x := by
  unfold f4
  rw [hx, if_neg (by rw [Int32.lt_iff_toInt_lt, own_k0]; omega)]
theorem own_d1 (a : Int32) (F : Nat → Int32) {x y : Int32} (hx : F a.toNatClampNeg = x) (hy : F (a + 1).toNatClampNeg = y) (q s : Int) (h0 : 0 ≤ q) (h1 : q < 32) (ex : x.toInt = q - 64) (ey : y.toInt % 64 = s) : (f4 a F).toInt = q * 64 + s := by
  unfold f4
  have a1 : (x &&& (31 : Int32)).toInt = q := by rw [own_m31]; omega
  have a2 := own_s6 (x := x &&& 31) (by omega) (by omega)
  have b1 : (y &&& (63 : Int32)).toInt = s := by rw [own_m63]; exact ey
  rw [hx, hy, if_pos (by rw [Int32.lt_iff_toInt_lt, own_k0]; omega), if_pos ((own_224 (by omega) (by omega)).mpr (by omega))]
  rw [own_or 6 (by omega) (by omega) (by omega) (by omega) (by omega)]
  omega
theorem own_d2 (a : Int32) (F : Nat → Int32) {x y z : Int32} (hx : F a.toNatClampNeg = x) (hy : F (a + 1).toNatClampNeg = y) (hz : F (a + 2).toNatClampNeg = z) (q s t : Int) (h0 : 0 ≤ q) (h1 : q < 16) (ex : x.toInt = q - 32) (ey : y.toInt % 64 = s) (ez : z.toInt % 64 = t) : (f4 a F).toInt = q * 4096 + s * 64 + t := by
  unfold f4
  have a1 : (x &&& (15 : Int32)).toInt = q := by rw [own_m15]; omega
  have a2 := own_s12 (x := x &&& 15) (by omega) (by omega)
  have b1 : (y &&& (63 : Int32)).toInt = s := by rw [own_m63]; exact ey
  have b2 := own_s6 (x := y &&& 63) (by omega) (by omega)
  have c1 : (z &&& (63 : Int32)).toInt = t := by rw [own_m63]; exact ez
  rw [hx, hy, hz, if_pos (by rw [Int32.lt_iff_toInt_lt, own_k0]; omega), if_neg (fun u => absurd ((own_224 (by omega) (by omega)).mp u) (by omega)), if_pos ((own_240 (by omega) (by omega)).mpr (by omega))]
  have d1 := own_or (x := (x &&& 15) <<< ((12 : Int32) &&& 31)) (y := (y &&& 63) <<< ((6 : Int32) &&& 31)) 12 (by omega) (by omega) (by omega) (by omega) (by omega)
  rw [own_or 6 (by omega) (by omega) (by omega) (by omega) (by omega)]
  omega
theorem own_d3 (a : Int32) (F : Nat → Int32) {x y z w : Int32} (hx : F a.toNatClampNeg = x) (hy : F (a + 1).toNatClampNeg = y) (hz : F (a + 2).toNatClampNeg = z) (hw : F (a + 3).toNatClampNeg = w) (q s t u : Int) (h0 : 0 ≤ q) (h1 : q < 8) (ex : x.toInt = q - 16) (ey : y.toInt % 64 = s) (ez : z.toInt % 64 = t) (ew : w.toInt % 64 = u) : (f4 a F).toInt = q * 262144 + s * 4096 + t * 64 + u := by
  unfold f4
  have a1 : (x &&& (7 : Int32)).toInt = q := by rw [own_m7]; omega
  have a2 := own_s18 (x := x &&& 7) (by omega) (by omega)
  have b1 : (y &&& (63 : Int32)).toInt = s := by rw [own_m63]; exact ey
  have b2 := own_s12 (x := y &&& 63) (by omega) (by omega)
  have c1 : (z &&& (63 : Int32)).toInt = t := by rw [own_m63]; exact ez
  have c2 := own_s6 (x := z &&& 63) (by omega) (by omega)
  have e1 : (w &&& (63 : Int32)).toInt = u := by rw [own_m63]; exact ew
  rw [hx, hy, hz, hw, if_pos (by rw [Int32.lt_iff_toInt_lt, own_k0]; omega), if_neg (fun u => absurd ((own_224 (by omega) (by omega)).mp u) (by omega)), if_neg (fun u => absurd ((own_240 (by omega) (by omega)).mp u) (by omega))]
  have d1 := own_or (x := (x &&& 7) <<< ((18 : Int32) &&& 31)) (y := (y &&& 63) <<< ((12 : Int32) &&& 31)) 18 (by omega) (by omega) (by omega) (by omega) (by omega)
  have d2 := own_or (x := (x &&& 7) <<< ((18 : Int32) &&& 31) ||| (y &&& 63) <<< ((12 : Int32) &&& 31)) (y := (z &&& 63) <<< ((6 : Int32) &&& 31)) 12 (by omega) (by omega) (by omega) (by omega) (by omega)
  rw [own_or 6 (by omega) (by omega) (by omega) (by omega) (by omega)]
  omega
set_option maxRecDepth 65536 in
set_option maxHeartbeats 40000000 in
theorem rm4 (l : Launch) (Z : State) (a0 : Array Value) (hw : ∀ d ∈ tables_1, d.before a0 Z = true) (ws : List Jvm.Cond) (o0 : Addr) (p1 : Int32) (n : Nat) (F : Nat → Int32) (h0 : Heap) (n0 : Nat) (A_o0 : own_A Z h0 o0 .byte n F) (hlo : ¬ p1 < 0) (hhi : p1.toInt + 3 < n) (hn : n ≤ 8) :
    MetFree l (⟨"com/example/holyrood/holyrood/Utf8", "decode", "([BI)I"⟩ : MethodName) (head1 (Jvm.Cond.code (⟨"com/example/holyrood/holyrood/Utf8", "decode", "([BI)I"⟩ : MethodName) prog_85_method_6_code 3 (some .int) :: ws) ({ frames := 0, cells := 0, slots := 0, locals := 0 } : Room)) (fun a U => a = #[(.ref o0), (.int p1)] ∧ Z.Warmed39 U.vm ∧ U.heap = h0) (fun _ _ _ _ _ => True) (fun _ U o U' => ∃ v L, o = .returned v ∧ own_GI n0 (fun h => h = h0) (f4 p1 F) v U'.heap L ∧ FrameEnd U o U' L ({ frames := 0, cells := 0, slots := 0, locals := 0 } : Room).cells ({ frames := 0, cells := 0, slots := 0, locals := 0 } : Room).slots) := by
  refine MetFree.of_bodySF pn_4 hisR ?_
  intro p e s m args below meth c s₁ Bd hml0 hP hK
  obtain ⟨rfl, hZ, hh⟩ := hP
  have hx := Bd.exec
  have hby := Bd.bytes
  have hml : c.maxLocals = 3 := hml0
  have hown : s.vm.findClass "com/example/holyrood/holyrood/Utf8" = some m.cls := findClass_of_methodNamed Bd.named
  have hlk : meth.locks = false := BodyLoose.notSynchronized Bd
  have X0 : Stand p l e ({ frames := 0, cells := 0, slots := 0, locals := 0 } : Room) s m #[(.ref o0), (.int p1)] below meth c s₁ [] 0 0 := Stand.of_body Bd
  have e0 : s₁.heap = h0 := by rw [← hh, Bd.state]; rfl
  have N0 := Fr.nil n0
  show own_W p e below s 0 0 (own_GI n0 (fun h => h = h0) (f4 p1 F)) s₁ (entryFrame m #[(.ref o0), (.int p1)] 3)
  refine own_to (ef_4 m o0 p1) ?_
  unfold f4
  refine own_st (T' := s₁) (f' := (mkF m 1 #[.val (.ref o0), .val (.int p1), .unset] [(.ref o0)])) ?_ (fun t q => XS.aloadN X0.here hx rfl (hb hby d4_0) rfl rfl q)
  refine own_st (T' := s₁) (f' := (mkF m 2 #[.val (.ref o0), .val (.int p1), .unset] [(.int p1), (.ref o0)])) ?_ (fun t q => XS.iloadN X0.here hx rfl (hb hby d4_1) rfl q)
  refine own_bald X0 hx hZ (own_A.eq A_o0 e0) (j := p1) (own_at0 hlo hhi hn) (hb hby d4_2) ?_
  show own_W _ _ _ _ _ _ _ s₁ (mkF m 3 #[.val (.ref o0), .val (.int p1), .unset] [(.int (F p1.toNatClampNeg))])
  refine own_st (T' := s₁) (f' := (mkF m 4 #[.val (.ref o0), .val (.int p1), .val (.int (F p1.toNatClampNeg))] [])) ?_ (fun t q => XS.istoreN X0.here hx rfl (hb hby d4_3) rfl (l' := #[.val (.ref o0), .val (.int p1), .val (.int (F p1.toNatClampNeg))]) rfl q)
  refine own_st (T' := s₁) (f' := (mkF m 5 #[.val (.ref o0), .val (.int p1), .val (.int (F p1.toNatClampNeg))] [(.int (F p1.toNatClampNeg))])) ?_ (fun t q => XS.iloadN X0.here hx rfl (hb hby d4_4) rfl q)
  refine own_ite (fun hc5 => ?_) (fun hc5 => ?_)
  · refine own_st (T' := s₁) (f' := (mkF m 10 #[.val (.ref o0), .val (.int p1), .val (.int (F p1.toNatClampNeg))] [])) ?_ (fun t q => XS.ifYes X0.here hx rfl (pc0 := 5) (pc' := 10) rfl (hb hby d4_5) rfl ((if0 _ _).trans (tlt hc5).1) (by decide) (by decide) q)
    refine own_st (T' := s₁) (f' := (mkF m 11 #[.val (.ref o0), .val (.int p1), .val (.int (F p1.toNatClampNeg))] [(.int (F p1.toNatClampNeg))])) ?_ (fun t q => XS.iloadN X0.here hx rfl (hb hby d4_10) rfl q)
    refine own_st (T' := s₁) (f' := (mkF m 14 #[.val (.ref o0), .val (.int p1), .val (.int (F p1.toNatClampNeg))] [(.int (224 : Int32)), (.int (F p1.toNatClampNeg))])) ?_ (fun t q => XS.sipush X0.here hx rfl (hb hby d4_11) q)
    refine own_st (T' := s₁) (f' := (mkF m 15 #[.val (.ref o0), .val (.int p1), .val (.int (F p1.toNatClampNeg))] [(.int ((F p1.toNatClampNeg) &&& (224 : Int32)))])) ?_ (fun t q => XS.iand X0.here hx rfl (hb hby d4_14) rfl q)
    refine own_st (T' := s₁) (f' := (mkF m 18 #[.val (.ref o0), .val (.int p1), .val (.int (F p1.toNatClampNeg))] [(.int (192 : Int32)), (.int ((F p1.toNatClampNeg) &&& (224 : Int32)))])) ?_ (fun t q => XS.sipush X0.here hx rfl (hb hby d4_15) q)
    refine own_ite (fun hc18 => ?_) (fun hc18 => ?_)
    · refine own_st (T' := s₁) (f' := (mkF m 21 #[.val (.ref o0), .val (.int p1), .val (.int (F p1.toNatClampNeg))] [])) ?_ (fun t q => XS.icmpNo X0.here hx rfl (hb hby d4_18) rfl (teq hc18).2 q)
      refine own_st (T' := s₁) (f' := (mkF m 22 #[.val (.ref o0), .val (.int p1), .val (.int (F p1.toNatClampNeg))] [(.int (F p1.toNatClampNeg))])) ?_ (fun t q => XS.iloadN X0.here hx rfl (hb hby d4_21) rfl q)
      refine own_st (T' := s₁) (f' := (mkF m 24 #[.val (.ref o0), .val (.int p1), .val (.int (F p1.toNatClampNeg))] [(.int (31 : Int32)), (.int (F p1.toNatClampNeg))])) ?_ (fun t q => XS.bipush X0.here hx rfl (hb hby d4_22) q)
      refine own_st (T' := s₁) (f' := (mkF m 25 #[.val (.ref o0), .val (.int p1), .val (.int (F p1.toNatClampNeg))] [(.int ((F p1.toNatClampNeg) &&& (31 : Int32)))])) ?_ (fun t q => XS.iand X0.here hx rfl (hb hby d4_24) rfl q)
      refine own_st (T' := s₁) (f' := (mkF m 27 #[.val (.ref o0), .val (.int p1), .val (.int (F p1.toNatClampNeg))] [(.int (6 : Int32)), (.int ((F p1.toNatClampNeg) &&& (31 : Int32)))])) ?_ (fun t q => XS.bipush X0.here hx rfl (hb hby d4_25) q)
      refine own_st (T' := s₁) (f' := (mkF m 28 #[.val (.ref o0), .val (.int p1), .val (.int (F p1.toNatClampNeg))] [(.int (((F p1.toNatClampNeg) &&& (31 : Int32)) <<< ((6 : Int32) &&& 31)))])) ?_ (fun t q => XS.ishl X0.here hx rfl (hb hby d4_27) rfl q)
      refine own_st (T' := s₁) (f' := (mkF m 29 #[.val (.ref o0), .val (.int p1), .val (.int (F p1.toNatClampNeg))] [(.ref o0), (.int (((F p1.toNatClampNeg) &&& (31 : Int32)) <<< ((6 : Int32) &&& 31)))])) ?_ (fun t q => XS.aloadN X0.here hx rfl (hb hby d4_28) rfl rfl q)
      refine own_st (T' := s₁) (f' := (mkF m 30 #[.val (.ref o0), .val (.int p1), .val (.int (F p1.toNatClampNeg))] [(.int p1), (.ref o0), (.int (((F p1.toNatClampNeg) &&& (31 : Int32)) <<< ((6 : Int32) &&& 31)))])) ?_ (fun t q => XS.iloadN X0.here hx rfl (hb hby d4_29) rfl q)
      refine own_st (T' := s₁) (f' := (mkF m 31 #[.val (.ref o0), .val (.int p1), .val (.int (F p1.toNatClampNeg))] [(.int (1 : Int32)), (.int p1), (.ref o0), (.int (((F p1.toNatClampNeg) &&& (31 : Int32)) <<< ((6 : Int32) &&& 31)))])) ?_ (fun t q => XS.iconst X0.here hx rfl (hb hby d4_30) q)
      refine own_st (T' := s₁) (f' := (mkF m 32 #[.val (.ref o0), .val (.int p1), .val (.int (F p1.toNatClampNeg))] [(.int (p1 + (1 : Int32))), (.ref o0), (.int (((F p1.toNatClampNeg) &&& (31 : Int32)) <<< ((6 : Int32) &&& 31)))])) ?_ (fun t q => XS.iadd X0.here hx rfl (hb hby d4_31) rfl q)
      refine own_bald X0 hx hZ (own_A.eq A_o0 e0) (j := (p1 + (1 : Int32))) (own_at1 hlo hhi hn) (hb hby d4_32) ?_
      show own_W _ _ _ _ _ _ _ s₁ (mkF m 33 #[.val (.ref o0), .val (.int p1), .val (.int (F p1.toNatClampNeg))] [(.int (F (p1 + (1 : Int32)).toNatClampNeg)), (.int (((F p1.toNatClampNeg) &&& (31 : Int32)) <<< ((6 : Int32) &&& 31)))])
      refine own_st (T' := s₁) (f' := (mkF m 35 #[.val (.ref o0), .val (.int p1), .val (.int (F p1.toNatClampNeg))] [(.int (63 : Int32)), (.int (F (p1 + (1 : Int32)).toNatClampNeg)), (.int (((F p1.toNatClampNeg) &&& (31 : Int32)) <<< ((6 : Int32) &&& 31)))])) ?_ (fun t q => XS.bipush X0.here hx rfl (hb hby d4_33) q)
      refine own_st (T' := s₁) (f' := (mkF m 36 #[.val (.ref o0), .val (.int p1), .val (.int (F p1.toNatClampNeg))] [(.int ((F (p1 + (1 : Int32)).toNatClampNeg) &&& (63 : Int32))), (.int (((F p1.toNatClampNeg) &&& (31 : Int32)) <<< ((6 : Int32) &&& 31)))])) ?_ (fun t q => XS.iand X0.here hx rfl (hb hby d4_35) rfl q)
      refine own_st (T' := s₁) (f' := (mkF m 37 #[.val (.ref o0), .val (.int p1), .val (.int (F p1.toNatClampNeg))] [(.int ((((F p1.toNatClampNeg) &&& (31 : Int32)) <<< ((6 : Int32) &&& 31)) ||| ((F (p1 + (1 : Int32)).toNatClampNeg) &&& (63 : Int32))))])) ?_ (fun t q => XS.ior X0.here hx rfl (hb hby d4_36) rfl q)
      exact own_retI X0 hx hlk Bd.returns (hb hby d4_37) (by decide) (by decide) ⟨rfl, N0, e0⟩
    · refine own_st (T' := s₁) (f' := (mkF m 38 #[.val (.ref o0), .val (.int p1), .val (.int (F p1.toNatClampNeg))] [])) ?_ (fun t q => XS.icmpYes X0.here hx rfl (pc0 := 18) (pc' := 38) rfl (hb hby d4_18) rfl (feq hc18).2 (by decide) (by decide) q)
      refine own_st (T' := s₁) (f' := (mkF m 39 #[.val (.ref o0), .val (.int p1), .val (.int (F p1.toNatClampNeg))] [(.int (F p1.toNatClampNeg))])) ?_ (fun t q => XS.iloadN X0.here hx rfl (hb hby d4_38) rfl q)
      refine own_st (T' := s₁) (f' := (mkF m 42 #[.val (.ref o0), .val (.int p1), .val (.int (F p1.toNatClampNeg))] [(.int (240 : Int32)), (.int (F p1.toNatClampNeg))])) ?_ (fun t q => XS.sipush X0.here hx rfl (hb hby d4_39) q)
      refine own_st (T' := s₁) (f' := (mkF m 43 #[.val (.ref o0), .val (.int p1), .val (.int (F p1.toNatClampNeg))] [(.int ((F p1.toNatClampNeg) &&& (240 : Int32)))])) ?_ (fun t q => XS.iand X0.here hx rfl (hb hby d4_42) rfl q)
      refine own_st (T' := s₁) (f' := (mkF m 46 #[.val (.ref o0), .val (.int p1), .val (.int (F p1.toNatClampNeg))] [(.int (224 : Int32)), (.int ((F p1.toNatClampNeg) &&& (240 : Int32)))])) ?_ (fun t q => XS.sipush X0.here hx rfl (hb hby d4_43) q)
      refine own_ite (fun hc46 => ?_) (fun hc46 => ?_)
      · refine own_st (T' := s₁) (f' := (mkF m 49 #[.val (.ref o0), .val (.int p1), .val (.int (F p1.toNatClampNeg))] [])) ?_ (fun t q => XS.icmpNo X0.here hx rfl (hb hby d4_46) rfl (teq hc46).2 q)
        refine own_st (T' := s₁) (f' := (mkF m 50 #[.val (.ref o0), .val (.int p1), .val (.int (F p1.toNatClampNeg))] [(.int (F p1.toNatClampNeg))])) ?_ (fun t q => XS.iloadN X0.here hx rfl (hb hby d4_49) rfl q)
        refine own_st (T' := s₁) (f' := (mkF m 52 #[.val (.ref o0), .val (.int p1), .val (.int (F p1.toNatClampNeg))] [(.int (15 : Int32)), (.int (F p1.toNatClampNeg))])) ?_ (fun t q => XS.bipush X0.here hx rfl (hb hby d4_50) q)
        refine own_st (T' := s₁) (f' := (mkF m 53 #[.val (.ref o0), .val (.int p1), .val (.int (F p1.toNatClampNeg))] [(.int ((F p1.toNatClampNeg) &&& (15 : Int32)))])) ?_ (fun t q => XS.iand X0.here hx rfl (hb hby d4_52) rfl q)
        refine own_st (T' := s₁) (f' := (mkF m 55 #[.val (.ref o0), .val (.int p1), .val (.int (F p1.toNatClampNeg))] [(.int (12 : Int32)), (.int ((F p1.toNatClampNeg) &&& (15 : Int32)))])) ?_ (fun t q => XS.bipush X0.here hx rfl (hb hby d4_53) q)
        refine own_st (T' := s₁) (f' := (mkF m 56 #[.val (.ref o0), .val (.int p1), .val (.int (F p1.toNatClampNeg))] [(.int (((F p1.toNatClampNeg) &&& (15 : Int32)) <<< ((12 : Int32) &&& 31)))])) ?_ (fun t q => XS.ishl X0.here hx rfl (hb hby d4_55) rfl q)
        refine own_st (T' := s₁) (f' := (mkF m 57 #[.val (.ref o0), .val (.int p1), .val (.int (F p1.toNatClampNeg))] [(.ref o0), (.int (((F p1.toNatClampNeg) &&& (15 : Int32)) <<< ((12 : Int32) &&& 31)))])) ?_ (fun t q => XS.aloadN X0.here hx rfl (hb hby d4_56) rfl rfl q)
        refine own_st (T' := s₁) (f' := (mkF m 58 #[.val (.ref o0), .val (.int p1), .val (.int (F p1.toNatClampNeg))] [(.int p1), (.ref o0), (.int (((F p1.toNatClampNeg) &&& (15 : Int32)) <<< ((12 : Int32) &&& 31)))])) ?_ (fun t q => XS.iloadN X0.here hx rfl (hb hby d4_57) rfl q)
        refine own_st (T' := s₁) (f' := (mkF m 59 #[.val (.ref o0), .val (.int p1), .val (.int (F p1.toNatClampNeg))] [(.int (1 : Int32)), (.int p1), (.ref o0), (.int (((F p1.toNatClampNeg) &&& (15 : Int32)) <<< ((12 : Int32) &&& 31)))])) ?_ (fun t q => XS.iconst X0.here hx rfl (hb hby d4_58) q)
        refine own_st (T' := s₁) (f' := (mkF m 60 #[.val (.ref o0), .val (.int p1), .val (.int (F p1.toNatClampNeg))] [(.int (p1 + (1 : Int32))), (.ref o0), (.int (((F p1.toNatClampNeg) &&& (15 : Int32)) <<< ((12 : Int32) &&& 31)))])) ?_ (fun t q => XS.iadd X0.here hx rfl (hb hby d4_59) rfl q)
        refine own_bald X0 hx hZ (own_A.eq A_o0 e0) (j := (p1 + (1 : Int32))) (own_at1 hlo hhi hn) (hb hby d4_60) ?_
        show own_W _ _ _ _ _ _ _ s₁ (mkF m 61 #[.val (.ref o0), .val (.int p1), .val (.int (F p1.toNatClampNeg))] [(.int (F (p1 + (1 : Int32)).toNatClampNeg)), (.int (((F p1.toNatClampNeg) &&& (15 : Int32)) <<< ((12 : Int32) &&& 31)))])
        refine own_st (T' := s₁) (f' := (mkF m 63 #[.val (.ref o0), .val (.int p1), .val (.int (F p1.toNatClampNeg))] [(.int (63 : Int32)), (.int (F (p1 + (1 : Int32)).toNatClampNeg)), (.int (((F p1.toNatClampNeg) &&& (15 : Int32)) <<< ((12 : Int32) &&& 31)))])) ?_ (fun t q => XS.bipush X0.here hx rfl (hb hby d4_61) q)
        refine own_st (T' := s₁) (f' := (mkF m 64 #[.val (.ref o0), .val (.int p1), .val (.int (F p1.toNatClampNeg))] [(.int ((F (p1 + (1 : Int32)).toNatClampNeg) &&& (63 : Int32))), (.int (((F p1.toNatClampNeg) &&& (15 : Int32)) <<< ((12 : Int32) &&& 31)))])) ?_ (fun t q => XS.iand X0.here hx rfl (hb hby d4_63) rfl q)
        refine own_st (T' := s₁) (f' := (mkF m 66 #[.val (.ref o0), .val (.int p1), .val (.int (F p1.toNatClampNeg))] [(.int (6 : Int32)), (.int ((F (p1 + (1 : Int32)).toNatClampNeg) &&& (63 : Int32))), (.int (((F p1.toNatClampNeg) &&& (15 : Int32)) <<< ((12 : Int32) &&& 31)))])) ?_ (fun t q => XS.bipush X0.here hx rfl (hb hby d4_64) q)
        refine own_st (T' := s₁) (f' := (mkF m 67 #[.val (.ref o0), .val (.int p1), .val (.int (F p1.toNatClampNeg))] [(.int (((F (p1 + (1 : Int32)).toNatClampNeg) &&& (63 : Int32)) <<< ((6 : Int32) &&& 31))), (.int (((F p1.toNatClampNeg) &&& (15 : Int32)) <<< ((12 : Int32) &&& 31)))])) ?_ (fun t q => XS.ishl X0.here hx rfl (hb hby d4_66) rfl q)
        refine own_st (T' := s₁) (f' := (mkF m 68 #[.val (.ref o0), .val (.int p1), .val (.int (F p1.toNatClampNeg))] [(.int ((((F p1.toNatClampNeg) &&& (15 : Int32)) <<< ((12 : Int32) &&& 31)) ||| (((F (p1 + (1 : Int32)).toNatClampNeg) &&& (63 : Int32)) <<< ((6 : Int32) &&& 31))))])) ?_ (fun t q => XS.ior X0.here hx rfl (hb hby d4_67) rfl q)
        refine own_st (T' := s₁) (f' := (mkF m 69 #[.val (.ref o0), .val (.int p1), .val (.int (F p1.toNatClampNeg))] [(.ref o0), (.int ((((F p1.toNatClampNeg) &&& (15 : Int32)) <<< ((12 : Int32) &&& 31)) ||| (((F (p1 + (1 : Int32)).toNatClampNeg) &&& (63 : Int32)) <<< ((6 : Int32) &&& 31))))])) ?_ (fun t q => XS.aloadN X0.here hx rfl (hb hby d4_68) rfl rfl q)
        refine own_st (T' := s₁) (f' := (mkF m 70 #[.val (.ref o0), .val (.int p1), .val (.int (F p1.toNatClampNeg))] [(.int p1), (.ref o0), (.int ((((F p1.toNatClampNeg) &&& (15 : Int32)) <<< ((12 : Int32) &&& 31)) ||| (((F (p1 + (1 : Int32)).toNatClampNeg) &&& (63 : Int32)) <<< ((6 : Int32) &&& 31))))])) ?_ (fun t q => XS.iloadN X0.here hx rfl (hb hby d4_69) rfl q)
        refine own_st (T' := s₁) (f' := (mkF m 71 #[.val (.ref o0), .val (.int p1), .val (.int (F p1.toNatClampNeg))] [(.int (2 : Int32)), (.int p1), (.ref o0), (.int ((((F p1.toNatClampNeg) &&& (15 : Int32)) <<< ((12 : Int32) &&& 31)) ||| (((F (p1 + (1 : Int32)).toNatClampNeg) &&& (63 : Int32)) <<< ((6 : Int32) &&& 31))))])) ?_ (fun t q => XS.iconst X0.here hx rfl (hb hby d4_70) q)
        refine own_st (T' := s₁) (f' := (mkF m 72 #[.val (.ref o0), .val (.int p1), .val (.int (F p1.toNatClampNeg))] [(.int (p1 + (2 : Int32))), (.ref o0), (.int ((((F p1.toNatClampNeg) &&& (15 : Int32)) <<< ((12 : Int32) &&& 31)) ||| (((F (p1 + (1 : Int32)).toNatClampNeg) &&& (63 : Int32)) <<< ((6 : Int32) &&& 31))))])) ?_ (fun t q => XS.iadd X0.here hx rfl (hb hby d4_71) rfl q)
        refine own_bald X0 hx hZ (own_A.eq A_o0 e0) (j := (p1 + (2 : Int32))) (own_at2 hlo hhi hn) (hb hby d4_72) ?_
        show own_W _ _ _ _ _ _ _ s₁ (mkF m 73 #[.val (.ref o0), .val (.int p1), .val (.int (F p1.toNatClampNeg))] [(.int (F (p1 + (2 : Int32)).toNatClampNeg)), (.int ((((F p1.toNatClampNeg) &&& (15 : Int32)) <<< ((12 : Int32) &&& 31)) ||| (((F (p1 + (1 : Int32)).toNatClampNeg) &&& (63 : Int32)) <<< ((6 : Int32) &&& 31))))])
        refine own_st (T' := s₁) (f' := (mkF m 75 #[.val (.ref o0), .val (.int p1), .val (.int (F p1.toNatClampNeg))] [(.int (63 : Int32)), (.int (F (p1 + (2 : Int32)).toNatClampNeg)), (.int ((((F p1.toNatClampNeg) &&& (15 : Int32)) <<< ((12 : Int32) &&& 31)) ||| (((F (p1 + (1 : Int32)).toNatClampNeg) &&& (63 : Int32)) <<< ((6 : Int32) &&& 31))))])) ?_ (fun t q => XS.bipush X0.here hx rfl (hb hby d4_73) q)
        refine own_st (T' := s₁) (f' := (mkF m 76 #[.val (.ref o0), .val (.int p1), .val (.int (F p1.toNatClampNeg))] [(.int ((F (p1 + (2 : Int32)).toNatClampNeg) &&& (63 : Int32))), (.int ((((F p1.toNatClampNeg) &&& (15 : Int32)) <<< ((12 : Int32) &&& 31)) ||| (((F (p1 + (1 : Int32)).toNatClampNeg) &&& (63 : Int32)) <<< ((6 : Int32) &&& 31))))])) ?_ (fun t q => XS.iand X0.here hx rfl (hb hby d4_75) rfl q)
        refine own_st (T' := s₁) (f' := (mkF m 77 #[.val (.ref o0), .val (.int p1), .val (.int (F p1.toNatClampNeg))] [(.int (((((F p1.toNatClampNeg) &&& (15 : Int32)) <<< ((12 : Int32) &&& 31)) ||| (((F (p1 + (1 : Int32)).toNatClampNeg) &&& (63 : Int32)) <<< ((6 : Int32) &&& 31))) ||| ((F (p1 + (2 : Int32)).toNatClampNeg) &&& (63 : Int32))))])) ?_ (fun t q => XS.ior X0.here hx rfl (hb hby d4_76) rfl q)
        exact own_retI X0 hx hlk Bd.returns (hb hby d4_77) (by decide) (by decide) ⟨rfl, N0, e0⟩
      · refine own_st (T' := s₁) (f' := (mkF m 78 #[.val (.ref o0), .val (.int p1), .val (.int (F p1.toNatClampNeg))] [])) ?_ (fun t q => XS.icmpYes X0.here hx rfl (pc0 := 46) (pc' := 78) rfl (hb hby d4_46) rfl (feq hc46).2 (by decide) (by decide) q)
        refine own_st (T' := s₁) (f' := (mkF m 79 #[.val (.ref o0), .val (.int p1), .val (.int (F p1.toNatClampNeg))] [(.int (F p1.toNatClampNeg))])) ?_ (fun t q => XS.iloadN X0.here hx rfl (hb hby d4_78) rfl q)
        refine own_st (T' := s₁) (f' := (mkF m 81 #[.val (.ref o0), .val (.int p1), .val (.int (F p1.toNatClampNeg))] [(.int (7 : Int32)), (.int (F p1.toNatClampNeg))])) ?_ (fun t q => XS.bipush X0.here hx rfl (hb hby d4_79) q)
        refine own_st (T' := s₁) (f' := (mkF m 82 #[.val (.ref o0), .val (.int p1), .val (.int (F p1.toNatClampNeg))] [(.int ((F p1.toNatClampNeg) &&& (7 : Int32)))])) ?_ (fun t q => XS.iand X0.here hx rfl (hb hby d4_81) rfl q)
        refine own_st (T' := s₁) (f' := (mkF m 84 #[.val (.ref o0), .val (.int p1), .val (.int (F p1.toNatClampNeg))] [(.int (18 : Int32)), (.int ((F p1.toNatClampNeg) &&& (7 : Int32)))])) ?_ (fun t q => XS.bipush X0.here hx rfl (hb hby d4_82) q)
        refine own_st (T' := s₁) (f' := (mkF m 85 #[.val (.ref o0), .val (.int p1), .val (.int (F p1.toNatClampNeg))] [(.int (((F p1.toNatClampNeg) &&& (7 : Int32)) <<< ((18 : Int32) &&& 31)))])) ?_ (fun t q => XS.ishl X0.here hx rfl (hb hby d4_84) rfl q)
        refine own_st (T' := s₁) (f' := (mkF m 86 #[.val (.ref o0), .val (.int p1), .val (.int (F p1.toNatClampNeg))] [(.ref o0), (.int (((F p1.toNatClampNeg) &&& (7 : Int32)) <<< ((18 : Int32) &&& 31)))])) ?_ (fun t q => XS.aloadN X0.here hx rfl (hb hby d4_85) rfl rfl q)
        refine own_st (T' := s₁) (f' := (mkF m 87 #[.val (.ref o0), .val (.int p1), .val (.int (F p1.toNatClampNeg))] [(.int p1), (.ref o0), (.int (((F p1.toNatClampNeg) &&& (7 : Int32)) <<< ((18 : Int32) &&& 31)))])) ?_ (fun t q => XS.iloadN X0.here hx rfl (hb hby d4_86) rfl q)
        refine own_st (T' := s₁) (f' := (mkF m 88 #[.val (.ref o0), .val (.int p1), .val (.int (F p1.toNatClampNeg))] [(.int (1 : Int32)), (.int p1), (.ref o0), (.int (((F p1.toNatClampNeg) &&& (7 : Int32)) <<< ((18 : Int32) &&& 31)))])) ?_ (fun t q => XS.iconst X0.here hx rfl (hb hby d4_87) q)
        refine own_st (T' := s₁) (f' := (mkF m 89 #[.val (.ref o0), .val (.int p1), .val (.int (F p1.toNatClampNeg))] [(.int (p1 + (1 : Int32))), (.ref o0), (.int (((F p1.toNatClampNeg) &&& (7 : Int32)) <<< ((18 : Int32) &&& 31)))])) ?_ (fun t q => XS.iadd X0.here hx rfl (hb hby d4_88) rfl q)
        refine own_bald X0 hx hZ (own_A.eq A_o0 e0) (j := (p1 + (1 : Int32))) (own_at1 hlo hhi hn) (hb hby d4_89) ?_
        show own_W _ _ _ _ _ _ _ s₁ (mkF m 90 #[.val (.ref o0), .val (.int p1), .val (.int (F p1.toNatClampNeg))] [(.int (F (p1 + (1 : Int32)).toNatClampNeg)), (.int (((F p1.toNatClampNeg) &&& (7 : Int32)) <<< ((18 : Int32) &&& 31)))])
        refine own_st (T' := s₁) (f' := (mkF m 92 #[.val (.ref o0), .val (.int p1), .val (.int (F p1.toNatClampNeg))] [(.int (63 : Int32)), (.int (F (p1 + (1 : Int32)).toNatClampNeg)), (.int (((F p1.toNatClampNeg) &&& (7 : Int32)) <<< ((18 : Int32) &&& 31)))])) ?_ (fun t q => XS.bipush X0.here hx rfl (hb hby d4_90) q)
        refine own_st (T' := s₁) (f' := (mkF m 93 #[.val (.ref o0), .val (.int p1), .val (.int (F p1.toNatClampNeg))] [(.int ((F (p1 + (1 : Int32)).toNatClampNeg) &&& (63 : Int32))), (.int (((F p1.toNatClampNeg) &&& (7 : Int32)) <<< ((18 : Int32) &&& 31)))])) ?_ (fun t q => XS.iand X0.here hx rfl (hb hby d4_92) rfl q)
        refine own_st (T' := s₁) (f' := (mkF m 95 #[.val (.ref o0), .val (.int p1), .val (.int (F p1.toNatClampNeg))] [(.int (12 : Int32)), (.int ((F (p1 + (1 : Int32)).toNatClampNeg) &&& (63 : Int32))), (.int (((F p1.toNatClampNeg) &&& (7 : Int32)) <<< ((18 : Int32) &&& 31)))])) ?_ (fun t q => XS.bipush X0.here hx rfl (hb hby d4_93) q)
        refine own_st (T' := s₁) (f' := (mkF m 96 #[.val (.ref o0), .val (.int p1), .val (.int (F p1.toNatClampNeg))] [(.int (((F (p1 + (1 : Int32)).toNatClampNeg) &&& (63 : Int32)) <<< ((12 : Int32) &&& 31))), (.int (((F p1.toNatClampNeg) &&& (7 : Int32)) <<< ((18 : Int32) &&& 31)))])) ?_ (fun t q => XS.ishl X0.here hx rfl (hb hby d4_95) rfl q)
        refine own_st (T' := s₁) (f' := (mkF m 97 #[.val (.ref o0), .val (.int p1), .val (.int (F p1.toNatClampNeg))] [(.int ((((F p1.toNatClampNeg) &&& (7 : Int32)) <<< ((18 : Int32) &&& 31)) ||| (((F (p1 + (1 : Int32)).toNatClampNeg) &&& (63 : Int32)) <<< ((12 : Int32) &&& 31))))])) ?_ (fun t q => XS.ior X0.here hx rfl (hb hby d4_96) rfl q)
        refine own_st (T' := s₁) (f' := (mkF m 98 #[.val (.ref o0), .val (.int p1), .val (.int (F p1.toNatClampNeg))] [(.ref o0), (.int ((((F p1.toNatClampNeg) &&& (7 : Int32)) <<< ((18 : Int32) &&& 31)) ||| (((F (p1 + (1 : Int32)).toNatClampNeg) &&& (63 : Int32)) <<< ((12 : Int32) &&& 31))))])) ?_ (fun t q => XS.aloadN X0.here hx rfl (hb hby d4_97) rfl rfl q)
        refine own_st (T' := s₁) (f' := (mkF m 99 #[.val (.ref o0), .val (.int p1), .val (.int (F p1.toNatClampNeg))] [(.int p1), (.ref o0), (.int ((((F p1.toNatClampNeg) &&& (7 : Int32)) <<< ((18 : Int32) &&& 31)) ||| (((F (p1 + (1 : Int32)).toNatClampNeg) &&& (63 : Int32)) <<< ((12 : Int32) &&& 31))))])) ?_ (fun t q => XS.iloadN X0.here hx rfl (hb hby d4_98) rfl q)
        refine own_st (T' := s₁) (f' := (mkF m 100 #[.val (.ref o0), .val (.int p1), .val (.int (F p1.toNatClampNeg))] [(.int (2 : Int32)), (.int p1), (.ref o0), (.int ((((F p1.toNatClampNeg) &&& (7 : Int32)) <<< ((18 : Int32) &&& 31)) ||| (((F (p1 + (1 : Int32)).toNatClampNeg) &&& (63 : Int32)) <<< ((12 : Int32) &&& 31))))])) ?_ (fun t q => XS.iconst X0.here hx rfl (hb hby d4_99) q)
        refine own_st (T' := s₁) (f' := (mkF m 101 #[.val (.ref o0), .val (.int p1), .val (.int (F p1.toNatClampNeg))] [(.int (p1 + (2 : Int32))), (.ref o0), (.int ((((F p1.toNatClampNeg) &&& (7 : Int32)) <<< ((18 : Int32) &&& 31)) ||| (((F (p1 + (1 : Int32)).toNatClampNeg) &&& (63 : Int32)) <<< ((12 : Int32) &&& 31))))])) ?_ (fun t q => XS.iadd X0.here hx rfl (hb hby d4_100) rfl q)
        refine own_bald X0 hx hZ (own_A.eq A_o0 e0) (j := (p1 + (2 : Int32))) (own_at2 hlo hhi hn) (hb hby d4_101) ?_
        show own_W _ _ _ _ _ _ _ s₁ (mkF m 102 #[.val (.ref o0), .val (.int p1), .val (.int (F p1.toNatClampNeg))] [(.int (F (p1 + (2 : Int32)).toNatClampNeg)), (.int ((((F p1.toNatClampNeg) &&& (7 : Int32)) <<< ((18 : Int32) &&& 31)) ||| (((F (p1 + (1 : Int32)).toNatClampNeg) &&& (63 : Int32)) <<< ((12 : Int32) &&& 31))))])
        refine own_st (T' := s₁) (f' := (mkF m 104 #[.val (.ref o0), .val (.int p1), .val (.int (F p1.toNatClampNeg))] [(.int (63 : Int32)), (.int (F (p1 + (2 : Int32)).toNatClampNeg)), (.int ((((F p1.toNatClampNeg) &&& (7 : Int32)) <<< ((18 : Int32) &&& 31)) ||| (((F (p1 + (1 : Int32)).toNatClampNeg) &&& (63 : Int32)) <<< ((12 : Int32) &&& 31))))])) ?_ (fun t q => XS.bipush X0.here hx rfl (hb hby d4_102) q)
        refine own_st (T' := s₁) (f' := (mkF m 105 #[.val (.ref o0), .val (.int p1), .val (.int (F p1.toNatClampNeg))] [(.int ((F (p1 + (2 : Int32)).toNatClampNeg) &&& (63 : Int32))), (.int ((((F p1.toNatClampNeg) &&& (7 : Int32)) <<< ((18 : Int32) &&& 31)) ||| (((F (p1 + (1 : Int32)).toNatClampNeg) &&& (63 : Int32)) <<< ((12 : Int32) &&& 31))))])) ?_ (fun t q => XS.iand X0.here hx rfl (hb hby d4_104) rfl q)
        refine own_st (T' := s₁) (f' := (mkF m 107 #[.val (.ref o0), .val (.int p1), .val (.int (F p1.toNatClampNeg))] [(.int (6 : Int32)), (.int ((F (p1 + (2 : Int32)).toNatClampNeg) &&& (63 : Int32))), (.int ((((F p1.toNatClampNeg) &&& (7 : Int32)) <<< ((18 : Int32) &&& 31)) ||| (((F (p1 + (1 : Int32)).toNatClampNeg) &&& (63 : Int32)) <<< ((12 : Int32) &&& 31))))])) ?_ (fun t q => XS.bipush X0.here hx rfl (hb hby d4_105) q)
        refine own_st (T' := s₁) (f' := (mkF m 108 #[.val (.ref o0), .val (.int p1), .val (.int (F p1.toNatClampNeg))] [(.int (((F (p1 + (2 : Int32)).toNatClampNeg) &&& (63 : Int32)) <<< ((6 : Int32) &&& 31))), (.int ((((F p1.toNatClampNeg) &&& (7 : Int32)) <<< ((18 : Int32) &&& 31)) ||| (((F (p1 + (1 : Int32)).toNatClampNeg) &&& (63 : Int32)) <<< ((12 : Int32) &&& 31))))])) ?_ (fun t q => XS.ishl X0.here hx rfl (hb hby d4_107) rfl q)
        refine own_st (T' := s₁) (f' := (mkF m 109 #[.val (.ref o0), .val (.int p1), .val (.int (F p1.toNatClampNeg))] [(.int (((((F p1.toNatClampNeg) &&& (7 : Int32)) <<< ((18 : Int32) &&& 31)) ||| (((F (p1 + (1 : Int32)).toNatClampNeg) &&& (63 : Int32)) <<< ((12 : Int32) &&& 31))) ||| (((F (p1 + (2 : Int32)).toNatClampNeg) &&& (63 : Int32)) <<< ((6 : Int32) &&& 31))))])) ?_ (fun t q => XS.ior X0.here hx rfl (hb hby d4_108) rfl q)
        refine own_st (T' := s₁) (f' := (mkF m 110 #[.val (.ref o0), .val (.int p1), .val (.int (F p1.toNatClampNeg))] [(.ref o0), (.int (((((F p1.toNatClampNeg) &&& (7 : Int32)) <<< ((18 : Int32) &&& 31)) ||| (((F (p1 + (1 : Int32)).toNatClampNeg) &&& (63 : Int32)) <<< ((12 : Int32) &&& 31))) ||| (((F (p1 + (2 : Int32)).toNatClampNeg) &&& (63 : Int32)) <<< ((6 : Int32) &&& 31))))])) ?_ (fun t q => XS.aloadN X0.here hx rfl (hb hby d4_109) rfl rfl q)
        refine own_st (T' := s₁) (f' := (mkF m 111 #[.val (.ref o0), .val (.int p1), .val (.int (F p1.toNatClampNeg))] [(.int p1), (.ref o0), (.int (((((F p1.toNatClampNeg) &&& (7 : Int32)) <<< ((18 : Int32) &&& 31)) ||| (((F (p1 + (1 : Int32)).toNatClampNeg) &&& (63 : Int32)) <<< ((12 : Int32) &&& 31))) ||| (((F (p1 + (2 : Int32)).toNatClampNeg) &&& (63 : Int32)) <<< ((6 : Int32) &&& 31))))])) ?_ (fun t q => XS.iloadN X0.here hx rfl (hb hby d4_110) rfl q)
        refine own_st (T' := s₁) (f' := (mkF m 112 #[.val (.ref o0), .val (.int p1), .val (.int (F p1.toNatClampNeg))] [(.int (3 : Int32)), (.int p1), (.ref o0), (.int (((((F p1.toNatClampNeg) &&& (7 : Int32)) <<< ((18 : Int32) &&& 31)) ||| (((F (p1 + (1 : Int32)).toNatClampNeg) &&& (63 : Int32)) <<< ((12 : Int32) &&& 31))) ||| (((F (p1 + (2 : Int32)).toNatClampNeg) &&& (63 : Int32)) <<< ((6 : Int32) &&& 31))))])) ?_ (fun t q => XS.iconst X0.here hx rfl (hb hby d4_111) q)
        refine own_st (T' := s₁) (f' := (mkF m 113 #[.val (.ref o0), .val (.int p1), .val (.int (F p1.toNatClampNeg))] [(.int (p1 + (3 : Int32))), (.ref o0), (.int (((((F p1.toNatClampNeg) &&& (7 : Int32)) <<< ((18 : Int32) &&& 31)) ||| (((F (p1 + (1 : Int32)).toNatClampNeg) &&& (63 : Int32)) <<< ((12 : Int32) &&& 31))) ||| (((F (p1 + (2 : Int32)).toNatClampNeg) &&& (63 : Int32)) <<< ((6 : Int32) &&& 31))))])) ?_ (fun t q => XS.iadd X0.here hx rfl (hb hby d4_112) rfl q)
        refine own_bald X0 hx hZ (own_A.eq A_o0 e0) (j := (p1 + (3 : Int32))) (own_at3 hlo hhi hn) (hb hby d4_113) ?_
        show own_W _ _ _ _ _ _ _ s₁ (mkF m 114 #[.val (.ref o0), .val (.int p1), .val (.int (F p1.toNatClampNeg))] [(.int (F (p1 + (3 : Int32)).toNatClampNeg)), (.int (((((F p1.toNatClampNeg) &&& (7 : Int32)) <<< ((18 : Int32) &&& 31)) ||| (((F (p1 + (1 : Int32)).toNatClampNeg) &&& (63 : Int32)) <<< ((12 : Int32) &&& 31))) ||| (((F (p1 + (2 : Int32)).toNatClampNeg) &&& (63 : Int32)) <<< ((6 : Int32) &&& 31))))])
        refine own_st (T' := s₁) (f' := (mkF m 116 #[.val (.ref o0), .val (.int p1), .val (.int (F p1.toNatClampNeg))] [(.int (63 : Int32)), (.int (F (p1 + (3 : Int32)).toNatClampNeg)), (.int (((((F p1.toNatClampNeg) &&& (7 : Int32)) <<< ((18 : Int32) &&& 31)) ||| (((F (p1 + (1 : Int32)).toNatClampNeg) &&& (63 : Int32)) <<< ((12 : Int32) &&& 31))) ||| (((F (p1 + (2 : Int32)).toNatClampNeg) &&& (63 : Int32)) <<< ((6 : Int32) &&& 31))))])) ?_ (fun t q => XS.bipush X0.here hx rfl (hb hby d4_114) q)
        refine own_st (T' := s₁) (f' := (mkF m 117 #[.val (.ref o0), .val (.int p1), .val (.int (F p1.toNatClampNeg))] [(.int ((F (p1 + (3 : Int32)).toNatClampNeg) &&& (63 : Int32))), (.int (((((F p1.toNatClampNeg) &&& (7 : Int32)) <<< ((18 : Int32) &&& 31)) ||| (((F (p1 + (1 : Int32)).toNatClampNeg) &&& (63 : Int32)) <<< ((12 : Int32) &&& 31))) ||| (((F (p1 + (2 : Int32)).toNatClampNeg) &&& (63 : Int32)) <<< ((6 : Int32) &&& 31))))])) ?_ (fun t q => XS.iand X0.here hx rfl (hb hby d4_116) rfl q)
        refine own_st (T' := s₁) (f' := (mkF m 118 #[.val (.ref o0), .val (.int p1), .val (.int (F p1.toNatClampNeg))] [(.int ((((((F p1.toNatClampNeg) &&& (7 : Int32)) <<< ((18 : Int32) &&& 31)) ||| (((F (p1 + (1 : Int32)).toNatClampNeg) &&& (63 : Int32)) <<< ((12 : Int32) &&& 31))) ||| (((F (p1 + (2 : Int32)).toNatClampNeg) &&& (63 : Int32)) <<< ((6 : Int32) &&& 31))) ||| ((F (p1 + (3 : Int32)).toNatClampNeg) &&& (63 : Int32))))])) ?_ (fun t q => XS.ior X0.here hx rfl (hb hby d4_117) rfl q)
        exact own_retI X0 hx hlk Bd.returns (hb hby d4_118) (by decide) (by decide) ⟨rfl, N0, e0⟩
  · refine own_st (T' := s₁) (f' := (mkF m 8 #[.val (.ref o0), .val (.int p1), .val (.int (F p1.toNatClampNeg))] [])) ?_ (fun t q => XS.ifNo X0.here hx rfl (hb hby d4_5) rfl ((if0 _ _).trans (flt hc5).1) q)
    refine own_st (T' := s₁) (f' := (mkF m 9 #[.val (.ref o0), .val (.int p1), .val (.int (F p1.toNatClampNeg))] [(.int (F p1.toNatClampNeg))])) ?_ (fun t q => XS.iloadN X0.here hx rfl (hb hby d4_8) rfl q)
    exact own_retI X0 hx hlk Bd.returns (hb hby d4_9) (by decide) (by decide) ⟨rfl, N0, e0⟩
theorem pd_0 : parseMethodDescriptor "(I[BI)I" = some ⟨[.int, (.array .byte), .int], some .int⟩ := by decide +kernel
theorem pd_1 : parseMethodDescriptor "([BIII)Z" = some ⟨[(.array .byte), .int, .int, .int], some .boolean⟩ := by decide +kernel
theorem pd_2 : parseMethodDescriptor "([BIIIB)Z" = some ⟨[(.array .byte), .int, .int, .int, .byte], some .boolean⟩ := by decide +kernel
theorem pd_3 : parseMethodDescriptor "([BI)I" = some ⟨[(.array .byte), .int], some .int⟩ := by decide +kernel
theorem pn_0 : plainFor x = true := by first | exact plainFor_of_name (by first | (simp [plainName, overriddenIn]; done) | decide +kernel) | decide +kernel
theorem ef_0 (m : MethodId) (x0 : Int32) (x1 : Int32) (x2 : Int32) (x3 : Int32) : entryFrame m #[(.int x0), (.int x1), (.int x2), (.int x3)] maxLocals = mkF m 0 #[.val (.int x0), .val (.int x1), .val (.int x2), .val (.int x3), .unset, .unset, .unset, .unset, .unset, .unset, .unset, .unset, .unset, .unset, .unset, .unset] [] := by first | (simp [entryFrame, mkF, argsToLocals, Value.category, maxLocals]; done) | rfl
def vk (p0 : Int32) (p1 : Int32) (p2 : Int32) (p3 : Int32) : Int32 := (p0 &&& (3 : Int32))
def vr (p0 : Int32) (p1 : Int32) (p2 : Int32) (p3 : Int32) : Int32 := (p1 &&& (2147483647 : Int32))
def va (p0 : Int32) (p1 : Int32) (p2 : Int32) (p3 : Int32) : Int32 := (p2 &&& (3 : Int32))
def vf (p0 : Int32) (p1 : Int32) (p2 : Int32) (p3 : Int32) : Int32 := (p3.toInt8.toInt32)
def vF (p0 : Int32) (p1 : Int32) (p2 : Int32) (p3 : Int32) : Nat → Int32 := (own_up (own_up (own_up (own_up (own_up (own_up (own_up (own_up (fun _ => 0) 0 (nar .byte (vf p0 p1 p2 p3))) 1 (nar .byte (vf p0 p1 p2 p3))) 2 (nar .byte (vf p0 p1 p2 p3))) 3 (nar .byte (vf p0 p1 p2 p3))) 4 (nar .byte (vf p0 p1 p2 p3))) 5 (nar .byte (vf p0 p1 p2 p3))) 6 (nar .byte (vf p0 p1 p2 p3))) 7 (nar .byte (vf p0 p1 p2 p3)))
def f0_550 (p0 : Int32) (p1 : Int32) (p2 : Int32) (p3 : Int32) (g6_550 : Int32) (g10_550 : Int32) (g11_550 : Int32) (g12_550 : Int32) (g13_550 : Int32) (g14_550 : Int32) (g100_550 : Int32) (F9_550 : Nat → Int32) : Int32 := (if g13_550 = (0 : Int32) then (0 : Int32) else (if g14_550 = (0 : Int32) then (0 : Int32) else (if g100_550 = (0 : Int32) then (0 : Int32) else (if (f4 (va p0 p1 p2 p3) F9_550) = g6_550 then (1 : Int32) else (0 : Int32)))))
def f0_549 (p0 : Int32) (p1 : Int32) (p2 : Int32) (p3 : Int32) (g6_549 : Int32) (g10_549 : Int32) (g11_549 : Int32) (g12_549 : Int32) (g13_549 : Int32) (g14_549 : Int32) (F9_549 : Nat → Int32) : Int32 := (f0_550 p0 p1 p2 p3 g6_549 g10_549 g11_549 g12_549 g13_549 g14_549 (0 : Int32) F9_549)
def f0_421 (p0 : Int32) (p1 : Int32) (p2 : Int32) (p3 : Int32) (g6_421 : Int32) (g10_421 : Int32) (g11_421 : Int32) (g12_421 : Int32) (g13_421 : Int32) (g100_421 : Int32) (F9_421 : Nat → Int32) : Int32 := (if (f3 (0 : Int32) (va p0 p1 p2 p3) g10_421 (vf p0 p1 p2 p3) F9_421) = (0 : Int32) then (f0_549 p0 p1 p2 p3 g6_421 g10_421 g11_421 g12_421 g13_421 g100_421 F9_421) else (if (f3 (1 : Int32) (va p0 p1 p2 p3) g10_421 (vf p0 p1 p2 p3) F9_421) = (0 : Int32) then (f0_549 p0 p1 p2 p3 g6_421 g10_421 g11_421 g12_421 g13_421 g100_421 F9_421) else (if (f3 (2 : Int32) (va p0 p1 p2 p3) g10_421 (vf p0 p1 p2 p3) F9_421) = (0 : Int32) then (f0_549 p0 p1 p2 p3 g6_421 g10_421 g11_421 g12_421 g13_421 g100_421 F9_421) else (if (f3 (3 : Int32) (va p0 p1 p2 p3) g10_421 (vf p0 p1 p2 p3) F9_421) = (0 : Int32) then (f0_549 p0 p1 p2 p3 g6_421 g10_421 g11_421 g12_421 g13_421 g100_421 F9_421) else (if (f3 (4 : Int32) (va p0 p1 p2 p3) g10_421 (vf p0 p1 p2 p3) F9_421) = (0 : Int32) then (f0_549 p0 p1 p2 p3 g6_421 g10_421 g11_421 g12_421 g13_421 g100_421 F9_421) else (if (f3 (5 : Int32) (va p0 p1 p2 p3) g10_421 (vf p0 p1 p2 p3) F9_421) = (0 : Int32) then (f0_549 p0 p1 p2 p3 g6_421 g10_421 g11_421 g12_421 g13_421 g100_421 F9_421) else (if (f3 (6 : Int32) (va p0 p1 p2 p3) g10_421 (vf p0 p1 p2 p3) F9_421) = (0 : Int32) then (f0_549 p0 p1 p2 p3 g6_421 g10_421 g11_421 g12_421 g13_421 g100_421 F9_421) else (if (f3 (7 : Int32) (va p0 p1 p2 p3) g10_421 (vf p0 p1 p2 p3) F9_421) = (0 : Int32) then (f0_549 p0 p1 p2 p3 g6_421 g10_421 g11_421 g12_421 g13_421 g100_421 F9_421) else (f0_550 p0 p1 p2 p3 g6_421 g10_421 g11_421 g12_421 g13_421 g100_421 (1 : Int32) F9_421)))))))))
def f0_420 (p0 : Int32) (p1 : Int32) (p2 : Int32) (p3 : Int32) (g6_420 : Int32) (g10_420 : Int32) (g11_420 : Int32) (g12_420 : Int32) (g13_420 : Int32) (F9_420 : Nat → Int32) : Int32 := (f0_421 p0 p1 p2 p3 g6_420 g10_420 g11_420 g12_420 g13_420 (0 : Int32) F9_420)
def f0_323 (p0 : Int32) (p1 : Int32) (p2 : Int32) (p3 : Int32) (g6_323 : Int32) (g10_323 : Int32) (g11_323 : Int32) (g12_323 : Int32) (g13_323 : Int32) (F9_323 : Nat → Int32) : Int32 := (if (f2 (1 : Int32) (va p0 p1 p2 p3) g10_323 F9_323) = (0 : Int32) then (f0_420 p0 p1 p2 p3 g6_323 g10_323 g11_323 g12_323 g13_323 F9_323) else (if (f2 (2 : Int32) (va p0 p1 p2 p3) g10_323 F9_323) = (0 : Int32) then (f0_420 p0 p1 p2 p3 g6_323 g10_323 g11_323 g12_323 g13_323 F9_323) else (if (f2 (3 : Int32) (va p0 p1 p2 p3) g10_323 F9_323) = (0 : Int32) then (f0_420 p0 p1 p2 p3 g6_323 g10_323 g11_323 g12_323 g13_323 F9_323) else (if (f2 (4 : Int32) (va p0 p1 p2 p3) g10_323 F9_323) = (0 : Int32) then (f0_420 p0 p1 p2 p3 g6_323 g10_323 g11_323 g12_323 g13_323 F9_323) else (if (f2 (5 : Int32) (va p0 p1 p2 p3) g10_323 F9_323) = (0 : Int32) then (f0_420 p0 p1 p2 p3 g6_323 g10_323 g11_323 g12_323 g13_323 F9_323) else (if (f2 (6 : Int32) (va p0 p1 p2 p3) g10_323 F9_323) = (0 : Int32) then (f0_420 p0 p1 p2 p3 g6_323 g10_323 g11_323 g12_323 g13_323 F9_323) else (if (f2 (7 : Int32) (va p0 p1 p2 p3) g10_323 F9_323) = (0 : Int32) then (f0_420 p0 p1 p2 p3 g6_323 g10_323 g11_323 g12_323 g13_323 F9_323) else (f0_421 p0 p1 p2 p3 g6_323 g10_323 g11_323 g12_323 g13_323 (1 : Int32) F9_323))))))))
def f0_321 (p0 : Int32) (p1 : Int32) (p2 : Int32) (p3 : Int32) (g6_321 : Int32) (g10_321 : Int32) (g11_321 : Int32) (g12_321 : Int32) (g100_321 : Int32) (F9_321 : Nat → Int32) : Int32 := (f0_323 p0 p1 p2 p3 g6_321 g10_321 g11_321 g12_321 g100_321 F9_321)
def f0_299 (p0 : Int32) (p1 : Int32) (p2 : Int32) (p3 : Int32) (g6_299 : Int32) (g10_299 : Int32) (g11_299 : Int32) (g12_299 : Int32) (g100_299 : Int32) (F9_299 : Nat → Int32) : Int32 := (f0_323 p0 p1 p2 p3 g6_299 g10_299 g11_299 g12_299 g100_299 F9_299)
def f0_271 (p0 : Int32) (p1 : Int32) (p2 : Int32) (p3 : Int32) (g6_271 : Int32) (g10_271 : Int32) (g11_271 : Int32) (g12_271 : Int32) (g100_271 : Int32) (F9_271 : Nat → Int32) : Int32 := (f0_323 p0 p1 p2 p3 g6_271 g10_271 g11_271 g12_271 g100_271 F9_271)
def f0_243 (p0 : Int32) (p1 : Int32) (p2 : Int32) (p3 : Int32) (g6_243 : Int32) (g10_243 : Int32) (g11_243 : Int32) (g12_243 : Int32) (g100_243 : Int32) (F9_243 : Nat → Int32) : Int32 := (f0_323 p0 p1 p2 p3 g6_243 g10_243 g11_243 g12_243 g100_243 F9_243)
def f0_202 (p0 : Int32) (p1 : Int32) (p2 : Int32) (p3 : Int32) (g6_202 : Int32) (g10_202 : Int32) (g100_202 : Int32) (F9_202 : Nat → Int32) : Int32 := (if g10_202 = g100_202 then (if g10_202 = (1 : Int32) then (if ((F9_202 (va p0 p1 p2 p3).toNatClampNeg) &&& (255 : Int32)) < (128 : Int32) then (f0_243 p0 p1 p2 p3 g6_202 g10_202 g100_202 ((F9_202 (va p0 p1 p2 p3).toNatClampNeg) &&& (255 : Int32)) (1 : Int32) F9_202) else (f0_243 p0 p1 p2 p3 g6_202 g10_202 g100_202 ((F9_202 (va p0 p1 p2 p3).toNatClampNeg) &&& (255 : Int32)) (0 : Int32) F9_202)) else (if g10_202 = (2 : Int32) then (if (((F9_202 (va p0 p1 p2 p3).toNatClampNeg) &&& (255 : Int32)) &&& (224 : Int32)) = (192 : Int32) then (f0_271 p0 p1 p2 p3 g6_202 g10_202 g100_202 ((F9_202 (va p0 p1 p2 p3).toNatClampNeg) &&& (255 : Int32)) (1 : Int32) F9_202) else (f0_271 p0 p1 p2 p3 g6_202 g10_202 g100_202 ((F9_202 (va p0 p1 p2 p3).toNatClampNeg) &&& (255 : Int32)) (0 : Int32) F9_202)) else (if g10_202 = (3 : Int32) then (if (((F9_202 (va p0 p1 p2 p3).toNatClampNeg) &&& (255 : Int32)) &&& (240 : Int32)) = (224 : Int32) then (f0_299 p0 p1 p2 p3 g6_202 g10_202 g100_202 ((F9_202 (va p0 p1 p2 p3).toNatClampNeg) &&& (255 : Int32)) (1 : Int32) F9_202) else (f0_299 p0 p1 p2 p3 g6_202 g10_202 g100_202 ((F9_202 (va p0 p1 p2 p3).toNatClampNeg) &&& (255 : Int32)) (0 : Int32) F9_202)) else (if (((F9_202 (va p0 p1 p2 p3).toNatClampNeg) &&& (255 : Int32)) &&& (248 : Int32)) = (240 : Int32) then (f0_321 p0 p1 p2 p3 g6_202 g10_202 g100_202 ((F9_202 (va p0 p1 p2 p3).toNatClampNeg) &&& (255 : Int32)) (1 : Int32) F9_202) else (f0_321 p0 p1 p2 p3 g6_202 g10_202 g100_202 ((F9_202 (va p0 p1 p2 p3).toNatClampNeg) &&& (255 : Int32)) (0 : Int32) F9_202))))) else (0 : Int32))
def f0_90 (p0 : Int32) (p1 : Int32) (p2 : Int32) (p3 : Int32) (g6_90 : Int32) : Int32 := (if g6_90 < (128 : Int32) then (f0_202 p0 p1 p2 p3 g6_90 (f1 g6_90 (va p0 p1 p2 p3) (vF p0 p1 p2 p3)).1 (1 : Int32) (f1 g6_90 (va p0 p1 p2 p3) (vF p0 p1 p2 p3)).2) else (if g6_90 < (2048 : Int32) then (f0_202 p0 p1 p2 p3 g6_90 (f1 g6_90 (va p0 p1 p2 p3) (vF p0 p1 p2 p3)).1 (2 : Int32) (f1 g6_90 (va p0 p1 p2 p3) (vF p0 p1 p2 p3)).2) else (if g6_90 < (65536 : Int32) then (f0_202 p0 p1 p2 p3 g6_90 (f1 g6_90 (va p0 p1 p2 p3) (vF p0 p1 p2 p3)).1 (3 : Int32) (f1 g6_90 (va p0 p1 p2 p3) (vF p0 p1 p2 p3)).2) else (f0_202 p0 p1 p2 p3 g6_90 (f1 g6_90 (va p0 p1 p2 p3) (vF p0 p1 p2 p3)).1 (4 : Int32) (f1 g6_90 (va p0 p1 p2 p3) (vF p0 p1 p2 p3)).2))))
def f0 (p0 : Int32) (p1 : Int32) (p2 : Int32) (p3 : Int32) : Int32 := (if (vk p0 p1 p2 p3) = (0 : Int32) then (f0_90 p0 p1 p2 p3 ((vr p0 p1 p2 p3) &&& (127 : Int32))) else (if (vk p0 p1 p2 p3) = (1 : Int32) then (f0_90 p0 p1 p2 p3 ((128 : Int32) + ((vr p0 p1 p2 p3) - ((vr p0 p1 p2 p3) / (1920 : Int32)) * (1920 : Int32)))) else (if (vk p0 p1 p2 p3) = (2 : Int32) then (if ((2048 : Int32) + ((vr p0 p1 p2 p3) - ((vr p0 p1 p2 p3) / (61440 : Int32)) * (61440 : Int32))) < (55296 : Int32) then (f0_90 p0 p1 p2 p3 ((2048 : Int32) + ((vr p0 p1 p2 p3) - ((vr p0 p1 p2 p3) / (61440 : Int32)) * (61440 : Int32)))) else (f0_90 p0 p1 p2 p3 (((2048 : Int32) + ((vr p0 p1 p2 p3) - ((vr p0 p1 p2 p3) / (61440 : Int32)) * (61440 : Int32))) + (2048 : Int32)))) else (f0_90 p0 p1 p2 p3 ((65536 : Int32) + ((vr p0 p1 p2 p3) - ((vr p0 p1 p2 p3) / (1048576 : Int32)) * (1048576 : Int32)))))))
set_option maxRecDepth 65536 in
set_option maxHeartbeats 40000000 in
theorem rm0 (l : Launch) (Z : State) (a0 : Array Value) (hw : ∀ d ∈ tables_1, d.before a0 Z = true) (ws : List Jvm.Cond) (p0 : Int32) (p1 : Int32) (p2 : Int32) (p3 : Int32) (h0 : Heap) (n0 : Nat) (Z0 : n0 ≤ h0.size) :
    MetFree l x (head1 (Jvm.Cond.code x code maxLocals ret :: ws) room_1) (fun a U => a = #[(.int p0), (.int p1), (.int p2), (.int p3)] ∧ Z.Warmed39 U.vm ∧ U.heap = h0) (fun _ _ _ _ _ => True) (fun _ U o U' => ∃ v L, o = .returned v ∧ own_GI n0 (fun _ => True) (f0 p0 p1 p2 p3) v U'.heap L ∧ FrameEnd U o U' L 1 8) := by
  refine MetFree.of_bodySF pn_0 hisR ?_
  intro p e s m args below meth c s₁ Bd hml0 hP hK
  obtain ⟨rfl, hZ, hh⟩ := hP
  have hx := Bd.exec
  have hby := Bd.bytes
  have hml : c.maxLocals = 16 := hml0
  have hown : s.vm.findClass "com/example/holyrood/holyrood/Utf8EncodePinLaw" = some m.cls := findClass_of_methodNamed Bd.named
  have hlk : meth.locks = false := BodyLoose.notSynchronized Bd
  have X0 : Stand p l e room_1 s m #[(.int p0), (.int p1), (.int p2), (.int p3)] below meth c s₁ [] 0 0 := Stand.of_body Bd
  have e0 : s₁.heap = h0 := by rw [← hh, Bd.state]; rfl
  have N0 := Fr.nil n0
  have zs0 : n0 ≤ s₁.heap.size := by rw [e0]; exact Z0
  have B550 : ∀ (T : State) (locs : List Loc) (g6_550 : Int32) (r9_550 : Addr) (g10_550 : Int32) (g11_550 : Int32) (g12_550 : Int32) (g13_550 : Int32) (g14_550 : Int32) (g100_550 : Int32) (F9_550 : Nat → Int32) (X : Stand p l e room_1 s m #[(.int p0), (.int p1), (.int p2), (.int p3)] below meth c T locs 1 8) (N : Fr n0 locs) (zs : n0 ≤ T.heap.size) (G_r9_550 : n0 ≤ r9_550) (A_r9_550 : own_A Z T.heap r9_550 .byte 8 F9_550), own_W p e below s 1 8 (own_GI n0 (fun _ => True) (f0_550 p0 p1 p2 p3 g6_550 g10_550 g11_550 g12_550 g13_550 g14_550 g100_550 F9_550)) T (mkF m 550 #[.val (.int p0), .val (.int p1), .val (.int p2), .val (.int p3), .val (.int (vk p0 p1 p2 p3)), .val (.int (vr p0 p1 p2 p3)), .val (.int g6_550), .val (.int (va p0 p1 p2 p3)), .val (.int (vf p0 p1 p2 p3)), .val (.ref r9_550), .val (.int g10_550), .val (.int g11_550), .val (.int g12_550), .val (.int g13_550), .val (.int g14_550), .unset] [(.int g100_550)]) := by
    intro T locs g6_550 r9_550 g10_550 g11_550 g12_550 g13_550 g14_550 g100_550 F9_550 X N zs G_r9_550 A_r9_550
    unfold f0_550
    refine own_st (T' := T) (f' := (mkF m 552 #[.val (.int p0), .val (.int p1), .val (.int p2), .val (.int p3), .val (.int (vk p0 p1 p2 p3)), .val (.int (vr p0 p1 p2 p3)), .val (.int g6_550), .val (.int (va p0 p1 p2 p3)), .val (.int (vf p0 p1 p2 p3)), .val (.ref r9_550), .val (.int g10_550), .val (.int g11_550), .val (.int g12_550), .val (.int g13_550), .val (.int g14_550), .val (.int g100_550)] [])) ?_ (fun t q => XS.istore X.here hx rfl (hb hby at_550) rfl (l' := #[.val (.int p0), .val (.int p1), .val (.int p2), .val (.int p3), .val (.int (vk p0 p1 p2 p3)), .val (.int (vr p0 p1 p2 p3)), .val (.int g6_550), .val (.int (va p0 p1 p2 p3)), .val (.int (vf p0 p1 p2 p3)), .val (.ref r9_550), .val (.int g10_550), .val (.int g11_550), .val (.int g12_550), .val (.int g13_550), .val (.int g14_550), .val (.int g100_550)]) rfl q)
    refine own_st (T' := T) (f' := (mkF m 554 #[.val (.int p0), .val (.int p1), .val (.int p2), .val (.int p3), .val (.int (vk p0 p1 p2 p3)), .val (.int (vr p0 p1 p2 p3)), .val (.int g6_550), .val (.int (va p0 p1 p2 p3)), .val (.int (vf p0 p1 p2 p3)), .val (.ref r9_550), .val (.int g10_550), .val (.int g11_550), .val (.int g12_550), .val (.int g13_550), .val (.int g14_550), .val (.int g100_550)] [(.int g13_550)])) ?_ (fun t q => XS.iload X.here hx rfl (hb hby at_552) rfl q)
    refine own_ite (fun hc554 => ?_) (fun hc554 => ?_)
    · refine own_st (T' := T) (f' := (mkF m 583 #[.val (.int p0), .val (.int p1), .val (.int p2), .val (.int p3), .val (.int (vk p0 p1 p2 p3)), .val (.int (vr p0 p1 p2 p3)), .val (.int g6_550), .val (.int (va p0 p1 p2 p3)), .val (.int (vf p0 p1 p2 p3)), .val (.ref r9_550), .val (.int g10_550), .val (.int g11_550), .val (.int g12_550), .val (.int g13_550), .val (.int g14_550), .val (.int g100_550)] [])) ?_ (fun t q => XS.ifYes X.here hx rfl (pc0 := 554) (pc' := 583) rfl (hb hby at_554) rfl ((if0 _ _).trans (teq hc554).1) (by decide) (by decide) q)
      refine own_st (T' := T) (f' := (mkF m 584 #[.val (.int p0), .val (.int p1), .val (.int p2), .val (.int p3), .val (.int (vk p0 p1 p2 p3)), .val (.int (vr p0 p1 p2 p3)), .val (.int g6_550), .val (.int (va p0 p1 p2 p3)), .val (.int (vf p0 p1 p2 p3)), .val (.ref r9_550), .val (.int g10_550), .val (.int g11_550), .val (.int g12_550), .val (.int g13_550), .val (.int g14_550), .val (.int g100_550)] [(.int (0 : Int32))])) ?_ (fun t q => XS.iconst X.here hx rfl (hb hby at_583) q)
      exact own_retN X hx hlk (t := .boolean) Bd.returns (by simp) (hb hby at_584) (by decide) (by decide) ⟨rfl, N, trivial⟩
    · refine own_st (T' := T) (f' := (mkF m 557 #[.val (.int p0), .val (.int p1), .val (.int p2), .val (.int p3), .val (.int (vk p0 p1 p2 p3)), .val (.int (vr p0 p1 p2 p3)), .val (.int g6_550), .val (.int (va p0 p1 p2 p3)), .val (.int (vf p0 p1 p2 p3)), .val (.ref r9_550), .val (.int g10_550), .val (.int g11_550), .val (.int g12_550), .val (.int g13_550), .val (.int g14_550), .val (.int g100_550)] [])) ?_ (fun t q => XS.ifNo X.here hx rfl (hb hby at_554) rfl ((if0 _ _).trans (feq hc554).1) q)
      refine own_st (T' := T) (f' := (mkF m 559 #[.val (.int p0), .val (.int p1), .val (.int p2), .val (.int p3), .val (.int (vk p0 p1 p2 p3)), .val (.int (vr p0 p1 p2 p3)), .val (.int g6_550), .val (.int (va p0 p1 p2 p3)), .val (.int (vf p0 p1 p2 p3)), .val (.ref r9_550), .val (.int g10_550), .val (.int g11_550), .val (.int g12_550), .val (.int g13_550), .val (.int g14_550), .val (.int g100_550)] [(.int g14_550)])) ?_ (fun t q => XS.iload X.here hx rfl (hb hby at_557) rfl q)
      refine own_ite (fun hc559 => ?_) (fun hc559 => ?_)
      · refine own_st (T' := T) (f' := (mkF m 583 #[.val (.int p0), .val (.int p1), .val (.int p2), .val (.int p3), .val (.int (vk p0 p1 p2 p3)), .val (.int (vr p0 p1 p2 p3)), .val (.int g6_550), .val (.int (va p0 p1 p2 p3)), .val (.int (vf p0 p1 p2 p3)), .val (.ref r9_550), .val (.int g10_550), .val (.int g11_550), .val (.int g12_550), .val (.int g13_550), .val (.int g14_550), .val (.int g100_550)] [])) ?_ (fun t q => XS.ifYes X.here hx rfl (pc0 := 559) (pc' := 583) rfl (hb hby at_559) rfl ((if0 _ _).trans (teq hc559).1) (by decide) (by decide) q)
        refine own_st (T' := T) (f' := (mkF m 584 #[.val (.int p0), .val (.int p1), .val (.int p2), .val (.int p3), .val (.int (vk p0 p1 p2 p3)), .val (.int (vr p0 p1 p2 p3)), .val (.int g6_550), .val (.int (va p0 p1 p2 p3)), .val (.int (vf p0 p1 p2 p3)), .val (.ref r9_550), .val (.int g10_550), .val (.int g11_550), .val (.int g12_550), .val (.int g13_550), .val (.int g14_550), .val (.int g100_550)] [(.int (0 : Int32))])) ?_ (fun t q => XS.iconst X.here hx rfl (hb hby at_583) q)
        exact own_retN X hx hlk (t := .boolean) Bd.returns (by simp) (hb hby at_584) (by decide) (by decide) ⟨rfl, N, trivial⟩
      · refine own_st (T' := T) (f' := (mkF m 562 #[.val (.int p0), .val (.int p1), .val (.int p2), .val (.int p3), .val (.int (vk p0 p1 p2 p3)), .val (.int (vr p0 p1 p2 p3)), .val (.int g6_550), .val (.int (va p0 p1 p2 p3)), .val (.int (vf p0 p1 p2 p3)), .val (.ref r9_550), .val (.int g10_550), .val (.int g11_550), .val (.int g12_550), .val (.int g13_550), .val (.int g14_550), .val (.int g100_550)] [])) ?_ (fun t q => XS.ifNo X.here hx rfl (hb hby at_559) rfl ((if0 _ _).trans (feq hc559).1) q)
        refine own_st (T' := T) (f' := (mkF m 564 #[.val (.int p0), .val (.int p1), .val (.int p2), .val (.int p3), .val (.int (vk p0 p1 p2 p3)), .val (.int (vr p0 p1 p2 p3)), .val (.int g6_550), .val (.int (va p0 p1 p2 p3)), .val (.int (vf p0 p1 p2 p3)), .val (.ref r9_550), .val (.int g10_550), .val (.int g11_550), .val (.int g12_550), .val (.int g13_550), .val (.int g14_550), .val (.int g100_550)] [(.int g100_550)])) ?_ (fun t q => XS.iload X.here hx rfl (hb hby at_562) rfl q)
        refine own_ite (fun hc564 => ?_) (fun hc564 => ?_)
        · refine own_st (T' := T) (f' := (mkF m 583 #[.val (.int p0), .val (.int p1), .val (.int p2), .val (.int p3), .val (.int (vk p0 p1 p2 p3)), .val (.int (vr p0 p1 p2 p3)), .val (.int g6_550), .val (.int (va p0 p1 p2 p3)), .val (.int (vf p0 p1 p2 p3)), .val (.ref r9_550), .val (.int g10_550), .val (.int g11_550), .val (.int g12_550), .val (.int g13_550), .val (.int g14_550), .val (.int g100_550)] [])) ?_ (fun t q => XS.ifYes X.here hx rfl (pc0 := 564) (pc' := 583) rfl (hb hby at_564) rfl ((if0 _ _).trans (teq hc564).1) (by decide) (by decide) q)
          refine own_st (T' := T) (f' := (mkF m 584 #[.val (.int p0), .val (.int p1), .val (.int p2), .val (.int p3), .val (.int (vk p0 p1 p2 p3)), .val (.int (vr p0 p1 p2 p3)), .val (.int g6_550), .val (.int (va p0 p1 p2 p3)), .val (.int (vf p0 p1 p2 p3)), .val (.ref r9_550), .val (.int g10_550), .val (.int g11_550), .val (.int g12_550), .val (.int g13_550), .val (.int g14_550), .val (.int g100_550)] [(.int (0 : Int32))])) ?_ (fun t q => XS.iconst X.here hx rfl (hb hby at_583) q)
          exact own_retN X hx hlk (t := .boolean) Bd.returns (by simp) (hb hby at_584) (by decide) (by decide) ⟨rfl, N, trivial⟩
        · refine own_st (T' := T) (f' := (mkF m 567 #[.val (.int p0), .val (.int p1), .val (.int p2), .val (.int p3), .val (.int (vk p0 p1 p2 p3)), .val (.int (vr p0 p1 p2 p3)), .val (.int g6_550), .val (.int (va p0 p1 p2 p3)), .val (.int (vf p0 p1 p2 p3)), .val (.ref r9_550), .val (.int g10_550), .val (.int g11_550), .val (.int g12_550), .val (.int g13_550), .val (.int g14_550), .val (.int g100_550)] [])) ?_ (fun t q => XS.ifNo X.here hx rfl (hb hby at_564) rfl ((if0 _ _).trans (feq hc564).1) q)
          refine own_st (T' := T) (f' := (mkF m 569 #[.val (.int p0), .val (.int p1), .val (.int p2), .val (.int p3), .val (.int (vk p0 p1 p2 p3)), .val (.int (vr p0 p1 p2 p3)), .val (.int g6_550), .val (.int (va p0 p1 p2 p3)), .val (.int (vf p0 p1 p2 p3)), .val (.ref r9_550), .val (.int g10_550), .val (.int g11_550), .val (.int g12_550), .val (.int g13_550), .val (.int g14_550), .val (.int g100_550)] [(.ref r9_550)])) ?_ (fun t q => XS.aload X.here hx rfl (hb hby at_567) rfl rfl q)
          refine own_st (T' := T) (f' := (mkF m 571 #[.val (.int p0), .val (.int p1), .val (.int p2), .val (.int p3), .val (.int (vk p0 p1 p2 p3)), .val (.int (vr p0 p1 p2 p3)), .val (.int g6_550), .val (.int (va p0 p1 p2 p3)), .val (.int (vf p0 p1 p2 p3)), .val (.ref r9_550), .val (.int g10_550), .val (.int g11_550), .val (.int g12_550), .val (.int g13_550), .val (.int g14_550), .val (.int g100_550)] [(.int (va p0 p1 p2 p3)), (.ref r9_550)])) ?_ (fun t q => XS.iload X.here hx rfl (hb hby at_569) rfl q)
          obtain ⟨_, _, ⟨T1, L1, k1, n1⟩, -, X1, ⟨Lc1, hQ1, l1, y1, z1⟩, st1⟩ := Jvm.LawKit.callS X hx (y := (⟨"com/example/holyrood/holyrood/Utf8", "decode", "([BI)I"⟩ : MethodName)) hown (mvT hZ (hw _ (List.mem_of_getElem? (i := 13) rfl))) (mvT hZ (hw _ (List.mem_of_getElem? (i := 14) rfl))) (mvT hZ (hw _ (List.mem_of_getElem? (i := 4) rfl))) (mvT hZ (hw _ (List.mem_of_getElem? (i := 15) rfl))) (by decide) (backOf (W := 0) (rm4 l Z a0 hw [] r9_550 (va p0 p1 p2 p3) 8 F9_550 T.heap n0 A_r9_550 (own_a1 p2) (own_a2 p2) (by decide)) hZ (hw _ (List.mem_of_getElem? (i := 15) rfl)) (hw _ (List.mem_of_getElem? (i := 4) rfl)) (by decide) (by decide)) (g := (mkF m 571 #[.val (.int p0), .val (.int p1), .val (.int p2), .val (.int p3), .val (.int (vk p0 p1 p2 p3)), .val (.int (vr p0 p1 p2 p3)), .val (.int g6_550), .val (.int (va p0 p1 p2 p3)), .val (.int (vf p0 p1 p2 p3)), .val (.ref r9_550), .val (.int g10_550), .val (.int g11_550), .val (.int g12_550), .val (.int g13_550), .val (.int g14_550), .val (.int g100_550)] [(.int (va p0 p1 p2 p3)), (.ref r9_550)])) rfl (by rw [hml]; rfl) (argsL := [(.ref r9_550), (.int (va p0 p1 p2 p3))]) (rest := []) (lenOf pd_3 rfl) rfl (by show 2 * 0 + _ ≤ _; exact Nat.le_of_eq rfl) (hb hby at_571) (fun _ _ => ⟨rfl, rfl, (Nat.le_of_ble_eq_true rfl), (Nat.le_of_ble_eq_true rfl)⟩)
          dsimp only [Pt.U, Pt.locs, Pt.cells, Pt.slots] at X1 l1 y1 z1 st1 hQ1
          subst l1 y1 z1
          obtain ⟨rfl, N1q, e1⟩ := hQ1
          have N1 := Fr.app N N1q
          have zs1 : n0 ≤ T1.heap.size := by rw [e1]; exact zs
          have A1_r9_550 := own_A.eq A_r9_550 e1
          refine own_st (T' := T1) (f' := (mkF m 574 #[.val (.int p0), .val (.int p1), .val (.int p2), .val (.int p3), .val (.int (vk p0 p1 p2 p3)), .val (.int (vr p0 p1 p2 p3)), .val (.int g6_550), .val (.int (va p0 p1 p2 p3)), .val (.int (vf p0 p1 p2 p3)), .val (.ref r9_550), .val (.int g10_550), .val (.int g11_550), .val (.int g12_550), .val (.int g13_550), .val (.int g14_550), .val (.int g100_550)] [(.int (f4 (va p0 p1 p2 p3) F9_550))])) ?_ (fun t q => st1 _ q)
          refine own_st (T' := T1) (f' := (mkF m 576 #[.val (.int p0), .val (.int p1), .val (.int p2), .val (.int p3), .val (.int (vk p0 p1 p2 p3)), .val (.int (vr p0 p1 p2 p3)), .val (.int g6_550), .val (.int (va p0 p1 p2 p3)), .val (.int (vf p0 p1 p2 p3)), .val (.ref r9_550), .val (.int g10_550), .val (.int g11_550), .val (.int g12_550), .val (.int g13_550), .val (.int g14_550), .val (.int g100_550)] [(.int g6_550), (.int (f4 (va p0 p1 p2 p3) F9_550))])) ?_ (fun t q => XS.iload X1.here hx rfl (hb hby at_574) rfl q)
          refine own_ite (fun hc576 => ?_) (fun hc576 => ?_)
          · refine own_st (T' := T1) (f' := (mkF m 579 #[.val (.int p0), .val (.int p1), .val (.int p2), .val (.int p3), .val (.int (vk p0 p1 p2 p3)), .val (.int (vr p0 p1 p2 p3)), .val (.int g6_550), .val (.int (va p0 p1 p2 p3)), .val (.int (vf p0 p1 p2 p3)), .val (.ref r9_550), .val (.int g10_550), .val (.int g11_550), .val (.int g12_550), .val (.int g13_550), .val (.int g14_550), .val (.int g100_550)] [])) ?_ (fun t q => XS.icmpNo X1.here hx rfl (hb hby at_576) rfl (teq hc576).2 q)
            refine own_st (T' := T1) (f' := (mkF m 580 #[.val (.int p0), .val (.int p1), .val (.int p2), .val (.int p3), .val (.int (vk p0 p1 p2 p3)), .val (.int (vr p0 p1 p2 p3)), .val (.int g6_550), .val (.int (va p0 p1 p2 p3)), .val (.int (vf p0 p1 p2 p3)), .val (.ref r9_550), .val (.int g10_550), .val (.int g11_550), .val (.int g12_550), .val (.int g13_550), .val (.int g14_550), .val (.int g100_550)] [(.int (1 : Int32))])) ?_ (fun t q => XS.iconst X1.here hx rfl (hb hby at_579) q)
            refine own_st (T' := T1) (f' := (mkF m 584 #[.val (.int p0), .val (.int p1), .val (.int p2), .val (.int p3), .val (.int (vk p0 p1 p2 p3)), .val (.int (vr p0 p1 p2 p3)), .val (.int g6_550), .val (.int (va p0 p1 p2 p3)), .val (.int (vf p0 p1 p2 p3)), .val (.ref r9_550), .val (.int g10_550), .val (.int g11_550), .val (.int g12_550), .val (.int g13_550), .val (.int g14_550), .val (.int g100_550)] [(.int (1 : Int32))])) ?_ (fun t q => XS.goto X1.here hx rfl (pc0 := 580) (pc' := 584) rfl (hb hby at_580) (by decide) (by decide) q)
            exact own_retN X1 hx hlk (t := .boolean) Bd.returns (by simp) (hb hby at_584) (by decide) (by decide) ⟨rfl, N1, trivial⟩
          · refine own_st (T' := T1) (f' := (mkF m 583 #[.val (.int p0), .val (.int p1), .val (.int p2), .val (.int p3), .val (.int (vk p0 p1 p2 p3)), .val (.int (vr p0 p1 p2 p3)), .val (.int g6_550), .val (.int (va p0 p1 p2 p3)), .val (.int (vf p0 p1 p2 p3)), .val (.ref r9_550), .val (.int g10_550), .val (.int g11_550), .val (.int g12_550), .val (.int g13_550), .val (.int g14_550), .val (.int g100_550)] [])) ?_ (fun t q => XS.icmpYes X1.here hx rfl (pc0 := 576) (pc' := 583) rfl (hb hby at_576) rfl (feq hc576).2 (by decide) (by decide) q)
            refine own_st (T' := T1) (f' := (mkF m 584 #[.val (.int p0), .val (.int p1), .val (.int p2), .val (.int p3), .val (.int (vk p0 p1 p2 p3)), .val (.int (vr p0 p1 p2 p3)), .val (.int g6_550), .val (.int (va p0 p1 p2 p3)), .val (.int (vf p0 p1 p2 p3)), .val (.ref r9_550), .val (.int g10_550), .val (.int g11_550), .val (.int g12_550), .val (.int g13_550), .val (.int g14_550), .val (.int g100_550)] [(.int (0 : Int32))])) ?_ (fun t q => XS.iconst X1.here hx rfl (hb hby at_583) q)
            exact own_retN X1 hx hlk (t := .boolean) Bd.returns (by simp) (hb hby at_584) (by decide) (by decide) ⟨rfl, N1, trivial⟩
  have B549 : ∀ (T : State) (locs : List Loc) (g6_549 : Int32) (r9_549 : Addr) (g10_549 : Int32) (g11_549 : Int32) (g12_549 : Int32) (g13_549 : Int32) (g14_549 : Int32) (F9_549 : Nat → Int32) (X : Stand p l e room_1 s m #[(.int p0), (.int p1), (.int p2), (.int p3)] below meth c T locs 1 8) (N : Fr n0 locs) (zs : n0 ≤ T.heap.size) (G_r9_549 : n0 ≤ r9_549) (A_r9_549 : own_A Z T.heap r9_549 .byte 8 F9_549), own_W p e below s 1 8 (own_GI n0 (fun _ => True) (f0_549 p0 p1 p2 p3 g6_549 g10_549 g11_549 g12_549 g13_549 g14_549 F9_549)) T (mkF m 549 #[.val (.int p0), .val (.int p1), .val (.int p2), .val (.int p3), .val (.int (vk p0 p1 p2 p3)), .val (.int (vr p0 p1 p2 p3)), .val (.int g6_549), .val (.int (va p0 p1 p2 p3)), .val (.int (vf p0 p1 p2 p3)), .val (.ref r9_549), .val (.int g10_549), .val (.int g11_549), .val (.int g12_549), .val (.int g13_549), .val (.int g14_549), .unset] []) := by
    intro T locs g6_549 r9_549 g10_549 g11_549 g12_549 g13_549 g14_549 F9_549 X N zs G_r9_549 A_r9_549
    unfold f0_549
    refine own_st (T' := T) (f' := (mkF m 550 #[.val (.int p0), .val (.int p1), .val (.int p2), .val (.int p3), .val (.int (vk p0 p1 p2 p3)), .val (.int (vr p0 p1 p2 p3)), .val (.int g6_549), .val (.int (va p0 p1 p2 p3)), .val (.int (vf p0 p1 p2 p3)), .val (.ref r9_549), .val (.int g10_549), .val (.int g11_549), .val (.int g12_549), .val (.int g13_549), .val (.int g14_549), .unset] [(.int (0 : Int32))])) ?_ (fun t q => XS.iconst X.here hx rfl (hb hby at_549) q)
    exact B550 T _ g6_549 r9_549 g10_549 g11_549 g12_549 g13_549 g14_549 (0 : Int32) F9_549 X N zs G_r9_549 A_r9_549
  have B421 : ∀ (T : State) (locs : List Loc) (g6_421 : Int32) (r9_421 : Addr) (g10_421 : Int32) (g11_421 : Int32) (g12_421 : Int32) (g13_421 : Int32) (g100_421 : Int32) (F9_421 : Nat → Int32) (X : Stand p l e room_1 s m #[(.int p0), (.int p1), (.int p2), (.int p3)] below meth c T locs 1 8) (N : Fr n0 locs) (zs : n0 ≤ T.heap.size) (G_r9_421 : n0 ≤ r9_421) (A_r9_421 : own_A Z T.heap r9_421 .byte 8 F9_421), own_W p e below s 1 8 (own_GI n0 (fun _ => True) (f0_421 p0 p1 p2 p3 g6_421 g10_421 g11_421 g12_421 g13_421 g100_421 F9_421)) T (mkF m 421 #[.val (.int p0), .val (.int p1), .val (.int p2), .val (.int p3), .val (.int (vk p0 p1 p2 p3)), .val (.int (vr p0 p1 p2 p3)), .val (.int g6_421), .val (.int (va p0 p1 p2 p3)), .val (.int (vf p0 p1 p2 p3)), .val (.ref r9_421), .val (.int g10_421), .val (.int g11_421), .val (.int g12_421), .val (.int g13_421), .unset, .unset] [(.int g100_421)]) := by
    intro T locs g6_421 r9_421 g10_421 g11_421 g12_421 g13_421 g100_421 F9_421 X N zs G_r9_421 A_r9_421
    unfold f0_421
    refine own_st (T' := T) (f' := (mkF m 423 #[.val (.int p0), .val (.int p1), .val (.int p2), .val (.int p3), .val (.int (vk p0 p1 p2 p3)), .val (.int (vr p0 p1 p2 p3)), .val (.int g6_421), .val (.int (va p0 p1 p2 p3)), .val (.int (vf p0 p1 p2 p3)), .val (.ref r9_421), .val (.int g10_421), .val (.int g11_421), .val (.int g12_421), .val (.int g13_421), .val (.int g100_421), .unset] [])) ?_ (fun t q => XS.istore X.here hx rfl (hb hby at_421) rfl (l' := #[.val (.int p0), .val (.int p1), .val (.int p2), .val (.int p3), .val (.int (vk p0 p1 p2 p3)), .val (.int (vr p0 p1 p2 p3)), .val (.int g6_421), .val (.int (va p0 p1 p2 p3)), .val (.int (vf p0 p1 p2 p3)), .val (.ref r9_421), .val (.int g10_421), .val (.int g11_421), .val (.int g12_421), .val (.int g13_421), .val (.int g100_421), .unset]) rfl q)
    refine own_st (T' := T) (f' := (mkF m 425 #[.val (.int p0), .val (.int p1), .val (.int p2), .val (.int p3), .val (.int (vk p0 p1 p2 p3)), .val (.int (vr p0 p1 p2 p3)), .val (.int g6_421), .val (.int (va p0 p1 p2 p3)), .val (.int (vf p0 p1 p2 p3)), .val (.ref r9_421), .val (.int g10_421), .val (.int g11_421), .val (.int g12_421), .val (.int g13_421), .val (.int g100_421), .unset] [(.ref r9_421)])) ?_ (fun t q => XS.aload X.here hx rfl (hb hby at_423) rfl rfl q)
    refine own_st (T' := T) (f' := (mkF m 426 #[.val (.int p0), .val (.int p1), .val (.int p2), .val (.int p3), .val (.int (vk p0 p1 p2 p3)), .val (.int (vr p0 p1 p2 p3)), .val (.int g6_421), .val (.int (va p0 p1 p2 p3)), .val (.int (vf p0 p1 p2 p3)), .val (.ref r9_421), .val (.int g10_421), .val (.int g11_421), .val (.int g12_421), .val (.int g13_421), .val (.int g100_421), .unset] [(.int (0 : Int32)), (.ref r9_421)])) ?_ (fun t q => XS.iconst X.here hx rfl (hb hby at_425) q)
    refine own_st (T' := T) (f' := (mkF m 428 #[.val (.int p0), .val (.int p1), .val (.int p2), .val (.int p3), .val (.int (vk p0 p1 p2 p3)), .val (.int (vr p0 p1 p2 p3)), .val (.int g6_421), .val (.int (va p0 p1 p2 p3)), .val (.int (vf p0 p1 p2 p3)), .val (.ref r9_421), .val (.int g10_421), .val (.int g11_421), .val (.int g12_421), .val (.int g13_421), .val (.int g100_421), .unset] [(.int (va p0 p1 p2 p3)), (.int (0 : Int32)), (.ref r9_421)])) ?_ (fun t q => XS.iload X.here hx rfl (hb hby at_426) rfl q)
    refine own_st (T' := T) (f' := (mkF m 430 #[.val (.int p0), .val (.int p1), .val (.int p2), .val (.int p3), .val (.int (vk p0 p1 p2 p3)), .val (.int (vr p0 p1 p2 p3)), .val (.int g6_421), .val (.int (va p0 p1 p2 p3)), .val (.int (vf p0 p1 p2 p3)), .val (.ref r9_421), .val (.int g10_421), .val (.int g11_421), .val (.int g12_421), .val (.int g13_421), .val (.int g100_421), .unset] [(.int g10_421), (.int (va p0 p1 p2 p3)), (.int (0 : Int32)), (.ref r9_421)])) ?_ (fun t q => XS.iload X.here hx rfl (hb hby at_428) rfl q)
    refine own_st (T' := T) (f' := (mkF m 432 #[.val (.int p0), .val (.int p1), .val (.int p2), .val (.int p3), .val (.int (vk p0 p1 p2 p3)), .val (.int (vr p0 p1 p2 p3)), .val (.int g6_421), .val (.int (va p0 p1 p2 p3)), .val (.int (vf p0 p1 p2 p3)), .val (.ref r9_421), .val (.int g10_421), .val (.int g11_421), .val (.int g12_421), .val (.int g13_421), .val (.int g100_421), .unset] [(.int (vf p0 p1 p2 p3)), (.int g10_421), (.int (va p0 p1 p2 p3)), (.int (0 : Int32)), (.ref r9_421)])) ?_ (fun t q => XS.iload X.here hx rfl (hb hby at_430) rfl q)
    obtain ⟨_, _, ⟨T2, L2, k2, n2⟩, -, X2, ⟨Lc2, hQ2, l2, y2, z2⟩, st2⟩ := Jvm.LawKit.callS X hx (y := (⟨"com/example/holyrood/holyrood/Utf8EncodePinLaw", "untouched", "([BIIIB)Z"⟩ : MethodName)) hown (mvT hZ (hw _ (List.mem_of_getElem? (i := 10) rfl))) (mvT hZ (hw _ (List.mem_of_getElem? (i := 11) rfl))) (mvT hZ (hw _ (List.mem_of_getElem? (i := 8) rfl))) (mvT hZ (hw _ (List.mem_of_getElem? (i := 12) rfl))) (by decide) (backOf (W := 0) (rm3 l Z a0 hw [] r9_421 (0 : Int32) (va p0 p1 p2 p3) g10_421 (vf p0 p1 p2 p3) 8 F9_421 T.heap n0 A_r9_421 ⟨by decide, by decide⟩) hZ (hw _ (List.mem_of_getElem? (i := 12) rfl)) (hw _ (List.mem_of_getElem? (i := 8) rfl)) (by decide) (by decide)) (g := (mkF m 432 #[.val (.int p0), .val (.int p1), .val (.int p2), .val (.int p3), .val (.int (vk p0 p1 p2 p3)), .val (.int (vr p0 p1 p2 p3)), .val (.int g6_421), .val (.int (va p0 p1 p2 p3)), .val (.int (vf p0 p1 p2 p3)), .val (.ref r9_421), .val (.int g10_421), .val (.int g11_421), .val (.int g12_421), .val (.int g13_421), .val (.int g100_421), .unset] [(.int (vf p0 p1 p2 p3)), (.int g10_421), (.int (va p0 p1 p2 p3)), (.int (0 : Int32)), (.ref r9_421)])) rfl (by rw [hml]; rfl) (argsL := [(.ref r9_421), (.int (0 : Int32)), (.int (va p0 p1 p2 p3)), (.int g10_421), (.int (vf p0 p1 p2 p3))]) (rest := []) (lenOf pd_2 rfl) rfl (by show 2 * 0 + _ ≤ _; exact Nat.le_of_eq rfl) (hb hby at_432) (fun _ _ => ⟨rfl, rfl, (Nat.le_of_ble_eq_true rfl), (Nat.le_of_ble_eq_true rfl)⟩)
    dsimp only [Pt.U, Pt.locs, Pt.cells, Pt.slots] at X2 l2 y2 z2 st2 hQ2
    subst l2 y2 z2
    obtain ⟨rfl, N2q, e2⟩ := hQ2
    have N2 := Fr.app N N2q
    have zs2 : n0 ≤ T2.heap.size := by rw [e2]; exact zs
    have A2_r9_421 := own_A.eq A_r9_421 e2
    refine own_st (T' := T2) (f' := (mkF m 435 #[.val (.int p0), .val (.int p1), .val (.int p2), .val (.int p3), .val (.int (vk p0 p1 p2 p3)), .val (.int (vr p0 p1 p2 p3)), .val (.int g6_421), .val (.int (va p0 p1 p2 p3)), .val (.int (vf p0 p1 p2 p3)), .val (.ref r9_421), .val (.int g10_421), .val (.int g11_421), .val (.int g12_421), .val (.int g13_421), .val (.int g100_421), .unset] [(.int (f3 (0 : Int32) (va p0 p1 p2 p3) g10_421 (vf p0 p1 p2 p3) F9_421))])) ?_ (fun t q => st2 _ q)
    refine own_ite (fun hc435 => ?_) (fun hc435 => ?_)
    · refine own_st (T' := T2) (f' := (mkF m 549 #[.val (.int p0), .val (.int p1), .val (.int p2), .val (.int p3), .val (.int (vk p0 p1 p2 p3)), .val (.int (vr p0 p1 p2 p3)), .val (.int g6_421), .val (.int (va p0 p1 p2 p3)), .val (.int (vf p0 p1 p2 p3)), .val (.ref r9_421), .val (.int g10_421), .val (.int g11_421), .val (.int g12_421), .val (.int g13_421), .val (.int g100_421), .unset] [])) ?_ (fun t q => XS.ifYes X2.here hx rfl (pc0 := 435) (pc' := 549) rfl (hb hby at_435) rfl ((if0 _ _).trans (teq hc435).1) (by decide) (by decide) q)
      exact B549 T2 _ g6_421 r9_421 g10_421 g11_421 g12_421 g13_421 g100_421 F9_421 X2 N2 zs2 G_r9_421 A2_r9_421
    · refine own_st (T' := T2) (f' := (mkF m 438 #[.val (.int p0), .val (.int p1), .val (.int p2), .val (.int p3), .val (.int (vk p0 p1 p2 p3)), .val (.int (vr p0 p1 p2 p3)), .val (.int g6_421), .val (.int (va p0 p1 p2 p3)), .val (.int (vf p0 p1 p2 p3)), .val (.ref r9_421), .val (.int g10_421), .val (.int g11_421), .val (.int g12_421), .val (.int g13_421), .val (.int g100_421), .unset] [])) ?_ (fun t q => XS.ifNo X2.here hx rfl (hb hby at_435) rfl ((if0 _ _).trans (feq hc435).1) q)
      refine own_st (T' := T2) (f' := (mkF m 440 #[.val (.int p0), .val (.int p1), .val (.int p2), .val (.int p3), .val (.int (vk p0 p1 p2 p3)), .val (.int (vr p0 p1 p2 p3)), .val (.int g6_421), .val (.int (va p0 p1 p2 p3)), .val (.int (vf p0 p1 p2 p3)), .val (.ref r9_421), .val (.int g10_421), .val (.int g11_421), .val (.int g12_421), .val (.int g13_421), .val (.int g100_421), .unset] [(.ref r9_421)])) ?_ (fun t q => XS.aload X2.here hx rfl (hb hby at_438) rfl rfl q)
      refine own_st (T' := T2) (f' := (mkF m 441 #[.val (.int p0), .val (.int p1), .val (.int p2), .val (.int p3), .val (.int (vk p0 p1 p2 p3)), .val (.int (vr p0 p1 p2 p3)), .val (.int g6_421), .val (.int (va p0 p1 p2 p3)), .val (.int (vf p0 p1 p2 p3)), .val (.ref r9_421), .val (.int g10_421), .val (.int g11_421), .val (.int g12_421), .val (.int g13_421), .val (.int g100_421), .unset] [(.int (1 : Int32)), (.ref r9_421)])) ?_ (fun t q => XS.iconst X2.here hx rfl (hb hby at_440) q)
      refine own_st (T' := T2) (f' := (mkF m 443 #[.val (.int p0), .val (.int p1), .val (.int p2), .val (.int p3), .val (.int (vk p0 p1 p2 p3)), .val (.int (vr p0 p1 p2 p3)), .val (.int g6_421), .val (.int (va p0 p1 p2 p3)), .val (.int (vf p0 p1 p2 p3)), .val (.ref r9_421), .val (.int g10_421), .val (.int g11_421), .val (.int g12_421), .val (.int g13_421), .val (.int g100_421), .unset] [(.int (va p0 p1 p2 p3)), (.int (1 : Int32)), (.ref r9_421)])) ?_ (fun t q => XS.iload X2.here hx rfl (hb hby at_441) rfl q)
      refine own_st (T' := T2) (f' := (mkF m 445 #[.val (.int p0), .val (.int p1), .val (.int p2), .val (.int p3), .val (.int (vk p0 p1 p2 p3)), .val (.int (vr p0 p1 p2 p3)), .val (.int g6_421), .val (.int (va p0 p1 p2 p3)), .val (.int (vf p0 p1 p2 p3)), .val (.ref r9_421), .val (.int g10_421), .val (.int g11_421), .val (.int g12_421), .val (.int g13_421), .val (.int g100_421), .unset] [(.int g10_421), (.int (va p0 p1 p2 p3)), (.int (1 : Int32)), (.ref r9_421)])) ?_ (fun t q => XS.iload X2.here hx rfl (hb hby at_443) rfl q)
      refine own_st (T' := T2) (f' := (mkF m 447 #[.val (.int p0), .val (.int p1), .val (.int p2), .val (.int p3), .val (.int (vk p0 p1 p2 p3)), .val (.int (vr p0 p1 p2 p3)), .val (.int g6_421), .val (.int (va p0 p1 p2 p3)), .val (.int (vf p0 p1 p2 p3)), .val (.ref r9_421), .val (.int g10_421), .val (.int g11_421), .val (.int g12_421), .val (.int g13_421), .val (.int g100_421), .unset] [(.int (vf p0 p1 p2 p3)), (.int g10_421), (.int (va p0 p1 p2 p3)), (.int (1 : Int32)), (.ref r9_421)])) ?_ (fun t q => XS.iload X2.here hx rfl (hb hby at_445) rfl q)
      obtain ⟨_, _, ⟨T3, L3, k3, n3⟩, -, X3, ⟨Lc3, hQ3, l3, y3, z3⟩, st3⟩ := Jvm.LawKit.callS X2 hx (y := (⟨"com/example/holyrood/holyrood/Utf8EncodePinLaw", "untouched", "([BIIIB)Z"⟩ : MethodName)) hown (mvT hZ (hw _ (List.mem_of_getElem? (i := 10) rfl))) (mvT hZ (hw _ (List.mem_of_getElem? (i := 11) rfl))) (mvT hZ (hw _ (List.mem_of_getElem? (i := 8) rfl))) (mvT hZ (hw _ (List.mem_of_getElem? (i := 12) rfl))) (by decide) (backOf (W := 0) (rm3 l Z a0 hw [] r9_421 (1 : Int32) (va p0 p1 p2 p3) g10_421 (vf p0 p1 p2 p3) 8 F9_421 T2.heap n0 A2_r9_421 ⟨by decide, by decide⟩) hZ (hw _ (List.mem_of_getElem? (i := 12) rfl)) (hw _ (List.mem_of_getElem? (i := 8) rfl)) (by decide) (by decide)) (g := (mkF m 447 #[.val (.int p0), .val (.int p1), .val (.int p2), .val (.int p3), .val (.int (vk p0 p1 p2 p3)), .val (.int (vr p0 p1 p2 p3)), .val (.int g6_421), .val (.int (va p0 p1 p2 p3)), .val (.int (vf p0 p1 p2 p3)), .val (.ref r9_421), .val (.int g10_421), .val (.int g11_421), .val (.int g12_421), .val (.int g13_421), .val (.int g100_421), .unset] [(.int (vf p0 p1 p2 p3)), (.int g10_421), (.int (va p0 p1 p2 p3)), (.int (1 : Int32)), (.ref r9_421)])) rfl (by rw [hml]; rfl) (argsL := [(.ref r9_421), (.int (1 : Int32)), (.int (va p0 p1 p2 p3)), (.int g10_421), (.int (vf p0 p1 p2 p3))]) (rest := []) (lenOf pd_2 rfl) rfl (by show 2 * 0 + _ ≤ _; exact Nat.le_of_eq rfl) (hb hby at_447) (fun _ _ => ⟨rfl, rfl, (Nat.le_of_ble_eq_true rfl), (Nat.le_of_ble_eq_true rfl)⟩)
      dsimp only [Pt.U, Pt.locs, Pt.cells, Pt.slots] at X3 l3 y3 z3 st3 hQ3
      subst l3 y3 z3
      obtain ⟨rfl, N3q, e3⟩ := hQ3
      have N3 := Fr.app N2 N3q
      have zs3 : n0 ≤ T3.heap.size := by rw [e3]; exact zs2
      have A3_r9_421 := own_A.eq A2_r9_421 e3
      refine own_st (T' := T3) (f' := (mkF m 450 #[.val (.int p0), .val (.int p1), .val (.int p2), .val (.int p3), .val (.int (vk p0 p1 p2 p3)), .val (.int (vr p0 p1 p2 p3)), .val (.int g6_421), .val (.int (va p0 p1 p2 p3)), .val (.int (vf p0 p1 p2 p3)), .val (.ref r9_421), .val (.int g10_421), .val (.int g11_421), .val (.int g12_421), .val (.int g13_421), .val (.int g100_421), .unset] [(.int (f3 (1 : Int32) (va p0 p1 p2 p3) g10_421 (vf p0 p1 p2 p3) F9_421))])) ?_ (fun t q => st3 _ q)
      refine own_ite (fun hc450 => ?_) (fun hc450 => ?_)
      · refine own_st (T' := T3) (f' := (mkF m 549 #[.val (.int p0), .val (.int p1), .val (.int p2), .val (.int p3), .val (.int (vk p0 p1 p2 p3)), .val (.int (vr p0 p1 p2 p3)), .val (.int g6_421), .val (.int (va p0 p1 p2 p3)), .val (.int (vf p0 p1 p2 p3)), .val (.ref r9_421), .val (.int g10_421), .val (.int g11_421), .val (.int g12_421), .val (.int g13_421), .val (.int g100_421), .unset] [])) ?_ (fun t q => XS.ifYes X3.here hx rfl (pc0 := 450) (pc' := 549) rfl (hb hby at_450) rfl ((if0 _ _).trans (teq hc450).1) (by decide) (by decide) q)
        exact B549 T3 _ g6_421 r9_421 g10_421 g11_421 g12_421 g13_421 g100_421 F9_421 X3 N3 zs3 G_r9_421 A3_r9_421
      · refine own_st (T' := T3) (f' := (mkF m 453 #[.val (.int p0), .val (.int p1), .val (.int p2), .val (.int p3), .val (.int (vk p0 p1 p2 p3)), .val (.int (vr p0 p1 p2 p3)), .val (.int g6_421), .val (.int (va p0 p1 p2 p3)), .val (.int (vf p0 p1 p2 p3)), .val (.ref r9_421), .val (.int g10_421), .val (.int g11_421), .val (.int g12_421), .val (.int g13_421), .val (.int g100_421), .unset] [])) ?_ (fun t q => XS.ifNo X3.here hx rfl (hb hby at_450) rfl ((if0 _ _).trans (feq hc450).1) q)
        refine own_st (T' := T3) (f' := (mkF m 455 #[.val (.int p0), .val (.int p1), .val (.int p2), .val (.int p3), .val (.int (vk p0 p1 p2 p3)), .val (.int (vr p0 p1 p2 p3)), .val (.int g6_421), .val (.int (va p0 p1 p2 p3)), .val (.int (vf p0 p1 p2 p3)), .val (.ref r9_421), .val (.int g10_421), .val (.int g11_421), .val (.int g12_421), .val (.int g13_421), .val (.int g100_421), .unset] [(.ref r9_421)])) ?_ (fun t q => XS.aload X3.here hx rfl (hb hby at_453) rfl rfl q)
        refine own_st (T' := T3) (f' := (mkF m 456 #[.val (.int p0), .val (.int p1), .val (.int p2), .val (.int p3), .val (.int (vk p0 p1 p2 p3)), .val (.int (vr p0 p1 p2 p3)), .val (.int g6_421), .val (.int (va p0 p1 p2 p3)), .val (.int (vf p0 p1 p2 p3)), .val (.ref r9_421), .val (.int g10_421), .val (.int g11_421), .val (.int g12_421), .val (.int g13_421), .val (.int g100_421), .unset] [(.int (2 : Int32)), (.ref r9_421)])) ?_ (fun t q => XS.iconst X3.here hx rfl (hb hby at_455) q)
        refine own_st (T' := T3) (f' := (mkF m 458 #[.val (.int p0), .val (.int p1), .val (.int p2), .val (.int p3), .val (.int (vk p0 p1 p2 p3)), .val (.int (vr p0 p1 p2 p3)), .val (.int g6_421), .val (.int (va p0 p1 p2 p3)), .val (.int (vf p0 p1 p2 p3)), .val (.ref r9_421), .val (.int g10_421), .val (.int g11_421), .val (.int g12_421), .val (.int g13_421), .val (.int g100_421), .unset] [(.int (va p0 p1 p2 p3)), (.int (2 : Int32)), (.ref r9_421)])) ?_ (fun t q => XS.iload X3.here hx rfl (hb hby at_456) rfl q)
        refine own_st (T' := T3) (f' := (mkF m 460 #[.val (.int p0), .val (.int p1), .val (.int p2), .val (.int p3), .val (.int (vk p0 p1 p2 p3)), .val (.int (vr p0 p1 p2 p3)), .val (.int g6_421), .val (.int (va p0 p1 p2 p3)), .val (.int (vf p0 p1 p2 p3)), .val (.ref r9_421), .val (.int g10_421), .val (.int g11_421), .val (.int g12_421), .val (.int g13_421), .val (.int g100_421), .unset] [(.int g10_421), (.int (va p0 p1 p2 p3)), (.int (2 : Int32)), (.ref r9_421)])) ?_ (fun t q => XS.iload X3.here hx rfl (hb hby at_458) rfl q)
        refine own_st (T' := T3) (f' := (mkF m 462 #[.val (.int p0), .val (.int p1), .val (.int p2), .val (.int p3), .val (.int (vk p0 p1 p2 p3)), .val (.int (vr p0 p1 p2 p3)), .val (.int g6_421), .val (.int (va p0 p1 p2 p3)), .val (.int (vf p0 p1 p2 p3)), .val (.ref r9_421), .val (.int g10_421), .val (.int g11_421), .val (.int g12_421), .val (.int g13_421), .val (.int g100_421), .unset] [(.int (vf p0 p1 p2 p3)), (.int g10_421), (.int (va p0 p1 p2 p3)), (.int (2 : Int32)), (.ref r9_421)])) ?_ (fun t q => XS.iload X3.here hx rfl (hb hby at_460) rfl q)
        obtain ⟨_, _, ⟨T4, L4, k4, n4⟩, -, X4, ⟨Lc4, hQ4, l4, y4, z4⟩, st4⟩ := Jvm.LawKit.callS X3 hx (y := (⟨"com/example/holyrood/holyrood/Utf8EncodePinLaw", "untouched", "([BIIIB)Z"⟩ : MethodName)) hown (mvT hZ (hw _ (List.mem_of_getElem? (i := 10) rfl))) (mvT hZ (hw _ (List.mem_of_getElem? (i := 11) rfl))) (mvT hZ (hw _ (List.mem_of_getElem? (i := 8) rfl))) (mvT hZ (hw _ (List.mem_of_getElem? (i := 12) rfl))) (by decide) (backOf (W := 0) (rm3 l Z a0 hw [] r9_421 (2 : Int32) (va p0 p1 p2 p3) g10_421 (vf p0 p1 p2 p3) 8 F9_421 T3.heap n0 A3_r9_421 ⟨by decide, by decide⟩) hZ (hw _ (List.mem_of_getElem? (i := 12) rfl)) (hw _ (List.mem_of_getElem? (i := 8) rfl)) (by decide) (by decide)) (g := (mkF m 462 #[.val (.int p0), .val (.int p1), .val (.int p2), .val (.int p3), .val (.int (vk p0 p1 p2 p3)), .val (.int (vr p0 p1 p2 p3)), .val (.int g6_421), .val (.int (va p0 p1 p2 p3)), .val (.int (vf p0 p1 p2 p3)), .val (.ref r9_421), .val (.int g10_421), .val (.int g11_421), .val (.int g12_421), .val (.int g13_421), .val (.int g100_421), .unset] [(.int (vf p0 p1 p2 p3)), (.int g10_421), (.int (va p0 p1 p2 p3)), (.int (2 : Int32)), (.ref r9_421)])) rfl (by rw [hml]; rfl) (argsL := [(.ref r9_421), (.int (2 : Int32)), (.int (va p0 p1 p2 p3)), (.int g10_421), (.int (vf p0 p1 p2 p3))]) (rest := []) (lenOf pd_2 rfl) rfl (by show 2 * 0 + _ ≤ _; exact Nat.le_of_eq rfl) (hb hby at_462) (fun _ _ => ⟨rfl, rfl, (Nat.le_of_ble_eq_true rfl), (Nat.le_of_ble_eq_true rfl)⟩)
        dsimp only [Pt.U, Pt.locs, Pt.cells, Pt.slots] at X4 l4 y4 z4 st4 hQ4
        subst l4 y4 z4
        obtain ⟨rfl, N4q, e4⟩ := hQ4
        have N4 := Fr.app N3 N4q
        have zs4 : n0 ≤ T4.heap.size := by rw [e4]; exact zs3
        have A4_r9_421 := own_A.eq A3_r9_421 e4
        refine own_st (T' := T4) (f' := (mkF m 465 #[.val (.int p0), .val (.int p1), .val (.int p2), .val (.int p3), .val (.int (vk p0 p1 p2 p3)), .val (.int (vr p0 p1 p2 p3)), .val (.int g6_421), .val (.int (va p0 p1 p2 p3)), .val (.int (vf p0 p1 p2 p3)), .val (.ref r9_421), .val (.int g10_421), .val (.int g11_421), .val (.int g12_421), .val (.int g13_421), .val (.int g100_421), .unset] [(.int (f3 (2 : Int32) (va p0 p1 p2 p3) g10_421 (vf p0 p1 p2 p3) F9_421))])) ?_ (fun t q => st4 _ q)
        refine own_ite (fun hc465 => ?_) (fun hc465 => ?_)
        · refine own_st (T' := T4) (f' := (mkF m 549 #[.val (.int p0), .val (.int p1), .val (.int p2), .val (.int p3), .val (.int (vk p0 p1 p2 p3)), .val (.int (vr p0 p1 p2 p3)), .val (.int g6_421), .val (.int (va p0 p1 p2 p3)), .val (.int (vf p0 p1 p2 p3)), .val (.ref r9_421), .val (.int g10_421), .val (.int g11_421), .val (.int g12_421), .val (.int g13_421), .val (.int g100_421), .unset] [])) ?_ (fun t q => XS.ifYes X4.here hx rfl (pc0 := 465) (pc' := 549) rfl (hb hby at_465) rfl ((if0 _ _).trans (teq hc465).1) (by decide) (by decide) q)
          exact B549 T4 _ g6_421 r9_421 g10_421 g11_421 g12_421 g13_421 g100_421 F9_421 X4 N4 zs4 G_r9_421 A4_r9_421
        · refine own_st (T' := T4) (f' := (mkF m 468 #[.val (.int p0), .val (.int p1), .val (.int p2), .val (.int p3), .val (.int (vk p0 p1 p2 p3)), .val (.int (vr p0 p1 p2 p3)), .val (.int g6_421), .val (.int (va p0 p1 p2 p3)), .val (.int (vf p0 p1 p2 p3)), .val (.ref r9_421), .val (.int g10_421), .val (.int g11_421), .val (.int g12_421), .val (.int g13_421), .val (.int g100_421), .unset] [])) ?_ (fun t q => XS.ifNo X4.here hx rfl (hb hby at_465) rfl ((if0 _ _).trans (feq hc465).1) q)
          refine own_st (T' := T4) (f' := (mkF m 470 #[.val (.int p0), .val (.int p1), .val (.int p2), .val (.int p3), .val (.int (vk p0 p1 p2 p3)), .val (.int (vr p0 p1 p2 p3)), .val (.int g6_421), .val (.int (va p0 p1 p2 p3)), .val (.int (vf p0 p1 p2 p3)), .val (.ref r9_421), .val (.int g10_421), .val (.int g11_421), .val (.int g12_421), .val (.int g13_421), .val (.int g100_421), .unset] [(.ref r9_421)])) ?_ (fun t q => XS.aload X4.here hx rfl (hb hby at_468) rfl rfl q)
          refine own_st (T' := T4) (f' := (mkF m 471 #[.val (.int p0), .val (.int p1), .val (.int p2), .val (.int p3), .val (.int (vk p0 p1 p2 p3)), .val (.int (vr p0 p1 p2 p3)), .val (.int g6_421), .val (.int (va p0 p1 p2 p3)), .val (.int (vf p0 p1 p2 p3)), .val (.ref r9_421), .val (.int g10_421), .val (.int g11_421), .val (.int g12_421), .val (.int g13_421), .val (.int g100_421), .unset] [(.int (3 : Int32)), (.ref r9_421)])) ?_ (fun t q => XS.iconst X4.here hx rfl (hb hby at_470) q)
          refine own_st (T' := T4) (f' := (mkF m 473 #[.val (.int p0), .val (.int p1), .val (.int p2), .val (.int p3), .val (.int (vk p0 p1 p2 p3)), .val (.int (vr p0 p1 p2 p3)), .val (.int g6_421), .val (.int (va p0 p1 p2 p3)), .val (.int (vf p0 p1 p2 p3)), .val (.ref r9_421), .val (.int g10_421), .val (.int g11_421), .val (.int g12_421), .val (.int g13_421), .val (.int g100_421), .unset] [(.int (va p0 p1 p2 p3)), (.int (3 : Int32)), (.ref r9_421)])) ?_ (fun t q => XS.iload X4.here hx rfl (hb hby at_471) rfl q)
          refine own_st (T' := T4) (f' := (mkF m 475 #[.val (.int p0), .val (.int p1), .val (.int p2), .val (.int p3), .val (.int (vk p0 p1 p2 p3)), .val (.int (vr p0 p1 p2 p3)), .val (.int g6_421), .val (.int (va p0 p1 p2 p3)), .val (.int (vf p0 p1 p2 p3)), .val (.ref r9_421), .val (.int g10_421), .val (.int g11_421), .val (.int g12_421), .val (.int g13_421), .val (.int g100_421), .unset] [(.int g10_421), (.int (va p0 p1 p2 p3)), (.int (3 : Int32)), (.ref r9_421)])) ?_ (fun t q => XS.iload X4.here hx rfl (hb hby at_473) rfl q)
          refine own_st (T' := T4) (f' := (mkF m 477 #[.val (.int p0), .val (.int p1), .val (.int p2), .val (.int p3), .val (.int (vk p0 p1 p2 p3)), .val (.int (vr p0 p1 p2 p3)), .val (.int g6_421), .val (.int (va p0 p1 p2 p3)), .val (.int (vf p0 p1 p2 p3)), .val (.ref r9_421), .val (.int g10_421), .val (.int g11_421), .val (.int g12_421), .val (.int g13_421), .val (.int g100_421), .unset] [(.int (vf p0 p1 p2 p3)), (.int g10_421), (.int (va p0 p1 p2 p3)), (.int (3 : Int32)), (.ref r9_421)])) ?_ (fun t q => XS.iload X4.here hx rfl (hb hby at_475) rfl q)
          obtain ⟨_, _, ⟨T5, L5, k5, n5⟩, -, X5, ⟨Lc5, hQ5, l5, y5, z5⟩, st5⟩ := Jvm.LawKit.callS X4 hx (y := (⟨"com/example/holyrood/holyrood/Utf8EncodePinLaw", "untouched", "([BIIIB)Z"⟩ : MethodName)) hown (mvT hZ (hw _ (List.mem_of_getElem? (i := 10) rfl))) (mvT hZ (hw _ (List.mem_of_getElem? (i := 11) rfl))) (mvT hZ (hw _ (List.mem_of_getElem? (i := 8) rfl))) (mvT hZ (hw _ (List.mem_of_getElem? (i := 12) rfl))) (by decide) (backOf (W := 0) (rm3 l Z a0 hw [] r9_421 (3 : Int32) (va p0 p1 p2 p3) g10_421 (vf p0 p1 p2 p3) 8 F9_421 T4.heap n0 A4_r9_421 ⟨by decide, by decide⟩) hZ (hw _ (List.mem_of_getElem? (i := 12) rfl)) (hw _ (List.mem_of_getElem? (i := 8) rfl)) (by decide) (by decide)) (g := (mkF m 477 #[.val (.int p0), .val (.int p1), .val (.int p2), .val (.int p3), .val (.int (vk p0 p1 p2 p3)), .val (.int (vr p0 p1 p2 p3)), .val (.int g6_421), .val (.int (va p0 p1 p2 p3)), .val (.int (vf p0 p1 p2 p3)), .val (.ref r9_421), .val (.int g10_421), .val (.int g11_421), .val (.int g12_421), .val (.int g13_421), .val (.int g100_421), .unset] [(.int (vf p0 p1 p2 p3)), (.int g10_421), (.int (va p0 p1 p2 p3)), (.int (3 : Int32)), (.ref r9_421)])) rfl (by rw [hml]; rfl) (argsL := [(.ref r9_421), (.int (3 : Int32)), (.int (va p0 p1 p2 p3)), (.int g10_421), (.int (vf p0 p1 p2 p3))]) (rest := []) (lenOf pd_2 rfl) rfl (by show 2 * 0 + _ ≤ _; exact Nat.le_of_eq rfl) (hb hby at_477) (fun _ _ => ⟨rfl, rfl, (Nat.le_of_ble_eq_true rfl), (Nat.le_of_ble_eq_true rfl)⟩)
          dsimp only [Pt.U, Pt.locs, Pt.cells, Pt.slots] at X5 l5 y5 z5 st5 hQ5
          subst l5 y5 z5
          obtain ⟨rfl, N5q, e5⟩ := hQ5
          have N5 := Fr.app N4 N5q
          have zs5 : n0 ≤ T5.heap.size := by rw [e5]; exact zs4
          have A5_r9_421 := own_A.eq A4_r9_421 e5
          refine own_st (T' := T5) (f' := (mkF m 480 #[.val (.int p0), .val (.int p1), .val (.int p2), .val (.int p3), .val (.int (vk p0 p1 p2 p3)), .val (.int (vr p0 p1 p2 p3)), .val (.int g6_421), .val (.int (va p0 p1 p2 p3)), .val (.int (vf p0 p1 p2 p3)), .val (.ref r9_421), .val (.int g10_421), .val (.int g11_421), .val (.int g12_421), .val (.int g13_421), .val (.int g100_421), .unset] [(.int (f3 (3 : Int32) (va p0 p1 p2 p3) g10_421 (vf p0 p1 p2 p3) F9_421))])) ?_ (fun t q => st5 _ q)
          refine own_ite (fun hc480 => ?_) (fun hc480 => ?_)
          · refine own_st (T' := T5) (f' := (mkF m 549 #[.val (.int p0), .val (.int p1), .val (.int p2), .val (.int p3), .val (.int (vk p0 p1 p2 p3)), .val (.int (vr p0 p1 p2 p3)), .val (.int g6_421), .val (.int (va p0 p1 p2 p3)), .val (.int (vf p0 p1 p2 p3)), .val (.ref r9_421), .val (.int g10_421), .val (.int g11_421), .val (.int g12_421), .val (.int g13_421), .val (.int g100_421), .unset] [])) ?_ (fun t q => XS.ifYes X5.here hx rfl (pc0 := 480) (pc' := 549) rfl (hb hby at_480) rfl ((if0 _ _).trans (teq hc480).1) (by decide) (by decide) q)
            exact B549 T5 _ g6_421 r9_421 g10_421 g11_421 g12_421 g13_421 g100_421 F9_421 X5 N5 zs5 G_r9_421 A5_r9_421
          · refine own_st (T' := T5) (f' := (mkF m 483 #[.val (.int p0), .val (.int p1), .val (.int p2), .val (.int p3), .val (.int (vk p0 p1 p2 p3)), .val (.int (vr p0 p1 p2 p3)), .val (.int g6_421), .val (.int (va p0 p1 p2 p3)), .val (.int (vf p0 p1 p2 p3)), .val (.ref r9_421), .val (.int g10_421), .val (.int g11_421), .val (.int g12_421), .val (.int g13_421), .val (.int g100_421), .unset] [])) ?_ (fun t q => XS.ifNo X5.here hx rfl (hb hby at_480) rfl ((if0 _ _).trans (feq hc480).1) q)
            refine own_st (T' := T5) (f' := (mkF m 485 #[.val (.int p0), .val (.int p1), .val (.int p2), .val (.int p3), .val (.int (vk p0 p1 p2 p3)), .val (.int (vr p0 p1 p2 p3)), .val (.int g6_421), .val (.int (va p0 p1 p2 p3)), .val (.int (vf p0 p1 p2 p3)), .val (.ref r9_421), .val (.int g10_421), .val (.int g11_421), .val (.int g12_421), .val (.int g13_421), .val (.int g100_421), .unset] [(.ref r9_421)])) ?_ (fun t q => XS.aload X5.here hx rfl (hb hby at_483) rfl rfl q)
            refine own_st (T' := T5) (f' := (mkF m 486 #[.val (.int p0), .val (.int p1), .val (.int p2), .val (.int p3), .val (.int (vk p0 p1 p2 p3)), .val (.int (vr p0 p1 p2 p3)), .val (.int g6_421), .val (.int (va p0 p1 p2 p3)), .val (.int (vf p0 p1 p2 p3)), .val (.ref r9_421), .val (.int g10_421), .val (.int g11_421), .val (.int g12_421), .val (.int g13_421), .val (.int g100_421), .unset] [(.int (4 : Int32)), (.ref r9_421)])) ?_ (fun t q => XS.iconst X5.here hx rfl (hb hby at_485) q)
            refine own_st (T' := T5) (f' := (mkF m 488 #[.val (.int p0), .val (.int p1), .val (.int p2), .val (.int p3), .val (.int (vk p0 p1 p2 p3)), .val (.int (vr p0 p1 p2 p3)), .val (.int g6_421), .val (.int (va p0 p1 p2 p3)), .val (.int (vf p0 p1 p2 p3)), .val (.ref r9_421), .val (.int g10_421), .val (.int g11_421), .val (.int g12_421), .val (.int g13_421), .val (.int g100_421), .unset] [(.int (va p0 p1 p2 p3)), (.int (4 : Int32)), (.ref r9_421)])) ?_ (fun t q => XS.iload X5.here hx rfl (hb hby at_486) rfl q)
            refine own_st (T' := T5) (f' := (mkF m 490 #[.val (.int p0), .val (.int p1), .val (.int p2), .val (.int p3), .val (.int (vk p0 p1 p2 p3)), .val (.int (vr p0 p1 p2 p3)), .val (.int g6_421), .val (.int (va p0 p1 p2 p3)), .val (.int (vf p0 p1 p2 p3)), .val (.ref r9_421), .val (.int g10_421), .val (.int g11_421), .val (.int g12_421), .val (.int g13_421), .val (.int g100_421), .unset] [(.int g10_421), (.int (va p0 p1 p2 p3)), (.int (4 : Int32)), (.ref r9_421)])) ?_ (fun t q => XS.iload X5.here hx rfl (hb hby at_488) rfl q)
            refine own_st (T' := T5) (f' := (mkF m 492 #[.val (.int p0), .val (.int p1), .val (.int p2), .val (.int p3), .val (.int (vk p0 p1 p2 p3)), .val (.int (vr p0 p1 p2 p3)), .val (.int g6_421), .val (.int (va p0 p1 p2 p3)), .val (.int (vf p0 p1 p2 p3)), .val (.ref r9_421), .val (.int g10_421), .val (.int g11_421), .val (.int g12_421), .val (.int g13_421), .val (.int g100_421), .unset] [(.int (vf p0 p1 p2 p3)), (.int g10_421), (.int (va p0 p1 p2 p3)), (.int (4 : Int32)), (.ref r9_421)])) ?_ (fun t q => XS.iload X5.here hx rfl (hb hby at_490) rfl q)
            obtain ⟨_, _, ⟨T6, L6, k6, n6⟩, -, X6, ⟨Lc6, hQ6, l6, y6, z6⟩, st6⟩ := Jvm.LawKit.callS X5 hx (y := (⟨"com/example/holyrood/holyrood/Utf8EncodePinLaw", "untouched", "([BIIIB)Z"⟩ : MethodName)) hown (mvT hZ (hw _ (List.mem_of_getElem? (i := 10) rfl))) (mvT hZ (hw _ (List.mem_of_getElem? (i := 11) rfl))) (mvT hZ (hw _ (List.mem_of_getElem? (i := 8) rfl))) (mvT hZ (hw _ (List.mem_of_getElem? (i := 12) rfl))) (by decide) (backOf (W := 0) (rm3 l Z a0 hw [] r9_421 (4 : Int32) (va p0 p1 p2 p3) g10_421 (vf p0 p1 p2 p3) 8 F9_421 T5.heap n0 A5_r9_421 ⟨by decide, by decide⟩) hZ (hw _ (List.mem_of_getElem? (i := 12) rfl)) (hw _ (List.mem_of_getElem? (i := 8) rfl)) (by decide) (by decide)) (g := (mkF m 492 #[.val (.int p0), .val (.int p1), .val (.int p2), .val (.int p3), .val (.int (vk p0 p1 p2 p3)), .val (.int (vr p0 p1 p2 p3)), .val (.int g6_421), .val (.int (va p0 p1 p2 p3)), .val (.int (vf p0 p1 p2 p3)), .val (.ref r9_421), .val (.int g10_421), .val (.int g11_421), .val (.int g12_421), .val (.int g13_421), .val (.int g100_421), .unset] [(.int (vf p0 p1 p2 p3)), (.int g10_421), (.int (va p0 p1 p2 p3)), (.int (4 : Int32)), (.ref r9_421)])) rfl (by rw [hml]; rfl) (argsL := [(.ref r9_421), (.int (4 : Int32)), (.int (va p0 p1 p2 p3)), (.int g10_421), (.int (vf p0 p1 p2 p3))]) (rest := []) (lenOf pd_2 rfl) rfl (by show 2 * 0 + _ ≤ _; exact Nat.le_of_eq rfl) (hb hby at_492) (fun _ _ => ⟨rfl, rfl, (Nat.le_of_ble_eq_true rfl), (Nat.le_of_ble_eq_true rfl)⟩)
            dsimp only [Pt.U, Pt.locs, Pt.cells, Pt.slots] at X6 l6 y6 z6 st6 hQ6
            subst l6 y6 z6
            obtain ⟨rfl, N6q, e6⟩ := hQ6
            have N6 := Fr.app N5 N6q
            have zs6 : n0 ≤ T6.heap.size := by rw [e6]; exact zs5
            have A6_r9_421 := own_A.eq A5_r9_421 e6
            refine own_st (T' := T6) (f' := (mkF m 495 #[.val (.int p0), .val (.int p1), .val (.int p2), .val (.int p3), .val (.int (vk p0 p1 p2 p3)), .val (.int (vr p0 p1 p2 p3)), .val (.int g6_421), .val (.int (va p0 p1 p2 p3)), .val (.int (vf p0 p1 p2 p3)), .val (.ref r9_421), .val (.int g10_421), .val (.int g11_421), .val (.int g12_421), .val (.int g13_421), .val (.int g100_421), .unset] [(.int (f3 (4 : Int32) (va p0 p1 p2 p3) g10_421 (vf p0 p1 p2 p3) F9_421))])) ?_ (fun t q => st6 _ q)
            refine own_ite (fun hc495 => ?_) (fun hc495 => ?_)
            · refine own_st (T' := T6) (f' := (mkF m 549 #[.val (.int p0), .val (.int p1), .val (.int p2), .val (.int p3), .val (.int (vk p0 p1 p2 p3)), .val (.int (vr p0 p1 p2 p3)), .val (.int g6_421), .val (.int (va p0 p1 p2 p3)), .val (.int (vf p0 p1 p2 p3)), .val (.ref r9_421), .val (.int g10_421), .val (.int g11_421), .val (.int g12_421), .val (.int g13_421), .val (.int g100_421), .unset] [])) ?_ (fun t q => XS.ifYes X6.here hx rfl (pc0 := 495) (pc' := 549) rfl (hb hby at_495) rfl ((if0 _ _).trans (teq hc495).1) (by decide) (by decide) q)
              exact B549 T6 _ g6_421 r9_421 g10_421 g11_421 g12_421 g13_421 g100_421 F9_421 X6 N6 zs6 G_r9_421 A6_r9_421
            · refine own_st (T' := T6) (f' := (mkF m 498 #[.val (.int p0), .val (.int p1), .val (.int p2), .val (.int p3), .val (.int (vk p0 p1 p2 p3)), .val (.int (vr p0 p1 p2 p3)), .val (.int g6_421), .val (.int (va p0 p1 p2 p3)), .val (.int (vf p0 p1 p2 p3)), .val (.ref r9_421), .val (.int g10_421), .val (.int g11_421), .val (.int g12_421), .val (.int g13_421), .val (.int g100_421), .unset] [])) ?_ (fun t q => XS.ifNo X6.here hx rfl (hb hby at_495) rfl ((if0 _ _).trans (feq hc495).1) q)
              refine own_st (T' := T6) (f' := (mkF m 500 #[.val (.int p0), .val (.int p1), .val (.int p2), .val (.int p3), .val (.int (vk p0 p1 p2 p3)), .val (.int (vr p0 p1 p2 p3)), .val (.int g6_421), .val (.int (va p0 p1 p2 p3)), .val (.int (vf p0 p1 p2 p3)), .val (.ref r9_421), .val (.int g10_421), .val (.int g11_421), .val (.int g12_421), .val (.int g13_421), .val (.int g100_421), .unset] [(.ref r9_421)])) ?_ (fun t q => XS.aload X6.here hx rfl (hb hby at_498) rfl rfl q)
              refine own_st (T' := T6) (f' := (mkF m 501 #[.val (.int p0), .val (.int p1), .val (.int p2), .val (.int p3), .val (.int (vk p0 p1 p2 p3)), .val (.int (vr p0 p1 p2 p3)), .val (.int g6_421), .val (.int (va p0 p1 p2 p3)), .val (.int (vf p0 p1 p2 p3)), .val (.ref r9_421), .val (.int g10_421), .val (.int g11_421), .val (.int g12_421), .val (.int g13_421), .val (.int g100_421), .unset] [(.int (5 : Int32)), (.ref r9_421)])) ?_ (fun t q => XS.iconst X6.here hx rfl (hb hby at_500) q)
              refine own_st (T' := T6) (f' := (mkF m 503 #[.val (.int p0), .val (.int p1), .val (.int p2), .val (.int p3), .val (.int (vk p0 p1 p2 p3)), .val (.int (vr p0 p1 p2 p3)), .val (.int g6_421), .val (.int (va p0 p1 p2 p3)), .val (.int (vf p0 p1 p2 p3)), .val (.ref r9_421), .val (.int g10_421), .val (.int g11_421), .val (.int g12_421), .val (.int g13_421), .val (.int g100_421), .unset] [(.int (va p0 p1 p2 p3)), (.int (5 : Int32)), (.ref r9_421)])) ?_ (fun t q => XS.iload X6.here hx rfl (hb hby at_501) rfl q)
              refine own_st (T' := T6) (f' := (mkF m 505 #[.val (.int p0), .val (.int p1), .val (.int p2), .val (.int p3), .val (.int (vk p0 p1 p2 p3)), .val (.int (vr p0 p1 p2 p3)), .val (.int g6_421), .val (.int (va p0 p1 p2 p3)), .val (.int (vf p0 p1 p2 p3)), .val (.ref r9_421), .val (.int g10_421), .val (.int g11_421), .val (.int g12_421), .val (.int g13_421), .val (.int g100_421), .unset] [(.int g10_421), (.int (va p0 p1 p2 p3)), (.int (5 : Int32)), (.ref r9_421)])) ?_ (fun t q => XS.iload X6.here hx rfl (hb hby at_503) rfl q)
              refine own_st (T' := T6) (f' := (mkF m 507 #[.val (.int p0), .val (.int p1), .val (.int p2), .val (.int p3), .val (.int (vk p0 p1 p2 p3)), .val (.int (vr p0 p1 p2 p3)), .val (.int g6_421), .val (.int (va p0 p1 p2 p3)), .val (.int (vf p0 p1 p2 p3)), .val (.ref r9_421), .val (.int g10_421), .val (.int g11_421), .val (.int g12_421), .val (.int g13_421), .val (.int g100_421), .unset] [(.int (vf p0 p1 p2 p3)), (.int g10_421), (.int (va p0 p1 p2 p3)), (.int (5 : Int32)), (.ref r9_421)])) ?_ (fun t q => XS.iload X6.here hx rfl (hb hby at_505) rfl q)
              obtain ⟨_, _, ⟨T7, L7, k7, n7⟩, -, X7, ⟨Lc7, hQ7, l7, y7, z7⟩, st7⟩ := Jvm.LawKit.callS X6 hx (y := (⟨"com/example/holyrood/holyrood/Utf8EncodePinLaw", "untouched", "([BIIIB)Z"⟩ : MethodName)) hown (mvT hZ (hw _ (List.mem_of_getElem? (i := 10) rfl))) (mvT hZ (hw _ (List.mem_of_getElem? (i := 11) rfl))) (mvT hZ (hw _ (List.mem_of_getElem? (i := 8) rfl))) (mvT hZ (hw _ (List.mem_of_getElem? (i := 12) rfl))) (by decide) (backOf (W := 0) (rm3 l Z a0 hw [] r9_421 (5 : Int32) (va p0 p1 p2 p3) g10_421 (vf p0 p1 p2 p3) 8 F9_421 T6.heap n0 A6_r9_421 ⟨by decide, by decide⟩) hZ (hw _ (List.mem_of_getElem? (i := 12) rfl)) (hw _ (List.mem_of_getElem? (i := 8) rfl)) (by decide) (by decide)) (g := (mkF m 507 #[.val (.int p0), .val (.int p1), .val (.int p2), .val (.int p3), .val (.int (vk p0 p1 p2 p3)), .val (.int (vr p0 p1 p2 p3)), .val (.int g6_421), .val (.int (va p0 p1 p2 p3)), .val (.int (vf p0 p1 p2 p3)), .val (.ref r9_421), .val (.int g10_421), .val (.int g11_421), .val (.int g12_421), .val (.int g13_421), .val (.int g100_421), .unset] [(.int (vf p0 p1 p2 p3)), (.int g10_421), (.int (va p0 p1 p2 p3)), (.int (5 : Int32)), (.ref r9_421)])) rfl (by rw [hml]; rfl) (argsL := [(.ref r9_421), (.int (5 : Int32)), (.int (va p0 p1 p2 p3)), (.int g10_421), (.int (vf p0 p1 p2 p3))]) (rest := []) (lenOf pd_2 rfl) rfl (by show 2 * 0 + _ ≤ _; exact Nat.le_of_eq rfl) (hb hby at_507) (fun _ _ => ⟨rfl, rfl, (Nat.le_of_ble_eq_true rfl), (Nat.le_of_ble_eq_true rfl)⟩)
              dsimp only [Pt.U, Pt.locs, Pt.cells, Pt.slots] at X7 l7 y7 z7 st7 hQ7
              subst l7 y7 z7
              obtain ⟨rfl, N7q, e7⟩ := hQ7
              have N7 := Fr.app N6 N7q
              have zs7 : n0 ≤ T7.heap.size := by rw [e7]; exact zs6
              have A7_r9_421 := own_A.eq A6_r9_421 e7
              refine own_st (T' := T7) (f' := (mkF m 510 #[.val (.int p0), .val (.int p1), .val (.int p2), .val (.int p3), .val (.int (vk p0 p1 p2 p3)), .val (.int (vr p0 p1 p2 p3)), .val (.int g6_421), .val (.int (va p0 p1 p2 p3)), .val (.int (vf p0 p1 p2 p3)), .val (.ref r9_421), .val (.int g10_421), .val (.int g11_421), .val (.int g12_421), .val (.int g13_421), .val (.int g100_421), .unset] [(.int (f3 (5 : Int32) (va p0 p1 p2 p3) g10_421 (vf p0 p1 p2 p3) F9_421))])) ?_ (fun t q => st7 _ q)
              refine own_ite (fun hc510 => ?_) (fun hc510 => ?_)
              · refine own_st (T' := T7) (f' := (mkF m 549 #[.val (.int p0), .val (.int p1), .val (.int p2), .val (.int p3), .val (.int (vk p0 p1 p2 p3)), .val (.int (vr p0 p1 p2 p3)), .val (.int g6_421), .val (.int (va p0 p1 p2 p3)), .val (.int (vf p0 p1 p2 p3)), .val (.ref r9_421), .val (.int g10_421), .val (.int g11_421), .val (.int g12_421), .val (.int g13_421), .val (.int g100_421), .unset] [])) ?_ (fun t q => XS.ifYes X7.here hx rfl (pc0 := 510) (pc' := 549) rfl (hb hby at_510) rfl ((if0 _ _).trans (teq hc510).1) (by decide) (by decide) q)
                exact B549 T7 _ g6_421 r9_421 g10_421 g11_421 g12_421 g13_421 g100_421 F9_421 X7 N7 zs7 G_r9_421 A7_r9_421
              · refine own_st (T' := T7) (f' := (mkF m 513 #[.val (.int p0), .val (.int p1), .val (.int p2), .val (.int p3), .val (.int (vk p0 p1 p2 p3)), .val (.int (vr p0 p1 p2 p3)), .val (.int g6_421), .val (.int (va p0 p1 p2 p3)), .val (.int (vf p0 p1 p2 p3)), .val (.ref r9_421), .val (.int g10_421), .val (.int g11_421), .val (.int g12_421), .val (.int g13_421), .val (.int g100_421), .unset] [])) ?_ (fun t q => XS.ifNo X7.here hx rfl (hb hby at_510) rfl ((if0 _ _).trans (feq hc510).1) q)
                refine own_st (T' := T7) (f' := (mkF m 515 #[.val (.int p0), .val (.int p1), .val (.int p2), .val (.int p3), .val (.int (vk p0 p1 p2 p3)), .val (.int (vr p0 p1 p2 p3)), .val (.int g6_421), .val (.int (va p0 p1 p2 p3)), .val (.int (vf p0 p1 p2 p3)), .val (.ref r9_421), .val (.int g10_421), .val (.int g11_421), .val (.int g12_421), .val (.int g13_421), .val (.int g100_421), .unset] [(.ref r9_421)])) ?_ (fun t q => XS.aload X7.here hx rfl (hb hby at_513) rfl rfl q)
                refine own_st (T' := T7) (f' := (mkF m 517 #[.val (.int p0), .val (.int p1), .val (.int p2), .val (.int p3), .val (.int (vk p0 p1 p2 p3)), .val (.int (vr p0 p1 p2 p3)), .val (.int g6_421), .val (.int (va p0 p1 p2 p3)), .val (.int (vf p0 p1 p2 p3)), .val (.ref r9_421), .val (.int g10_421), .val (.int g11_421), .val (.int g12_421), .val (.int g13_421), .val (.int g100_421), .unset] [(.int (6 : Int32)), (.ref r9_421)])) ?_ (fun t q => XS.bipush X7.here hx rfl (hb hby at_515) q)
                refine own_st (T' := T7) (f' := (mkF m 519 #[.val (.int p0), .val (.int p1), .val (.int p2), .val (.int p3), .val (.int (vk p0 p1 p2 p3)), .val (.int (vr p0 p1 p2 p3)), .val (.int g6_421), .val (.int (va p0 p1 p2 p3)), .val (.int (vf p0 p1 p2 p3)), .val (.ref r9_421), .val (.int g10_421), .val (.int g11_421), .val (.int g12_421), .val (.int g13_421), .val (.int g100_421), .unset] [(.int (va p0 p1 p2 p3)), (.int (6 : Int32)), (.ref r9_421)])) ?_ (fun t q => XS.iload X7.here hx rfl (hb hby at_517) rfl q)
                refine own_st (T' := T7) (f' := (mkF m 521 #[.val (.int p0), .val (.int p1), .val (.int p2), .val (.int p3), .val (.int (vk p0 p1 p2 p3)), .val (.int (vr p0 p1 p2 p3)), .val (.int g6_421), .val (.int (va p0 p1 p2 p3)), .val (.int (vf p0 p1 p2 p3)), .val (.ref r9_421), .val (.int g10_421), .val (.int g11_421), .val (.int g12_421), .val (.int g13_421), .val (.int g100_421), .unset] [(.int g10_421), (.int (va p0 p1 p2 p3)), (.int (6 : Int32)), (.ref r9_421)])) ?_ (fun t q => XS.iload X7.here hx rfl (hb hby at_519) rfl q)
                refine own_st (T' := T7) (f' := (mkF m 523 #[.val (.int p0), .val (.int p1), .val (.int p2), .val (.int p3), .val (.int (vk p0 p1 p2 p3)), .val (.int (vr p0 p1 p2 p3)), .val (.int g6_421), .val (.int (va p0 p1 p2 p3)), .val (.int (vf p0 p1 p2 p3)), .val (.ref r9_421), .val (.int g10_421), .val (.int g11_421), .val (.int g12_421), .val (.int g13_421), .val (.int g100_421), .unset] [(.int (vf p0 p1 p2 p3)), (.int g10_421), (.int (va p0 p1 p2 p3)), (.int (6 : Int32)), (.ref r9_421)])) ?_ (fun t q => XS.iload X7.here hx rfl (hb hby at_521) rfl q)
                obtain ⟨_, _, ⟨T8, L8, k8, n8⟩, -, X8, ⟨Lc8, hQ8, l8, y8, z8⟩, st8⟩ := Jvm.LawKit.callS X7 hx (y := (⟨"com/example/holyrood/holyrood/Utf8EncodePinLaw", "untouched", "([BIIIB)Z"⟩ : MethodName)) hown (mvT hZ (hw _ (List.mem_of_getElem? (i := 10) rfl))) (mvT hZ (hw _ (List.mem_of_getElem? (i := 11) rfl))) (mvT hZ (hw _ (List.mem_of_getElem? (i := 8) rfl))) (mvT hZ (hw _ (List.mem_of_getElem? (i := 12) rfl))) (by decide) (backOf (W := 0) (rm3 l Z a0 hw [] r9_421 (6 : Int32) (va p0 p1 p2 p3) g10_421 (vf p0 p1 p2 p3) 8 F9_421 T7.heap n0 A7_r9_421 ⟨by decide, by decide⟩) hZ (hw _ (List.mem_of_getElem? (i := 12) rfl)) (hw _ (List.mem_of_getElem? (i := 8) rfl)) (by decide) (by decide)) (g := (mkF m 523 #[.val (.int p0), .val (.int p1), .val (.int p2), .val (.int p3), .val (.int (vk p0 p1 p2 p3)), .val (.int (vr p0 p1 p2 p3)), .val (.int g6_421), .val (.int (va p0 p1 p2 p3)), .val (.int (vf p0 p1 p2 p3)), .val (.ref r9_421), .val (.int g10_421), .val (.int g11_421), .val (.int g12_421), .val (.int g13_421), .val (.int g100_421), .unset] [(.int (vf p0 p1 p2 p3)), (.int g10_421), (.int (va p0 p1 p2 p3)), (.int (6 : Int32)), (.ref r9_421)])) rfl (by rw [hml]; rfl) (argsL := [(.ref r9_421), (.int (6 : Int32)), (.int (va p0 p1 p2 p3)), (.int g10_421), (.int (vf p0 p1 p2 p3))]) (rest := []) (lenOf pd_2 rfl) rfl (by show 2 * 0 + _ ≤ _; exact Nat.le_of_eq rfl) (hb hby at_523) (fun _ _ => ⟨rfl, rfl, (Nat.le_of_ble_eq_true rfl), (Nat.le_of_ble_eq_true rfl)⟩)
                dsimp only [Pt.U, Pt.locs, Pt.cells, Pt.slots] at X8 l8 y8 z8 st8 hQ8
                subst l8 y8 z8
                obtain ⟨rfl, N8q, e8⟩ := hQ8
                have N8 := Fr.app N7 N8q
                have zs8 : n0 ≤ T8.heap.size := by rw [e8]; exact zs7
                have A8_r9_421 := own_A.eq A7_r9_421 e8
                refine own_st (T' := T8) (f' := (mkF m 526 #[.val (.int p0), .val (.int p1), .val (.int p2), .val (.int p3), .val (.int (vk p0 p1 p2 p3)), .val (.int (vr p0 p1 p2 p3)), .val (.int g6_421), .val (.int (va p0 p1 p2 p3)), .val (.int (vf p0 p1 p2 p3)), .val (.ref r9_421), .val (.int g10_421), .val (.int g11_421), .val (.int g12_421), .val (.int g13_421), .val (.int g100_421), .unset] [(.int (f3 (6 : Int32) (va p0 p1 p2 p3) g10_421 (vf p0 p1 p2 p3) F9_421))])) ?_ (fun t q => st8 _ q)
                refine own_ite (fun hc526 => ?_) (fun hc526 => ?_)
                · refine own_st (T' := T8) (f' := (mkF m 549 #[.val (.int p0), .val (.int p1), .val (.int p2), .val (.int p3), .val (.int (vk p0 p1 p2 p3)), .val (.int (vr p0 p1 p2 p3)), .val (.int g6_421), .val (.int (va p0 p1 p2 p3)), .val (.int (vf p0 p1 p2 p3)), .val (.ref r9_421), .val (.int g10_421), .val (.int g11_421), .val (.int g12_421), .val (.int g13_421), .val (.int g100_421), .unset] [])) ?_ (fun t q => XS.ifYes X8.here hx rfl (pc0 := 526) (pc' := 549) rfl (hb hby at_526) rfl ((if0 _ _).trans (teq hc526).1) (by decide) (by decide) q)
                  exact B549 T8 _ g6_421 r9_421 g10_421 g11_421 g12_421 g13_421 g100_421 F9_421 X8 N8 zs8 G_r9_421 A8_r9_421
                · refine own_st (T' := T8) (f' := (mkF m 529 #[.val (.int p0), .val (.int p1), .val (.int p2), .val (.int p3), .val (.int (vk p0 p1 p2 p3)), .val (.int (vr p0 p1 p2 p3)), .val (.int g6_421), .val (.int (va p0 p1 p2 p3)), .val (.int (vf p0 p1 p2 p3)), .val (.ref r9_421), .val (.int g10_421), .val (.int g11_421), .val (.int g12_421), .val (.int g13_421), .val (.int g100_421), .unset] [])) ?_ (fun t q => XS.ifNo X8.here hx rfl (hb hby at_526) rfl ((if0 _ _).trans (feq hc526).1) q)
                  refine own_st (T' := T8) (f' := (mkF m 531 #[.val (.int p0), .val (.int p1), .val (.int p2), .val (.int p3), .val (.int (vk p0 p1 p2 p3)), .val (.int (vr p0 p1 p2 p3)), .val (.int g6_421), .val (.int (va p0 p1 p2 p3)), .val (.int (vf p0 p1 p2 p3)), .val (.ref r9_421), .val (.int g10_421), .val (.int g11_421), .val (.int g12_421), .val (.int g13_421), .val (.int g100_421), .unset] [(.ref r9_421)])) ?_ (fun t q => XS.aload X8.here hx rfl (hb hby at_529) rfl rfl q)
                  refine own_st (T' := T8) (f' := (mkF m 533 #[.val (.int p0), .val (.int p1), .val (.int p2), .val (.int p3), .val (.int (vk p0 p1 p2 p3)), .val (.int (vr p0 p1 p2 p3)), .val (.int g6_421), .val (.int (va p0 p1 p2 p3)), .val (.int (vf p0 p1 p2 p3)), .val (.ref r9_421), .val (.int g10_421), .val (.int g11_421), .val (.int g12_421), .val (.int g13_421), .val (.int g100_421), .unset] [(.int (7 : Int32)), (.ref r9_421)])) ?_ (fun t q => XS.bipush X8.here hx rfl (hb hby at_531) q)
                  refine own_st (T' := T8) (f' := (mkF m 535 #[.val (.int p0), .val (.int p1), .val (.int p2), .val (.int p3), .val (.int (vk p0 p1 p2 p3)), .val (.int (vr p0 p1 p2 p3)), .val (.int g6_421), .val (.int (va p0 p1 p2 p3)), .val (.int (vf p0 p1 p2 p3)), .val (.ref r9_421), .val (.int g10_421), .val (.int g11_421), .val (.int g12_421), .val (.int g13_421), .val (.int g100_421), .unset] [(.int (va p0 p1 p2 p3)), (.int (7 : Int32)), (.ref r9_421)])) ?_ (fun t q => XS.iload X8.here hx rfl (hb hby at_533) rfl q)
                  refine own_st (T' := T8) (f' := (mkF m 537 #[.val (.int p0), .val (.int p1), .val (.int p2), .val (.int p3), .val (.int (vk p0 p1 p2 p3)), .val (.int (vr p0 p1 p2 p3)), .val (.int g6_421), .val (.int (va p0 p1 p2 p3)), .val (.int (vf p0 p1 p2 p3)), .val (.ref r9_421), .val (.int g10_421), .val (.int g11_421), .val (.int g12_421), .val (.int g13_421), .val (.int g100_421), .unset] [(.int g10_421), (.int (va p0 p1 p2 p3)), (.int (7 : Int32)), (.ref r9_421)])) ?_ (fun t q => XS.iload X8.here hx rfl (hb hby at_535) rfl q)
                  refine own_st (T' := T8) (f' := (mkF m 539 #[.val (.int p0), .val (.int p1), .val (.int p2), .val (.int p3), .val (.int (vk p0 p1 p2 p3)), .val (.int (vr p0 p1 p2 p3)), .val (.int g6_421), .val (.int (va p0 p1 p2 p3)), .val (.int (vf p0 p1 p2 p3)), .val (.ref r9_421), .val (.int g10_421), .val (.int g11_421), .val (.int g12_421), .val (.int g13_421), .val (.int g100_421), .unset] [(.int (vf p0 p1 p2 p3)), (.int g10_421), (.int (va p0 p1 p2 p3)), (.int (7 : Int32)), (.ref r9_421)])) ?_ (fun t q => XS.iload X8.here hx rfl (hb hby at_537) rfl q)
                  obtain ⟨_, _, ⟨T9, L9, k9, n9⟩, -, X9, ⟨Lc9, hQ9, l9, y9, z9⟩, st9⟩ := Jvm.LawKit.callS X8 hx (y := (⟨"com/example/holyrood/holyrood/Utf8EncodePinLaw", "untouched", "([BIIIB)Z"⟩ : MethodName)) hown (mvT hZ (hw _ (List.mem_of_getElem? (i := 10) rfl))) (mvT hZ (hw _ (List.mem_of_getElem? (i := 11) rfl))) (mvT hZ (hw _ (List.mem_of_getElem? (i := 8) rfl))) (mvT hZ (hw _ (List.mem_of_getElem? (i := 12) rfl))) (by decide) (backOf (W := 0) (rm3 l Z a0 hw [] r9_421 (7 : Int32) (va p0 p1 p2 p3) g10_421 (vf p0 p1 p2 p3) 8 F9_421 T8.heap n0 A8_r9_421 ⟨by decide, by decide⟩) hZ (hw _ (List.mem_of_getElem? (i := 12) rfl)) (hw _ (List.mem_of_getElem? (i := 8) rfl)) (by decide) (by decide)) (g := (mkF m 539 #[.val (.int p0), .val (.int p1), .val (.int p2), .val (.int p3), .val (.int (vk p0 p1 p2 p3)), .val (.int (vr p0 p1 p2 p3)), .val (.int g6_421), .val (.int (va p0 p1 p2 p3)), .val (.int (vf p0 p1 p2 p3)), .val (.ref r9_421), .val (.int g10_421), .val (.int g11_421), .val (.int g12_421), .val (.int g13_421), .val (.int g100_421), .unset] [(.int (vf p0 p1 p2 p3)), (.int g10_421), (.int (va p0 p1 p2 p3)), (.int (7 : Int32)), (.ref r9_421)])) rfl (by rw [hml]; rfl) (argsL := [(.ref r9_421), (.int (7 : Int32)), (.int (va p0 p1 p2 p3)), (.int g10_421), (.int (vf p0 p1 p2 p3))]) (rest := []) (lenOf pd_2 rfl) rfl (by show 2 * 0 + _ ≤ _; exact Nat.le_of_eq rfl) (hb hby at_539) (fun _ _ => ⟨rfl, rfl, (Nat.le_of_ble_eq_true rfl), (Nat.le_of_ble_eq_true rfl)⟩)
                  dsimp only [Pt.U, Pt.locs, Pt.cells, Pt.slots] at X9 l9 y9 z9 st9 hQ9
                  subst l9 y9 z9
                  obtain ⟨rfl, N9q, e9⟩ := hQ9
                  have N9 := Fr.app N8 N9q
                  have zs9 : n0 ≤ T9.heap.size := by rw [e9]; exact zs8
                  have A9_r9_421 := own_A.eq A8_r9_421 e9
                  refine own_st (T' := T9) (f' := (mkF m 542 #[.val (.int p0), .val (.int p1), .val (.int p2), .val (.int p3), .val (.int (vk p0 p1 p2 p3)), .val (.int (vr p0 p1 p2 p3)), .val (.int g6_421), .val (.int (va p0 p1 p2 p3)), .val (.int (vf p0 p1 p2 p3)), .val (.ref r9_421), .val (.int g10_421), .val (.int g11_421), .val (.int g12_421), .val (.int g13_421), .val (.int g100_421), .unset] [(.int (f3 (7 : Int32) (va p0 p1 p2 p3) g10_421 (vf p0 p1 p2 p3) F9_421))])) ?_ (fun t q => st9 _ q)
                  refine own_ite (fun hc542 => ?_) (fun hc542 => ?_)
                  · refine own_st (T' := T9) (f' := (mkF m 549 #[.val (.int p0), .val (.int p1), .val (.int p2), .val (.int p3), .val (.int (vk p0 p1 p2 p3)), .val (.int (vr p0 p1 p2 p3)), .val (.int g6_421), .val (.int (va p0 p1 p2 p3)), .val (.int (vf p0 p1 p2 p3)), .val (.ref r9_421), .val (.int g10_421), .val (.int g11_421), .val (.int g12_421), .val (.int g13_421), .val (.int g100_421), .unset] [])) ?_ (fun t q => XS.ifYes X9.here hx rfl (pc0 := 542) (pc' := 549) rfl (hb hby at_542) rfl ((if0 _ _).trans (teq hc542).1) (by decide) (by decide) q)
                    exact B549 T9 _ g6_421 r9_421 g10_421 g11_421 g12_421 g13_421 g100_421 F9_421 X9 N9 zs9 G_r9_421 A9_r9_421
                  · refine own_st (T' := T9) (f' := (mkF m 545 #[.val (.int p0), .val (.int p1), .val (.int p2), .val (.int p3), .val (.int (vk p0 p1 p2 p3)), .val (.int (vr p0 p1 p2 p3)), .val (.int g6_421), .val (.int (va p0 p1 p2 p3)), .val (.int (vf p0 p1 p2 p3)), .val (.ref r9_421), .val (.int g10_421), .val (.int g11_421), .val (.int g12_421), .val (.int g13_421), .val (.int g100_421), .unset] [])) ?_ (fun t q => XS.ifNo X9.here hx rfl (hb hby at_542) rfl ((if0 _ _).trans (feq hc542).1) q)
                    refine own_st (T' := T9) (f' := (mkF m 546 #[.val (.int p0), .val (.int p1), .val (.int p2), .val (.int p3), .val (.int (vk p0 p1 p2 p3)), .val (.int (vr p0 p1 p2 p3)), .val (.int g6_421), .val (.int (va p0 p1 p2 p3)), .val (.int (vf p0 p1 p2 p3)), .val (.ref r9_421), .val (.int g10_421), .val (.int g11_421), .val (.int g12_421), .val (.int g13_421), .val (.int g100_421), .unset] [(.int (1 : Int32))])) ?_ (fun t q => XS.iconst X9.here hx rfl (hb hby at_545) q)
                    refine own_st (T' := T9) (f' := (mkF m 550 #[.val (.int p0), .val (.int p1), .val (.int p2), .val (.int p3), .val (.int (vk p0 p1 p2 p3)), .val (.int (vr p0 p1 p2 p3)), .val (.int g6_421), .val (.int (va p0 p1 p2 p3)), .val (.int (vf p0 p1 p2 p3)), .val (.ref r9_421), .val (.int g10_421), .val (.int g11_421), .val (.int g12_421), .val (.int g13_421), .val (.int g100_421), .unset] [(.int (1 : Int32))])) ?_ (fun t q => XS.goto X9.here hx rfl (pc0 := 546) (pc' := 550) rfl (hb hby at_546) (by decide) (by decide) q)
                    exact B550 T9 _ g6_421 r9_421 g10_421 g11_421 g12_421 g13_421 g100_421 (1 : Int32) F9_421 X9 N9 zs9 G_r9_421 A9_r9_421
  have B420 : ∀ (T : State) (locs : List Loc) (g6_420 : Int32) (r9_420 : Addr) (g10_420 : Int32) (g11_420 : Int32) (g12_420 : Int32) (g13_420 : Int32) (F9_420 : Nat → Int32) (X : Stand p l e room_1 s m #[(.int p0), (.int p1), (.int p2), (.int p3)] below meth c T locs 1 8) (N : Fr n0 locs) (zs : n0 ≤ T.heap.size) (G_r9_420 : n0 ≤ r9_420) (A_r9_420 : own_A Z T.heap r9_420 .byte 8 F9_420), own_W p e below s 1 8 (own_GI n0 (fun _ => True) (f0_420 p0 p1 p2 p3 g6_420 g10_420 g11_420 g12_420 g13_420 F9_420)) T (mkF m 420 #[.val (.int p0), .val (.int p1), .val (.int p2), .val (.int p3), .val (.int (vk p0 p1 p2 p3)), .val (.int (vr p0 p1 p2 p3)), .val (.int g6_420), .val (.int (va p0 p1 p2 p3)), .val (.int (vf p0 p1 p2 p3)), .val (.ref r9_420), .val (.int g10_420), .val (.int g11_420), .val (.int g12_420), .val (.int g13_420), .unset, .unset] []) := by
    intro T locs g6_420 r9_420 g10_420 g11_420 g12_420 g13_420 F9_420 X N zs G_r9_420 A_r9_420
    unfold f0_420
    refine own_st (T' := T) (f' := (mkF m 421 #[.val (.int p0), .val (.int p1), .val (.int p2), .val (.int p3), .val (.int (vk p0 p1 p2 p3)), .val (.int (vr p0 p1 p2 p3)), .val (.int g6_420), .val (.int (va p0 p1 p2 p3)), .val (.int (vf p0 p1 p2 p3)), .val (.ref r9_420), .val (.int g10_420), .val (.int g11_420), .val (.int g12_420), .val (.int g13_420), .unset, .unset] [(.int (0 : Int32))])) ?_ (fun t q => XS.iconst X.here hx rfl (hb hby at_420) q)
    exact B421 T _ g6_420 r9_420 g10_420 g11_420 g12_420 g13_420 (0 : Int32) F9_420 X N zs G_r9_420 A_r9_420
  have B323 : ∀ (T : State) (locs : List Loc) (g6_323 : Int32) (r9_323 : Addr) (g10_323 : Int32) (g11_323 : Int32) (g12_323 : Int32) (g13_323 : Int32) (F9_323 : Nat → Int32) (X : Stand p l e room_1 s m #[(.int p0), (.int p1), (.int p2), (.int p3)] below meth c T locs 1 8) (N : Fr n0 locs) (zs : n0 ≤ T.heap.size) (G_r9_323 : n0 ≤ r9_323) (A_r9_323 : own_A Z T.heap r9_323 .byte 8 F9_323), own_W p e below s 1 8 (own_GI n0 (fun _ => True) (f0_323 p0 p1 p2 p3 g6_323 g10_323 g11_323 g12_323 g13_323 F9_323)) T (mkF m 323 #[.val (.int p0), .val (.int p1), .val (.int p2), .val (.int p3), .val (.int (vk p0 p1 p2 p3)), .val (.int (vr p0 p1 p2 p3)), .val (.int g6_323), .val (.int (va p0 p1 p2 p3)), .val (.int (vf p0 p1 p2 p3)), .val (.ref r9_323), .val (.int g10_323), .val (.int g11_323), .val (.int g12_323), .val (.int g13_323), .unset, .unset] []) := by
    intro T locs g6_323 r9_323 g10_323 g11_323 g12_323 g13_323 F9_323 X N zs G_r9_323 A_r9_323
    unfold f0_323
    refine own_st (T' := T) (f' := (mkF m 325 #[.val (.int p0), .val (.int p1), .val (.int p2), .val (.int p3), .val (.int (vk p0 p1 p2 p3)), .val (.int (vr p0 p1 p2 p3)), .val (.int g6_323), .val (.int (va p0 p1 p2 p3)), .val (.int (vf p0 p1 p2 p3)), .val (.ref r9_323), .val (.int g10_323), .val (.int g11_323), .val (.int g12_323), .val (.int g13_323), .unset, .unset] [(.ref r9_323)])) ?_ (fun t q => XS.aload X.here hx rfl (hb hby at_323) rfl rfl q)
    refine own_st (T' := T) (f' := (mkF m 326 #[.val (.int p0), .val (.int p1), .val (.int p2), .val (.int p3), .val (.int (vk p0 p1 p2 p3)), .val (.int (vr p0 p1 p2 p3)), .val (.int g6_323), .val (.int (va p0 p1 p2 p3)), .val (.int (vf p0 p1 p2 p3)), .val (.ref r9_323), .val (.int g10_323), .val (.int g11_323), .val (.int g12_323), .val (.int g13_323), .unset, .unset] [(.int (1 : Int32)), (.ref r9_323)])) ?_ (fun t q => XS.iconst X.here hx rfl (hb hby at_325) q)
    refine own_st (T' := T) (f' := (mkF m 328 #[.val (.int p0), .val (.int p1), .val (.int p2), .val (.int p3), .val (.int (vk p0 p1 p2 p3)), .val (.int (vr p0 p1 p2 p3)), .val (.int g6_323), .val (.int (va p0 p1 p2 p3)), .val (.int (vf p0 p1 p2 p3)), .val (.ref r9_323), .val (.int g10_323), .val (.int g11_323), .val (.int g12_323), .val (.int g13_323), .unset, .unset] [(.int (va p0 p1 p2 p3)), (.int (1 : Int32)), (.ref r9_323)])) ?_ (fun t q => XS.iload X.here hx rfl (hb hby at_326) rfl q)
    refine own_st (T' := T) (f' := (mkF m 330 #[.val (.int p0), .val (.int p1), .val (.int p2), .val (.int p3), .val (.int (vk p0 p1 p2 p3)), .val (.int (vr p0 p1 p2 p3)), .val (.int g6_323), .val (.int (va p0 p1 p2 p3)), .val (.int (vf p0 p1 p2 p3)), .val (.ref r9_323), .val (.int g10_323), .val (.int g11_323), .val (.int g12_323), .val (.int g13_323), .unset, .unset] [(.int g10_323), (.int (va p0 p1 p2 p3)), (.int (1 : Int32)), (.ref r9_323)])) ?_ (fun t q => XS.iload X.here hx rfl (hb hby at_328) rfl q)
    obtain ⟨_, _, ⟨T10, L10, k10, n10⟩, -, X10, ⟨Lc10, hQ10, l10, y10, z10⟩, st10⟩ := Jvm.LawKit.callS X hx (y := (⟨"com/example/holyrood/holyrood/Utf8EncodePinLaw", "continues", "([BIII)Z"⟩ : MethodName)) hown (mvT hZ (hw _ (List.mem_of_getElem? (i := 6) rfl))) (mvT hZ (hw _ (List.mem_of_getElem? (i := 7) rfl))) (mvT hZ (hw _ (List.mem_of_getElem? (i := 8) rfl))) (mvT hZ (hw _ (List.mem_of_getElem? (i := 9) rfl))) (by decide) (backOf (W := 0) (rm2 l Z a0 hw [] r9_323 (1 : Int32) (va p0 p1 p2 p3) g10_323 8 F9_323 T.heap n0 A_r9_323 ⟨by decide, by decide⟩) hZ (hw _ (List.mem_of_getElem? (i := 9) rfl)) (hw _ (List.mem_of_getElem? (i := 8) rfl)) (by decide) (by decide)) (g := (mkF m 330 #[.val (.int p0), .val (.int p1), .val (.int p2), .val (.int p3), .val (.int (vk p0 p1 p2 p3)), .val (.int (vr p0 p1 p2 p3)), .val (.int g6_323), .val (.int (va p0 p1 p2 p3)), .val (.int (vf p0 p1 p2 p3)), .val (.ref r9_323), .val (.int g10_323), .val (.int g11_323), .val (.int g12_323), .val (.int g13_323), .unset, .unset] [(.int g10_323), (.int (va p0 p1 p2 p3)), (.int (1 : Int32)), (.ref r9_323)])) rfl (by rw [hml]; rfl) (argsL := [(.ref r9_323), (.int (1 : Int32)), (.int (va p0 p1 p2 p3)), (.int g10_323)]) (rest := []) (lenOf pd_1 rfl) rfl (by show 2 * 0 + _ ≤ _; exact Nat.le_of_eq rfl) (hb hby at_330) (fun _ _ => ⟨rfl, rfl, (Nat.le_of_ble_eq_true rfl), (Nat.le_of_ble_eq_true rfl)⟩)
    dsimp only [Pt.U, Pt.locs, Pt.cells, Pt.slots] at X10 l10 y10 z10 st10 hQ10
    subst l10 y10 z10
    obtain ⟨rfl, N10q, e10⟩ := hQ10
    have N10 := Fr.app N N10q
    have zs10 : n0 ≤ T10.heap.size := by rw [e10]; exact zs
    have A10_r9_323 := own_A.eq A_r9_323 e10
    refine own_st (T' := T10) (f' := (mkF m 333 #[.val (.int p0), .val (.int p1), .val (.int p2), .val (.int p3), .val (.int (vk p0 p1 p2 p3)), .val (.int (vr p0 p1 p2 p3)), .val (.int g6_323), .val (.int (va p0 p1 p2 p3)), .val (.int (vf p0 p1 p2 p3)), .val (.ref r9_323), .val (.int g10_323), .val (.int g11_323), .val (.int g12_323), .val (.int g13_323), .unset, .unset] [(.int (f2 (1 : Int32) (va p0 p1 p2 p3) g10_323 F9_323))])) ?_ (fun t q => st10 _ q)
    refine own_ite (fun hc333 => ?_) (fun hc333 => ?_)
    · refine own_st (T' := T10) (f' := (mkF m 420 #[.val (.int p0), .val (.int p1), .val (.int p2), .val (.int p3), .val (.int (vk p0 p1 p2 p3)), .val (.int (vr p0 p1 p2 p3)), .val (.int g6_323), .val (.int (va p0 p1 p2 p3)), .val (.int (vf p0 p1 p2 p3)), .val (.ref r9_323), .val (.int g10_323), .val (.int g11_323), .val (.int g12_323), .val (.int g13_323), .unset, .unset] [])) ?_ (fun t q => XS.ifYes X10.here hx rfl (pc0 := 333) (pc' := 420) rfl (hb hby at_333) rfl ((if0 _ _).trans (teq hc333).1) (by decide) (by decide) q)
      exact B420 T10 _ g6_323 r9_323 g10_323 g11_323 g12_323 g13_323 F9_323 X10 N10 zs10 G_r9_323 A10_r9_323
    · refine own_st (T' := T10) (f' := (mkF m 336 #[.val (.int p0), .val (.int p1), .val (.int p2), .val (.int p3), .val (.int (vk p0 p1 p2 p3)), .val (.int (vr p0 p1 p2 p3)), .val (.int g6_323), .val (.int (va p0 p1 p2 p3)), .val (.int (vf p0 p1 p2 p3)), .val (.ref r9_323), .val (.int g10_323), .val (.int g11_323), .val (.int g12_323), .val (.int g13_323), .unset, .unset] [])) ?_ (fun t q => XS.ifNo X10.here hx rfl (hb hby at_333) rfl ((if0 _ _).trans (feq hc333).1) q)
      refine own_st (T' := T10) (f' := (mkF m 338 #[.val (.int p0), .val (.int p1), .val (.int p2), .val (.int p3), .val (.int (vk p0 p1 p2 p3)), .val (.int (vr p0 p1 p2 p3)), .val (.int g6_323), .val (.int (va p0 p1 p2 p3)), .val (.int (vf p0 p1 p2 p3)), .val (.ref r9_323), .val (.int g10_323), .val (.int g11_323), .val (.int g12_323), .val (.int g13_323), .unset, .unset] [(.ref r9_323)])) ?_ (fun t q => XS.aload X10.here hx rfl (hb hby at_336) rfl rfl q)
      refine own_st (T' := T10) (f' := (mkF m 339 #[.val (.int p0), .val (.int p1), .val (.int p2), .val (.int p3), .val (.int (vk p0 p1 p2 p3)), .val (.int (vr p0 p1 p2 p3)), .val (.int g6_323), .val (.int (va p0 p1 p2 p3)), .val (.int (vf p0 p1 p2 p3)), .val (.ref r9_323), .val (.int g10_323), .val (.int g11_323), .val (.int g12_323), .val (.int g13_323), .unset, .unset] [(.int (2 : Int32)), (.ref r9_323)])) ?_ (fun t q => XS.iconst X10.here hx rfl (hb hby at_338) q)
      refine own_st (T' := T10) (f' := (mkF m 341 #[.val (.int p0), .val (.int p1), .val (.int p2), .val (.int p3), .val (.int (vk p0 p1 p2 p3)), .val (.int (vr p0 p1 p2 p3)), .val (.int g6_323), .val (.int (va p0 p1 p2 p3)), .val (.int (vf p0 p1 p2 p3)), .val (.ref r9_323), .val (.int g10_323), .val (.int g11_323), .val (.int g12_323), .val (.int g13_323), .unset, .unset] [(.int (va p0 p1 p2 p3)), (.int (2 : Int32)), (.ref r9_323)])) ?_ (fun t q => XS.iload X10.here hx rfl (hb hby at_339) rfl q)
      refine own_st (T' := T10) (f' := (mkF m 343 #[.val (.int p0), .val (.int p1), .val (.int p2), .val (.int p3), .val (.int (vk p0 p1 p2 p3)), .val (.int (vr p0 p1 p2 p3)), .val (.int g6_323), .val (.int (va p0 p1 p2 p3)), .val (.int (vf p0 p1 p2 p3)), .val (.ref r9_323), .val (.int g10_323), .val (.int g11_323), .val (.int g12_323), .val (.int g13_323), .unset, .unset] [(.int g10_323), (.int (va p0 p1 p2 p3)), (.int (2 : Int32)), (.ref r9_323)])) ?_ (fun t q => XS.iload X10.here hx rfl (hb hby at_341) rfl q)
      obtain ⟨_, _, ⟨T11, L11, k11, n11⟩, -, X11, ⟨Lc11, hQ11, l11, y11, z11⟩, st11⟩ := Jvm.LawKit.callS X10 hx (y := (⟨"com/example/holyrood/holyrood/Utf8EncodePinLaw", "continues", "([BIII)Z"⟩ : MethodName)) hown (mvT hZ (hw _ (List.mem_of_getElem? (i := 6) rfl))) (mvT hZ (hw _ (List.mem_of_getElem? (i := 7) rfl))) (mvT hZ (hw _ (List.mem_of_getElem? (i := 8) rfl))) (mvT hZ (hw _ (List.mem_of_getElem? (i := 9) rfl))) (by decide) (backOf (W := 0) (rm2 l Z a0 hw [] r9_323 (2 : Int32) (va p0 p1 p2 p3) g10_323 8 F9_323 T10.heap n0 A10_r9_323 ⟨by decide, by decide⟩) hZ (hw _ (List.mem_of_getElem? (i := 9) rfl)) (hw _ (List.mem_of_getElem? (i := 8) rfl)) (by decide) (by decide)) (g := (mkF m 343 #[.val (.int p0), .val (.int p1), .val (.int p2), .val (.int p3), .val (.int (vk p0 p1 p2 p3)), .val (.int (vr p0 p1 p2 p3)), .val (.int g6_323), .val (.int (va p0 p1 p2 p3)), .val (.int (vf p0 p1 p2 p3)), .val (.ref r9_323), .val (.int g10_323), .val (.int g11_323), .val (.int g12_323), .val (.int g13_323), .unset, .unset] [(.int g10_323), (.int (va p0 p1 p2 p3)), (.int (2 : Int32)), (.ref r9_323)])) rfl (by rw [hml]; rfl) (argsL := [(.ref r9_323), (.int (2 : Int32)), (.int (va p0 p1 p2 p3)), (.int g10_323)]) (rest := []) (lenOf pd_1 rfl) rfl (by show 2 * 0 + _ ≤ _; exact Nat.le_of_eq rfl) (hb hby at_343) (fun _ _ => ⟨rfl, rfl, (Nat.le_of_ble_eq_true rfl), (Nat.le_of_ble_eq_true rfl)⟩)
      dsimp only [Pt.U, Pt.locs, Pt.cells, Pt.slots] at X11 l11 y11 z11 st11 hQ11
      subst l11 y11 z11
      obtain ⟨rfl, N11q, e11⟩ := hQ11
      have N11 := Fr.app N10 N11q
      have zs11 : n0 ≤ T11.heap.size := by rw [e11]; exact zs10
      have A11_r9_323 := own_A.eq A10_r9_323 e11
      refine own_st (T' := T11) (f' := (mkF m 346 #[.val (.int p0), .val (.int p1), .val (.int p2), .val (.int p3), .val (.int (vk p0 p1 p2 p3)), .val (.int (vr p0 p1 p2 p3)), .val (.int g6_323), .val (.int (va p0 p1 p2 p3)), .val (.int (vf p0 p1 p2 p3)), .val (.ref r9_323), .val (.int g10_323), .val (.int g11_323), .val (.int g12_323), .val (.int g13_323), .unset, .unset] [(.int (f2 (2 : Int32) (va p0 p1 p2 p3) g10_323 F9_323))])) ?_ (fun t q => st11 _ q)
      refine own_ite (fun hc346 => ?_) (fun hc346 => ?_)
      · refine own_st (T' := T11) (f' := (mkF m 420 #[.val (.int p0), .val (.int p1), .val (.int p2), .val (.int p3), .val (.int (vk p0 p1 p2 p3)), .val (.int (vr p0 p1 p2 p3)), .val (.int g6_323), .val (.int (va p0 p1 p2 p3)), .val (.int (vf p0 p1 p2 p3)), .val (.ref r9_323), .val (.int g10_323), .val (.int g11_323), .val (.int g12_323), .val (.int g13_323), .unset, .unset] [])) ?_ (fun t q => XS.ifYes X11.here hx rfl (pc0 := 346) (pc' := 420) rfl (hb hby at_346) rfl ((if0 _ _).trans (teq hc346).1) (by decide) (by decide) q)
        exact B420 T11 _ g6_323 r9_323 g10_323 g11_323 g12_323 g13_323 F9_323 X11 N11 zs11 G_r9_323 A11_r9_323
      · refine own_st (T' := T11) (f' := (mkF m 349 #[.val (.int p0), .val (.int p1), .val (.int p2), .val (.int p3), .val (.int (vk p0 p1 p2 p3)), .val (.int (vr p0 p1 p2 p3)), .val (.int g6_323), .val (.int (va p0 p1 p2 p3)), .val (.int (vf p0 p1 p2 p3)), .val (.ref r9_323), .val (.int g10_323), .val (.int g11_323), .val (.int g12_323), .val (.int g13_323), .unset, .unset] [])) ?_ (fun t q => XS.ifNo X11.here hx rfl (hb hby at_346) rfl ((if0 _ _).trans (feq hc346).1) q)
        refine own_st (T' := T11) (f' := (mkF m 351 #[.val (.int p0), .val (.int p1), .val (.int p2), .val (.int p3), .val (.int (vk p0 p1 p2 p3)), .val (.int (vr p0 p1 p2 p3)), .val (.int g6_323), .val (.int (va p0 p1 p2 p3)), .val (.int (vf p0 p1 p2 p3)), .val (.ref r9_323), .val (.int g10_323), .val (.int g11_323), .val (.int g12_323), .val (.int g13_323), .unset, .unset] [(.ref r9_323)])) ?_ (fun t q => XS.aload X11.here hx rfl (hb hby at_349) rfl rfl q)
        refine own_st (T' := T11) (f' := (mkF m 352 #[.val (.int p0), .val (.int p1), .val (.int p2), .val (.int p3), .val (.int (vk p0 p1 p2 p3)), .val (.int (vr p0 p1 p2 p3)), .val (.int g6_323), .val (.int (va p0 p1 p2 p3)), .val (.int (vf p0 p1 p2 p3)), .val (.ref r9_323), .val (.int g10_323), .val (.int g11_323), .val (.int g12_323), .val (.int g13_323), .unset, .unset] [(.int (3 : Int32)), (.ref r9_323)])) ?_ (fun t q => XS.iconst X11.here hx rfl (hb hby at_351) q)
        refine own_st (T' := T11) (f' := (mkF m 354 #[.val (.int p0), .val (.int p1), .val (.int p2), .val (.int p3), .val (.int (vk p0 p1 p2 p3)), .val (.int (vr p0 p1 p2 p3)), .val (.int g6_323), .val (.int (va p0 p1 p2 p3)), .val (.int (vf p0 p1 p2 p3)), .val (.ref r9_323), .val (.int g10_323), .val (.int g11_323), .val (.int g12_323), .val (.int g13_323), .unset, .unset] [(.int (va p0 p1 p2 p3)), (.int (3 : Int32)), (.ref r9_323)])) ?_ (fun t q => XS.iload X11.here hx rfl (hb hby at_352) rfl q)
        refine own_st (T' := T11) (f' := (mkF m 356 #[.val (.int p0), .val (.int p1), .val (.int p2), .val (.int p3), .val (.int (vk p0 p1 p2 p3)), .val (.int (vr p0 p1 p2 p3)), .val (.int g6_323), .val (.int (va p0 p1 p2 p3)), .val (.int (vf p0 p1 p2 p3)), .val (.ref r9_323), .val (.int g10_323), .val (.int g11_323), .val (.int g12_323), .val (.int g13_323), .unset, .unset] [(.int g10_323), (.int (va p0 p1 p2 p3)), (.int (3 : Int32)), (.ref r9_323)])) ?_ (fun t q => XS.iload X11.here hx rfl (hb hby at_354) rfl q)
        obtain ⟨_, _, ⟨T12, L12, k12, n12⟩, -, X12, ⟨Lc12, hQ12, l12, y12, z12⟩, st12⟩ := Jvm.LawKit.callS X11 hx (y := (⟨"com/example/holyrood/holyrood/Utf8EncodePinLaw", "continues", "([BIII)Z"⟩ : MethodName)) hown (mvT hZ (hw _ (List.mem_of_getElem? (i := 6) rfl))) (mvT hZ (hw _ (List.mem_of_getElem? (i := 7) rfl))) (mvT hZ (hw _ (List.mem_of_getElem? (i := 8) rfl))) (mvT hZ (hw _ (List.mem_of_getElem? (i := 9) rfl))) (by decide) (backOf (W := 0) (rm2 l Z a0 hw [] r9_323 (3 : Int32) (va p0 p1 p2 p3) g10_323 8 F9_323 T11.heap n0 A11_r9_323 ⟨by decide, by decide⟩) hZ (hw _ (List.mem_of_getElem? (i := 9) rfl)) (hw _ (List.mem_of_getElem? (i := 8) rfl)) (by decide) (by decide)) (g := (mkF m 356 #[.val (.int p0), .val (.int p1), .val (.int p2), .val (.int p3), .val (.int (vk p0 p1 p2 p3)), .val (.int (vr p0 p1 p2 p3)), .val (.int g6_323), .val (.int (va p0 p1 p2 p3)), .val (.int (vf p0 p1 p2 p3)), .val (.ref r9_323), .val (.int g10_323), .val (.int g11_323), .val (.int g12_323), .val (.int g13_323), .unset, .unset] [(.int g10_323), (.int (va p0 p1 p2 p3)), (.int (3 : Int32)), (.ref r9_323)])) rfl (by rw [hml]; rfl) (argsL := [(.ref r9_323), (.int (3 : Int32)), (.int (va p0 p1 p2 p3)), (.int g10_323)]) (rest := []) (lenOf pd_1 rfl) rfl (by show 2 * 0 + _ ≤ _; exact Nat.le_of_eq rfl) (hb hby at_356) (fun _ _ => ⟨rfl, rfl, (Nat.le_of_ble_eq_true rfl), (Nat.le_of_ble_eq_true rfl)⟩)
        dsimp only [Pt.U, Pt.locs, Pt.cells, Pt.slots] at X12 l12 y12 z12 st12 hQ12
        subst l12 y12 z12
        obtain ⟨rfl, N12q, e12⟩ := hQ12
        have N12 := Fr.app N11 N12q
        have zs12 : n0 ≤ T12.heap.size := by rw [e12]; exact zs11
        have A12_r9_323 := own_A.eq A11_r9_323 e12
        refine own_st (T' := T12) (f' := (mkF m 359 #[.val (.int p0), .val (.int p1), .val (.int p2), .val (.int p3), .val (.int (vk p0 p1 p2 p3)), .val (.int (vr p0 p1 p2 p3)), .val (.int g6_323), .val (.int (va p0 p1 p2 p3)), .val (.int (vf p0 p1 p2 p3)), .val (.ref r9_323), .val (.int g10_323), .val (.int g11_323), .val (.int g12_323), .val (.int g13_323), .unset, .unset] [(.int (f2 (3 : Int32) (va p0 p1 p2 p3) g10_323 F9_323))])) ?_ (fun t q => st12 _ q)
        refine own_ite (fun hc359 => ?_) (fun hc359 => ?_)
        · refine own_st (T' := T12) (f' := (mkF m 420 #[.val (.int p0), .val (.int p1), .val (.int p2), .val (.int p3), .val (.int (vk p0 p1 p2 p3)), .val (.int (vr p0 p1 p2 p3)), .val (.int g6_323), .val (.int (va p0 p1 p2 p3)), .val (.int (vf p0 p1 p2 p3)), .val (.ref r9_323), .val (.int g10_323), .val (.int g11_323), .val (.int g12_323), .val (.int g13_323), .unset, .unset] [])) ?_ (fun t q => XS.ifYes X12.here hx rfl (pc0 := 359) (pc' := 420) rfl (hb hby at_359) rfl ((if0 _ _).trans (teq hc359).1) (by decide) (by decide) q)
          exact B420 T12 _ g6_323 r9_323 g10_323 g11_323 g12_323 g13_323 F9_323 X12 N12 zs12 G_r9_323 A12_r9_323
        · refine own_st (T' := T12) (f' := (mkF m 362 #[.val (.int p0), .val (.int p1), .val (.int p2), .val (.int p3), .val (.int (vk p0 p1 p2 p3)), .val (.int (vr p0 p1 p2 p3)), .val (.int g6_323), .val (.int (va p0 p1 p2 p3)), .val (.int (vf p0 p1 p2 p3)), .val (.ref r9_323), .val (.int g10_323), .val (.int g11_323), .val (.int g12_323), .val (.int g13_323), .unset, .unset] [])) ?_ (fun t q => XS.ifNo X12.here hx rfl (hb hby at_359) rfl ((if0 _ _).trans (feq hc359).1) q)
          refine own_st (T' := T12) (f' := (mkF m 364 #[.val (.int p0), .val (.int p1), .val (.int p2), .val (.int p3), .val (.int (vk p0 p1 p2 p3)), .val (.int (vr p0 p1 p2 p3)), .val (.int g6_323), .val (.int (va p0 p1 p2 p3)), .val (.int (vf p0 p1 p2 p3)), .val (.ref r9_323), .val (.int g10_323), .val (.int g11_323), .val (.int g12_323), .val (.int g13_323), .unset, .unset] [(.ref r9_323)])) ?_ (fun t q => XS.aload X12.here hx rfl (hb hby at_362) rfl rfl q)
          refine own_st (T' := T12) (f' := (mkF m 365 #[.val (.int p0), .val (.int p1), .val (.int p2), .val (.int p3), .val (.int (vk p0 p1 p2 p3)), .val (.int (vr p0 p1 p2 p3)), .val (.int g6_323), .val (.int (va p0 p1 p2 p3)), .val (.int (vf p0 p1 p2 p3)), .val (.ref r9_323), .val (.int g10_323), .val (.int g11_323), .val (.int g12_323), .val (.int g13_323), .unset, .unset] [(.int (4 : Int32)), (.ref r9_323)])) ?_ (fun t q => XS.iconst X12.here hx rfl (hb hby at_364) q)
          refine own_st (T' := T12) (f' := (mkF m 367 #[.val (.int p0), .val (.int p1), .val (.int p2), .val (.int p3), .val (.int (vk p0 p1 p2 p3)), .val (.int (vr p0 p1 p2 p3)), .val (.int g6_323), .val (.int (va p0 p1 p2 p3)), .val (.int (vf p0 p1 p2 p3)), .val (.ref r9_323), .val (.int g10_323), .val (.int g11_323), .val (.int g12_323), .val (.int g13_323), .unset, .unset] [(.int (va p0 p1 p2 p3)), (.int (4 : Int32)), (.ref r9_323)])) ?_ (fun t q => XS.iload X12.here hx rfl (hb hby at_365) rfl q)
          refine own_st (T' := T12) (f' := (mkF m 369 #[.val (.int p0), .val (.int p1), .val (.int p2), .val (.int p3), .val (.int (vk p0 p1 p2 p3)), .val (.int (vr p0 p1 p2 p3)), .val (.int g6_323), .val (.int (va p0 p1 p2 p3)), .val (.int (vf p0 p1 p2 p3)), .val (.ref r9_323), .val (.int g10_323), .val (.int g11_323), .val (.int g12_323), .val (.int g13_323), .unset, .unset] [(.int g10_323), (.int (va p0 p1 p2 p3)), (.int (4 : Int32)), (.ref r9_323)])) ?_ (fun t q => XS.iload X12.here hx rfl (hb hby at_367) rfl q)
          obtain ⟨_, _, ⟨T13, L13, k13, n13⟩, -, X13, ⟨Lc13, hQ13, l13, y13, z13⟩, st13⟩ := Jvm.LawKit.callS X12 hx (y := (⟨"com/example/holyrood/holyrood/Utf8EncodePinLaw", "continues", "([BIII)Z"⟩ : MethodName)) hown (mvT hZ (hw _ (List.mem_of_getElem? (i := 6) rfl))) (mvT hZ (hw _ (List.mem_of_getElem? (i := 7) rfl))) (mvT hZ (hw _ (List.mem_of_getElem? (i := 8) rfl))) (mvT hZ (hw _ (List.mem_of_getElem? (i := 9) rfl))) (by decide) (backOf (W := 0) (rm2 l Z a0 hw [] r9_323 (4 : Int32) (va p0 p1 p2 p3) g10_323 8 F9_323 T12.heap n0 A12_r9_323 ⟨by decide, by decide⟩) hZ (hw _ (List.mem_of_getElem? (i := 9) rfl)) (hw _ (List.mem_of_getElem? (i := 8) rfl)) (by decide) (by decide)) (g := (mkF m 369 #[.val (.int p0), .val (.int p1), .val (.int p2), .val (.int p3), .val (.int (vk p0 p1 p2 p3)), .val (.int (vr p0 p1 p2 p3)), .val (.int g6_323), .val (.int (va p0 p1 p2 p3)), .val (.int (vf p0 p1 p2 p3)), .val (.ref r9_323), .val (.int g10_323), .val (.int g11_323), .val (.int g12_323), .val (.int g13_323), .unset, .unset] [(.int g10_323), (.int (va p0 p1 p2 p3)), (.int (4 : Int32)), (.ref r9_323)])) rfl (by rw [hml]; rfl) (argsL := [(.ref r9_323), (.int (4 : Int32)), (.int (va p0 p1 p2 p3)), (.int g10_323)]) (rest := []) (lenOf pd_1 rfl) rfl (by show 2 * 0 + _ ≤ _; exact Nat.le_of_eq rfl) (hb hby at_369) (fun _ _ => ⟨rfl, rfl, (Nat.le_of_ble_eq_true rfl), (Nat.le_of_ble_eq_true rfl)⟩)
          dsimp only [Pt.U, Pt.locs, Pt.cells, Pt.slots] at X13 l13 y13 z13 st13 hQ13
          subst l13 y13 z13
          obtain ⟨rfl, N13q, e13⟩ := hQ13
          have N13 := Fr.app N12 N13q
          have zs13 : n0 ≤ T13.heap.size := by rw [e13]; exact zs12
          have A13_r9_323 := own_A.eq A12_r9_323 e13
          refine own_st (T' := T13) (f' := (mkF m 372 #[.val (.int p0), .val (.int p1), .val (.int p2), .val (.int p3), .val (.int (vk p0 p1 p2 p3)), .val (.int (vr p0 p1 p2 p3)), .val (.int g6_323), .val (.int (va p0 p1 p2 p3)), .val (.int (vf p0 p1 p2 p3)), .val (.ref r9_323), .val (.int g10_323), .val (.int g11_323), .val (.int g12_323), .val (.int g13_323), .unset, .unset] [(.int (f2 (4 : Int32) (va p0 p1 p2 p3) g10_323 F9_323))])) ?_ (fun t q => st13 _ q)
          refine own_ite (fun hc372 => ?_) (fun hc372 => ?_)
          · refine own_st (T' := T13) (f' := (mkF m 420 #[.val (.int p0), .val (.int p1), .val (.int p2), .val (.int p3), .val (.int (vk p0 p1 p2 p3)), .val (.int (vr p0 p1 p2 p3)), .val (.int g6_323), .val (.int (va p0 p1 p2 p3)), .val (.int (vf p0 p1 p2 p3)), .val (.ref r9_323), .val (.int g10_323), .val (.int g11_323), .val (.int g12_323), .val (.int g13_323), .unset, .unset] [])) ?_ (fun t q => XS.ifYes X13.here hx rfl (pc0 := 372) (pc' := 420) rfl (hb hby at_372) rfl ((if0 _ _).trans (teq hc372).1) (by decide) (by decide) q)
            exact B420 T13 _ g6_323 r9_323 g10_323 g11_323 g12_323 g13_323 F9_323 X13 N13 zs13 G_r9_323 A13_r9_323
          · refine own_st (T' := T13) (f' := (mkF m 375 #[.val (.int p0), .val (.int p1), .val (.int p2), .val (.int p3), .val (.int (vk p0 p1 p2 p3)), .val (.int (vr p0 p1 p2 p3)), .val (.int g6_323), .val (.int (va p0 p1 p2 p3)), .val (.int (vf p0 p1 p2 p3)), .val (.ref r9_323), .val (.int g10_323), .val (.int g11_323), .val (.int g12_323), .val (.int g13_323), .unset, .unset] [])) ?_ (fun t q => XS.ifNo X13.here hx rfl (hb hby at_372) rfl ((if0 _ _).trans (feq hc372).1) q)
            refine own_st (T' := T13) (f' := (mkF m 377 #[.val (.int p0), .val (.int p1), .val (.int p2), .val (.int p3), .val (.int (vk p0 p1 p2 p3)), .val (.int (vr p0 p1 p2 p3)), .val (.int g6_323), .val (.int (va p0 p1 p2 p3)), .val (.int (vf p0 p1 p2 p3)), .val (.ref r9_323), .val (.int g10_323), .val (.int g11_323), .val (.int g12_323), .val (.int g13_323), .unset, .unset] [(.ref r9_323)])) ?_ (fun t q => XS.aload X13.here hx rfl (hb hby at_375) rfl rfl q)
            refine own_st (T' := T13) (f' := (mkF m 378 #[.val (.int p0), .val (.int p1), .val (.int p2), .val (.int p3), .val (.int (vk p0 p1 p2 p3)), .val (.int (vr p0 p1 p2 p3)), .val (.int g6_323), .val (.int (va p0 p1 p2 p3)), .val (.int (vf p0 p1 p2 p3)), .val (.ref r9_323), .val (.int g10_323), .val (.int g11_323), .val (.int g12_323), .val (.int g13_323), .unset, .unset] [(.int (5 : Int32)), (.ref r9_323)])) ?_ (fun t q => XS.iconst X13.here hx rfl (hb hby at_377) q)
            refine own_st (T' := T13) (f' := (mkF m 380 #[.val (.int p0), .val (.int p1), .val (.int p2), .val (.int p3), .val (.int (vk p0 p1 p2 p3)), .val (.int (vr p0 p1 p2 p3)), .val (.int g6_323), .val (.int (va p0 p1 p2 p3)), .val (.int (vf p0 p1 p2 p3)), .val (.ref r9_323), .val (.int g10_323), .val (.int g11_323), .val (.int g12_323), .val (.int g13_323), .unset, .unset] [(.int (va p0 p1 p2 p3)), (.int (5 : Int32)), (.ref r9_323)])) ?_ (fun t q => XS.iload X13.here hx rfl (hb hby at_378) rfl q)
            refine own_st (T' := T13) (f' := (mkF m 382 #[.val (.int p0), .val (.int p1), .val (.int p2), .val (.int p3), .val (.int (vk p0 p1 p2 p3)), .val (.int (vr p0 p1 p2 p3)), .val (.int g6_323), .val (.int (va p0 p1 p2 p3)), .val (.int (vf p0 p1 p2 p3)), .val (.ref r9_323), .val (.int g10_323), .val (.int g11_323), .val (.int g12_323), .val (.int g13_323), .unset, .unset] [(.int g10_323), (.int (va p0 p1 p2 p3)), (.int (5 : Int32)), (.ref r9_323)])) ?_ (fun t q => XS.iload X13.here hx rfl (hb hby at_380) rfl q)
            obtain ⟨_, _, ⟨T14, L14, k14, n14⟩, -, X14, ⟨Lc14, hQ14, l14, y14, z14⟩, st14⟩ := Jvm.LawKit.callS X13 hx (y := (⟨"com/example/holyrood/holyrood/Utf8EncodePinLaw", "continues", "([BIII)Z"⟩ : MethodName)) hown (mvT hZ (hw _ (List.mem_of_getElem? (i := 6) rfl))) (mvT hZ (hw _ (List.mem_of_getElem? (i := 7) rfl))) (mvT hZ (hw _ (List.mem_of_getElem? (i := 8) rfl))) (mvT hZ (hw _ (List.mem_of_getElem? (i := 9) rfl))) (by decide) (backOf (W := 0) (rm2 l Z a0 hw [] r9_323 (5 : Int32) (va p0 p1 p2 p3) g10_323 8 F9_323 T13.heap n0 A13_r9_323 ⟨by decide, by decide⟩) hZ (hw _ (List.mem_of_getElem? (i := 9) rfl)) (hw _ (List.mem_of_getElem? (i := 8) rfl)) (by decide) (by decide)) (g := (mkF m 382 #[.val (.int p0), .val (.int p1), .val (.int p2), .val (.int p3), .val (.int (vk p0 p1 p2 p3)), .val (.int (vr p0 p1 p2 p3)), .val (.int g6_323), .val (.int (va p0 p1 p2 p3)), .val (.int (vf p0 p1 p2 p3)), .val (.ref r9_323), .val (.int g10_323), .val (.int g11_323), .val (.int g12_323), .val (.int g13_323), .unset, .unset] [(.int g10_323), (.int (va p0 p1 p2 p3)), (.int (5 : Int32)), (.ref r9_323)])) rfl (by rw [hml]; rfl) (argsL := [(.ref r9_323), (.int (5 : Int32)), (.int (va p0 p1 p2 p3)), (.int g10_323)]) (rest := []) (lenOf pd_1 rfl) rfl (by show 2 * 0 + _ ≤ _; exact Nat.le_of_eq rfl) (hb hby at_382) (fun _ _ => ⟨rfl, rfl, (Nat.le_of_ble_eq_true rfl), (Nat.le_of_ble_eq_true rfl)⟩)
            dsimp only [Pt.U, Pt.locs, Pt.cells, Pt.slots] at X14 l14 y14 z14 st14 hQ14
            subst l14 y14 z14
            obtain ⟨rfl, N14q, e14⟩ := hQ14
            have N14 := Fr.app N13 N14q
            have zs14 : n0 ≤ T14.heap.size := by rw [e14]; exact zs13
            have A14_r9_323 := own_A.eq A13_r9_323 e14
            refine own_st (T' := T14) (f' := (mkF m 385 #[.val (.int p0), .val (.int p1), .val (.int p2), .val (.int p3), .val (.int (vk p0 p1 p2 p3)), .val (.int (vr p0 p1 p2 p3)), .val (.int g6_323), .val (.int (va p0 p1 p2 p3)), .val (.int (vf p0 p1 p2 p3)), .val (.ref r9_323), .val (.int g10_323), .val (.int g11_323), .val (.int g12_323), .val (.int g13_323), .unset, .unset] [(.int (f2 (5 : Int32) (va p0 p1 p2 p3) g10_323 F9_323))])) ?_ (fun t q => st14 _ q)
            refine own_ite (fun hc385 => ?_) (fun hc385 => ?_)
            · refine own_st (T' := T14) (f' := (mkF m 420 #[.val (.int p0), .val (.int p1), .val (.int p2), .val (.int p3), .val (.int (vk p0 p1 p2 p3)), .val (.int (vr p0 p1 p2 p3)), .val (.int g6_323), .val (.int (va p0 p1 p2 p3)), .val (.int (vf p0 p1 p2 p3)), .val (.ref r9_323), .val (.int g10_323), .val (.int g11_323), .val (.int g12_323), .val (.int g13_323), .unset, .unset] [])) ?_ (fun t q => XS.ifYes X14.here hx rfl (pc0 := 385) (pc' := 420) rfl (hb hby at_385) rfl ((if0 _ _).trans (teq hc385).1) (by decide) (by decide) q)
              exact B420 T14 _ g6_323 r9_323 g10_323 g11_323 g12_323 g13_323 F9_323 X14 N14 zs14 G_r9_323 A14_r9_323
            · refine own_st (T' := T14) (f' := (mkF m 388 #[.val (.int p0), .val (.int p1), .val (.int p2), .val (.int p3), .val (.int (vk p0 p1 p2 p3)), .val (.int (vr p0 p1 p2 p3)), .val (.int g6_323), .val (.int (va p0 p1 p2 p3)), .val (.int (vf p0 p1 p2 p3)), .val (.ref r9_323), .val (.int g10_323), .val (.int g11_323), .val (.int g12_323), .val (.int g13_323), .unset, .unset] [])) ?_ (fun t q => XS.ifNo X14.here hx rfl (hb hby at_385) rfl ((if0 _ _).trans (feq hc385).1) q)
              refine own_st (T' := T14) (f' := (mkF m 390 #[.val (.int p0), .val (.int p1), .val (.int p2), .val (.int p3), .val (.int (vk p0 p1 p2 p3)), .val (.int (vr p0 p1 p2 p3)), .val (.int g6_323), .val (.int (va p0 p1 p2 p3)), .val (.int (vf p0 p1 p2 p3)), .val (.ref r9_323), .val (.int g10_323), .val (.int g11_323), .val (.int g12_323), .val (.int g13_323), .unset, .unset] [(.ref r9_323)])) ?_ (fun t q => XS.aload X14.here hx rfl (hb hby at_388) rfl rfl q)
              refine own_st (T' := T14) (f' := (mkF m 392 #[.val (.int p0), .val (.int p1), .val (.int p2), .val (.int p3), .val (.int (vk p0 p1 p2 p3)), .val (.int (vr p0 p1 p2 p3)), .val (.int g6_323), .val (.int (va p0 p1 p2 p3)), .val (.int (vf p0 p1 p2 p3)), .val (.ref r9_323), .val (.int g10_323), .val (.int g11_323), .val (.int g12_323), .val (.int g13_323), .unset, .unset] [(.int (6 : Int32)), (.ref r9_323)])) ?_ (fun t q => XS.bipush X14.here hx rfl (hb hby at_390) q)
              refine own_st (T' := T14) (f' := (mkF m 394 #[.val (.int p0), .val (.int p1), .val (.int p2), .val (.int p3), .val (.int (vk p0 p1 p2 p3)), .val (.int (vr p0 p1 p2 p3)), .val (.int g6_323), .val (.int (va p0 p1 p2 p3)), .val (.int (vf p0 p1 p2 p3)), .val (.ref r9_323), .val (.int g10_323), .val (.int g11_323), .val (.int g12_323), .val (.int g13_323), .unset, .unset] [(.int (va p0 p1 p2 p3)), (.int (6 : Int32)), (.ref r9_323)])) ?_ (fun t q => XS.iload X14.here hx rfl (hb hby at_392) rfl q)
              refine own_st (T' := T14) (f' := (mkF m 396 #[.val (.int p0), .val (.int p1), .val (.int p2), .val (.int p3), .val (.int (vk p0 p1 p2 p3)), .val (.int (vr p0 p1 p2 p3)), .val (.int g6_323), .val (.int (va p0 p1 p2 p3)), .val (.int (vf p0 p1 p2 p3)), .val (.ref r9_323), .val (.int g10_323), .val (.int g11_323), .val (.int g12_323), .val (.int g13_323), .unset, .unset] [(.int g10_323), (.int (va p0 p1 p2 p3)), (.int (6 : Int32)), (.ref r9_323)])) ?_ (fun t q => XS.iload X14.here hx rfl (hb hby at_394) rfl q)
              obtain ⟨_, _, ⟨T15, L15, k15, n15⟩, -, X15, ⟨Lc15, hQ15, l15, y15, z15⟩, st15⟩ := Jvm.LawKit.callS X14 hx (y := (⟨"com/example/holyrood/holyrood/Utf8EncodePinLaw", "continues", "([BIII)Z"⟩ : MethodName)) hown (mvT hZ (hw _ (List.mem_of_getElem? (i := 6) rfl))) (mvT hZ (hw _ (List.mem_of_getElem? (i := 7) rfl))) (mvT hZ (hw _ (List.mem_of_getElem? (i := 8) rfl))) (mvT hZ (hw _ (List.mem_of_getElem? (i := 9) rfl))) (by decide) (backOf (W := 0) (rm2 l Z a0 hw [] r9_323 (6 : Int32) (va p0 p1 p2 p3) g10_323 8 F9_323 T14.heap n0 A14_r9_323 ⟨by decide, by decide⟩) hZ (hw _ (List.mem_of_getElem? (i := 9) rfl)) (hw _ (List.mem_of_getElem? (i := 8) rfl)) (by decide) (by decide)) (g := (mkF m 396 #[.val (.int p0), .val (.int p1), .val (.int p2), .val (.int p3), .val (.int (vk p0 p1 p2 p3)), .val (.int (vr p0 p1 p2 p3)), .val (.int g6_323), .val (.int (va p0 p1 p2 p3)), .val (.int (vf p0 p1 p2 p3)), .val (.ref r9_323), .val (.int g10_323), .val (.int g11_323), .val (.int g12_323), .val (.int g13_323), .unset, .unset] [(.int g10_323), (.int (va p0 p1 p2 p3)), (.int (6 : Int32)), (.ref r9_323)])) rfl (by rw [hml]; rfl) (argsL := [(.ref r9_323), (.int (6 : Int32)), (.int (va p0 p1 p2 p3)), (.int g10_323)]) (rest := []) (lenOf pd_1 rfl) rfl (by show 2 * 0 + _ ≤ _; exact Nat.le_of_eq rfl) (hb hby at_396) (fun _ _ => ⟨rfl, rfl, (Nat.le_of_ble_eq_true rfl), (Nat.le_of_ble_eq_true rfl)⟩)
              dsimp only [Pt.U, Pt.locs, Pt.cells, Pt.slots] at X15 l15 y15 z15 st15 hQ15
              subst l15 y15 z15
              obtain ⟨rfl, N15q, e15⟩ := hQ15
              have N15 := Fr.app N14 N15q
              have zs15 : n0 ≤ T15.heap.size := by rw [e15]; exact zs14
              have A15_r9_323 := own_A.eq A14_r9_323 e15
              refine own_st (T' := T15) (f' := (mkF m 399 #[.val (.int p0), .val (.int p1), .val (.int p2), .val (.int p3), .val (.int (vk p0 p1 p2 p3)), .val (.int (vr p0 p1 p2 p3)), .val (.int g6_323), .val (.int (va p0 p1 p2 p3)), .val (.int (vf p0 p1 p2 p3)), .val (.ref r9_323), .val (.int g10_323), .val (.int g11_323), .val (.int g12_323), .val (.int g13_323), .unset, .unset] [(.int (f2 (6 : Int32) (va p0 p1 p2 p3) g10_323 F9_323))])) ?_ (fun t q => st15 _ q)
              refine own_ite (fun hc399 => ?_) (fun hc399 => ?_)
              · refine own_st (T' := T15) (f' := (mkF m 420 #[.val (.int p0), .val (.int p1), .val (.int p2), .val (.int p3), .val (.int (vk p0 p1 p2 p3)), .val (.int (vr p0 p1 p2 p3)), .val (.int g6_323), .val (.int (va p0 p1 p2 p3)), .val (.int (vf p0 p1 p2 p3)), .val (.ref r9_323), .val (.int g10_323), .val (.int g11_323), .val (.int g12_323), .val (.int g13_323), .unset, .unset] [])) ?_ (fun t q => XS.ifYes X15.here hx rfl (pc0 := 399) (pc' := 420) rfl (hb hby at_399) rfl ((if0 _ _).trans (teq hc399).1) (by decide) (by decide) q)
                exact B420 T15 _ g6_323 r9_323 g10_323 g11_323 g12_323 g13_323 F9_323 X15 N15 zs15 G_r9_323 A15_r9_323
              · refine own_st (T' := T15) (f' := (mkF m 402 #[.val (.int p0), .val (.int p1), .val (.int p2), .val (.int p3), .val (.int (vk p0 p1 p2 p3)), .val (.int (vr p0 p1 p2 p3)), .val (.int g6_323), .val (.int (va p0 p1 p2 p3)), .val (.int (vf p0 p1 p2 p3)), .val (.ref r9_323), .val (.int g10_323), .val (.int g11_323), .val (.int g12_323), .val (.int g13_323), .unset, .unset] [])) ?_ (fun t q => XS.ifNo X15.here hx rfl (hb hby at_399) rfl ((if0 _ _).trans (feq hc399).1) q)
                refine own_st (T' := T15) (f' := (mkF m 404 #[.val (.int p0), .val (.int p1), .val (.int p2), .val (.int p3), .val (.int (vk p0 p1 p2 p3)), .val (.int (vr p0 p1 p2 p3)), .val (.int g6_323), .val (.int (va p0 p1 p2 p3)), .val (.int (vf p0 p1 p2 p3)), .val (.ref r9_323), .val (.int g10_323), .val (.int g11_323), .val (.int g12_323), .val (.int g13_323), .unset, .unset] [(.ref r9_323)])) ?_ (fun t q => XS.aload X15.here hx rfl (hb hby at_402) rfl rfl q)
                refine own_st (T' := T15) (f' := (mkF m 406 #[.val (.int p0), .val (.int p1), .val (.int p2), .val (.int p3), .val (.int (vk p0 p1 p2 p3)), .val (.int (vr p0 p1 p2 p3)), .val (.int g6_323), .val (.int (va p0 p1 p2 p3)), .val (.int (vf p0 p1 p2 p3)), .val (.ref r9_323), .val (.int g10_323), .val (.int g11_323), .val (.int g12_323), .val (.int g13_323), .unset, .unset] [(.int (7 : Int32)), (.ref r9_323)])) ?_ (fun t q => XS.bipush X15.here hx rfl (hb hby at_404) q)
                refine own_st (T' := T15) (f' := (mkF m 408 #[.val (.int p0), .val (.int p1), .val (.int p2), .val (.int p3), .val (.int (vk p0 p1 p2 p3)), .val (.int (vr p0 p1 p2 p3)), .val (.int g6_323), .val (.int (va p0 p1 p2 p3)), .val (.int (vf p0 p1 p2 p3)), .val (.ref r9_323), .val (.int g10_323), .val (.int g11_323), .val (.int g12_323), .val (.int g13_323), .unset, .unset] [(.int (va p0 p1 p2 p3)), (.int (7 : Int32)), (.ref r9_323)])) ?_ (fun t q => XS.iload X15.here hx rfl (hb hby at_406) rfl q)
                refine own_st (T' := T15) (f' := (mkF m 410 #[.val (.int p0), .val (.int p1), .val (.int p2), .val (.int p3), .val (.int (vk p0 p1 p2 p3)), .val (.int (vr p0 p1 p2 p3)), .val (.int g6_323), .val (.int (va p0 p1 p2 p3)), .val (.int (vf p0 p1 p2 p3)), .val (.ref r9_323), .val (.int g10_323), .val (.int g11_323), .val (.int g12_323), .val (.int g13_323), .unset, .unset] [(.int g10_323), (.int (va p0 p1 p2 p3)), (.int (7 : Int32)), (.ref r9_323)])) ?_ (fun t q => XS.iload X15.here hx rfl (hb hby at_408) rfl q)
                obtain ⟨_, _, ⟨T16, L16, k16, n16⟩, -, X16, ⟨Lc16, hQ16, l16, y16, z16⟩, st16⟩ := Jvm.LawKit.callS X15 hx (y := (⟨"com/example/holyrood/holyrood/Utf8EncodePinLaw", "continues", "([BIII)Z"⟩ : MethodName)) hown (mvT hZ (hw _ (List.mem_of_getElem? (i := 6) rfl))) (mvT hZ (hw _ (List.mem_of_getElem? (i := 7) rfl))) (mvT hZ (hw _ (List.mem_of_getElem? (i := 8) rfl))) (mvT hZ (hw _ (List.mem_of_getElem? (i := 9) rfl))) (by decide) (backOf (W := 0) (rm2 l Z a0 hw [] r9_323 (7 : Int32) (va p0 p1 p2 p3) g10_323 8 F9_323 T15.heap n0 A15_r9_323 ⟨by decide, by decide⟩) hZ (hw _ (List.mem_of_getElem? (i := 9) rfl)) (hw _ (List.mem_of_getElem? (i := 8) rfl)) (by decide) (by decide)) (g := (mkF m 410 #[.val (.int p0), .val (.int p1), .val (.int p2), .val (.int p3), .val (.int (vk p0 p1 p2 p3)), .val (.int (vr p0 p1 p2 p3)), .val (.int g6_323), .val (.int (va p0 p1 p2 p3)), .val (.int (vf p0 p1 p2 p3)), .val (.ref r9_323), .val (.int g10_323), .val (.int g11_323), .val (.int g12_323), .val (.int g13_323), .unset, .unset] [(.int g10_323), (.int (va p0 p1 p2 p3)), (.int (7 : Int32)), (.ref r9_323)])) rfl (by rw [hml]; rfl) (argsL := [(.ref r9_323), (.int (7 : Int32)), (.int (va p0 p1 p2 p3)), (.int g10_323)]) (rest := []) (lenOf pd_1 rfl) rfl (by show 2 * 0 + _ ≤ _; exact Nat.le_of_eq rfl) (hb hby at_410) (fun _ _ => ⟨rfl, rfl, (Nat.le_of_ble_eq_true rfl), (Nat.le_of_ble_eq_true rfl)⟩)
                dsimp only [Pt.U, Pt.locs, Pt.cells, Pt.slots] at X16 l16 y16 z16 st16 hQ16
                subst l16 y16 z16
                obtain ⟨rfl, N16q, e16⟩ := hQ16
                have N16 := Fr.app N15 N16q
                have zs16 : n0 ≤ T16.heap.size := by rw [e16]; exact zs15
                have A16_r9_323 := own_A.eq A15_r9_323 e16
                refine own_st (T' := T16) (f' := (mkF m 413 #[.val (.int p0), .val (.int p1), .val (.int p2), .val (.int p3), .val (.int (vk p0 p1 p2 p3)), .val (.int (vr p0 p1 p2 p3)), .val (.int g6_323), .val (.int (va p0 p1 p2 p3)), .val (.int (vf p0 p1 p2 p3)), .val (.ref r9_323), .val (.int g10_323), .val (.int g11_323), .val (.int g12_323), .val (.int g13_323), .unset, .unset] [(.int (f2 (7 : Int32) (va p0 p1 p2 p3) g10_323 F9_323))])) ?_ (fun t q => st16 _ q)
                refine own_ite (fun hc413 => ?_) (fun hc413 => ?_)
                · refine own_st (T' := T16) (f' := (mkF m 420 #[.val (.int p0), .val (.int p1), .val (.int p2), .val (.int p3), .val (.int (vk p0 p1 p2 p3)), .val (.int (vr p0 p1 p2 p3)), .val (.int g6_323), .val (.int (va p0 p1 p2 p3)), .val (.int (vf p0 p1 p2 p3)), .val (.ref r9_323), .val (.int g10_323), .val (.int g11_323), .val (.int g12_323), .val (.int g13_323), .unset, .unset] [])) ?_ (fun t q => XS.ifYes X16.here hx rfl (pc0 := 413) (pc' := 420) rfl (hb hby at_413) rfl ((if0 _ _).trans (teq hc413).1) (by decide) (by decide) q)
                  exact B420 T16 _ g6_323 r9_323 g10_323 g11_323 g12_323 g13_323 F9_323 X16 N16 zs16 G_r9_323 A16_r9_323
                · refine own_st (T' := T16) (f' := (mkF m 416 #[.val (.int p0), .val (.int p1), .val (.int p2), .val (.int p3), .val (.int (vk p0 p1 p2 p3)), .val (.int (vr p0 p1 p2 p3)), .val (.int g6_323), .val (.int (va p0 p1 p2 p3)), .val (.int (vf p0 p1 p2 p3)), .val (.ref r9_323), .val (.int g10_323), .val (.int g11_323), .val (.int g12_323), .val (.int g13_323), .unset, .unset] [])) ?_ (fun t q => XS.ifNo X16.here hx rfl (hb hby at_413) rfl ((if0 _ _).trans (feq hc413).1) q)
                  refine own_st (T' := T16) (f' := (mkF m 417 #[.val (.int p0), .val (.int p1), .val (.int p2), .val (.int p3), .val (.int (vk p0 p1 p2 p3)), .val (.int (vr p0 p1 p2 p3)), .val (.int g6_323), .val (.int (va p0 p1 p2 p3)), .val (.int (vf p0 p1 p2 p3)), .val (.ref r9_323), .val (.int g10_323), .val (.int g11_323), .val (.int g12_323), .val (.int g13_323), .unset, .unset] [(.int (1 : Int32))])) ?_ (fun t q => XS.iconst X16.here hx rfl (hb hby at_416) q)
                  refine own_st (T' := T16) (f' := (mkF m 421 #[.val (.int p0), .val (.int p1), .val (.int p2), .val (.int p3), .val (.int (vk p0 p1 p2 p3)), .val (.int (vr p0 p1 p2 p3)), .val (.int g6_323), .val (.int (va p0 p1 p2 p3)), .val (.int (vf p0 p1 p2 p3)), .val (.ref r9_323), .val (.int g10_323), .val (.int g11_323), .val (.int g12_323), .val (.int g13_323), .unset, .unset] [(.int (1 : Int32))])) ?_ (fun t q => XS.goto X16.here hx rfl (pc0 := 417) (pc' := 421) rfl (hb hby at_417) (by decide) (by decide) q)
                  exact B421 T16 _ g6_323 r9_323 g10_323 g11_323 g12_323 g13_323 (1 : Int32) F9_323 X16 N16 zs16 G_r9_323 A16_r9_323
  have B321 : ∀ (T : State) (locs : List Loc) (g6_321 : Int32) (r9_321 : Addr) (g10_321 : Int32) (g11_321 : Int32) (g12_321 : Int32) (g100_321 : Int32) (F9_321 : Nat → Int32) (X : Stand p l e room_1 s m #[(.int p0), (.int p1), (.int p2), (.int p3)] below meth c T locs 1 8) (N : Fr n0 locs) (zs : n0 ≤ T.heap.size) (G_r9_321 : n0 ≤ r9_321) (A_r9_321 : own_A Z T.heap r9_321 .byte 8 F9_321), own_W p e below s 1 8 (own_GI n0 (fun _ => True) (f0_321 p0 p1 p2 p3 g6_321 g10_321 g11_321 g12_321 g100_321 F9_321)) T (mkF m 321 #[.val (.int p0), .val (.int p1), .val (.int p2), .val (.int p3), .val (.int (vk p0 p1 p2 p3)), .val (.int (vr p0 p1 p2 p3)), .val (.int g6_321), .val (.int (va p0 p1 p2 p3)), .val (.int (vf p0 p1 p2 p3)), .val (.ref r9_321), .val (.int g10_321), .val (.int g11_321), .val (.int g12_321), .unset, .unset, .unset] [(.int g100_321)]) := by
    intro T locs g6_321 r9_321 g10_321 g11_321 g12_321 g100_321 F9_321 X N zs G_r9_321 A_r9_321
    unfold f0_321
    refine own_st (T' := T) (f' := (mkF m 323 #[.val (.int p0), .val (.int p1), .val (.int p2), .val (.int p3), .val (.int (vk p0 p1 p2 p3)), .val (.int (vr p0 p1 p2 p3)), .val (.int g6_321), .val (.int (va p0 p1 p2 p3)), .val (.int (vf p0 p1 p2 p3)), .val (.ref r9_321), .val (.int g10_321), .val (.int g11_321), .val (.int g12_321), .val (.int g100_321), .unset, .unset] [])) ?_ (fun t q => XS.istore X.here hx rfl (hb hby at_321) rfl (l' := #[.val (.int p0), .val (.int p1), .val (.int p2), .val (.int p3), .val (.int (vk p0 p1 p2 p3)), .val (.int (vr p0 p1 p2 p3)), .val (.int g6_321), .val (.int (va p0 p1 p2 p3)), .val (.int (vf p0 p1 p2 p3)), .val (.ref r9_321), .val (.int g10_321), .val (.int g11_321), .val (.int g12_321), .val (.int g100_321), .unset, .unset]) rfl q)
    exact B323 T _ g6_321 r9_321 g10_321 g11_321 g12_321 g100_321 F9_321 X N zs G_r9_321 A_r9_321
  have B299 : ∀ (T : State) (locs : List Loc) (g6_299 : Int32) (r9_299 : Addr) (g10_299 : Int32) (g11_299 : Int32) (g12_299 : Int32) (g100_299 : Int32) (F9_299 : Nat → Int32) (X : Stand p l e room_1 s m #[(.int p0), (.int p1), (.int p2), (.int p3)] below meth c T locs 1 8) (N : Fr n0 locs) (zs : n0 ≤ T.heap.size) (G_r9_299 : n0 ≤ r9_299) (A_r9_299 : own_A Z T.heap r9_299 .byte 8 F9_299), own_W p e below s 1 8 (own_GI n0 (fun _ => True) (f0_299 p0 p1 p2 p3 g6_299 g10_299 g11_299 g12_299 g100_299 F9_299)) T (mkF m 299 #[.val (.int p0), .val (.int p1), .val (.int p2), .val (.int p3), .val (.int (vk p0 p1 p2 p3)), .val (.int (vr p0 p1 p2 p3)), .val (.int g6_299), .val (.int (va p0 p1 p2 p3)), .val (.int (vf p0 p1 p2 p3)), .val (.ref r9_299), .val (.int g10_299), .val (.int g11_299), .val (.int g12_299), .unset, .unset, .unset] [(.int g100_299)]) := by
    intro T locs g6_299 r9_299 g10_299 g11_299 g12_299 g100_299 F9_299 X N zs G_r9_299 A_r9_299
    unfold f0_299
    refine own_st (T' := T) (f' := (mkF m 301 #[.val (.int p0), .val (.int p1), .val (.int p2), .val (.int p3), .val (.int (vk p0 p1 p2 p3)), .val (.int (vr p0 p1 p2 p3)), .val (.int g6_299), .val (.int (va p0 p1 p2 p3)), .val (.int (vf p0 p1 p2 p3)), .val (.ref r9_299), .val (.int g10_299), .val (.int g11_299), .val (.int g12_299), .val (.int g100_299), .unset, .unset] [])) ?_ (fun t q => XS.istore X.here hx rfl (hb hby at_299) rfl (l' := #[.val (.int p0), .val (.int p1), .val (.int p2), .val (.int p3), .val (.int (vk p0 p1 p2 p3)), .val (.int (vr p0 p1 p2 p3)), .val (.int g6_299), .val (.int (va p0 p1 p2 p3)), .val (.int (vf p0 p1 p2 p3)), .val (.ref r9_299), .val (.int g10_299), .val (.int g11_299), .val (.int g12_299), .val (.int g100_299), .unset, .unset]) rfl q)
    refine own_st (T' := T) (f' := (mkF m 323 #[.val (.int p0), .val (.int p1), .val (.int p2), .val (.int p3), .val (.int (vk p0 p1 p2 p3)), .val (.int (vr p0 p1 p2 p3)), .val (.int g6_299), .val (.int (va p0 p1 p2 p3)), .val (.int (vf p0 p1 p2 p3)), .val (.ref r9_299), .val (.int g10_299), .val (.int g11_299), .val (.int g12_299), .val (.int g100_299), .unset, .unset] [])) ?_ (fun t q => XS.goto X.here hx rfl (pc0 := 301) (pc' := 323) rfl (hb hby at_301) (by decide) (by decide) q)
    exact B323 T _ g6_299 r9_299 g10_299 g11_299 g12_299 g100_299 F9_299 X N zs G_r9_299 A_r9_299
  have B271 : ∀ (T : State) (locs : List Loc) (g6_271 : Int32) (r9_271 : Addr) (g10_271 : Int32) (g11_271 : Int32) (g12_271 : Int32) (g100_271 : Int32) (F9_271 : Nat → Int32) (X : Stand p l e room_1 s m #[(.int p0), (.int p1), (.int p2), (.int p3)] below meth c T locs 1 8) (N : Fr n0 locs) (zs : n0 ≤ T.heap.size) (G_r9_271 : n0 ≤ r9_271) (A_r9_271 : own_A Z T.heap r9_271 .byte 8 F9_271), own_W p e below s 1 8 (own_GI n0 (fun _ => True) (f0_271 p0 p1 p2 p3 g6_271 g10_271 g11_271 g12_271 g100_271 F9_271)) T (mkF m 271 #[.val (.int p0), .val (.int p1), .val (.int p2), .val (.int p3), .val (.int (vk p0 p1 p2 p3)), .val (.int (vr p0 p1 p2 p3)), .val (.int g6_271), .val (.int (va p0 p1 p2 p3)), .val (.int (vf p0 p1 p2 p3)), .val (.ref r9_271), .val (.int g10_271), .val (.int g11_271), .val (.int g12_271), .unset, .unset, .unset] [(.int g100_271)]) := by
    intro T locs g6_271 r9_271 g10_271 g11_271 g12_271 g100_271 F9_271 X N zs G_r9_271 A_r9_271
    unfold f0_271
    refine own_st (T' := T) (f' := (mkF m 273 #[.val (.int p0), .val (.int p1), .val (.int p2), .val (.int p3), .val (.int (vk p0 p1 p2 p3)), .val (.int (vr p0 p1 p2 p3)), .val (.int g6_271), .val (.int (va p0 p1 p2 p3)), .val (.int (vf p0 p1 p2 p3)), .val (.ref r9_271), .val (.int g10_271), .val (.int g11_271), .val (.int g12_271), .val (.int g100_271), .unset, .unset] [])) ?_ (fun t q => XS.istore X.here hx rfl (hb hby at_271) rfl (l' := #[.val (.int p0), .val (.int p1), .val (.int p2), .val (.int p3), .val (.int (vk p0 p1 p2 p3)), .val (.int (vr p0 p1 p2 p3)), .val (.int g6_271), .val (.int (va p0 p1 p2 p3)), .val (.int (vf p0 p1 p2 p3)), .val (.ref r9_271), .val (.int g10_271), .val (.int g11_271), .val (.int g12_271), .val (.int g100_271), .unset, .unset]) rfl q)
    refine own_st (T' := T) (f' := (mkF m 323 #[.val (.int p0), .val (.int p1), .val (.int p2), .val (.int p3), .val (.int (vk p0 p1 p2 p3)), .val (.int (vr p0 p1 p2 p3)), .val (.int g6_271), .val (.int (va p0 p1 p2 p3)), .val (.int (vf p0 p1 p2 p3)), .val (.ref r9_271), .val (.int g10_271), .val (.int g11_271), .val (.int g12_271), .val (.int g100_271), .unset, .unset] [])) ?_ (fun t q => XS.goto X.here hx rfl (pc0 := 273) (pc' := 323) rfl (hb hby at_273) (by decide) (by decide) q)
    exact B323 T _ g6_271 r9_271 g10_271 g11_271 g12_271 g100_271 F9_271 X N zs G_r9_271 A_r9_271
  have B243 : ∀ (T : State) (locs : List Loc) (g6_243 : Int32) (r9_243 : Addr) (g10_243 : Int32) (g11_243 : Int32) (g12_243 : Int32) (g100_243 : Int32) (F9_243 : Nat → Int32) (X : Stand p l e room_1 s m #[(.int p0), (.int p1), (.int p2), (.int p3)] below meth c T locs 1 8) (N : Fr n0 locs) (zs : n0 ≤ T.heap.size) (G_r9_243 : n0 ≤ r9_243) (A_r9_243 : own_A Z T.heap r9_243 .byte 8 F9_243), own_W p e below s 1 8 (own_GI n0 (fun _ => True) (f0_243 p0 p1 p2 p3 g6_243 g10_243 g11_243 g12_243 g100_243 F9_243)) T (mkF m 243 #[.val (.int p0), .val (.int p1), .val (.int p2), .val (.int p3), .val (.int (vk p0 p1 p2 p3)), .val (.int (vr p0 p1 p2 p3)), .val (.int g6_243), .val (.int (va p0 p1 p2 p3)), .val (.int (vf p0 p1 p2 p3)), .val (.ref r9_243), .val (.int g10_243), .val (.int g11_243), .val (.int g12_243), .unset, .unset, .unset] [(.int g100_243)]) := by
    intro T locs g6_243 r9_243 g10_243 g11_243 g12_243 g100_243 F9_243 X N zs G_r9_243 A_r9_243
    unfold f0_243
    refine own_st (T' := T) (f' := (mkF m 245 #[.val (.int p0), .val (.int p1), .val (.int p2), .val (.int p3), .val (.int (vk p0 p1 p2 p3)), .val (.int (vr p0 p1 p2 p3)), .val (.int g6_243), .val (.int (va p0 p1 p2 p3)), .val (.int (vf p0 p1 p2 p3)), .val (.ref r9_243), .val (.int g10_243), .val (.int g11_243), .val (.int g12_243), .val (.int g100_243), .unset, .unset] [])) ?_ (fun t q => XS.istore X.here hx rfl (hb hby at_243) rfl (l' := #[.val (.int p0), .val (.int p1), .val (.int p2), .val (.int p3), .val (.int (vk p0 p1 p2 p3)), .val (.int (vr p0 p1 p2 p3)), .val (.int g6_243), .val (.int (va p0 p1 p2 p3)), .val (.int (vf p0 p1 p2 p3)), .val (.ref r9_243), .val (.int g10_243), .val (.int g11_243), .val (.int g12_243), .val (.int g100_243), .unset, .unset]) rfl q)
    refine own_st (T' := T) (f' := (mkF m 323 #[.val (.int p0), .val (.int p1), .val (.int p2), .val (.int p3), .val (.int (vk p0 p1 p2 p3)), .val (.int (vr p0 p1 p2 p3)), .val (.int g6_243), .val (.int (va p0 p1 p2 p3)), .val (.int (vf p0 p1 p2 p3)), .val (.ref r9_243), .val (.int g10_243), .val (.int g11_243), .val (.int g12_243), .val (.int g100_243), .unset, .unset] [])) ?_ (fun t q => XS.goto X.here hx rfl (pc0 := 245) (pc' := 323) rfl (hb hby at_245) (by decide) (by decide) q)
    exact B323 T _ g6_243 r9_243 g10_243 g11_243 g12_243 g100_243 F9_243 X N zs G_r9_243 A_r9_243
  have B202 : ∀ (T : State) (locs : List Loc) (g6_202 : Int32) (r9_202 : Addr) (g10_202 : Int32) (g100_202 : Int32) (F9_202 : Nat → Int32) (X : Stand p l e room_1 s m #[(.int p0), (.int p1), (.int p2), (.int p3)] below meth c T locs 1 8) (N : Fr n0 locs) (zs : n0 ≤ T.heap.size) (G_r9_202 : n0 ≤ r9_202) (A_r9_202 : own_A Z T.heap r9_202 .byte 8 F9_202), own_W p e below s 1 8 (own_GI n0 (fun _ => True) (f0_202 p0 p1 p2 p3 g6_202 g10_202 g100_202 F9_202)) T (mkF m 202 #[.val (.int p0), .val (.int p1), .val (.int p2), .val (.int p3), .val (.int (vk p0 p1 p2 p3)), .val (.int (vr p0 p1 p2 p3)), .val (.int g6_202), .val (.int (va p0 p1 p2 p3)), .val (.int (vf p0 p1 p2 p3)), .val (.ref r9_202), .val (.int g10_202), .unset, .unset, .unset, .unset, .unset] [(.int g100_202)]) := by
    intro T locs g6_202 r9_202 g10_202 g100_202 F9_202 X N zs G_r9_202 A_r9_202
    unfold f0_202
    refine own_st (T' := T) (f' := (mkF m 204 #[.val (.int p0), .val (.int p1), .val (.int p2), .val (.int p3), .val (.int (vk p0 p1 p2 p3)), .val (.int (vr p0 p1 p2 p3)), .val (.int g6_202), .val (.int (va p0 p1 p2 p3)), .val (.int (vf p0 p1 p2 p3)), .val (.ref r9_202), .val (.int g10_202), .val (.int g100_202), .unset, .unset, .unset, .unset] [])) ?_ (fun t q => XS.istore X.here hx rfl (hb hby at_202) rfl (l' := #[.val (.int p0), .val (.int p1), .val (.int p2), .val (.int p3), .val (.int (vk p0 p1 p2 p3)), .val (.int (vr p0 p1 p2 p3)), .val (.int g6_202), .val (.int (va p0 p1 p2 p3)), .val (.int (vf p0 p1 p2 p3)), .val (.ref r9_202), .val (.int g10_202), .val (.int g100_202), .unset, .unset, .unset, .unset]) rfl q)
    refine own_st (T' := T) (f' := (mkF m 206 #[.val (.int p0), .val (.int p1), .val (.int p2), .val (.int p3), .val (.int (vk p0 p1 p2 p3)), .val (.int (vr p0 p1 p2 p3)), .val (.int g6_202), .val (.int (va p0 p1 p2 p3)), .val (.int (vf p0 p1 p2 p3)), .val (.ref r9_202), .val (.int g10_202), .val (.int g100_202), .unset, .unset, .unset, .unset] [(.int g10_202)])) ?_ (fun t q => XS.iload X.here hx rfl (hb hby at_204) rfl q)
    refine own_st (T' := T) (f' := (mkF m 208 #[.val (.int p0), .val (.int p1), .val (.int p2), .val (.int p3), .val (.int (vk p0 p1 p2 p3)), .val (.int (vr p0 p1 p2 p3)), .val (.int g6_202), .val (.int (va p0 p1 p2 p3)), .val (.int (vf p0 p1 p2 p3)), .val (.ref r9_202), .val (.int g10_202), .val (.int g100_202), .unset, .unset, .unset, .unset] [(.int g100_202), (.int g10_202)])) ?_ (fun t q => XS.iload X.here hx rfl (hb hby at_206) rfl q)
    refine own_ite (fun hc208 => ?_) (fun hc208 => ?_)
    · refine own_st (T' := T) (f' := (mkF m 213 #[.val (.int p0), .val (.int p1), .val (.int p2), .val (.int p3), .val (.int (vk p0 p1 p2 p3)), .val (.int (vr p0 p1 p2 p3)), .val (.int g6_202), .val (.int (va p0 p1 p2 p3)), .val (.int (vf p0 p1 p2 p3)), .val (.ref r9_202), .val (.int g10_202), .val (.int g100_202), .unset, .unset, .unset, .unset] [])) ?_ (fun t q => XS.icmpYes X.here hx rfl (pc0 := 208) (pc' := 213) rfl (hb hby at_208) rfl (teq hc208).1 (by decide) (by decide) q)
      refine own_st (T' := T) (f' := (mkF m 215 #[.val (.int p0), .val (.int p1), .val (.int p2), .val (.int p3), .val (.int (vk p0 p1 p2 p3)), .val (.int (vr p0 p1 p2 p3)), .val (.int g6_202), .val (.int (va p0 p1 p2 p3)), .val (.int (vf p0 p1 p2 p3)), .val (.ref r9_202), .val (.int g10_202), .val (.int g100_202), .unset, .unset, .unset, .unset] [(.ref r9_202)])) ?_ (fun t q => XS.aload X.here hx rfl (hb hby at_213) rfl rfl q)
      refine own_st (T' := T) (f' := (mkF m 217 #[.val (.int p0), .val (.int p1), .val (.int p2), .val (.int p3), .val (.int (vk p0 p1 p2 p3)), .val (.int (vr p0 p1 p2 p3)), .val (.int g6_202), .val (.int (va p0 p1 p2 p3)), .val (.int (vf p0 p1 p2 p3)), .val (.ref r9_202), .val (.int g10_202), .val (.int g100_202), .unset, .unset, .unset, .unset] [(.int (va p0 p1 p2 p3)), (.ref r9_202)])) ?_ (fun t q => XS.iload X.here hx rfl (hb hby at_215) rfl q)
      refine own_bald X hx hZ A_r9_202 (j := (va p0 p1 p2 p3)) (own_at0 (own_a1 p2) (own_a2 p2) (by decide)) (hb hby at_217) ?_
      show own_W _ _ _ _ _ _ _ T (mkF m 218 #[.val (.int p0), .val (.int p1), .val (.int p2), .val (.int p3), .val (.int (vk p0 p1 p2 p3)), .val (.int (vr p0 p1 p2 p3)), .val (.int g6_202), .val (.int (va p0 p1 p2 p3)), .val (.int (vf p0 p1 p2 p3)), .val (.ref r9_202), .val (.int g10_202), .val (.int g100_202), .unset, .unset, .unset, .unset] [(.int (F9_202 (va p0 p1 p2 p3).toNatClampNeg))])
      refine own_st (T' := T) (f' := (mkF m 221 #[.val (.int p0), .val (.int p1), .val (.int p2), .val (.int p3), .val (.int (vk p0 p1 p2 p3)), .val (.int (vr p0 p1 p2 p3)), .val (.int g6_202), .val (.int (va p0 p1 p2 p3)), .val (.int (vf p0 p1 p2 p3)), .val (.ref r9_202), .val (.int g10_202), .val (.int g100_202), .unset, .unset, .unset, .unset] [(.int (255 : Int32)), (.int (F9_202 (va p0 p1 p2 p3).toNatClampNeg))])) ?_ (fun t q => XS.sipush X.here hx rfl (hb hby at_218) q)
      refine own_st (T' := T) (f' := (mkF m 222 #[.val (.int p0), .val (.int p1), .val (.int p2), .val (.int p3), .val (.int (vk p0 p1 p2 p3)), .val (.int (vr p0 p1 p2 p3)), .val (.int g6_202), .val (.int (va p0 p1 p2 p3)), .val (.int (vf p0 p1 p2 p3)), .val (.ref r9_202), .val (.int g10_202), .val (.int g100_202), .unset, .unset, .unset, .unset] [(.int ((F9_202 (va p0 p1 p2 p3).toNatClampNeg) &&& (255 : Int32)))])) ?_ (fun t q => XS.iand X.here hx rfl (hb hby at_221) rfl q)
      refine own_st (T' := T) (f' := (mkF m 224 #[.val (.int p0), .val (.int p1), .val (.int p2), .val (.int p3), .val (.int (vk p0 p1 p2 p3)), .val (.int (vr p0 p1 p2 p3)), .val (.int g6_202), .val (.int (va p0 p1 p2 p3)), .val (.int (vf p0 p1 p2 p3)), .val (.ref r9_202), .val (.int g10_202), .val (.int g100_202), .val (.int ((F9_202 (va p0 p1 p2 p3).toNatClampNeg) &&& (255 : Int32))), .unset, .unset, .unset] [])) ?_ (fun t q => XS.istore X.here hx rfl (hb hby at_222) rfl (l' := #[.val (.int p0), .val (.int p1), .val (.int p2), .val (.int p3), .val (.int (vk p0 p1 p2 p3)), .val (.int (vr p0 p1 p2 p3)), .val (.int g6_202), .val (.int (va p0 p1 p2 p3)), .val (.int (vf p0 p1 p2 p3)), .val (.ref r9_202), .val (.int g10_202), .val (.int g100_202), .val (.int ((F9_202 (va p0 p1 p2 p3).toNatClampNeg) &&& (255 : Int32))), .unset, .unset, .unset]) rfl q)
      refine own_st (T' := T) (f' := (mkF m 226 #[.val (.int p0), .val (.int p1), .val (.int p2), .val (.int p3), .val (.int (vk p0 p1 p2 p3)), .val (.int (vr p0 p1 p2 p3)), .val (.int g6_202), .val (.int (va p0 p1 p2 p3)), .val (.int (vf p0 p1 p2 p3)), .val (.ref r9_202), .val (.int g10_202), .val (.int g100_202), .val (.int ((F9_202 (va p0 p1 p2 p3).toNatClampNeg) &&& (255 : Int32))), .unset, .unset, .unset] [(.int g10_202)])) ?_ (fun t q => XS.iload X.here hx rfl (hb hby at_224) rfl q)
      refine own_st (T' := T) (f' := (mkF m 227 #[.val (.int p0), .val (.int p1), .val (.int p2), .val (.int p3), .val (.int (vk p0 p1 p2 p3)), .val (.int (vr p0 p1 p2 p3)), .val (.int g6_202), .val (.int (va p0 p1 p2 p3)), .val (.int (vf p0 p1 p2 p3)), .val (.ref r9_202), .val (.int g10_202), .val (.int g100_202), .val (.int ((F9_202 (va p0 p1 p2 p3).toNatClampNeg) &&& (255 : Int32))), .unset, .unset, .unset] [(.int (1 : Int32)), (.int g10_202)])) ?_ (fun t q => XS.iconst X.here hx rfl (hb hby at_226) q)
      refine own_ite (fun hc227 => ?_) (fun hc227 => ?_)
      · refine own_st (T' := T) (f' := (mkF m 230 #[.val (.int p0), .val (.int p1), .val (.int p2), .val (.int p3), .val (.int (vk p0 p1 p2 p3)), .val (.int (vr p0 p1 p2 p3)), .val (.int g6_202), .val (.int (va p0 p1 p2 p3)), .val (.int (vf p0 p1 p2 p3)), .val (.ref r9_202), .val (.int g10_202), .val (.int g100_202), .val (.int ((F9_202 (va p0 p1 p2 p3).toNatClampNeg) &&& (255 : Int32))), .unset, .unset, .unset] [])) ?_ (fun t q => XS.icmpNo X.here hx rfl (hb hby at_227) rfl (teq hc227).2 q)
        refine own_st (T' := T) (f' := (mkF m 232 #[.val (.int p0), .val (.int p1), .val (.int p2), .val (.int p3), .val (.int (vk p0 p1 p2 p3)), .val (.int (vr p0 p1 p2 p3)), .val (.int g6_202), .val (.int (va p0 p1 p2 p3)), .val (.int (vf p0 p1 p2 p3)), .val (.ref r9_202), .val (.int g10_202), .val (.int g100_202), .val (.int ((F9_202 (va p0 p1 p2 p3).toNatClampNeg) &&& (255 : Int32))), .unset, .unset, .unset] [(.int ((F9_202 (va p0 p1 p2 p3).toNatClampNeg) &&& (255 : Int32)))])) ?_ (fun t q => XS.iload X.here hx rfl (hb hby at_230) rfl q)
        refine own_st (T' := T) (f' := (mkF m 235 #[.val (.int p0), .val (.int p1), .val (.int p2), .val (.int p3), .val (.int (vk p0 p1 p2 p3)), .val (.int (vr p0 p1 p2 p3)), .val (.int g6_202), .val (.int (va p0 p1 p2 p3)), .val (.int (vf p0 p1 p2 p3)), .val (.ref r9_202), .val (.int g10_202), .val (.int g100_202), .val (.int ((F9_202 (va p0 p1 p2 p3).toNatClampNeg) &&& (255 : Int32))), .unset, .unset, .unset] [(.int (128 : Int32)), (.int ((F9_202 (va p0 p1 p2 p3).toNatClampNeg) &&& (255 : Int32)))])) ?_ (fun t q => XS.sipush X.here hx rfl (hb hby at_232) q)
        refine own_ite (fun hc235 => ?_) (fun hc235 => ?_)
        · refine own_st (T' := T) (f' := (mkF m 238 #[.val (.int p0), .val (.int p1), .val (.int p2), .val (.int p3), .val (.int (vk p0 p1 p2 p3)), .val (.int (vr p0 p1 p2 p3)), .val (.int g6_202), .val (.int (va p0 p1 p2 p3)), .val (.int (vf p0 p1 p2 p3)), .val (.ref r9_202), .val (.int g10_202), .val (.int g100_202), .val (.int ((F9_202 (va p0 p1 p2 p3).toNatClampNeg) &&& (255 : Int32))), .unset, .unset, .unset] [])) ?_ (fun t q => XS.icmpNo X.here hx rfl (hb hby at_235) rfl (tlt hc235).2.1 q)
          refine own_st (T' := T) (f' := (mkF m 239 #[.val (.int p0), .val (.int p1), .val (.int p2), .val (.int p3), .val (.int (vk p0 p1 p2 p3)), .val (.int (vr p0 p1 p2 p3)), .val (.int g6_202), .val (.int (va p0 p1 p2 p3)), .val (.int (vf p0 p1 p2 p3)), .val (.ref r9_202), .val (.int g10_202), .val (.int g100_202), .val (.int ((F9_202 (va p0 p1 p2 p3).toNatClampNeg) &&& (255 : Int32))), .unset, .unset, .unset] [(.int (1 : Int32))])) ?_ (fun t q => XS.iconst X.here hx rfl (hb hby at_238) q)
          refine own_st (T' := T) (f' := (mkF m 243 #[.val (.int p0), .val (.int p1), .val (.int p2), .val (.int p3), .val (.int (vk p0 p1 p2 p3)), .val (.int (vr p0 p1 p2 p3)), .val (.int g6_202), .val (.int (va p0 p1 p2 p3)), .val (.int (vf p0 p1 p2 p3)), .val (.ref r9_202), .val (.int g10_202), .val (.int g100_202), .val (.int ((F9_202 (va p0 p1 p2 p3).toNatClampNeg) &&& (255 : Int32))), .unset, .unset, .unset] [(.int (1 : Int32))])) ?_ (fun t q => XS.goto X.here hx rfl (pc0 := 239) (pc' := 243) rfl (hb hby at_239) (by decide) (by decide) q)
          exact B243 T _ g6_202 r9_202 g10_202 g100_202 ((F9_202 (va p0 p1 p2 p3).toNatClampNeg) &&& (255 : Int32)) (1 : Int32) F9_202 X N zs G_r9_202 A_r9_202
        · refine own_st (T' := T) (f' := (mkF m 242 #[.val (.int p0), .val (.int p1), .val (.int p2), .val (.int p3), .val (.int (vk p0 p1 p2 p3)), .val (.int (vr p0 p1 p2 p3)), .val (.int g6_202), .val (.int (va p0 p1 p2 p3)), .val (.int (vf p0 p1 p2 p3)), .val (.ref r9_202), .val (.int g10_202), .val (.int g100_202), .val (.int ((F9_202 (va p0 p1 p2 p3).toNatClampNeg) &&& (255 : Int32))), .unset, .unset, .unset] [])) ?_ (fun t q => XS.icmpYes X.here hx rfl (pc0 := 235) (pc' := 242) rfl (hb hby at_235) rfl (flt hc235).2.1 (by decide) (by decide) q)
          refine own_st (T' := T) (f' := (mkF m 243 #[.val (.int p0), .val (.int p1), .val (.int p2), .val (.int p3), .val (.int (vk p0 p1 p2 p3)), .val (.int (vr p0 p1 p2 p3)), .val (.int g6_202), .val (.int (va p0 p1 p2 p3)), .val (.int (vf p0 p1 p2 p3)), .val (.ref r9_202), .val (.int g10_202), .val (.int g100_202), .val (.int ((F9_202 (va p0 p1 p2 p3).toNatClampNeg) &&& (255 : Int32))), .unset, .unset, .unset] [(.int (0 : Int32))])) ?_ (fun t q => XS.iconst X.here hx rfl (hb hby at_242) q)
          exact B243 T _ g6_202 r9_202 g10_202 g100_202 ((F9_202 (va p0 p1 p2 p3).toNatClampNeg) &&& (255 : Int32)) (0 : Int32) F9_202 X N zs G_r9_202 A_r9_202
      · refine own_st (T' := T) (f' := (mkF m 248 #[.val (.int p0), .val (.int p1), .val (.int p2), .val (.int p3), .val (.int (vk p0 p1 p2 p3)), .val (.int (vr p0 p1 p2 p3)), .val (.int g6_202), .val (.int (va p0 p1 p2 p3)), .val (.int (vf p0 p1 p2 p3)), .val (.ref r9_202), .val (.int g10_202), .val (.int g100_202), .val (.int ((F9_202 (va p0 p1 p2 p3).toNatClampNeg) &&& (255 : Int32))), .unset, .unset, .unset] [])) ?_ (fun t q => XS.icmpYes X.here hx rfl (pc0 := 227) (pc' := 248) rfl (hb hby at_227) rfl (feq hc227).2 (by decide) (by decide) q)
        refine own_st (T' := T) (f' := (mkF m 250 #[.val (.int p0), .val (.int p1), .val (.int p2), .val (.int p3), .val (.int (vk p0 p1 p2 p3)), .val (.int (vr p0 p1 p2 p3)), .val (.int g6_202), .val (.int (va p0 p1 p2 p3)), .val (.int (vf p0 p1 p2 p3)), .val (.ref r9_202), .val (.int g10_202), .val (.int g100_202), .val (.int ((F9_202 (va p0 p1 p2 p3).toNatClampNeg) &&& (255 : Int32))), .unset, .unset, .unset] [(.int g10_202)])) ?_ (fun t q => XS.iload X.here hx rfl (hb hby at_248) rfl q)
        refine own_st (T' := T) (f' := (mkF m 251 #[.val (.int p0), .val (.int p1), .val (.int p2), .val (.int p3), .val (.int (vk p0 p1 p2 p3)), .val (.int (vr p0 p1 p2 p3)), .val (.int g6_202), .val (.int (va p0 p1 p2 p3)), .val (.int (vf p0 p1 p2 p3)), .val (.ref r9_202), .val (.int g10_202), .val (.int g100_202), .val (.int ((F9_202 (va p0 p1 p2 p3).toNatClampNeg) &&& (255 : Int32))), .unset, .unset, .unset] [(.int (2 : Int32)), (.int g10_202)])) ?_ (fun t q => XS.iconst X.here hx rfl (hb hby at_250) q)
        refine own_ite (fun hc251 => ?_) (fun hc251 => ?_)
        · refine own_st (T' := T) (f' := (mkF m 254 #[.val (.int p0), .val (.int p1), .val (.int p2), .val (.int p3), .val (.int (vk p0 p1 p2 p3)), .val (.int (vr p0 p1 p2 p3)), .val (.int g6_202), .val (.int (va p0 p1 p2 p3)), .val (.int (vf p0 p1 p2 p3)), .val (.ref r9_202), .val (.int g10_202), .val (.int g100_202), .val (.int ((F9_202 (va p0 p1 p2 p3).toNatClampNeg) &&& (255 : Int32))), .unset, .unset, .unset] [])) ?_ (fun t q => XS.icmpNo X.here hx rfl (hb hby at_251) rfl (teq hc251).2 q)
          refine own_st (T' := T) (f' := (mkF m 256 #[.val (.int p0), .val (.int p1), .val (.int p2), .val (.int p3), .val (.int (vk p0 p1 p2 p3)), .val (.int (vr p0 p1 p2 p3)), .val (.int g6_202), .val (.int (va p0 p1 p2 p3)), .val (.int (vf p0 p1 p2 p3)), .val (.ref r9_202), .val (.int g10_202), .val (.int g100_202), .val (.int ((F9_202 (va p0 p1 p2 p3).toNatClampNeg) &&& (255 : Int32))), .unset, .unset, .unset] [(.int ((F9_202 (va p0 p1 p2 p3).toNatClampNeg) &&& (255 : Int32)))])) ?_ (fun t q => XS.iload X.here hx rfl (hb hby at_254) rfl q)
          refine own_st (T' := T) (f' := (mkF m 259 #[.val (.int p0), .val (.int p1), .val (.int p2), .val (.int p3), .val (.int (vk p0 p1 p2 p3)), .val (.int (vr p0 p1 p2 p3)), .val (.int g6_202), .val (.int (va p0 p1 p2 p3)), .val (.int (vf p0 p1 p2 p3)), .val (.ref r9_202), .val (.int g10_202), .val (.int g100_202), .val (.int ((F9_202 (va p0 p1 p2 p3).toNatClampNeg) &&& (255 : Int32))), .unset, .unset, .unset] [(.int (224 : Int32)), (.int ((F9_202 (va p0 p1 p2 p3).toNatClampNeg) &&& (255 : Int32)))])) ?_ (fun t q => XS.sipush X.here hx rfl (hb hby at_256) q)
          refine own_st (T' := T) (f' := (mkF m 260 #[.val (.int p0), .val (.int p1), .val (.int p2), .val (.int p3), .val (.int (vk p0 p1 p2 p3)), .val (.int (vr p0 p1 p2 p3)), .val (.int g6_202), .val (.int (va p0 p1 p2 p3)), .val (.int (vf p0 p1 p2 p3)), .val (.ref r9_202), .val (.int g10_202), .val (.int g100_202), .val (.int ((F9_202 (va p0 p1 p2 p3).toNatClampNeg) &&& (255 : Int32))), .unset, .unset, .unset] [(.int (((F9_202 (va p0 p1 p2 p3).toNatClampNeg) &&& (255 : Int32)) &&& (224 : Int32)))])) ?_ (fun t q => XS.iand X.here hx rfl (hb hby at_259) rfl q)
          refine own_st (T' := T) (f' := (mkF m 263 #[.val (.int p0), .val (.int p1), .val (.int p2), .val (.int p3), .val (.int (vk p0 p1 p2 p3)), .val (.int (vr p0 p1 p2 p3)), .val (.int g6_202), .val (.int (va p0 p1 p2 p3)), .val (.int (vf p0 p1 p2 p3)), .val (.ref r9_202), .val (.int g10_202), .val (.int g100_202), .val (.int ((F9_202 (va p0 p1 p2 p3).toNatClampNeg) &&& (255 : Int32))), .unset, .unset, .unset] [(.int (192 : Int32)), (.int (((F9_202 (va p0 p1 p2 p3).toNatClampNeg) &&& (255 : Int32)) &&& (224 : Int32)))])) ?_ (fun t q => XS.sipush X.here hx rfl (hb hby at_260) q)
          refine own_ite (fun hc263 => ?_) (fun hc263 => ?_)
          · refine own_st (T' := T) (f' := (mkF m 266 #[.val (.int p0), .val (.int p1), .val (.int p2), .val (.int p3), .val (.int (vk p0 p1 p2 p3)), .val (.int (vr p0 p1 p2 p3)), .val (.int g6_202), .val (.int (va p0 p1 p2 p3)), .val (.int (vf p0 p1 p2 p3)), .val (.ref r9_202), .val (.int g10_202), .val (.int g100_202), .val (.int ((F9_202 (va p0 p1 p2 p3).toNatClampNeg) &&& (255 : Int32))), .unset, .unset, .unset] [])) ?_ (fun t q => XS.icmpNo X.here hx rfl (hb hby at_263) rfl (teq hc263).2 q)
            refine own_st (T' := T) (f' := (mkF m 267 #[.val (.int p0), .val (.int p1), .val (.int p2), .val (.int p3), .val (.int (vk p0 p1 p2 p3)), .val (.int (vr p0 p1 p2 p3)), .val (.int g6_202), .val (.int (va p0 p1 p2 p3)), .val (.int (vf p0 p1 p2 p3)), .val (.ref r9_202), .val (.int g10_202), .val (.int g100_202), .val (.int ((F9_202 (va p0 p1 p2 p3).toNatClampNeg) &&& (255 : Int32))), .unset, .unset, .unset] [(.int (1 : Int32))])) ?_ (fun t q => XS.iconst X.here hx rfl (hb hby at_266) q)
            refine own_st (T' := T) (f' := (mkF m 271 #[.val (.int p0), .val (.int p1), .val (.int p2), .val (.int p3), .val (.int (vk p0 p1 p2 p3)), .val (.int (vr p0 p1 p2 p3)), .val (.int g6_202), .val (.int (va p0 p1 p2 p3)), .val (.int (vf p0 p1 p2 p3)), .val (.ref r9_202), .val (.int g10_202), .val (.int g100_202), .val (.int ((F9_202 (va p0 p1 p2 p3).toNatClampNeg) &&& (255 : Int32))), .unset, .unset, .unset] [(.int (1 : Int32))])) ?_ (fun t q => XS.goto X.here hx rfl (pc0 := 267) (pc' := 271) rfl (hb hby at_267) (by decide) (by decide) q)
            exact B271 T _ g6_202 r9_202 g10_202 g100_202 ((F9_202 (va p0 p1 p2 p3).toNatClampNeg) &&& (255 : Int32)) (1 : Int32) F9_202 X N zs G_r9_202 A_r9_202
          · refine own_st (T' := T) (f' := (mkF m 270 #[.val (.int p0), .val (.int p1), .val (.int p2), .val (.int p3), .val (.int (vk p0 p1 p2 p3)), .val (.int (vr p0 p1 p2 p3)), .val (.int g6_202), .val (.int (va p0 p1 p2 p3)), .val (.int (vf p0 p1 p2 p3)), .val (.ref r9_202), .val (.int g10_202), .val (.int g100_202), .val (.int ((F9_202 (va p0 p1 p2 p3).toNatClampNeg) &&& (255 : Int32))), .unset, .unset, .unset] [])) ?_ (fun t q => XS.icmpYes X.here hx rfl (pc0 := 263) (pc' := 270) rfl (hb hby at_263) rfl (feq hc263).2 (by decide) (by decide) q)
            refine own_st (T' := T) (f' := (mkF m 271 #[.val (.int p0), .val (.int p1), .val (.int p2), .val (.int p3), .val (.int (vk p0 p1 p2 p3)), .val (.int (vr p0 p1 p2 p3)), .val (.int g6_202), .val (.int (va p0 p1 p2 p3)), .val (.int (vf p0 p1 p2 p3)), .val (.ref r9_202), .val (.int g10_202), .val (.int g100_202), .val (.int ((F9_202 (va p0 p1 p2 p3).toNatClampNeg) &&& (255 : Int32))), .unset, .unset, .unset] [(.int (0 : Int32))])) ?_ (fun t q => XS.iconst X.here hx rfl (hb hby at_270) q)
            exact B271 T _ g6_202 r9_202 g10_202 g100_202 ((F9_202 (va p0 p1 p2 p3).toNatClampNeg) &&& (255 : Int32)) (0 : Int32) F9_202 X N zs G_r9_202 A_r9_202
        · refine own_st (T' := T) (f' := (mkF m 276 #[.val (.int p0), .val (.int p1), .val (.int p2), .val (.int p3), .val (.int (vk p0 p1 p2 p3)), .val (.int (vr p0 p1 p2 p3)), .val (.int g6_202), .val (.int (va p0 p1 p2 p3)), .val (.int (vf p0 p1 p2 p3)), .val (.ref r9_202), .val (.int g10_202), .val (.int g100_202), .val (.int ((F9_202 (va p0 p1 p2 p3).toNatClampNeg) &&& (255 : Int32))), .unset, .unset, .unset] [])) ?_ (fun t q => XS.icmpYes X.here hx rfl (pc0 := 251) (pc' := 276) rfl (hb hby at_251) rfl (feq hc251).2 (by decide) (by decide) q)
          refine own_st (T' := T) (f' := (mkF m 278 #[.val (.int p0), .val (.int p1), .val (.int p2), .val (.int p3), .val (.int (vk p0 p1 p2 p3)), .val (.int (vr p0 p1 p2 p3)), .val (.int g6_202), .val (.int (va p0 p1 p2 p3)), .val (.int (vf p0 p1 p2 p3)), .val (.ref r9_202), .val (.int g10_202), .val (.int g100_202), .val (.int ((F9_202 (va p0 p1 p2 p3).toNatClampNeg) &&& (255 : Int32))), .unset, .unset, .unset] [(.int g10_202)])) ?_ (fun t q => XS.iload X.here hx rfl (hb hby at_276) rfl q)
          refine own_st (T' := T) (f' := (mkF m 279 #[.val (.int p0), .val (.int p1), .val (.int p2), .val (.int p3), .val (.int (vk p0 p1 p2 p3)), .val (.int (vr p0 p1 p2 p3)), .val (.int g6_202), .val (.int (va p0 p1 p2 p3)), .val (.int (vf p0 p1 p2 p3)), .val (.ref r9_202), .val (.int g10_202), .val (.int g100_202), .val (.int ((F9_202 (va p0 p1 p2 p3).toNatClampNeg) &&& (255 : Int32))), .unset, .unset, .unset] [(.int (3 : Int32)), (.int g10_202)])) ?_ (fun t q => XS.iconst X.here hx rfl (hb hby at_278) q)
          refine own_ite (fun hc279 => ?_) (fun hc279 => ?_)
          · refine own_st (T' := T) (f' := (mkF m 282 #[.val (.int p0), .val (.int p1), .val (.int p2), .val (.int p3), .val (.int (vk p0 p1 p2 p3)), .val (.int (vr p0 p1 p2 p3)), .val (.int g6_202), .val (.int (va p0 p1 p2 p3)), .val (.int (vf p0 p1 p2 p3)), .val (.ref r9_202), .val (.int g10_202), .val (.int g100_202), .val (.int ((F9_202 (va p0 p1 p2 p3).toNatClampNeg) &&& (255 : Int32))), .unset, .unset, .unset] [])) ?_ (fun t q => XS.icmpNo X.here hx rfl (hb hby at_279) rfl (teq hc279).2 q)
            refine own_st (T' := T) (f' := (mkF m 284 #[.val (.int p0), .val (.int p1), .val (.int p2), .val (.int p3), .val (.int (vk p0 p1 p2 p3)), .val (.int (vr p0 p1 p2 p3)), .val (.int g6_202), .val (.int (va p0 p1 p2 p3)), .val (.int (vf p0 p1 p2 p3)), .val (.ref r9_202), .val (.int g10_202), .val (.int g100_202), .val (.int ((F9_202 (va p0 p1 p2 p3).toNatClampNeg) &&& (255 : Int32))), .unset, .unset, .unset] [(.int ((F9_202 (va p0 p1 p2 p3).toNatClampNeg) &&& (255 : Int32)))])) ?_ (fun t q => XS.iload X.here hx rfl (hb hby at_282) rfl q)
            refine own_st (T' := T) (f' := (mkF m 287 #[.val (.int p0), .val (.int p1), .val (.int p2), .val (.int p3), .val (.int (vk p0 p1 p2 p3)), .val (.int (vr p0 p1 p2 p3)), .val (.int g6_202), .val (.int (va p0 p1 p2 p3)), .val (.int (vf p0 p1 p2 p3)), .val (.ref r9_202), .val (.int g10_202), .val (.int g100_202), .val (.int ((F9_202 (va p0 p1 p2 p3).toNatClampNeg) &&& (255 : Int32))), .unset, .unset, .unset] [(.int (240 : Int32)), (.int ((F9_202 (va p0 p1 p2 p3).toNatClampNeg) &&& (255 : Int32)))])) ?_ (fun t q => XS.sipush X.here hx rfl (hb hby at_284) q)
            refine own_st (T' := T) (f' := (mkF m 288 #[.val (.int p0), .val (.int p1), .val (.int p2), .val (.int p3), .val (.int (vk p0 p1 p2 p3)), .val (.int (vr p0 p1 p2 p3)), .val (.int g6_202), .val (.int (va p0 p1 p2 p3)), .val (.int (vf p0 p1 p2 p3)), .val (.ref r9_202), .val (.int g10_202), .val (.int g100_202), .val (.int ((F9_202 (va p0 p1 p2 p3).toNatClampNeg) &&& (255 : Int32))), .unset, .unset, .unset] [(.int (((F9_202 (va p0 p1 p2 p3).toNatClampNeg) &&& (255 : Int32)) &&& (240 : Int32)))])) ?_ (fun t q => XS.iand X.here hx rfl (hb hby at_287) rfl q)
            refine own_st (T' := T) (f' := (mkF m 291 #[.val (.int p0), .val (.int p1), .val (.int p2), .val (.int p3), .val (.int (vk p0 p1 p2 p3)), .val (.int (vr p0 p1 p2 p3)), .val (.int g6_202), .val (.int (va p0 p1 p2 p3)), .val (.int (vf p0 p1 p2 p3)), .val (.ref r9_202), .val (.int g10_202), .val (.int g100_202), .val (.int ((F9_202 (va p0 p1 p2 p3).toNatClampNeg) &&& (255 : Int32))), .unset, .unset, .unset] [(.int (224 : Int32)), (.int (((F9_202 (va p0 p1 p2 p3).toNatClampNeg) &&& (255 : Int32)) &&& (240 : Int32)))])) ?_ (fun t q => XS.sipush X.here hx rfl (hb hby at_288) q)
            refine own_ite (fun hc291 => ?_) (fun hc291 => ?_)
            · refine own_st (T' := T) (f' := (mkF m 294 #[.val (.int p0), .val (.int p1), .val (.int p2), .val (.int p3), .val (.int (vk p0 p1 p2 p3)), .val (.int (vr p0 p1 p2 p3)), .val (.int g6_202), .val (.int (va p0 p1 p2 p3)), .val (.int (vf p0 p1 p2 p3)), .val (.ref r9_202), .val (.int g10_202), .val (.int g100_202), .val (.int ((F9_202 (va p0 p1 p2 p3).toNatClampNeg) &&& (255 : Int32))), .unset, .unset, .unset] [])) ?_ (fun t q => XS.icmpNo X.here hx rfl (hb hby at_291) rfl (teq hc291).2 q)
              refine own_st (T' := T) (f' := (mkF m 295 #[.val (.int p0), .val (.int p1), .val (.int p2), .val (.int p3), .val (.int (vk p0 p1 p2 p3)), .val (.int (vr p0 p1 p2 p3)), .val (.int g6_202), .val (.int (va p0 p1 p2 p3)), .val (.int (vf p0 p1 p2 p3)), .val (.ref r9_202), .val (.int g10_202), .val (.int g100_202), .val (.int ((F9_202 (va p0 p1 p2 p3).toNatClampNeg) &&& (255 : Int32))), .unset, .unset, .unset] [(.int (1 : Int32))])) ?_ (fun t q => XS.iconst X.here hx rfl (hb hby at_294) q)
              refine own_st (T' := T) (f' := (mkF m 299 #[.val (.int p0), .val (.int p1), .val (.int p2), .val (.int p3), .val (.int (vk p0 p1 p2 p3)), .val (.int (vr p0 p1 p2 p3)), .val (.int g6_202), .val (.int (va p0 p1 p2 p3)), .val (.int (vf p0 p1 p2 p3)), .val (.ref r9_202), .val (.int g10_202), .val (.int g100_202), .val (.int ((F9_202 (va p0 p1 p2 p3).toNatClampNeg) &&& (255 : Int32))), .unset, .unset, .unset] [(.int (1 : Int32))])) ?_ (fun t q => XS.goto X.here hx rfl (pc0 := 295) (pc' := 299) rfl (hb hby at_295) (by decide) (by decide) q)
              exact B299 T _ g6_202 r9_202 g10_202 g100_202 ((F9_202 (va p0 p1 p2 p3).toNatClampNeg) &&& (255 : Int32)) (1 : Int32) F9_202 X N zs G_r9_202 A_r9_202
            · refine own_st (T' := T) (f' := (mkF m 298 #[.val (.int p0), .val (.int p1), .val (.int p2), .val (.int p3), .val (.int (vk p0 p1 p2 p3)), .val (.int (vr p0 p1 p2 p3)), .val (.int g6_202), .val (.int (va p0 p1 p2 p3)), .val (.int (vf p0 p1 p2 p3)), .val (.ref r9_202), .val (.int g10_202), .val (.int g100_202), .val (.int ((F9_202 (va p0 p1 p2 p3).toNatClampNeg) &&& (255 : Int32))), .unset, .unset, .unset] [])) ?_ (fun t q => XS.icmpYes X.here hx rfl (pc0 := 291) (pc' := 298) rfl (hb hby at_291) rfl (feq hc291).2 (by decide) (by decide) q)
              refine own_st (T' := T) (f' := (mkF m 299 #[.val (.int p0), .val (.int p1), .val (.int p2), .val (.int p3), .val (.int (vk p0 p1 p2 p3)), .val (.int (vr p0 p1 p2 p3)), .val (.int g6_202), .val (.int (va p0 p1 p2 p3)), .val (.int (vf p0 p1 p2 p3)), .val (.ref r9_202), .val (.int g10_202), .val (.int g100_202), .val (.int ((F9_202 (va p0 p1 p2 p3).toNatClampNeg) &&& (255 : Int32))), .unset, .unset, .unset] [(.int (0 : Int32))])) ?_ (fun t q => XS.iconst X.here hx rfl (hb hby at_298) q)
              exact B299 T _ g6_202 r9_202 g10_202 g100_202 ((F9_202 (va p0 p1 p2 p3).toNatClampNeg) &&& (255 : Int32)) (0 : Int32) F9_202 X N zs G_r9_202 A_r9_202
          · refine own_st (T' := T) (f' := (mkF m 304 #[.val (.int p0), .val (.int p1), .val (.int p2), .val (.int p3), .val (.int (vk p0 p1 p2 p3)), .val (.int (vr p0 p1 p2 p3)), .val (.int g6_202), .val (.int (va p0 p1 p2 p3)), .val (.int (vf p0 p1 p2 p3)), .val (.ref r9_202), .val (.int g10_202), .val (.int g100_202), .val (.int ((F9_202 (va p0 p1 p2 p3).toNatClampNeg) &&& (255 : Int32))), .unset, .unset, .unset] [])) ?_ (fun t q => XS.icmpYes X.here hx rfl (pc0 := 279) (pc' := 304) rfl (hb hby at_279) rfl (feq hc279).2 (by decide) (by decide) q)
            refine own_st (T' := T) (f' := (mkF m 306 #[.val (.int p0), .val (.int p1), .val (.int p2), .val (.int p3), .val (.int (vk p0 p1 p2 p3)), .val (.int (vr p0 p1 p2 p3)), .val (.int g6_202), .val (.int (va p0 p1 p2 p3)), .val (.int (vf p0 p1 p2 p3)), .val (.ref r9_202), .val (.int g10_202), .val (.int g100_202), .val (.int ((F9_202 (va p0 p1 p2 p3).toNatClampNeg) &&& (255 : Int32))), .unset, .unset, .unset] [(.int ((F9_202 (va p0 p1 p2 p3).toNatClampNeg) &&& (255 : Int32)))])) ?_ (fun t q => XS.iload X.here hx rfl (hb hby at_304) rfl q)
            refine own_st (T' := T) (f' := (mkF m 309 #[.val (.int p0), .val (.int p1), .val (.int p2), .val (.int p3), .val (.int (vk p0 p1 p2 p3)), .val (.int (vr p0 p1 p2 p3)), .val (.int g6_202), .val (.int (va p0 p1 p2 p3)), .val (.int (vf p0 p1 p2 p3)), .val (.ref r9_202), .val (.int g10_202), .val (.int g100_202), .val (.int ((F9_202 (va p0 p1 p2 p3).toNatClampNeg) &&& (255 : Int32))), .unset, .unset, .unset] [(.int (248 : Int32)), (.int ((F9_202 (va p0 p1 p2 p3).toNatClampNeg) &&& (255 : Int32)))])) ?_ (fun t q => XS.sipush X.here hx rfl (hb hby at_306) q)
            refine own_st (T' := T) (f' := (mkF m 310 #[.val (.int p0), .val (.int p1), .val (.int p2), .val (.int p3), .val (.int (vk p0 p1 p2 p3)), .val (.int (vr p0 p1 p2 p3)), .val (.int g6_202), .val (.int (va p0 p1 p2 p3)), .val (.int (vf p0 p1 p2 p3)), .val (.ref r9_202), .val (.int g10_202), .val (.int g100_202), .val (.int ((F9_202 (va p0 p1 p2 p3).toNatClampNeg) &&& (255 : Int32))), .unset, .unset, .unset] [(.int (((F9_202 (va p0 p1 p2 p3).toNatClampNeg) &&& (255 : Int32)) &&& (248 : Int32)))])) ?_ (fun t q => XS.iand X.here hx rfl (hb hby at_309) rfl q)
            refine own_st (T' := T) (f' := (mkF m 313 #[.val (.int p0), .val (.int p1), .val (.int p2), .val (.int p3), .val (.int (vk p0 p1 p2 p3)), .val (.int (vr p0 p1 p2 p3)), .val (.int g6_202), .val (.int (va p0 p1 p2 p3)), .val (.int (vf p0 p1 p2 p3)), .val (.ref r9_202), .val (.int g10_202), .val (.int g100_202), .val (.int ((F9_202 (va p0 p1 p2 p3).toNatClampNeg) &&& (255 : Int32))), .unset, .unset, .unset] [(.int (240 : Int32)), (.int (((F9_202 (va p0 p1 p2 p3).toNatClampNeg) &&& (255 : Int32)) &&& (248 : Int32)))])) ?_ (fun t q => XS.sipush X.here hx rfl (hb hby at_310) q)
            refine own_ite (fun hc313 => ?_) (fun hc313 => ?_)
            · refine own_st (T' := T) (f' := (mkF m 316 #[.val (.int p0), .val (.int p1), .val (.int p2), .val (.int p3), .val (.int (vk p0 p1 p2 p3)), .val (.int (vr p0 p1 p2 p3)), .val (.int g6_202), .val (.int (va p0 p1 p2 p3)), .val (.int (vf p0 p1 p2 p3)), .val (.ref r9_202), .val (.int g10_202), .val (.int g100_202), .val (.int ((F9_202 (va p0 p1 p2 p3).toNatClampNeg) &&& (255 : Int32))), .unset, .unset, .unset] [])) ?_ (fun t q => XS.icmpNo X.here hx rfl (hb hby at_313) rfl (teq hc313).2 q)
              refine own_st (T' := T) (f' := (mkF m 317 #[.val (.int p0), .val (.int p1), .val (.int p2), .val (.int p3), .val (.int (vk p0 p1 p2 p3)), .val (.int (vr p0 p1 p2 p3)), .val (.int g6_202), .val (.int (va p0 p1 p2 p3)), .val (.int (vf p0 p1 p2 p3)), .val (.ref r9_202), .val (.int g10_202), .val (.int g100_202), .val (.int ((F9_202 (va p0 p1 p2 p3).toNatClampNeg) &&& (255 : Int32))), .unset, .unset, .unset] [(.int (1 : Int32))])) ?_ (fun t q => XS.iconst X.here hx rfl (hb hby at_316) q)
              refine own_st (T' := T) (f' := (mkF m 321 #[.val (.int p0), .val (.int p1), .val (.int p2), .val (.int p3), .val (.int (vk p0 p1 p2 p3)), .val (.int (vr p0 p1 p2 p3)), .val (.int g6_202), .val (.int (va p0 p1 p2 p3)), .val (.int (vf p0 p1 p2 p3)), .val (.ref r9_202), .val (.int g10_202), .val (.int g100_202), .val (.int ((F9_202 (va p0 p1 p2 p3).toNatClampNeg) &&& (255 : Int32))), .unset, .unset, .unset] [(.int (1 : Int32))])) ?_ (fun t q => XS.goto X.here hx rfl (pc0 := 317) (pc' := 321) rfl (hb hby at_317) (by decide) (by decide) q)
              exact B321 T _ g6_202 r9_202 g10_202 g100_202 ((F9_202 (va p0 p1 p2 p3).toNatClampNeg) &&& (255 : Int32)) (1 : Int32) F9_202 X N zs G_r9_202 A_r9_202
            · refine own_st (T' := T) (f' := (mkF m 320 #[.val (.int p0), .val (.int p1), .val (.int p2), .val (.int p3), .val (.int (vk p0 p1 p2 p3)), .val (.int (vr p0 p1 p2 p3)), .val (.int g6_202), .val (.int (va p0 p1 p2 p3)), .val (.int (vf p0 p1 p2 p3)), .val (.ref r9_202), .val (.int g10_202), .val (.int g100_202), .val (.int ((F9_202 (va p0 p1 p2 p3).toNatClampNeg) &&& (255 : Int32))), .unset, .unset, .unset] [])) ?_ (fun t q => XS.icmpYes X.here hx rfl (pc0 := 313) (pc' := 320) rfl (hb hby at_313) rfl (feq hc313).2 (by decide) (by decide) q)
              refine own_st (T' := T) (f' := (mkF m 321 #[.val (.int p0), .val (.int p1), .val (.int p2), .val (.int p3), .val (.int (vk p0 p1 p2 p3)), .val (.int (vr p0 p1 p2 p3)), .val (.int g6_202), .val (.int (va p0 p1 p2 p3)), .val (.int (vf p0 p1 p2 p3)), .val (.ref r9_202), .val (.int g10_202), .val (.int g100_202), .val (.int ((F9_202 (va p0 p1 p2 p3).toNatClampNeg) &&& (255 : Int32))), .unset, .unset, .unset] [(.int (0 : Int32))])) ?_ (fun t q => XS.iconst X.here hx rfl (hb hby at_320) q)
              exact B321 T _ g6_202 r9_202 g10_202 g100_202 ((F9_202 (va p0 p1 p2 p3).toNatClampNeg) &&& (255 : Int32)) (0 : Int32) F9_202 X N zs G_r9_202 A_r9_202
    · refine own_st (T' := T) (f' := (mkF m 211 #[.val (.int p0), .val (.int p1), .val (.int p2), .val (.int p3), .val (.int (vk p0 p1 p2 p3)), .val (.int (vr p0 p1 p2 p3)), .val (.int g6_202), .val (.int (va p0 p1 p2 p3)), .val (.int (vf p0 p1 p2 p3)), .val (.ref r9_202), .val (.int g10_202), .val (.int g100_202), .unset, .unset, .unset, .unset] [])) ?_ (fun t q => XS.icmpNo X.here hx rfl (hb hby at_208) rfl (feq hc208).1 q)
      refine own_st (T' := T) (f' := (mkF m 212 #[.val (.int p0), .val (.int p1), .val (.int p2), .val (.int p3), .val (.int (vk p0 p1 p2 p3)), .val (.int (vr p0 p1 p2 p3)), .val (.int g6_202), .val (.int (va p0 p1 p2 p3)), .val (.int (vf p0 p1 p2 p3)), .val (.ref r9_202), .val (.int g10_202), .val (.int g100_202), .unset, .unset, .unset, .unset] [(.int (0 : Int32))])) ?_ (fun t q => XS.iconst X.here hx rfl (hb hby at_211) q)
      exact own_retN X hx hlk (t := .boolean) Bd.returns (by simp) (hb hby at_212) (by decide) (by decide) ⟨rfl, N, trivial⟩
  have B90 : ∀ (T : State) (locs : List Loc) (g6_90 : Int32) (X : Stand p l e room_1 s m #[(.int p0), (.int p1), (.int p2), (.int p3)] below meth c T locs 0 0) (N : Fr n0 locs) (zs : n0 ≤ T.heap.size), own_W p e below s 1 8 (own_GI n0 (fun _ => True) (f0_90 p0 p1 p2 p3 g6_90)) T (mkF m 90 #[.val (.int p0), .val (.int p1), .val (.int p2), .val (.int p3), .val (.int (vk p0 p1 p2 p3)), .val (.int (vr p0 p1 p2 p3)), .val (.int g6_90), .unset, .unset, .unset, .unset, .unset, .unset, .unset, .unset, .unset] []) := by
    intro T locs g6_90 X N zs
    unfold f0_90
    refine own_st (T' := T) (f' := (mkF m 91 #[.val (.int p0), .val (.int p1), .val (.int p2), .val (.int p3), .val (.int (vk p0 p1 p2 p3)), .val (.int (vr p0 p1 p2 p3)), .val (.int g6_90), .unset, .unset, .unset, .unset, .unset, .unset, .unset, .unset, .unset] [(.int p2)])) ?_ (fun t q => XS.iloadN X.here hx rfl (hb hby at_90) rfl q)
    refine own_st (T' := T) (f' := (mkF m 92 #[.val (.int p0), .val (.int p1), .val (.int p2), .val (.int p3), .val (.int (vk p0 p1 p2 p3)), .val (.int (vr p0 p1 p2 p3)), .val (.int g6_90), .unset, .unset, .unset, .unset, .unset, .unset, .unset, .unset, .unset] [(.int (3 : Int32)), (.int p2)])) ?_ (fun t q => XS.iconst X.here hx rfl (hb hby at_91) q)
    refine own_st (T' := T) (f' := (mkF m 93 #[.val (.int p0), .val (.int p1), .val (.int p2), .val (.int p3), .val (.int (vk p0 p1 p2 p3)), .val (.int (vr p0 p1 p2 p3)), .val (.int g6_90), .unset, .unset, .unset, .unset, .unset, .unset, .unset, .unset, .unset] [(.int (p2 &&& (3 : Int32)))])) ?_ (fun t q => XS.iand X.here hx rfl (hb hby at_92) rfl q)
    refine own_st (T' := T) (f' := (mkF m 95 #[.val (.int p0), .val (.int p1), .val (.int p2), .val (.int p3), .val (.int (vk p0 p1 p2 p3)), .val (.int (vr p0 p1 p2 p3)), .val (.int g6_90), .val (.int (va p0 p1 p2 p3)), .unset, .unset, .unset, .unset, .unset, .unset, .unset, .unset] [])) ?_ (fun t q => XS.istore X.here hx rfl (hb hby at_93) rfl (l' := #[.val (.int p0), .val (.int p1), .val (.int p2), .val (.int p3), .val (.int (vk p0 p1 p2 p3)), .val (.int (vr p0 p1 p2 p3)), .val (.int g6_90), .val (.int (va p0 p1 p2 p3)), .unset, .unset, .unset, .unset, .unset, .unset, .unset, .unset]) rfl q)
    refine own_st (T' := T) (f' := (mkF m 96 #[.val (.int p0), .val (.int p1), .val (.int p2), .val (.int p3), .val (.int (vk p0 p1 p2 p3)), .val (.int (vr p0 p1 p2 p3)), .val (.int g6_90), .val (.int (va p0 p1 p2 p3)), .unset, .unset, .unset, .unset, .unset, .unset, .unset, .unset] [(.int p3)])) ?_ (fun t q => XS.iloadN X.here hx rfl (hb hby at_95) rfl q)
    refine own_st (T' := T) (f' := (mkF m 97 #[.val (.int p0), .val (.int p1), .val (.int p2), .val (.int p3), .val (.int (vk p0 p1 p2 p3)), .val (.int (vr p0 p1 p2 p3)), .val (.int g6_90), .val (.int (va p0 p1 p2 p3)), .unset, .unset, .unset, .unset, .unset, .unset, .unset, .unset] [(.int (p3.toInt8.toInt32))])) ?_ (fun t q => XS.i2b X.here hx rfl (hb hby at_96) rfl q)
    refine own_st (T' := T) (f' := (mkF m 99 #[.val (.int p0), .val (.int p1), .val (.int p2), .val (.int p3), .val (.int (vk p0 p1 p2 p3)), .val (.int (vr p0 p1 p2 p3)), .val (.int g6_90), .val (.int (va p0 p1 p2 p3)), .val (.int (vf p0 p1 p2 p3)), .unset, .unset, .unset, .unset, .unset, .unset, .unset] [])) ?_ (fun t q => XS.istore X.here hx rfl (hb hby at_97) rfl (l' := #[.val (.int p0), .val (.int p1), .val (.int p2), .val (.int p3), .val (.int (vk p0 p1 p2 p3)), .val (.int (vr p0 p1 p2 p3)), .val (.int g6_90), .val (.int (va p0 p1 p2 p3)), .val (.int (vf p0 p1 p2 p3)), .unset, .unset, .unset, .unset, .unset, .unset, .unset]) rfl q)
    refine own_st (T' := T) (f' := (mkF m 101 #[.val (.int p0), .val (.int p1), .val (.int p2), .val (.int p3), .val (.int (vk p0 p1 p2 p3)), .val (.int (vr p0 p1 p2 p3)), .val (.int g6_90), .val (.int (va p0 p1 p2 p3)), .val (.int (vf p0 p1 p2 p3)), .unset, .unset, .unset, .unset, .unset, .unset, .unset] [(.int (8 : Int32))])) ?_ (fun t q => XS.bipush X.here hx rfl (hb hby at_99) q)
    refine own_newB X hx hZ (hw _ (List.mem_of_getElem? (i := 1) rfl)) (z := (8 : Int32)) (by decide) (cap := 8) (by decide) (by decide) (by decide) (by decide) (hb hby at_101) (fun T17 b17 X17 ge17 E17 A17_b17 => ?_)
    have G17 : n0 ≤ b17 := Nat.le_trans zs ge17
    have zs17 : n0 ≤ T17.heap.size := Nat.le_trans zs E17.1
    show own_W _ _ _ _ _ _ _ T17 (mkF m 103 #[.val (.int p0), .val (.int p1), .val (.int p2), .val (.int p3), .val (.int (vk p0 p1 p2 p3)), .val (.int (vr p0 p1 p2 p3)), .val (.int g6_90), .val (.int (va p0 p1 p2 p3)), .val (.int (vf p0 p1 p2 p3)), .unset, .unset, .unset, .unset, .unset, .unset, .unset] [(.ref b17)])
    refine own_st (T' := T17) (f' := (mkF m 105 #[.val (.int p0), .val (.int p1), .val (.int p2), .val (.int p3), .val (.int (vk p0 p1 p2 p3)), .val (.int (vr p0 p1 p2 p3)), .val (.int g6_90), .val (.int (va p0 p1 p2 p3)), .val (.int (vf p0 p1 p2 p3)), .val (.ref b17), .unset, .unset, .unset, .unset, .unset, .unset] [])) ?_ (fun t q => XS.astore X17.here hx rfl (hb hby at_103) rfl rfl (l' := #[.val (.int p0), .val (.int p1), .val (.int p2), .val (.int p3), .val (.int (vk p0 p1 p2 p3)), .val (.int (vr p0 p1 p2 p3)), .val (.int g6_90), .val (.int (va p0 p1 p2 p3)), .val (.int (vf p0 p1 p2 p3)), .val (.ref b17), .unset, .unset, .unset, .unset, .unset, .unset]) rfl q)
    refine own_st (T' := T17) (f' := (mkF m 107 #[.val (.int p0), .val (.int p1), .val (.int p2), .val (.int p3), .val (.int (vk p0 p1 p2 p3)), .val (.int (vr p0 p1 p2 p3)), .val (.int g6_90), .val (.int (va p0 p1 p2 p3)), .val (.int (vf p0 p1 p2 p3)), .val (.ref b17), .unset, .unset, .unset, .unset, .unset, .unset] [(.ref b17)])) ?_ (fun t q => XS.aload X17.here hx rfl (hb hby at_105) rfl rfl q)
    refine own_st (T' := T17) (f' := (mkF m 108 #[.val (.int p0), .val (.int p1), .val (.int p2), .val (.int p3), .val (.int (vk p0 p1 p2 p3)), .val (.int (vr p0 p1 p2 p3)), .val (.int g6_90), .val (.int (va p0 p1 p2 p3)), .val (.int (vf p0 p1 p2 p3)), .val (.ref b17), .unset, .unset, .unset, .unset, .unset, .unset] [(.int (0 : Int32)), (.ref b17)])) ?_ (fun t q => XS.iconst X17.here hx rfl (hb hby at_107) q)
    refine own_st (T' := T17) (f' := (mkF m 110 #[.val (.int p0), .val (.int p1), .val (.int p2), .val (.int p3), .val (.int (vk p0 p1 p2 p3)), .val (.int (vr p0 p1 p2 p3)), .val (.int g6_90), .val (.int (va p0 p1 p2 p3)), .val (.int (vf p0 p1 p2 p3)), .val (.ref b17), .unset, .unset, .unset, .unset, .unset, .unset] [(.int (vf p0 p1 p2 p3)), (.int (0 : Int32)), (.ref b17)])) ?_ (fun t q => XS.iload X17.here hx rfl (hb hby at_108) rfl q)
    refine own_bast X17 hx hZ A17_b17 (j := (0 : Int32)) (x := (vf p0 p1 p2 p3)) ⟨by decide, by decide⟩ (hb hby at_110) N G17 (fun T18 lo18 X18 N18 K18 A18_b17 => ?_)
    have zs18 : n0 ≤ T18.heap.size := Nat.le_trans zs17 K18.1
    show own_W _ _ _ _ _ _ _ T18 (mkF m 111 #[.val (.int p0), .val (.int p1), .val (.int p2), .val (.int p3), .val (.int (vk p0 p1 p2 p3)), .val (.int (vr p0 p1 p2 p3)), .val (.int g6_90), .val (.int (va p0 p1 p2 p3)), .val (.int (vf p0 p1 p2 p3)), .val (.ref b17), .unset, .unset, .unset, .unset, .unset, .unset] [])
    refine own_st (T' := T18) (f' := (mkF m 113 #[.val (.int p0), .val (.int p1), .val (.int p2), .val (.int p3), .val (.int (vk p0 p1 p2 p3)), .val (.int (vr p0 p1 p2 p3)), .val (.int g6_90), .val (.int (va p0 p1 p2 p3)), .val (.int (vf p0 p1 p2 p3)), .val (.ref b17), .unset, .unset, .unset, .unset, .unset, .unset] [(.ref b17)])) ?_ (fun t q => XS.aload X18.here hx rfl (hb hby at_111) rfl rfl q)
    refine own_st (T' := T18) (f' := (mkF m 114 #[.val (.int p0), .val (.int p1), .val (.int p2), .val (.int p3), .val (.int (vk p0 p1 p2 p3)), .val (.int (vr p0 p1 p2 p3)), .val (.int g6_90), .val (.int (va p0 p1 p2 p3)), .val (.int (vf p0 p1 p2 p3)), .val (.ref b17), .unset, .unset, .unset, .unset, .unset, .unset] [(.int (1 : Int32)), (.ref b17)])) ?_ (fun t q => XS.iconst X18.here hx rfl (hb hby at_113) q)
    refine own_st (T' := T18) (f' := (mkF m 116 #[.val (.int p0), .val (.int p1), .val (.int p2), .val (.int p3), .val (.int (vk p0 p1 p2 p3)), .val (.int (vr p0 p1 p2 p3)), .val (.int g6_90), .val (.int (va p0 p1 p2 p3)), .val (.int (vf p0 p1 p2 p3)), .val (.ref b17), .unset, .unset, .unset, .unset, .unset, .unset] [(.int (vf p0 p1 p2 p3)), (.int (1 : Int32)), (.ref b17)])) ?_ (fun t q => XS.iload X18.here hx rfl (hb hby at_114) rfl q)
    refine own_bast X18 hx hZ A18_b17 (j := (1 : Int32)) (x := (vf p0 p1 p2 p3)) ⟨by decide, by decide⟩ (hb hby at_116) N18 G17 (fun T19 lo19 X19 N19 K19 A19_b17 => ?_)
    have zs19 : n0 ≤ T19.heap.size := Nat.le_trans zs18 K19.1
    show own_W _ _ _ _ _ _ _ T19 (mkF m 117 #[.val (.int p0), .val (.int p1), .val (.int p2), .val (.int p3), .val (.int (vk p0 p1 p2 p3)), .val (.int (vr p0 p1 p2 p3)), .val (.int g6_90), .val (.int (va p0 p1 p2 p3)), .val (.int (vf p0 p1 p2 p3)), .val (.ref b17), .unset, .unset, .unset, .unset, .unset, .unset] [])
    refine own_st (T' := T19) (f' := (mkF m 119 #[.val (.int p0), .val (.int p1), .val (.int p2), .val (.int p3), .val (.int (vk p0 p1 p2 p3)), .val (.int (vr p0 p1 p2 p3)), .val (.int g6_90), .val (.int (va p0 p1 p2 p3)), .val (.int (vf p0 p1 p2 p3)), .val (.ref b17), .unset, .unset, .unset, .unset, .unset, .unset] [(.ref b17)])) ?_ (fun t q => XS.aload X19.here hx rfl (hb hby at_117) rfl rfl q)
    refine own_st (T' := T19) (f' := (mkF m 120 #[.val (.int p0), .val (.int p1), .val (.int p2), .val (.int p3), .val (.int (vk p0 p1 p2 p3)), .val (.int (vr p0 p1 p2 p3)), .val (.int g6_90), .val (.int (va p0 p1 p2 p3)), .val (.int (vf p0 p1 p2 p3)), .val (.ref b17), .unset, .unset, .unset, .unset, .unset, .unset] [(.int (2 : Int32)), (.ref b17)])) ?_ (fun t q => XS.iconst X19.here hx rfl (hb hby at_119) q)
    refine own_st (T' := T19) (f' := (mkF m 122 #[.val (.int p0), .val (.int p1), .val (.int p2), .val (.int p3), .val (.int (vk p0 p1 p2 p3)), .val (.int (vr p0 p1 p2 p3)), .val (.int g6_90), .val (.int (va p0 p1 p2 p3)), .val (.int (vf p0 p1 p2 p3)), .val (.ref b17), .unset, .unset, .unset, .unset, .unset, .unset] [(.int (vf p0 p1 p2 p3)), (.int (2 : Int32)), (.ref b17)])) ?_ (fun t q => XS.iload X19.here hx rfl (hb hby at_120) rfl q)
    refine own_bast X19 hx hZ A19_b17 (j := (2 : Int32)) (x := (vf p0 p1 p2 p3)) ⟨by decide, by decide⟩ (hb hby at_122) N19 G17 (fun T20 lo20 X20 N20 K20 A20_b17 => ?_)
    have zs20 : n0 ≤ T20.heap.size := Nat.le_trans zs19 K20.1
    show own_W _ _ _ _ _ _ _ T20 (mkF m 123 #[.val (.int p0), .val (.int p1), .val (.int p2), .val (.int p3), .val (.int (vk p0 p1 p2 p3)), .val (.int (vr p0 p1 p2 p3)), .val (.int g6_90), .val (.int (va p0 p1 p2 p3)), .val (.int (vf p0 p1 p2 p3)), .val (.ref b17), .unset, .unset, .unset, .unset, .unset, .unset] [])
    refine own_st (T' := T20) (f' := (mkF m 125 #[.val (.int p0), .val (.int p1), .val (.int p2), .val (.int p3), .val (.int (vk p0 p1 p2 p3)), .val (.int (vr p0 p1 p2 p3)), .val (.int g6_90), .val (.int (va p0 p1 p2 p3)), .val (.int (vf p0 p1 p2 p3)), .val (.ref b17), .unset, .unset, .unset, .unset, .unset, .unset] [(.ref b17)])) ?_ (fun t q => XS.aload X20.here hx rfl (hb hby at_123) rfl rfl q)
    refine own_st (T' := T20) (f' := (mkF m 126 #[.val (.int p0), .val (.int p1), .val (.int p2), .val (.int p3), .val (.int (vk p0 p1 p2 p3)), .val (.int (vr p0 p1 p2 p3)), .val (.int g6_90), .val (.int (va p0 p1 p2 p3)), .val (.int (vf p0 p1 p2 p3)), .val (.ref b17), .unset, .unset, .unset, .unset, .unset, .unset] [(.int (3 : Int32)), (.ref b17)])) ?_ (fun t q => XS.iconst X20.here hx rfl (hb hby at_125) q)
    refine own_st (T' := T20) (f' := (mkF m 128 #[.val (.int p0), .val (.int p1), .val (.int p2), .val (.int p3), .val (.int (vk p0 p1 p2 p3)), .val (.int (vr p0 p1 p2 p3)), .val (.int g6_90), .val (.int (va p0 p1 p2 p3)), .val (.int (vf p0 p1 p2 p3)), .val (.ref b17), .unset, .unset, .unset, .unset, .unset, .unset] [(.int (vf p0 p1 p2 p3)), (.int (3 : Int32)), (.ref b17)])) ?_ (fun t q => XS.iload X20.here hx rfl (hb hby at_126) rfl q)
    refine own_bast X20 hx hZ A20_b17 (j := (3 : Int32)) (x := (vf p0 p1 p2 p3)) ⟨by decide, by decide⟩ (hb hby at_128) N20 G17 (fun T21 lo21 X21 N21 K21 A21_b17 => ?_)
    have zs21 : n0 ≤ T21.heap.size := Nat.le_trans zs20 K21.1
    show own_W _ _ _ _ _ _ _ T21 (mkF m 129 #[.val (.int p0), .val (.int p1), .val (.int p2), .val (.int p3), .val (.int (vk p0 p1 p2 p3)), .val (.int (vr p0 p1 p2 p3)), .val (.int g6_90), .val (.int (va p0 p1 p2 p3)), .val (.int (vf p0 p1 p2 p3)), .val (.ref b17), .unset, .unset, .unset, .unset, .unset, .unset] [])
    refine own_st (T' := T21) (f' := (mkF m 131 #[.val (.int p0), .val (.int p1), .val (.int p2), .val (.int p3), .val (.int (vk p0 p1 p2 p3)), .val (.int (vr p0 p1 p2 p3)), .val (.int g6_90), .val (.int (va p0 p1 p2 p3)), .val (.int (vf p0 p1 p2 p3)), .val (.ref b17), .unset, .unset, .unset, .unset, .unset, .unset] [(.ref b17)])) ?_ (fun t q => XS.aload X21.here hx rfl (hb hby at_129) rfl rfl q)
    refine own_st (T' := T21) (f' := (mkF m 132 #[.val (.int p0), .val (.int p1), .val (.int p2), .val (.int p3), .val (.int (vk p0 p1 p2 p3)), .val (.int (vr p0 p1 p2 p3)), .val (.int g6_90), .val (.int (va p0 p1 p2 p3)), .val (.int (vf p0 p1 p2 p3)), .val (.ref b17), .unset, .unset, .unset, .unset, .unset, .unset] [(.int (4 : Int32)), (.ref b17)])) ?_ (fun t q => XS.iconst X21.here hx rfl (hb hby at_131) q)
    refine own_st (T' := T21) (f' := (mkF m 134 #[.val (.int p0), .val (.int p1), .val (.int p2), .val (.int p3), .val (.int (vk p0 p1 p2 p3)), .val (.int (vr p0 p1 p2 p3)), .val (.int g6_90), .val (.int (va p0 p1 p2 p3)), .val (.int (vf p0 p1 p2 p3)), .val (.ref b17), .unset, .unset, .unset, .unset, .unset, .unset] [(.int (vf p0 p1 p2 p3)), (.int (4 : Int32)), (.ref b17)])) ?_ (fun t q => XS.iload X21.here hx rfl (hb hby at_132) rfl q)
    refine own_bast X21 hx hZ A21_b17 (j := (4 : Int32)) (x := (vf p0 p1 p2 p3)) ⟨by decide, by decide⟩ (hb hby at_134) N21 G17 (fun T22 lo22 X22 N22 K22 A22_b17 => ?_)
    have zs22 : n0 ≤ T22.heap.size := Nat.le_trans zs21 K22.1
    show own_W _ _ _ _ _ _ _ T22 (mkF m 135 #[.val (.int p0), .val (.int p1), .val (.int p2), .val (.int p3), .val (.int (vk p0 p1 p2 p3)), .val (.int (vr p0 p1 p2 p3)), .val (.int g6_90), .val (.int (va p0 p1 p2 p3)), .val (.int (vf p0 p1 p2 p3)), .val (.ref b17), .unset, .unset, .unset, .unset, .unset, .unset] [])
    refine own_st (T' := T22) (f' := (mkF m 137 #[.val (.int p0), .val (.int p1), .val (.int p2), .val (.int p3), .val (.int (vk p0 p1 p2 p3)), .val (.int (vr p0 p1 p2 p3)), .val (.int g6_90), .val (.int (va p0 p1 p2 p3)), .val (.int (vf p0 p1 p2 p3)), .val (.ref b17), .unset, .unset, .unset, .unset, .unset, .unset] [(.ref b17)])) ?_ (fun t q => XS.aload X22.here hx rfl (hb hby at_135) rfl rfl q)
    refine own_st (T' := T22) (f' := (mkF m 138 #[.val (.int p0), .val (.int p1), .val (.int p2), .val (.int p3), .val (.int (vk p0 p1 p2 p3)), .val (.int (vr p0 p1 p2 p3)), .val (.int g6_90), .val (.int (va p0 p1 p2 p3)), .val (.int (vf p0 p1 p2 p3)), .val (.ref b17), .unset, .unset, .unset, .unset, .unset, .unset] [(.int (5 : Int32)), (.ref b17)])) ?_ (fun t q => XS.iconst X22.here hx rfl (hb hby at_137) q)
    refine own_st (T' := T22) (f' := (mkF m 140 #[.val (.int p0), .val (.int p1), .val (.int p2), .val (.int p3), .val (.int (vk p0 p1 p2 p3)), .val (.int (vr p0 p1 p2 p3)), .val (.int g6_90), .val (.int (va p0 p1 p2 p3)), .val (.int (vf p0 p1 p2 p3)), .val (.ref b17), .unset, .unset, .unset, .unset, .unset, .unset] [(.int (vf p0 p1 p2 p3)), (.int (5 : Int32)), (.ref b17)])) ?_ (fun t q => XS.iload X22.here hx rfl (hb hby at_138) rfl q)
    refine own_bast X22 hx hZ A22_b17 (j := (5 : Int32)) (x := (vf p0 p1 p2 p3)) ⟨by decide, by decide⟩ (hb hby at_140) N22 G17 (fun T23 lo23 X23 N23 K23 A23_b17 => ?_)
    have zs23 : n0 ≤ T23.heap.size := Nat.le_trans zs22 K23.1
    show own_W _ _ _ _ _ _ _ T23 (mkF m 141 #[.val (.int p0), .val (.int p1), .val (.int p2), .val (.int p3), .val (.int (vk p0 p1 p2 p3)), .val (.int (vr p0 p1 p2 p3)), .val (.int g6_90), .val (.int (va p0 p1 p2 p3)), .val (.int (vf p0 p1 p2 p3)), .val (.ref b17), .unset, .unset, .unset, .unset, .unset, .unset] [])
    refine own_st (T' := T23) (f' := (mkF m 143 #[.val (.int p0), .val (.int p1), .val (.int p2), .val (.int p3), .val (.int (vk p0 p1 p2 p3)), .val (.int (vr p0 p1 p2 p3)), .val (.int g6_90), .val (.int (va p0 p1 p2 p3)), .val (.int (vf p0 p1 p2 p3)), .val (.ref b17), .unset, .unset, .unset, .unset, .unset, .unset] [(.ref b17)])) ?_ (fun t q => XS.aload X23.here hx rfl (hb hby at_141) rfl rfl q)
    refine own_st (T' := T23) (f' := (mkF m 145 #[.val (.int p0), .val (.int p1), .val (.int p2), .val (.int p3), .val (.int (vk p0 p1 p2 p3)), .val (.int (vr p0 p1 p2 p3)), .val (.int g6_90), .val (.int (va p0 p1 p2 p3)), .val (.int (vf p0 p1 p2 p3)), .val (.ref b17), .unset, .unset, .unset, .unset, .unset, .unset] [(.int (6 : Int32)), (.ref b17)])) ?_ (fun t q => XS.bipush X23.here hx rfl (hb hby at_143) q)
    refine own_st (T' := T23) (f' := (mkF m 147 #[.val (.int p0), .val (.int p1), .val (.int p2), .val (.int p3), .val (.int (vk p0 p1 p2 p3)), .val (.int (vr p0 p1 p2 p3)), .val (.int g6_90), .val (.int (va p0 p1 p2 p3)), .val (.int (vf p0 p1 p2 p3)), .val (.ref b17), .unset, .unset, .unset, .unset, .unset, .unset] [(.int (vf p0 p1 p2 p3)), (.int (6 : Int32)), (.ref b17)])) ?_ (fun t q => XS.iload X23.here hx rfl (hb hby at_145) rfl q)
    refine own_bast X23 hx hZ A23_b17 (j := (6 : Int32)) (x := (vf p0 p1 p2 p3)) ⟨by decide, by decide⟩ (hb hby at_147) N23 G17 (fun T24 lo24 X24 N24 K24 A24_b17 => ?_)
    have zs24 : n0 ≤ T24.heap.size := Nat.le_trans zs23 K24.1
    show own_W _ _ _ _ _ _ _ T24 (mkF m 148 #[.val (.int p0), .val (.int p1), .val (.int p2), .val (.int p3), .val (.int (vk p0 p1 p2 p3)), .val (.int (vr p0 p1 p2 p3)), .val (.int g6_90), .val (.int (va p0 p1 p2 p3)), .val (.int (vf p0 p1 p2 p3)), .val (.ref b17), .unset, .unset, .unset, .unset, .unset, .unset] [])
    refine own_st (T' := T24) (f' := (mkF m 150 #[.val (.int p0), .val (.int p1), .val (.int p2), .val (.int p3), .val (.int (vk p0 p1 p2 p3)), .val (.int (vr p0 p1 p2 p3)), .val (.int g6_90), .val (.int (va p0 p1 p2 p3)), .val (.int (vf p0 p1 p2 p3)), .val (.ref b17), .unset, .unset, .unset, .unset, .unset, .unset] [(.ref b17)])) ?_ (fun t q => XS.aload X24.here hx rfl (hb hby at_148) rfl rfl q)
    refine own_st (T' := T24) (f' := (mkF m 152 #[.val (.int p0), .val (.int p1), .val (.int p2), .val (.int p3), .val (.int (vk p0 p1 p2 p3)), .val (.int (vr p0 p1 p2 p3)), .val (.int g6_90), .val (.int (va p0 p1 p2 p3)), .val (.int (vf p0 p1 p2 p3)), .val (.ref b17), .unset, .unset, .unset, .unset, .unset, .unset] [(.int (7 : Int32)), (.ref b17)])) ?_ (fun t q => XS.bipush X24.here hx rfl (hb hby at_150) q)
    refine own_st (T' := T24) (f' := (mkF m 154 #[.val (.int p0), .val (.int p1), .val (.int p2), .val (.int p3), .val (.int (vk p0 p1 p2 p3)), .val (.int (vr p0 p1 p2 p3)), .val (.int g6_90), .val (.int (va p0 p1 p2 p3)), .val (.int (vf p0 p1 p2 p3)), .val (.ref b17), .unset, .unset, .unset, .unset, .unset, .unset] [(.int (vf p0 p1 p2 p3)), (.int (7 : Int32)), (.ref b17)])) ?_ (fun t q => XS.iload X24.here hx rfl (hb hby at_152) rfl q)
    refine own_bast X24 hx hZ A24_b17 (j := (7 : Int32)) (x := (vf p0 p1 p2 p3)) ⟨by decide, by decide⟩ (hb hby at_154) N24 G17 (fun T25 lo25 X25 N25 K25 A25_b17 => ?_)
    have zs25 : n0 ≤ T25.heap.size := Nat.le_trans zs24 K25.1
    show own_W _ _ _ _ _ _ _ T25 (mkF m 155 #[.val (.int p0), .val (.int p1), .val (.int p2), .val (.int p3), .val (.int (vk p0 p1 p2 p3)), .val (.int (vr p0 p1 p2 p3)), .val (.int g6_90), .val (.int (va p0 p1 p2 p3)), .val (.int (vf p0 p1 p2 p3)), .val (.ref b17), .unset, .unset, .unset, .unset, .unset, .unset] [])
    refine own_st (T' := T25) (f' := (mkF m 157 #[.val (.int p0), .val (.int p1), .val (.int p2), .val (.int p3), .val (.int (vk p0 p1 p2 p3)), .val (.int (vr p0 p1 p2 p3)), .val (.int g6_90), .val (.int (va p0 p1 p2 p3)), .val (.int (vf p0 p1 p2 p3)), .val (.ref b17), .unset, .unset, .unset, .unset, .unset, .unset] [(.int g6_90)])) ?_ (fun t q => XS.iload X25.here hx rfl (hb hby at_155) rfl q)
    refine own_st (T' := T25) (f' := (mkF m 159 #[.val (.int p0), .val (.int p1), .val (.int p2), .val (.int p3), .val (.int (vk p0 p1 p2 p3)), .val (.int (vr p0 p1 p2 p3)), .val (.int g6_90), .val (.int (va p0 p1 p2 p3)), .val (.int (vf p0 p1 p2 p3)), .val (.ref b17), .unset, .unset, .unset, .unset, .unset, .unset] [(.ref b17), (.int g6_90)])) ?_ (fun t q => XS.aload X25.here hx rfl (hb hby at_157) rfl rfl q)
    refine own_st (T' := T25) (f' := (mkF m 161 #[.val (.int p0), .val (.int p1), .val (.int p2), .val (.int p3), .val (.int (vk p0 p1 p2 p3)), .val (.int (vr p0 p1 p2 p3)), .val (.int g6_90), .val (.int (va p0 p1 p2 p3)), .val (.int (vf p0 p1 p2 p3)), .val (.ref b17), .unset, .unset, .unset, .unset, .unset, .unset] [(.int (va p0 p1 p2 p3)), (.ref b17), (.int g6_90)])) ?_ (fun t q => XS.iload X25.here hx rfl (hb hby at_159) rfl q)
    obtain ⟨_, _, ⟨T26, L26, k26, n26⟩, -, X26, ⟨Lc26, hQ26, l26, y26, z26⟩, st26⟩ := Jvm.LawKit.callS X25 hx (y := (⟨"com/example/holyrood/holyrood/Utf8", "encode", "(I[BI)I"⟩ : MethodName)) hown (mvT hZ (hw _ (List.mem_of_getElem? (i := 2) rfl))) (mvT hZ (hw _ (List.mem_of_getElem? (i := 3) rfl))) (mvT hZ (hw _ (List.mem_of_getElem? (i := 4) rfl))) (mvT hZ (hw _ (List.mem_of_getElem? (i := 5) rfl))) (by decide) (backOf (W := 0) (rm1 l Z a0 hw [] g6_90 b17 (va p0 p1 p2 p3) 8 (vF p0 p1 p2 p3) T25.heap n0 zs25 A25_b17 G17 (own_a1 p2) (own_a2 p2) (by decide)) hZ (hw _ (List.mem_of_getElem? (i := 5) rfl)) (hw _ (List.mem_of_getElem? (i := 4) rfl)) (by decide) (by decide)) (g := (mkF m 161 #[.val (.int p0), .val (.int p1), .val (.int p2), .val (.int p3), .val (.int (vk p0 p1 p2 p3)), .val (.int (vr p0 p1 p2 p3)), .val (.int g6_90), .val (.int (va p0 p1 p2 p3)), .val (.int (vf p0 p1 p2 p3)), .val (.ref b17), .unset, .unset, .unset, .unset, .unset, .unset] [(.int (va p0 p1 p2 p3)), (.ref b17), (.int g6_90)])) rfl (by rw [hml]; rfl) (argsL := [(.int g6_90), (.ref b17), (.int (va p0 p1 p2 p3))]) (rest := []) (lenOf pd_0 rfl) rfl (by show 2 * 0 + _ ≤ _; exact Nat.le_of_eq rfl) (hb hby at_161) (fun _ _ => ⟨rfl, rfl, (Nat.le_of_ble_eq_true rfl), (Nat.le_of_ble_eq_true rfl)⟩)
    dsimp only [Pt.U, Pt.locs, Pt.cells, Pt.slots] at X26 l26 y26 z26 st26 hQ26
    subst l26 y26 z26
    obtain ⟨rfl, N26q, A26_b17⟩ := hQ26
    have N26 := Fr.app N25 N26q
    have zs26 : n0 ≤ T26.heap.size := Nat.le_trans G17 (Nat.le_of_lt A26_b17.lt)
    refine own_st (T' := T26) (f' := (mkF m 164 #[.val (.int p0), .val (.int p1), .val (.int p2), .val (.int p3), .val (.int (vk p0 p1 p2 p3)), .val (.int (vr p0 p1 p2 p3)), .val (.int g6_90), .val (.int (va p0 p1 p2 p3)), .val (.int (vf p0 p1 p2 p3)), .val (.ref b17), .unset, .unset, .unset, .unset, .unset, .unset] [(.int (f1 g6_90 (va p0 p1 p2 p3) (vF p0 p1 p2 p3)).1)])) ?_ (fun t q => st26 _ q)
    refine own_st (T' := T26) (f' := (mkF m 166 #[.val (.int p0), .val (.int p1), .val (.int p2), .val (.int p3), .val (.int (vk p0 p1 p2 p3)), .val (.int (vr p0 p1 p2 p3)), .val (.int g6_90), .val (.int (va p0 p1 p2 p3)), .val (.int (vf p0 p1 p2 p3)), .val (.ref b17), .val (.int (f1 g6_90 (va p0 p1 p2 p3) (vF p0 p1 p2 p3)).1), .unset, .unset, .unset, .unset, .unset] [])) ?_ (fun t q => XS.istore X26.here hx rfl (hb hby at_164) rfl (l' := #[.val (.int p0), .val (.int p1), .val (.int p2), .val (.int p3), .val (.int (vk p0 p1 p2 p3)), .val (.int (vr p0 p1 p2 p3)), .val (.int g6_90), .val (.int (va p0 p1 p2 p3)), .val (.int (vf p0 p1 p2 p3)), .val (.ref b17), .val (.int (f1 g6_90 (va p0 p1 p2 p3) (vF p0 p1 p2 p3)).1), .unset, .unset, .unset, .unset, .unset]) rfl q)
    refine own_st (T' := T26) (f' := (mkF m 168 #[.val (.int p0), .val (.int p1), .val (.int p2), .val (.int p3), .val (.int (vk p0 p1 p2 p3)), .val (.int (vr p0 p1 p2 p3)), .val (.int g6_90), .val (.int (va p0 p1 p2 p3)), .val (.int (vf p0 p1 p2 p3)), .val (.ref b17), .val (.int (f1 g6_90 (va p0 p1 p2 p3) (vF p0 p1 p2 p3)).1), .unset, .unset, .unset, .unset, .unset] [(.int g6_90)])) ?_ (fun t q => XS.iload X26.here hx rfl (hb hby at_166) rfl q)
    refine own_st (T' := T26) (f' := (mkF m 171 #[.val (.int p0), .val (.int p1), .val (.int p2), .val (.int p3), .val (.int (vk p0 p1 p2 p3)), .val (.int (vr p0 p1 p2 p3)), .val (.int g6_90), .val (.int (va p0 p1 p2 p3)), .val (.int (vf p0 p1 p2 p3)), .val (.ref b17), .val (.int (f1 g6_90 (va p0 p1 p2 p3) (vF p0 p1 p2 p3)).1), .unset, .unset, .unset, .unset, .unset] [(.int (128 : Int32)), (.int g6_90)])) ?_ (fun t q => XS.sipush X26.here hx rfl (hb hby at_168) q)
    refine own_ite (fun hc171 => ?_) (fun hc171 => ?_)
    · refine own_st (T' := T26) (f' := (mkF m 174 #[.val (.int p0), .val (.int p1), .val (.int p2), .val (.int p3), .val (.int (vk p0 p1 p2 p3)), .val (.int (vr p0 p1 p2 p3)), .val (.int g6_90), .val (.int (va p0 p1 p2 p3)), .val (.int (vf p0 p1 p2 p3)), .val (.ref b17), .val (.int (f1 g6_90 (va p0 p1 p2 p3) (vF p0 p1 p2 p3)).1), .unset, .unset, .unset, .unset, .unset] [])) ?_ (fun t q => XS.icmpNo X26.here hx rfl (hb hby at_171) rfl (tlt hc171).2.1 q)
      refine own_st (T' := T26) (f' := (mkF m 175 #[.val (.int p0), .val (.int p1), .val (.int p2), .val (.int p3), .val (.int (vk p0 p1 p2 p3)), .val (.int (vr p0 p1 p2 p3)), .val (.int g6_90), .val (.int (va p0 p1 p2 p3)), .val (.int (vf p0 p1 p2 p3)), .val (.ref b17), .val (.int (f1 g6_90 (va p0 p1 p2 p3) (vF p0 p1 p2 p3)).1), .unset, .unset, .unset, .unset, .unset] [(.int (1 : Int32))])) ?_ (fun t q => XS.iconst X26.here hx rfl (hb hby at_174) q)
      refine own_st (T' := T26) (f' := (mkF m 202 #[.val (.int p0), .val (.int p1), .val (.int p2), .val (.int p3), .val (.int (vk p0 p1 p2 p3)), .val (.int (vr p0 p1 p2 p3)), .val (.int g6_90), .val (.int (va p0 p1 p2 p3)), .val (.int (vf p0 p1 p2 p3)), .val (.ref b17), .val (.int (f1 g6_90 (va p0 p1 p2 p3) (vF p0 p1 p2 p3)).1), .unset, .unset, .unset, .unset, .unset] [(.int (1 : Int32))])) ?_ (fun t q => XS.goto X26.here hx rfl (pc0 := 175) (pc' := 202) rfl (hb hby at_175) (by decide) (by decide) q)
      exact B202 T26 _ g6_90 b17 (f1 g6_90 (va p0 p1 p2 p3) (vF p0 p1 p2 p3)).1 (1 : Int32) (f1 g6_90 (va p0 p1 p2 p3) (vF p0 p1 p2 p3)).2 X26 N26 zs26 G17 A26_b17
    · refine own_st (T' := T26) (f' := (mkF m 178 #[.val (.int p0), .val (.int p1), .val (.int p2), .val (.int p3), .val (.int (vk p0 p1 p2 p3)), .val (.int (vr p0 p1 p2 p3)), .val (.int g6_90), .val (.int (va p0 p1 p2 p3)), .val (.int (vf p0 p1 p2 p3)), .val (.ref b17), .val (.int (f1 g6_90 (va p0 p1 p2 p3) (vF p0 p1 p2 p3)).1), .unset, .unset, .unset, .unset, .unset] [])) ?_ (fun t q => XS.icmpYes X26.here hx rfl (pc0 := 171) (pc' := 178) rfl (hb hby at_171) rfl (flt hc171).2.1 (by decide) (by decide) q)
      refine own_st (T' := T26) (f' := (mkF m 180 #[.val (.int p0), .val (.int p1), .val (.int p2), .val (.int p3), .val (.int (vk p0 p1 p2 p3)), .val (.int (vr p0 p1 p2 p3)), .val (.int g6_90), .val (.int (va p0 p1 p2 p3)), .val (.int (vf p0 p1 p2 p3)), .val (.ref b17), .val (.int (f1 g6_90 (va p0 p1 p2 p3) (vF p0 p1 p2 p3)).1), .unset, .unset, .unset, .unset, .unset] [(.int g6_90)])) ?_ (fun t q => XS.iload X26.here hx rfl (hb hby at_178) rfl q)
      refine own_st (T' := T26) (f' := (mkF m 183 #[.val (.int p0), .val (.int p1), .val (.int p2), .val (.int p3), .val (.int (vk p0 p1 p2 p3)), .val (.int (vr p0 p1 p2 p3)), .val (.int g6_90), .val (.int (va p0 p1 p2 p3)), .val (.int (vf p0 p1 p2 p3)), .val (.ref b17), .val (.int (f1 g6_90 (va p0 p1 p2 p3) (vF p0 p1 p2 p3)).1), .unset, .unset, .unset, .unset, .unset] [(.int (2048 : Int32)), (.int g6_90)])) ?_ (fun t q => XS.sipush X26.here hx rfl (hb hby at_180) q)
      refine own_ite (fun hc183 => ?_) (fun hc183 => ?_)
      · refine own_st (T' := T26) (f' := (mkF m 186 #[.val (.int p0), .val (.int p1), .val (.int p2), .val (.int p3), .val (.int (vk p0 p1 p2 p3)), .val (.int (vr p0 p1 p2 p3)), .val (.int g6_90), .val (.int (va p0 p1 p2 p3)), .val (.int (vf p0 p1 p2 p3)), .val (.ref b17), .val (.int (f1 g6_90 (va p0 p1 p2 p3) (vF p0 p1 p2 p3)).1), .unset, .unset, .unset, .unset, .unset] [])) ?_ (fun t q => XS.icmpNo X26.here hx rfl (hb hby at_183) rfl (tlt hc183).2.1 q)
        refine own_st (T' := T26) (f' := (mkF m 187 #[.val (.int p0), .val (.int p1), .val (.int p2), .val (.int p3), .val (.int (vk p0 p1 p2 p3)), .val (.int (vr p0 p1 p2 p3)), .val (.int g6_90), .val (.int (va p0 p1 p2 p3)), .val (.int (vf p0 p1 p2 p3)), .val (.ref b17), .val (.int (f1 g6_90 (va p0 p1 p2 p3) (vF p0 p1 p2 p3)).1), .unset, .unset, .unset, .unset, .unset] [(.int (2 : Int32))])) ?_ (fun t q => XS.iconst X26.here hx rfl (hb hby at_186) q)
        refine own_st (T' := T26) (f' := (mkF m 202 #[.val (.int p0), .val (.int p1), .val (.int p2), .val (.int p3), .val (.int (vk p0 p1 p2 p3)), .val (.int (vr p0 p1 p2 p3)), .val (.int g6_90), .val (.int (va p0 p1 p2 p3)), .val (.int (vf p0 p1 p2 p3)), .val (.ref b17), .val (.int (f1 g6_90 (va p0 p1 p2 p3) (vF p0 p1 p2 p3)).1), .unset, .unset, .unset, .unset, .unset] [(.int (2 : Int32))])) ?_ (fun t q => XS.goto X26.here hx rfl (pc0 := 187) (pc' := 202) rfl (hb hby at_187) (by decide) (by decide) q)
        exact B202 T26 _ g6_90 b17 (f1 g6_90 (va p0 p1 p2 p3) (vF p0 p1 p2 p3)).1 (2 : Int32) (f1 g6_90 (va p0 p1 p2 p3) (vF p0 p1 p2 p3)).2 X26 N26 zs26 G17 A26_b17
      · refine own_st (T' := T26) (f' := (mkF m 190 #[.val (.int p0), .val (.int p1), .val (.int p2), .val (.int p3), .val (.int (vk p0 p1 p2 p3)), .val (.int (vr p0 p1 p2 p3)), .val (.int g6_90), .val (.int (va p0 p1 p2 p3)), .val (.int (vf p0 p1 p2 p3)), .val (.ref b17), .val (.int (f1 g6_90 (va p0 p1 p2 p3) (vF p0 p1 p2 p3)).1), .unset, .unset, .unset, .unset, .unset] [])) ?_ (fun t q => XS.icmpYes X26.here hx rfl (pc0 := 183) (pc' := 190) rfl (hb hby at_183) rfl (flt hc183).2.1 (by decide) (by decide) q)
        refine own_st (T' := T26) (f' := (mkF m 192 #[.val (.int p0), .val (.int p1), .val (.int p2), .val (.int p3), .val (.int (vk p0 p1 p2 p3)), .val (.int (vr p0 p1 p2 p3)), .val (.int g6_90), .val (.int (va p0 p1 p2 p3)), .val (.int (vf p0 p1 p2 p3)), .val (.ref b17), .val (.int (f1 g6_90 (va p0 p1 p2 p3) (vF p0 p1 p2 p3)).1), .unset, .unset, .unset, .unset, .unset] [(.int g6_90)])) ?_ (fun t q => XS.iload X26.here hx rfl (hb hby at_190) rfl q)
        refine own_st (T' := T26) (f' := (mkF m 194 #[.val (.int p0), .val (.int p1), .val (.int p2), .val (.int p3), .val (.int (vk p0 p1 p2 p3)), .val (.int (vr p0 p1 p2 p3)), .val (.int g6_90), .val (.int (va p0 p1 p2 p3)), .val (.int (vf p0 p1 p2 p3)), .val (.ref b17), .val (.int (f1 g6_90 (va p0 p1 p2 p3) (vF p0 p1 p2 p3)).1), .unset, .unset, .unset, .unset, .unset] [(.int (65536 : Int32)), (.int g6_90)])) ?_ (fun t q => X26.ldcInt hx hown (mvT hZ (hw _ (List.mem_of_getElem? (i := 16) rfl))) (g := (mkF m 192 #[.val (.int p0), .val (.int p1), .val (.int p2), .val (.int p3), .val (.int (vk p0 p1 p2 p3)), .val (.int (vr p0 p1 p2 p3)), .val (.int g6_90), .val (.int (va p0 p1 p2 p3)), .val (.int (vf p0 p1 p2 p3)), .val (.ref b17), .val (.int (f1 g6_90 (va p0 p1 p2 p3) (vF p0 p1 p2 p3)).1), .unset, .unset, .unset, .unset, .unset] [(.int g6_90)])) rfl (hb hby at_192) _ q)
        refine own_ite (fun hc194 => ?_) (fun hc194 => ?_)
        · refine own_st (T' := T26) (f' := (mkF m 197 #[.val (.int p0), .val (.int p1), .val (.int p2), .val (.int p3), .val (.int (vk p0 p1 p2 p3)), .val (.int (vr p0 p1 p2 p3)), .val (.int g6_90), .val (.int (va p0 p1 p2 p3)), .val (.int (vf p0 p1 p2 p3)), .val (.ref b17), .val (.int (f1 g6_90 (va p0 p1 p2 p3) (vF p0 p1 p2 p3)).1), .unset, .unset, .unset, .unset, .unset] [])) ?_ (fun t q => XS.icmpNo X26.here hx rfl (hb hby at_194) rfl (tlt hc194).2.1 q)
          refine own_st (T' := T26) (f' := (mkF m 198 #[.val (.int p0), .val (.int p1), .val (.int p2), .val (.int p3), .val (.int (vk p0 p1 p2 p3)), .val (.int (vr p0 p1 p2 p3)), .val (.int g6_90), .val (.int (va p0 p1 p2 p3)), .val (.int (vf p0 p1 p2 p3)), .val (.ref b17), .val (.int (f1 g6_90 (va p0 p1 p2 p3) (vF p0 p1 p2 p3)).1), .unset, .unset, .unset, .unset, .unset] [(.int (3 : Int32))])) ?_ (fun t q => XS.iconst X26.here hx rfl (hb hby at_197) q)
          refine own_st (T' := T26) (f' := (mkF m 202 #[.val (.int p0), .val (.int p1), .val (.int p2), .val (.int p3), .val (.int (vk p0 p1 p2 p3)), .val (.int (vr p0 p1 p2 p3)), .val (.int g6_90), .val (.int (va p0 p1 p2 p3)), .val (.int (vf p0 p1 p2 p3)), .val (.ref b17), .val (.int (f1 g6_90 (va p0 p1 p2 p3) (vF p0 p1 p2 p3)).1), .unset, .unset, .unset, .unset, .unset] [(.int (3 : Int32))])) ?_ (fun t q => XS.goto X26.here hx rfl (pc0 := 198) (pc' := 202) rfl (hb hby at_198) (by decide) (by decide) q)
          exact B202 T26 _ g6_90 b17 (f1 g6_90 (va p0 p1 p2 p3) (vF p0 p1 p2 p3)).1 (3 : Int32) (f1 g6_90 (va p0 p1 p2 p3) (vF p0 p1 p2 p3)).2 X26 N26 zs26 G17 A26_b17
        · refine own_st (T' := T26) (f' := (mkF m 201 #[.val (.int p0), .val (.int p1), .val (.int p2), .val (.int p3), .val (.int (vk p0 p1 p2 p3)), .val (.int (vr p0 p1 p2 p3)), .val (.int g6_90), .val (.int (va p0 p1 p2 p3)), .val (.int (vf p0 p1 p2 p3)), .val (.ref b17), .val (.int (f1 g6_90 (va p0 p1 p2 p3) (vF p0 p1 p2 p3)).1), .unset, .unset, .unset, .unset, .unset] [])) ?_ (fun t q => XS.icmpYes X26.here hx rfl (pc0 := 194) (pc' := 201) rfl (hb hby at_194) rfl (flt hc194).2.1 (by decide) (by decide) q)
          refine own_st (T' := T26) (f' := (mkF m 202 #[.val (.int p0), .val (.int p1), .val (.int p2), .val (.int p3), .val (.int (vk p0 p1 p2 p3)), .val (.int (vr p0 p1 p2 p3)), .val (.int g6_90), .val (.int (va p0 p1 p2 p3)), .val (.int (vf p0 p1 p2 p3)), .val (.ref b17), .val (.int (f1 g6_90 (va p0 p1 p2 p3) (vF p0 p1 p2 p3)).1), .unset, .unset, .unset, .unset, .unset] [(.int (4 : Int32))])) ?_ (fun t q => XS.iconst X26.here hx rfl (hb hby at_201) q)
          exact B202 T26 _ g6_90 b17 (f1 g6_90 (va p0 p1 p2 p3) (vF p0 p1 p2 p3)).1 (4 : Int32) (f1 g6_90 (va p0 p1 p2 p3) (vF p0 p1 p2 p3)).2 X26 N26 zs26 G17 A26_b17
  show own_W p e below s 1 8 (own_GI n0 (fun _ => True) (f0 p0 p1 p2 p3)) s₁ (entryFrame m #[(.int p0), (.int p1), (.int p2), (.int p3)] maxLocals)
  refine own_to (ef_0 m p0 p1 p2 p3) ?_
  unfold f0
  refine own_st (T' := s₁) (f' := (mkF m 1 #[.val (.int p0), .val (.int p1), .val (.int p2), .val (.int p3), .unset, .unset, .unset, .unset, .unset, .unset, .unset, .unset, .unset, .unset, .unset, .unset] [(.int p0)])) ?_ (fun t q => XS.iloadN X0.here hx rfl (hb hby at_0) rfl q)
  refine own_st (T' := s₁) (f' := (mkF m 2 #[.val (.int p0), .val (.int p1), .val (.int p2), .val (.int p3), .unset, .unset, .unset, .unset, .unset, .unset, .unset, .unset, .unset, .unset, .unset, .unset] [(.int (3 : Int32)), (.int p0)])) ?_ (fun t q => XS.iconst X0.here hx rfl (hb hby at_1) q)
  refine own_st (T' := s₁) (f' := (mkF m 3 #[.val (.int p0), .val (.int p1), .val (.int p2), .val (.int p3), .unset, .unset, .unset, .unset, .unset, .unset, .unset, .unset, .unset, .unset, .unset, .unset] [(.int (p0 &&& (3 : Int32)))])) ?_ (fun t q => XS.iand X0.here hx rfl (hb hby at_2) rfl q)
  refine own_st (T' := s₁) (f' := (mkF m 5 #[.val (.int p0), .val (.int p1), .val (.int p2), .val (.int p3), .val (.int (vk p0 p1 p2 p3)), .unset, .unset, .unset, .unset, .unset, .unset, .unset, .unset, .unset, .unset, .unset] [])) ?_ (fun t q => XS.istore X0.here hx rfl (hb hby at_3) rfl (l' := #[.val (.int p0), .val (.int p1), .val (.int p2), .val (.int p3), .val (.int (vk p0 p1 p2 p3)), .unset, .unset, .unset, .unset, .unset, .unset, .unset, .unset, .unset, .unset, .unset]) rfl q)
  refine own_st (T' := s₁) (f' := (mkF m 6 #[.val (.int p0), .val (.int p1), .val (.int p2), .val (.int p3), .val (.int (vk p0 p1 p2 p3)), .unset, .unset, .unset, .unset, .unset, .unset, .unset, .unset, .unset, .unset, .unset] [(.int p1)])) ?_ (fun t q => XS.iloadN X0.here hx rfl (hb hby at_5) rfl q)
  refine own_st (T' := s₁) (f' := (mkF m 8 #[.val (.int p0), .val (.int p1), .val (.int p2), .val (.int p3), .val (.int (vk p0 p1 p2 p3)), .unset, .unset, .unset, .unset, .unset, .unset, .unset, .unset, .unset, .unset, .unset] [(.int (2147483647 : Int32)), (.int p1)])) ?_ (fun t q => X0.ldcInt hx hown (mvT hZ (hw _ (List.mem_of_getElem? (i := 0) rfl))) (g := (mkF m 6 #[.val (.int p0), .val (.int p1), .val (.int p2), .val (.int p3), .val (.int (vk p0 p1 p2 p3)), .unset, .unset, .unset, .unset, .unset, .unset, .unset, .unset, .unset, .unset, .unset] [(.int p1)])) rfl (hb hby at_6) _ q)
  refine own_st (T' := s₁) (f' := (mkF m 9 #[.val (.int p0), .val (.int p1), .val (.int p2), .val (.int p3), .val (.int (vk p0 p1 p2 p3)), .unset, .unset, .unset, .unset, .unset, .unset, .unset, .unset, .unset, .unset, .unset] [(.int (p1 &&& (2147483647 : Int32)))])) ?_ (fun t q => XS.iand X0.here hx rfl (hb hby at_8) rfl q)
  refine own_st (T' := s₁) (f' := (mkF m 11 #[.val (.int p0), .val (.int p1), .val (.int p2), .val (.int p3), .val (.int (vk p0 p1 p2 p3)), .val (.int (vr p0 p1 p2 p3)), .unset, .unset, .unset, .unset, .unset, .unset, .unset, .unset, .unset, .unset] [])) ?_ (fun t q => XS.istore X0.here hx rfl (hb hby at_9) rfl (l' := #[.val (.int p0), .val (.int p1), .val (.int p2), .val (.int p3), .val (.int (vk p0 p1 p2 p3)), .val (.int (vr p0 p1 p2 p3)), .unset, .unset, .unset, .unset, .unset, .unset, .unset, .unset, .unset, .unset]) rfl q)
  refine own_st (T' := s₁) (f' := (mkF m 13 #[.val (.int p0), .val (.int p1), .val (.int p2), .val (.int p3), .val (.int (vk p0 p1 p2 p3)), .val (.int (vr p0 p1 p2 p3)), .unset, .unset, .unset, .unset, .unset, .unset, .unset, .unset, .unset, .unset] [(.int (vk p0 p1 p2 p3))])) ?_ (fun t q => XS.iload X0.here hx rfl (hb hby at_11) rfl q)
  refine own_ite (fun hc13 => ?_) (fun hc13 => ?_)
  · refine own_st (T' := s₁) (f' := (mkF m 16 #[.val (.int p0), .val (.int p1), .val (.int p2), .val (.int p3), .val (.int (vk p0 p1 p2 p3)), .val (.int (vr p0 p1 p2 p3)), .unset, .unset, .unset, .unset, .unset, .unset, .unset, .unset, .unset, .unset] [])) ?_ (fun t q => XS.ifNo X0.here hx rfl (hb hby at_13) rfl ((if0 _ _).trans (teq hc13).2) q)
    refine own_st (T' := s₁) (f' := (mkF m 18 #[.val (.int p0), .val (.int p1), .val (.int p2), .val (.int p3), .val (.int (vk p0 p1 p2 p3)), .val (.int (vr p0 p1 p2 p3)), .unset, .unset, .unset, .unset, .unset, .unset, .unset, .unset, .unset, .unset] [(.int (vr p0 p1 p2 p3))])) ?_ (fun t q => XS.iload X0.here hx rfl (hb hby at_16) rfl q)
    refine own_st (T' := s₁) (f' := (mkF m 20 #[.val (.int p0), .val (.int p1), .val (.int p2), .val (.int p3), .val (.int (vk p0 p1 p2 p3)), .val (.int (vr p0 p1 p2 p3)), .unset, .unset, .unset, .unset, .unset, .unset, .unset, .unset, .unset, .unset] [(.int (127 : Int32)), (.int (vr p0 p1 p2 p3))])) ?_ (fun t q => XS.bipush X0.here hx rfl (hb hby at_18) q)
    refine own_st (T' := s₁) (f' := (mkF m 21 #[.val (.int p0), .val (.int p1), .val (.int p2), .val (.int p3), .val (.int (vk p0 p1 p2 p3)), .val (.int (vr p0 p1 p2 p3)), .unset, .unset, .unset, .unset, .unset, .unset, .unset, .unset, .unset, .unset] [(.int ((vr p0 p1 p2 p3) &&& (127 : Int32)))])) ?_ (fun t q => XS.iand X0.here hx rfl (hb hby at_20) rfl q)
    refine own_st (T' := s₁) (f' := (mkF m 23 #[.val (.int p0), .val (.int p1), .val (.int p2), .val (.int p3), .val (.int (vk p0 p1 p2 p3)), .val (.int (vr p0 p1 p2 p3)), .val (.int ((vr p0 p1 p2 p3) &&& (127 : Int32))), .unset, .unset, .unset, .unset, .unset, .unset, .unset, .unset, .unset] [])) ?_ (fun t q => XS.istore X0.here hx rfl (hb hby at_21) rfl (l' := #[.val (.int p0), .val (.int p1), .val (.int p2), .val (.int p3), .val (.int (vk p0 p1 p2 p3)), .val (.int (vr p0 p1 p2 p3)), .val (.int ((vr p0 p1 p2 p3) &&& (127 : Int32))), .unset, .unset, .unset, .unset, .unset, .unset, .unset, .unset, .unset]) rfl q)
    refine own_st (T' := s₁) (f' := (mkF m 90 #[.val (.int p0), .val (.int p1), .val (.int p2), .val (.int p3), .val (.int (vk p0 p1 p2 p3)), .val (.int (vr p0 p1 p2 p3)), .val (.int ((vr p0 p1 p2 p3) &&& (127 : Int32))), .unset, .unset, .unset, .unset, .unset, .unset, .unset, .unset, .unset] [])) ?_ (fun t q => XS.goto X0.here hx rfl (pc0 := 23) (pc' := 90) rfl (hb hby at_23) (by decide) (by decide) q)
    exact B90 s₁ _ ((vr p0 p1 p2 p3) &&& (127 : Int32)) X0 N0 zs0
  · refine own_st (T' := s₁) (f' := (mkF m 26 #[.val (.int p0), .val (.int p1), .val (.int p2), .val (.int p3), .val (.int (vk p0 p1 p2 p3)), .val (.int (vr p0 p1 p2 p3)), .unset, .unset, .unset, .unset, .unset, .unset, .unset, .unset, .unset, .unset] [])) ?_ (fun t q => XS.ifYes X0.here hx rfl (pc0 := 13) (pc' := 26) rfl (hb hby at_13) rfl ((if0 _ _).trans (feq hc13).2) (by decide) (by decide) q)
    refine own_st (T' := s₁) (f' := (mkF m 28 #[.val (.int p0), .val (.int p1), .val (.int p2), .val (.int p3), .val (.int (vk p0 p1 p2 p3)), .val (.int (vr p0 p1 p2 p3)), .unset, .unset, .unset, .unset, .unset, .unset, .unset, .unset, .unset, .unset] [(.int (vk p0 p1 p2 p3))])) ?_ (fun t q => XS.iload X0.here hx rfl (hb hby at_26) rfl q)
    refine own_st (T' := s₁) (f' := (mkF m 29 #[.val (.int p0), .val (.int p1), .val (.int p2), .val (.int p3), .val (.int (vk p0 p1 p2 p3)), .val (.int (vr p0 p1 p2 p3)), .unset, .unset, .unset, .unset, .unset, .unset, .unset, .unset, .unset, .unset] [(.int (1 : Int32)), (.int (vk p0 p1 p2 p3))])) ?_ (fun t q => XS.iconst X0.here hx rfl (hb hby at_28) q)
    refine own_ite (fun hc29 => ?_) (fun hc29 => ?_)
    · refine own_st (T' := s₁) (f' := (mkF m 32 #[.val (.int p0), .val (.int p1), .val (.int p2), .val (.int p3), .val (.int (vk p0 p1 p2 p3)), .val (.int (vr p0 p1 p2 p3)), .unset, .unset, .unset, .unset, .unset, .unset, .unset, .unset, .unset, .unset] [])) ?_ (fun t q => XS.icmpNo X0.here hx rfl (hb hby at_29) rfl (teq hc29).2 q)
      refine own_st (T' := s₁) (f' := (mkF m 35 #[.val (.int p0), .val (.int p1), .val (.int p2), .val (.int p3), .val (.int (vk p0 p1 p2 p3)), .val (.int (vr p0 p1 p2 p3)), .unset, .unset, .unset, .unset, .unset, .unset, .unset, .unset, .unset, .unset] [(.int (128 : Int32))])) ?_ (fun t q => XS.sipush X0.here hx rfl (hb hby at_32) q)
      refine own_st (T' := s₁) (f' := (mkF m 37 #[.val (.int p0), .val (.int p1), .val (.int p2), .val (.int p3), .val (.int (vk p0 p1 p2 p3)), .val (.int (vr p0 p1 p2 p3)), .unset, .unset, .unset, .unset, .unset, .unset, .unset, .unset, .unset, .unset] [(.int (vr p0 p1 p2 p3)), (.int (128 : Int32))])) ?_ (fun t q => XS.iload X0.here hx rfl (hb hby at_35) rfl q)
      refine own_st (T' := s₁) (f' := (mkF m 40 #[.val (.int p0), .val (.int p1), .val (.int p2), .val (.int p3), .val (.int (vk p0 p1 p2 p3)), .val (.int (vr p0 p1 p2 p3)), .unset, .unset, .unset, .unset, .unset, .unset, .unset, .unset, .unset, .unset] [(.int (1920 : Int32)), (.int (vr p0 p1 p2 p3)), (.int (128 : Int32))])) ?_ (fun t q => XS.sipush X0.here hx rfl (hb hby at_37) q)
      refine own_st (T' := s₁) (f' := (mkF m 41 #[.val (.int p0), .val (.int p1), .val (.int p2), .val (.int p3), .val (.int (vk p0 p1 p2 p3)), .val (.int (vr p0 p1 p2 p3)), .unset, .unset, .unset, .unset, .unset, .unset, .unset, .unset, .unset, .unset] [(.int ((vr p0 p1 p2 p3) - ((vr p0 p1 p2 p3) / (1920 : Int32)) * (1920 : Int32))), (.int (128 : Int32))])) ?_ (fun t q => XS.irem X0.here hx rfl (hb hby at_40) rfl (by decide) q)
      refine own_st (T' := s₁) (f' := (mkF m 42 #[.val (.int p0), .val (.int p1), .val (.int p2), .val (.int p3), .val (.int (vk p0 p1 p2 p3)), .val (.int (vr p0 p1 p2 p3)), .unset, .unset, .unset, .unset, .unset, .unset, .unset, .unset, .unset, .unset] [(.int ((128 : Int32) + ((vr p0 p1 p2 p3) - ((vr p0 p1 p2 p3) / (1920 : Int32)) * (1920 : Int32))))])) ?_ (fun t q => XS.iadd X0.here hx rfl (hb hby at_41) rfl q)
      refine own_st (T' := s₁) (f' := (mkF m 44 #[.val (.int p0), .val (.int p1), .val (.int p2), .val (.int p3), .val (.int (vk p0 p1 p2 p3)), .val (.int (vr p0 p1 p2 p3)), .val (.int ((128 : Int32) + ((vr p0 p1 p2 p3) - ((vr p0 p1 p2 p3) / (1920 : Int32)) * (1920 : Int32)))), .unset, .unset, .unset, .unset, .unset, .unset, .unset, .unset, .unset] [])) ?_ (fun t q => XS.istore X0.here hx rfl (hb hby at_42) rfl (l' := #[.val (.int p0), .val (.int p1), .val (.int p2), .val (.int p3), .val (.int (vk p0 p1 p2 p3)), .val (.int (vr p0 p1 p2 p3)), .val (.int ((128 : Int32) + ((vr p0 p1 p2 p3) - ((vr p0 p1 p2 p3) / (1920 : Int32)) * (1920 : Int32)))), .unset, .unset, .unset, .unset, .unset, .unset, .unset, .unset, .unset]) rfl q)
      refine own_st (T' := s₁) (f' := (mkF m 90 #[.val (.int p0), .val (.int p1), .val (.int p2), .val (.int p3), .val (.int (vk p0 p1 p2 p3)), .val (.int (vr p0 p1 p2 p3)), .val (.int ((128 : Int32) + ((vr p0 p1 p2 p3) - ((vr p0 p1 p2 p3) / (1920 : Int32)) * (1920 : Int32)))), .unset, .unset, .unset, .unset, .unset, .unset, .unset, .unset, .unset] [])) ?_ (fun t q => XS.goto X0.here hx rfl (pc0 := 44) (pc' := 90) rfl (hb hby at_44) (by decide) (by decide) q)
      exact B90 s₁ _ ((128 : Int32) + ((vr p0 p1 p2 p3) - ((vr p0 p1 p2 p3) / (1920 : Int32)) * (1920 : Int32))) X0 N0 zs0
    · refine own_st (T' := s₁) (f' := (mkF m 47 #[.val (.int p0), .val (.int p1), .val (.int p2), .val (.int p3), .val (.int (vk p0 p1 p2 p3)), .val (.int (vr p0 p1 p2 p3)), .unset, .unset, .unset, .unset, .unset, .unset, .unset, .unset, .unset, .unset] [])) ?_ (fun t q => XS.icmpYes X0.here hx rfl (pc0 := 29) (pc' := 47) rfl (hb hby at_29) rfl (feq hc29).2 (by decide) (by decide) q)
      refine own_st (T' := s₁) (f' := (mkF m 49 #[.val (.int p0), .val (.int p1), .val (.int p2), .val (.int p3), .val (.int (vk p0 p1 p2 p3)), .val (.int (vr p0 p1 p2 p3)), .unset, .unset, .unset, .unset, .unset, .unset, .unset, .unset, .unset, .unset] [(.int (vk p0 p1 p2 p3))])) ?_ (fun t q => XS.iload X0.here hx rfl (hb hby at_47) rfl q)
      refine own_st (T' := s₁) (f' := (mkF m 50 #[.val (.int p0), .val (.int p1), .val (.int p2), .val (.int p3), .val (.int (vk p0 p1 p2 p3)), .val (.int (vr p0 p1 p2 p3)), .unset, .unset, .unset, .unset, .unset, .unset, .unset, .unset, .unset, .unset] [(.int (2 : Int32)), (.int (vk p0 p1 p2 p3))])) ?_ (fun t q => XS.iconst X0.here hx rfl (hb hby at_49) q)
      refine own_ite (fun hc50 => ?_) (fun hc50 => ?_)
      · refine own_st (T' := s₁) (f' := (mkF m 53 #[.val (.int p0), .val (.int p1), .val (.int p2), .val (.int p3), .val (.int (vk p0 p1 p2 p3)), .val (.int (vr p0 p1 p2 p3)), .unset, .unset, .unset, .unset, .unset, .unset, .unset, .unset, .unset, .unset] [])) ?_ (fun t q => XS.icmpNo X0.here hx rfl (hb hby at_50) rfl (teq hc50).2 q)
        refine own_st (T' := s₁) (f' := (mkF m 56 #[.val (.int p0), .val (.int p1), .val (.int p2), .val (.int p3), .val (.int (vk p0 p1 p2 p3)), .val (.int (vr p0 p1 p2 p3)), .unset, .unset, .unset, .unset, .unset, .unset, .unset, .unset, .unset, .unset] [(.int (2048 : Int32))])) ?_ (fun t q => XS.sipush X0.here hx rfl (hb hby at_53) q)
        refine own_st (T' := s₁) (f' := (mkF m 58 #[.val (.int p0), .val (.int p1), .val (.int p2), .val (.int p3), .val (.int (vk p0 p1 p2 p3)), .val (.int (vr p0 p1 p2 p3)), .unset, .unset, .unset, .unset, .unset, .unset, .unset, .unset, .unset, .unset] [(.int (vr p0 p1 p2 p3)), (.int (2048 : Int32))])) ?_ (fun t q => XS.iload X0.here hx rfl (hb hby at_56) rfl q)
        refine own_st (T' := s₁) (f' := (mkF m 60 #[.val (.int p0), .val (.int p1), .val (.int p2), .val (.int p3), .val (.int (vk p0 p1 p2 p3)), .val (.int (vr p0 p1 p2 p3)), .unset, .unset, .unset, .unset, .unset, .unset, .unset, .unset, .unset, .unset] [(.int (61440 : Int32)), (.int (vr p0 p1 p2 p3)), (.int (2048 : Int32))])) ?_ (fun t q => X0.ldcInt hx hown (mvT hZ (hw _ (List.mem_of_getElem? (i := 19) rfl))) (g := (mkF m 58 #[.val (.int p0), .val (.int p1), .val (.int p2), .val (.int p3), .val (.int (vk p0 p1 p2 p3)), .val (.int (vr p0 p1 p2 p3)), .unset, .unset, .unset, .unset, .unset, .unset, .unset, .unset, .unset, .unset] [(.int (vr p0 p1 p2 p3)), (.int (2048 : Int32))])) rfl (hb hby at_58) _ q)
        refine own_st (T' := s₁) (f' := (mkF m 61 #[.val (.int p0), .val (.int p1), .val (.int p2), .val (.int p3), .val (.int (vk p0 p1 p2 p3)), .val (.int (vr p0 p1 p2 p3)), .unset, .unset, .unset, .unset, .unset, .unset, .unset, .unset, .unset, .unset] [(.int ((vr p0 p1 p2 p3) - ((vr p0 p1 p2 p3) / (61440 : Int32)) * (61440 : Int32))), (.int (2048 : Int32))])) ?_ (fun t q => XS.irem X0.here hx rfl (hb hby at_60) rfl (by decide) q)
        refine own_st (T' := s₁) (f' := (mkF m 62 #[.val (.int p0), .val (.int p1), .val (.int p2), .val (.int p3), .val (.int (vk p0 p1 p2 p3)), .val (.int (vr p0 p1 p2 p3)), .unset, .unset, .unset, .unset, .unset, .unset, .unset, .unset, .unset, .unset] [(.int ((2048 : Int32) + ((vr p0 p1 p2 p3) - ((vr p0 p1 p2 p3) / (61440 : Int32)) * (61440 : Int32))))])) ?_ (fun t q => XS.iadd X0.here hx rfl (hb hby at_61) rfl q)
        refine own_st (T' := s₁) (f' := (mkF m 64 #[.val (.int p0), .val (.int p1), .val (.int p2), .val (.int p3), .val (.int (vk p0 p1 p2 p3)), .val (.int (vr p0 p1 p2 p3)), .val (.int ((2048 : Int32) + ((vr p0 p1 p2 p3) - ((vr p0 p1 p2 p3) / (61440 : Int32)) * (61440 : Int32)))), .unset, .unset, .unset, .unset, .unset, .unset, .unset, .unset, .unset] [])) ?_ (fun t q => XS.istore X0.here hx rfl (hb hby at_62) rfl (l' := #[.val (.int p0), .val (.int p1), .val (.int p2), .val (.int p3), .val (.int (vk p0 p1 p2 p3)), .val (.int (vr p0 p1 p2 p3)), .val (.int ((2048 : Int32) + ((vr p0 p1 p2 p3) - ((vr p0 p1 p2 p3) / (61440 : Int32)) * (61440 : Int32)))), .unset, .unset, .unset, .unset, .unset, .unset, .unset, .unset, .unset]) rfl q)
        refine own_st (T' := s₁) (f' := (mkF m 66 #[.val (.int p0), .val (.int p1), .val (.int p2), .val (.int p3), .val (.int (vk p0 p1 p2 p3)), .val (.int (vr p0 p1 p2 p3)), .val (.int ((2048 : Int32) + ((vr p0 p1 p2 p3) - ((vr p0 p1 p2 p3) / (61440 : Int32)) * (61440 : Int32)))), .unset, .unset, .unset, .unset, .unset, .unset, .unset, .unset, .unset] [(.int ((2048 : Int32) + ((vr p0 p1 p2 p3) - ((vr p0 p1 p2 p3) / (61440 : Int32)) * (61440 : Int32))))])) ?_ (fun t q => XS.iload X0.here hx rfl (hb hby at_64) rfl q)
        refine own_st (T' := s₁) (f' := (mkF m 68 #[.val (.int p0), .val (.int p1), .val (.int p2), .val (.int p3), .val (.int (vk p0 p1 p2 p3)), .val (.int (vr p0 p1 p2 p3)), .val (.int ((2048 : Int32) + ((vr p0 p1 p2 p3) - ((vr p0 p1 p2 p3) / (61440 : Int32)) * (61440 : Int32)))), .unset, .unset, .unset, .unset, .unset, .unset, .unset, .unset, .unset] [(.int (55296 : Int32)), (.int ((2048 : Int32) + ((vr p0 p1 p2 p3) - ((vr p0 p1 p2 p3) / (61440 : Int32)) * (61440 : Int32))))])) ?_ (fun t q => X0.ldcInt hx hown (mvT hZ (hw _ (List.mem_of_getElem? (i := 20) rfl))) (g := (mkF m 66 #[.val (.int p0), .val (.int p1), .val (.int p2), .val (.int p3), .val (.int (vk p0 p1 p2 p3)), .val (.int (vr p0 p1 p2 p3)), .val (.int ((2048 : Int32) + ((vr p0 p1 p2 p3) - ((vr p0 p1 p2 p3) / (61440 : Int32)) * (61440 : Int32)))), .unset, .unset, .unset, .unset, .unset, .unset, .unset, .unset, .unset] [(.int ((2048 : Int32) + ((vr p0 p1 p2 p3) - ((vr p0 p1 p2 p3) / (61440 : Int32)) * (61440 : Int32))))])) rfl (hb hby at_66) _ q)
        refine own_ite (fun hc68 => ?_) (fun hc68 => ?_)
        · refine own_st (T' := s₁) (f' := (mkF m 90 #[.val (.int p0), .val (.int p1), .val (.int p2), .val (.int p3), .val (.int (vk p0 p1 p2 p3)), .val (.int (vr p0 p1 p2 p3)), .val (.int ((2048 : Int32) + ((vr p0 p1 p2 p3) - ((vr p0 p1 p2 p3) / (61440 : Int32)) * (61440 : Int32)))), .unset, .unset, .unset, .unset, .unset, .unset, .unset, .unset, .unset] [])) ?_ (fun t q => XS.icmpYes X0.here hx rfl (pc0 := 68) (pc' := 90) rfl (hb hby at_68) rfl (tlt hc68).1 (by decide) (by decide) q)
          exact B90 s₁ _ ((2048 : Int32) + ((vr p0 p1 p2 p3) - ((vr p0 p1 p2 p3) / (61440 : Int32)) * (61440 : Int32))) X0 N0 zs0
        · refine own_st (T' := s₁) (f' := (mkF m 71 #[.val (.int p0), .val (.int p1), .val (.int p2), .val (.int p3), .val (.int (vk p0 p1 p2 p3)), .val (.int (vr p0 p1 p2 p3)), .val (.int ((2048 : Int32) + ((vr p0 p1 p2 p3) - ((vr p0 p1 p2 p3) / (61440 : Int32)) * (61440 : Int32)))), .unset, .unset, .unset, .unset, .unset, .unset, .unset, .unset, .unset] [])) ?_ (fun t q => XS.icmpNo X0.here hx rfl (hb hby at_68) rfl (flt hc68).1 q)
          refine own_st (T' := s₁) (f' := (mkF m 77 #[.val (.int p0), .val (.int p1), .val (.int p2), .val (.int p3), .val (.int (vk p0 p1 p2 p3)), .val (.int (vr p0 p1 p2 p3)), .val (.int (((2048 : Int32) + ((vr p0 p1 p2 p3) - ((vr p0 p1 p2 p3) / (61440 : Int32)) * (61440 : Int32))) + (2048 : Int32))), .unset, .unset, .unset, .unset, .unset, .unset, .unset, .unset, .unset] [])) ?_ (fun t q => own_iincW X0.here hx rfl (hb hby at_71) rfl (l' := #[.val (.int p0), .val (.int p1), .val (.int p2), .val (.int p3), .val (.int (vk p0 p1 p2 p3)), .val (.int (vr p0 p1 p2 p3)), .val (.int (((2048 : Int32) + ((vr p0 p1 p2 p3) - ((vr p0 p1 p2 p3) / (61440 : Int32)) * (61440 : Int32))) + (2048 : Int32))), .unset, .unset, .unset, .unset, .unset, .unset, .unset, .unset, .unset]) rfl q)
          refine own_st (T' := s₁) (f' := (mkF m 90 #[.val (.int p0), .val (.int p1), .val (.int p2), .val (.int p3), .val (.int (vk p0 p1 p2 p3)), .val (.int (vr p0 p1 p2 p3)), .val (.int (((2048 : Int32) + ((vr p0 p1 p2 p3) - ((vr p0 p1 p2 p3) / (61440 : Int32)) * (61440 : Int32))) + (2048 : Int32))), .unset, .unset, .unset, .unset, .unset, .unset, .unset, .unset, .unset] [])) ?_ (fun t q => XS.goto X0.here hx rfl (pc0 := 77) (pc' := 90) rfl (hb hby at_77) (by decide) (by decide) q)
          exact B90 s₁ _ (((2048 : Int32) + ((vr p0 p1 p2 p3) - ((vr p0 p1 p2 p3) / (61440 : Int32)) * (61440 : Int32))) + (2048 : Int32)) X0 N0 zs0
      · refine own_st (T' := s₁) (f' := (mkF m 80 #[.val (.int p0), .val (.int p1), .val (.int p2), .val (.int p3), .val (.int (vk p0 p1 p2 p3)), .val (.int (vr p0 p1 p2 p3)), .unset, .unset, .unset, .unset, .unset, .unset, .unset, .unset, .unset, .unset] [])) ?_ (fun t q => XS.icmpYes X0.here hx rfl (pc0 := 50) (pc' := 80) rfl (hb hby at_50) rfl (feq hc50).2 (by decide) (by decide) q)
        refine own_st (T' := s₁) (f' := (mkF m 82 #[.val (.int p0), .val (.int p1), .val (.int p2), .val (.int p3), .val (.int (vk p0 p1 p2 p3)), .val (.int (vr p0 p1 p2 p3)), .unset, .unset, .unset, .unset, .unset, .unset, .unset, .unset, .unset, .unset] [(.int (65536 : Int32))])) ?_ (fun t q => X0.ldcInt hx hown (mvT hZ (hw _ (List.mem_of_getElem? (i := 16) rfl))) (g := (mkF m 80 #[.val (.int p0), .val (.int p1), .val (.int p2), .val (.int p3), .val (.int (vk p0 p1 p2 p3)), .val (.int (vr p0 p1 p2 p3)), .unset, .unset, .unset, .unset, .unset, .unset, .unset, .unset, .unset, .unset] [])) rfl (hb hby at_80) _ q)
        refine own_st (T' := s₁) (f' := (mkF m 84 #[.val (.int p0), .val (.int p1), .val (.int p2), .val (.int p3), .val (.int (vk p0 p1 p2 p3)), .val (.int (vr p0 p1 p2 p3)), .unset, .unset, .unset, .unset, .unset, .unset, .unset, .unset, .unset, .unset] [(.int (vr p0 p1 p2 p3)), (.int (65536 : Int32))])) ?_ (fun t q => XS.iload X0.here hx rfl (hb hby at_82) rfl q)
        refine own_st (T' := s₁) (f' := (mkF m 86 #[.val (.int p0), .val (.int p1), .val (.int p2), .val (.int p3), .val (.int (vk p0 p1 p2 p3)), .val (.int (vr p0 p1 p2 p3)), .unset, .unset, .unset, .unset, .unset, .unset, .unset, .unset, .unset, .unset] [(.int (1048576 : Int32)), (.int (vr p0 p1 p2 p3)), (.int (65536 : Int32))])) ?_ (fun t q => X0.ldcInt hx hown (mvT hZ (hw _ (List.mem_of_getElem? (i := 17) rfl))) (g := (mkF m 84 #[.val (.int p0), .val (.int p1), .val (.int p2), .val (.int p3), .val (.int (vk p0 p1 p2 p3)), .val (.int (vr p0 p1 p2 p3)), .unset, .unset, .unset, .unset, .unset, .unset, .unset, .unset, .unset, .unset] [(.int (vr p0 p1 p2 p3)), (.int (65536 : Int32))])) rfl (hb hby at_84) _ q)
        refine own_st (T' := s₁) (f' := (mkF m 87 #[.val (.int p0), .val (.int p1), .val (.int p2), .val (.int p3), .val (.int (vk p0 p1 p2 p3)), .val (.int (vr p0 p1 p2 p3)), .unset, .unset, .unset, .unset, .unset, .unset, .unset, .unset, .unset, .unset] [(.int ((vr p0 p1 p2 p3) - ((vr p0 p1 p2 p3) / (1048576 : Int32)) * (1048576 : Int32))), (.int (65536 : Int32))])) ?_ (fun t q => XS.irem X0.here hx rfl (hb hby at_86) rfl (by decide) q)
        refine own_st (T' := s₁) (f' := (mkF m 88 #[.val (.int p0), .val (.int p1), .val (.int p2), .val (.int p3), .val (.int (vk p0 p1 p2 p3)), .val (.int (vr p0 p1 p2 p3)), .unset, .unset, .unset, .unset, .unset, .unset, .unset, .unset, .unset, .unset] [(.int ((65536 : Int32) + ((vr p0 p1 p2 p3) - ((vr p0 p1 p2 p3) / (1048576 : Int32)) * (1048576 : Int32))))])) ?_ (fun t q => XS.iadd X0.here hx rfl (hb hby at_87) rfl q)
        refine own_st (T' := s₁) (f' := (mkF m 90 #[.val (.int p0), .val (.int p1), .val (.int p2), .val (.int p3), .val (.int (vk p0 p1 p2 p3)), .val (.int (vr p0 p1 p2 p3)), .val (.int ((65536 : Int32) + ((vr p0 p1 p2 p3) - ((vr p0 p1 p2 p3) / (1048576 : Int32)) * (1048576 : Int32)))), .unset, .unset, .unset, .unset, .unset, .unset, .unset, .unset, .unset] [])) ?_ (fun t q => XS.istore X0.here hx rfl (hb hby at_88) rfl (l' := #[.val (.int p0), .val (.int p1), .val (.int p2), .val (.int p3), .val (.int (vk p0 p1 p2 p3)), .val (.int (vr p0 p1 p2 p3)), .val (.int ((65536 : Int32) + ((vr p0 p1 p2 p3) - ((vr p0 p1 p2 p3) / (1048576 : Int32)) * (1048576 : Int32)))), .unset, .unset, .unset, .unset, .unset, .unset, .unset, .unset, .unset]) rfl q)
        exact B90 s₁ _ ((65536 : Int32) + ((vr p0 p1 p2 p3) - ((vr p0 p1 p2 p3) / (1048576 : Int32)) * (1048576 : Int32))) X0 N0 zs0

theorem own_224b : ∀ i : Fin 64, (((Int32.ofInt ((i.val : Int) - 64) &&& 255) &&& 224) = 192) ↔ i.val < 32 := by decide +kernel
theorem own_240b : ∀ i : Fin 64, (((Int32.ofInt ((i.val : Int) - 64) &&& 255) &&& 240) = 224) ↔ (32 ≤ i.val ∧ i.val < 48) := by decide +kernel
theorem own_248b : ∀ i : Fin 64, (((Int32.ofInt ((i.val : Int) - 64) &&& 255) &&& 248) = 240) ↔ (48 ≤ i.val ∧ i.val < 56) := by decide +kernel
theorem own_192a : ∀ i : Fin 64, (Int32.ofInt ((i.val : Int) - 128) &&& 192) = 128 := by decide +kernel
theorem own_l2 {x : Int32} (h1 : -64 ≤ x.toInt) (h2 : x.toInt < -32) : ((x &&& 255) &&& 224) = 192 := by
  obtain ⟨i, e, f⟩ := own_isF h1 (by omega)
  rw [e]; exact (own_224b i).mpr (by omega)
theorem own_l3 {x : Int32} (h1 : -32 ≤ x.toInt) (h2 : x.toInt < -16) : ((x &&& 255) &&& 240) = 224 := by
  obtain ⟨i, e, f⟩ := own_isF (x := x) (by omega) (by omega)
  rw [e]; exact (own_240b i).mpr (by omega)
theorem own_l4 {x : Int32} (h1 : -16 ≤ x.toInt) (h2 : x.toInt < -8) : ((x &&& 255) &&& 248) = 240 := by
  obtain ⟨i, e, f⟩ := own_isF (x := x) (by omega) (by omega)
  rw [e]; exact (own_248b i).mpr (by omega)
theorem own_cb {x : Int32} (h1 : -128 ≤ x.toInt) (h2 : x.toInt < -64) : (x &&& 192) = 128 := by
  have e : x = Int32.ofInt ((((x.toInt + 128).toNat : Nat) : Int) - 128) := by
    rw [show ((((x.toInt + 128).toNat : Nat) : Int) - 128) = x.toInt by omega, Int32.ofInt_toInt]
  rw [e]; exact own_192a ⟨(x.toInt + 128).toNat, by omega⟩
theorem own_sh6 (g : Int32) : (g >>> ((6 : Int32) &&& 31)).toInt = g.toInt / 64 := Jvm.Kit.i32_shr g _ (k := 6) (by decide)
theorem own_sh12 (g : Int32) : (g >>> ((12 : Int32) &&& 31)).toInt = g.toInt / 4096 := Jvm.Kit.i32_shr g _ (k := 12) (by decide)
theorem own_sh18 (g : Int32) : (g >>> ((18 : Int32) &&& 31)).toInt = g.toInt / 262144 := Jvm.Kit.i32_shr g _ (k := 18) (by decide)
theorem own_cont {v : Int32} (h0 : 0 ≤ v.toInt) (h1 : v.toInt < 64) : (nar .byte (((128 : Int32) ||| v).toInt8.toInt32)).toInt = v.toInt - 128 := by
  have k : (128 : Int32).toInt = 128 := by decide
  have e := own_or (x := 128) (y := v) 6 (by omega) (by omega) h0 (by omega) (by omega)
  rw [own_byteN (by omega) (by omega), e, k]; omega
theorem own_lead {w v : Int32} {n : Int} (k : Nat) (hw : w.toInt = n) (hn : 128 ≤ n) (hm : n % ((2 ^ k : Nat) : Int) = 0) (h0 : 0 ≤ v.toInt) (h1 : v.toInt < ((2 ^ k : Nat) : Int)) (h2 : n + v.toInt < 256) : (nar .byte ((w ||| v).toInt8.toInt32)).toInt = n + v.toInt - 256 := by
  have e := own_or (x := w) (y := v) k (by omega) (by rw [hw]; exact hm) h0 h1 (by omega)
  rw [own_byteN (by omega) (by omega), e, hw]
theorem own_va (p0 p1 p2 p3 : Int32) : va p0 p1 p2 p3 = 0 ∨ va p0 p1 p2 p3 = 1 ∨ va p0 p1 p2 p3 = 2 ∨ va p0 p1 p2 p3 = 3 := by
  have h : (va p0 p1 p2 p3).toInt = p2.toInt % 4 := own_and3 p2
  simp only [← Int32.toInt_inj, Int32.reduceToInt, h]
  omega
theorem own_narb (a : Int32) : nar .byte (a.toInt8.toInt32) = a.toInt8.toInt32 := by
  show a.toInt8.toInt32.toInt8.toInt32 = _
  simp
theorem own_vF (p0 p1 p2 p3 : Int32) : ∀ i, i < 8 → vF p0 p1 p2 p3 i = vf p0 p1 p2 p3 := by
  intro i hi
  have e : nar .byte (vf p0 p1 p2 p3) = vf p0 p1 p2 p3 := own_narb p3
  unfold vF own_up
  rw [e]
  match i, hi with
  | 0, _ => rfl
  | 1, _ => rfl
  | 2, _ => rfl
  | 3, _ => rfl
  | 4, _ => rfl
  | 5, _ => rfl
  | 6, _ => rfl
  | 7, _ => rfl
theorem own_t1 {a : Int32} (ha : a = 0 ∨ a = 1 ∨ a = 2 ∨ a = 3) : (a + 1).toNatClampNeg = a.toNatClampNeg + 1 := by rcases ha with rfl | rfl | rfl | rfl <;> rfl
theorem own_t2 {a : Int32} (ha : a = 0 ∨ a = 1 ∨ a = 2 ∨ a = 3) : (a + 2).toNatClampNeg = a.toNatClampNeg + 2 := by rcases ha with rfl | rfl | rfl | rfl <;> rfl
theorem own_t3 {a : Int32} (ha : a = 0 ∨ a = 1 ∨ a = 2 ∨ a = 3) : (a + 3).toNatClampNeg = a.toNatClampNeg + 3 := by rcases ha with rfl | rfl | rfl | rfl <;> rfl
theorem own_k1_2 (a f b0 : Int32) (F : Nat → Int32) (ha : a = 0 ∨ a = 1 ∨ a = 2 ∨ a = 3) (hF : ∀ i, i < 8 → F i = f) : f2 1 a 1 (own_up F a.toNatClampNeg b0) = 1 ∧ f2 2 a 1 (own_up F a.toNatClampNeg b0) = 1 ∧ f2 3 a 1 (own_up F a.toNatClampNeg b0) = 1 ∧ f2 4 a 1 (own_up F a.toNatClampNeg b0) = 1 ∧ f2 5 a 1 (own_up F a.toNatClampNeg b0) = 1 ∧ f2 6 a 1 (own_up F a.toNatClampNeg b0) = 1 ∧ f2 7 a 1 (own_up F a.toNatClampNeg b0) = 1 := by
  rcases ha with rfl | rfl | rfl | rfl <;> simp [f2, own_up, hF 0 (by decide), hF 1 (by decide), hF 2 (by decide), hF 3 (by decide), hF 4 (by decide), hF 5 (by decide), hF 6 (by decide), hF 7 (by decide)]
theorem own_k1_3 (a f b0 : Int32) (F : Nat → Int32) (ha : a = 0 ∨ a = 1 ∨ a = 2 ∨ a = 3) (hF : ∀ i, i < 8 → F i = f) : f3 0 a 1 f (own_up F a.toNatClampNeg b0) = 1 ∧ f3 1 a 1 f (own_up F a.toNatClampNeg b0) = 1 ∧ f3 2 a 1 f (own_up F a.toNatClampNeg b0) = 1 ∧ f3 3 a 1 f (own_up F a.toNatClampNeg b0) = 1 ∧ f3 4 a 1 f (own_up F a.toNatClampNeg b0) = 1 ∧ f3 5 a 1 f (own_up F a.toNatClampNeg b0) = 1 ∧ f3 6 a 1 f (own_up F a.toNatClampNeg b0) = 1 ∧ f3 7 a 1 f (own_up F a.toNatClampNeg b0) = 1 := by
  rcases ha with rfl | rfl | rfl | rfl <;> simp [f3, f3_12, own_up, hF 0 (by decide), hF 1 (by decide), hF 2 (by decide), hF 3 (by decide), hF 4 (by decide), hF 5 (by decide), hF 6 (by decide), hF 7 (by decide)]

theorem own_k2_2 (a f b0 b1 : Int32) (F : Nat → Int32) (ha : a = 0 ∨ a = 1 ∨ a = 2 ∨ a = 3) (hF : ∀ i, i < 8 → F i = f) (c1 : (b1 &&& 192) = 128) : f2 1 a 2 (own_up (own_up F a.toNatClampNeg b0) (a + 1).toNatClampNeg b1) = 1 ∧ f2 2 a 2 (own_up (own_up F a.toNatClampNeg b0) (a + 1).toNatClampNeg b1) = 1 ∧ f2 3 a 2 (own_up (own_up F a.toNatClampNeg b0) (a + 1).toNatClampNeg b1) = 1 ∧ f2 4 a 2 (own_up (own_up F a.toNatClampNeg b0) (a + 1).toNatClampNeg b1) = 1 ∧ f2 5 a 2 (own_up (own_up F a.toNatClampNeg b0) (a + 1).toNatClampNeg b1) = 1 ∧ f2 6 a 2 (own_up (own_up F a.toNatClampNeg b0) (a + 1).toNatClampNeg b1) = 1 ∧ f2 7 a 2 (own_up (own_up F a.toNatClampNeg b0) (a + 1).toNatClampNeg b1) = 1 := by
  rcases ha with rfl | rfl | rfl | rfl <;> simp [f2, own_up, hF 0 (by decide), hF 1 (by decide), hF 2 (by decide), hF 3 (by decide), hF 4 (by decide), hF 5 (by decide), hF 6 (by decide), hF 7 (by decide), c1]
theorem own_k2_3 (a f b0 b1 : Int32) (F : Nat → Int32) (ha : a = 0 ∨ a = 1 ∨ a = 2 ∨ a = 3) (hF : ∀ i, i < 8 → F i = f) : f3 0 a 2 f (own_up (own_up F a.toNatClampNeg b0) (a + 1).toNatClampNeg b1) = 1 ∧ f3 1 a 2 f (own_up (own_up F a.toNatClampNeg b0) (a + 1).toNatClampNeg b1) = 1 ∧ f3 2 a 2 f (own_up (own_up F a.toNatClampNeg b0) (a + 1).toNatClampNeg b1) = 1 ∧ f3 3 a 2 f (own_up (own_up F a.toNatClampNeg b0) (a + 1).toNatClampNeg b1) = 1 ∧ f3 4 a 2 f (own_up (own_up F a.toNatClampNeg b0) (a + 1).toNatClampNeg b1) = 1 ∧ f3 5 a 2 f (own_up (own_up F a.toNatClampNeg b0) (a + 1).toNatClampNeg b1) = 1 ∧ f3 6 a 2 f (own_up (own_up F a.toNatClampNeg b0) (a + 1).toNatClampNeg b1) = 1 ∧ f3 7 a 2 f (own_up (own_up F a.toNatClampNeg b0) (a + 1).toNatClampNeg b1) = 1 := by
  rcases ha with rfl | rfl | rfl | rfl <;> simp [f3, f3_12, own_up, hF 0 (by decide), hF 1 (by decide), hF 2 (by decide), hF 3 (by decide), hF 4 (by decide), hF 5 (by decide), hF 6 (by decide), hF 7 (by decide)]

theorem own_k3_2 (a f b0 b1 b2 : Int32) (F : Nat → Int32) (ha : a = 0 ∨ a = 1 ∨ a = 2 ∨ a = 3) (hF : ∀ i, i < 8 → F i = f) (c1 : (b1 &&& 192) = 128) (c2 : (b2 &&& 192) = 128) : f2 1 a 3 (own_up (own_up (own_up F a.toNatClampNeg b0) (a + 1).toNatClampNeg b1) (a + 2).toNatClampNeg b2) = 1 ∧ f2 2 a 3 (own_up (own_up (own_up F a.toNatClampNeg b0) (a + 1).toNatClampNeg b1) (a + 2).toNatClampNeg b2) = 1 ∧ f2 3 a 3 (own_up (own_up (own_up F a.toNatClampNeg b0) (a + 1).toNatClampNeg b1) (a + 2).toNatClampNeg b2) = 1 ∧ f2 4 a 3 (own_up (own_up (own_up F a.toNatClampNeg b0) (a + 1).toNatClampNeg b1) (a + 2).toNatClampNeg b2) = 1 ∧ f2 5 a 3 (own_up (own_up (own_up F a.toNatClampNeg b0) (a + 1).toNatClampNeg b1) (a + 2).toNatClampNeg b2) = 1 ∧ f2 6 a 3 (own_up (own_up (own_up F a.toNatClampNeg b0) (a + 1).toNatClampNeg b1) (a + 2).toNatClampNeg b2) = 1 ∧ f2 7 a 3 (own_up (own_up (own_up F a.toNatClampNeg b0) (a + 1).toNatClampNeg b1) (a + 2).toNatClampNeg b2) = 1 := by
  rcases ha with rfl | rfl | rfl | rfl <;> simp [f2, own_up, hF 0 (by decide), hF 1 (by decide), hF 2 (by decide), hF 3 (by decide), hF 4 (by decide), hF 5 (by decide), hF 6 (by decide), hF 7 (by decide), c1, c2]
theorem own_k3_3 (a f b0 b1 b2 : Int32) (F : Nat → Int32) (ha : a = 0 ∨ a = 1 ∨ a = 2 ∨ a = 3) (hF : ∀ i, i < 8 → F i = f) : f3 0 a 3 f (own_up (own_up (own_up F a.toNatClampNeg b0) (a + 1).toNatClampNeg b1) (a + 2).toNatClampNeg b2) = 1 ∧ f3 1 a 3 f (own_up (own_up (own_up F a.toNatClampNeg b0) (a + 1).toNatClampNeg b1) (a + 2).toNatClampNeg b2) = 1 ∧ f3 2 a 3 f (own_up (own_up (own_up F a.toNatClampNeg b0) (a + 1).toNatClampNeg b1) (a + 2).toNatClampNeg b2) = 1 ∧ f3 3 a 3 f (own_up (own_up (own_up F a.toNatClampNeg b0) (a + 1).toNatClampNeg b1) (a + 2).toNatClampNeg b2) = 1 ∧ f3 4 a 3 f (own_up (own_up (own_up F a.toNatClampNeg b0) (a + 1).toNatClampNeg b1) (a + 2).toNatClampNeg b2) = 1 ∧ f3 5 a 3 f (own_up (own_up (own_up F a.toNatClampNeg b0) (a + 1).toNatClampNeg b1) (a + 2).toNatClampNeg b2) = 1 ∧ f3 6 a 3 f (own_up (own_up (own_up F a.toNatClampNeg b0) (a + 1).toNatClampNeg b1) (a + 2).toNatClampNeg b2) = 1 ∧ f3 7 a 3 f (own_up (own_up (own_up F a.toNatClampNeg b0) (a + 1).toNatClampNeg b1) (a + 2).toNatClampNeg b2) = 1 := by
  rcases ha with rfl | rfl | rfl | rfl <;> simp [f3, f3_12, own_up, hF 0 (by decide), hF 1 (by decide), hF 2 (by decide), hF 3 (by decide), hF 4 (by decide), hF 5 (by decide), hF 6 (by decide), hF 7 (by decide)]

theorem own_k4_2 (a f b0 b1 b2 b3 : Int32) (F : Nat → Int32) (ha : a = 0 ∨ a = 1 ∨ a = 2 ∨ a = 3) (hF : ∀ i, i < 8 → F i = f) (c1 : (b1 &&& 192) = 128) (c2 : (b2 &&& 192) = 128) (c3 : (b3 &&& 192) = 128) : f2 1 a 4 (own_up (own_up (own_up (own_up F a.toNatClampNeg b0) (a + 1).toNatClampNeg b1) (a + 2).toNatClampNeg b2) (a + 3).toNatClampNeg b3) = 1 ∧ f2 2 a 4 (own_up (own_up (own_up (own_up F a.toNatClampNeg b0) (a + 1).toNatClampNeg b1) (a + 2).toNatClampNeg b2) (a + 3).toNatClampNeg b3) = 1 ∧ f2 3 a 4 (own_up (own_up (own_up (own_up F a.toNatClampNeg b0) (a + 1).toNatClampNeg b1) (a + 2).toNatClampNeg b2) (a + 3).toNatClampNeg b3) = 1 ∧ f2 4 a 4 (own_up (own_up (own_up (own_up F a.toNatClampNeg b0) (a + 1).toNatClampNeg b1) (a + 2).toNatClampNeg b2) (a + 3).toNatClampNeg b3) = 1 ∧ f2 5 a 4 (own_up (own_up (own_up (own_up F a.toNatClampNeg b0) (a + 1).toNatClampNeg b1) (a + 2).toNatClampNeg b2) (a + 3).toNatClampNeg b3) = 1 ∧ f2 6 a 4 (own_up (own_up (own_up (own_up F a.toNatClampNeg b0) (a + 1).toNatClampNeg b1) (a + 2).toNatClampNeg b2) (a + 3).toNatClampNeg b3) = 1 ∧ f2 7 a 4 (own_up (own_up (own_up (own_up F a.toNatClampNeg b0) (a + 1).toNatClampNeg b1) (a + 2).toNatClampNeg b2) (a + 3).toNatClampNeg b3) = 1 := by
  rcases ha with rfl | rfl | rfl | rfl <;> simp [f2, own_up, hF 0 (by decide), hF 1 (by decide), hF 2 (by decide), hF 3 (by decide), hF 4 (by decide), hF 5 (by decide), hF 6 (by decide), hF 7 (by decide), c1, c2, c3]
theorem own_k4_3 (a f b0 b1 b2 b3 : Int32) (F : Nat → Int32) (ha : a = 0 ∨ a = 1 ∨ a = 2 ∨ a = 3) (hF : ∀ i, i < 8 → F i = f) : f3 0 a 4 f (own_up (own_up (own_up (own_up F a.toNatClampNeg b0) (a + 1).toNatClampNeg b1) (a + 2).toNatClampNeg b2) (a + 3).toNatClampNeg b3) = 1 ∧ f3 1 a 4 f (own_up (own_up (own_up (own_up F a.toNatClampNeg b0) (a + 1).toNatClampNeg b1) (a + 2).toNatClampNeg b2) (a + 3).toNatClampNeg b3) = 1 ∧ f3 2 a 4 f (own_up (own_up (own_up (own_up F a.toNatClampNeg b0) (a + 1).toNatClampNeg b1) (a + 2).toNatClampNeg b2) (a + 3).toNatClampNeg b3) = 1 ∧ f3 3 a 4 f (own_up (own_up (own_up (own_up F a.toNatClampNeg b0) (a + 1).toNatClampNeg b1) (a + 2).toNatClampNeg b2) (a + 3).toNatClampNeg b3) = 1 ∧ f3 4 a 4 f (own_up (own_up (own_up (own_up F a.toNatClampNeg b0) (a + 1).toNatClampNeg b1) (a + 2).toNatClampNeg b2) (a + 3).toNatClampNeg b3) = 1 ∧ f3 5 a 4 f (own_up (own_up (own_up (own_up F a.toNatClampNeg b0) (a + 1).toNatClampNeg b1) (a + 2).toNatClampNeg b2) (a + 3).toNatClampNeg b3) = 1 ∧ f3 6 a 4 f (own_up (own_up (own_up (own_up F a.toNatClampNeg b0) (a + 1).toNatClampNeg b1) (a + 2).toNatClampNeg b2) (a + 3).toNatClampNeg b3) = 1 ∧ f3 7 a 4 f (own_up (own_up (own_up (own_up F a.toNatClampNeg b0) (a + 1).toNatClampNeg b1) (a + 2).toNatClampNeg b2) (a + 3).toNatClampNeg b3) = 1 := by
  rcases ha with rfl | rfl | rfl | rfl <;> simp [f3, f3_12, own_up, hF 0 (by decide), hF 1 (by decide), hF 2 (by decide), hF 3 (by decide), hF 4 (by decide), hF 5 (by decide), hF 6 (by decide), hF 7 (by decide)]
theorem own_323 (p0 p1 p2 p3 : Int32) (g n n' fi : Int32) (G : Nat → Int32) (h2 : f2 1 (va p0 p1 p2 p3) n G = 1 ∧ f2 2 (va p0 p1 p2 p3) n G = 1 ∧ f2 3 (va p0 p1 p2 p3) n G = 1 ∧ f2 4 (va p0 p1 p2 p3) n G = 1 ∧ f2 5 (va p0 p1 p2 p3) n G = 1 ∧ f2 6 (va p0 p1 p2 p3) n G = 1 ∧ f2 7 (va p0 p1 p2 p3) n G = 1)
    (h3 : f3 0 (va p0 p1 p2 p3) n (vf p0 p1 p2 p3) G = 1 ∧ f3 1 (va p0 p1 p2 p3) n (vf p0 p1 p2 p3) G = 1 ∧ f3 2 (va p0 p1 p2 p3) n (vf p0 p1 p2 p3) G = 1 ∧ f3 3 (va p0 p1 p2 p3) n (vf p0 p1 p2 p3) G = 1 ∧ f3 4 (va p0 p1 p2 p3) n (vf p0 p1 p2 p3) G = 1 ∧ f3 5 (va p0 p1 p2 p3) n (vf p0 p1 p2 p3) G = 1 ∧ f3 6 (va p0 p1 p2 p3) n (vf p0 p1 p2 p3) G = 1 ∧ f3 7 (va p0 p1 p2 p3) n (vf p0 p1 p2 p3) G = 1) (h4 : f4 (va p0 p1 p2 p3) G = g) : f0_323 p0 p1 p2 p3 g n n' fi 1 G = 1 := by
  obtain ⟨a1, a2, a3, a4, a5, a6, a7⟩ := h2
  obtain ⟨c0, c1, c2, c3, c4, c5, c6, c7⟩ := h3
  have z : ¬ (1 : Int32) = 0 := by decide
  simp only [f0_323, f0_421, f0_550, a1, a2, a3, a4, a5, a6, a7, c0, c1, c2, c3, c4, c5, c6, c7, h4, z, if_false, if_true]
theorem own_90 (p0 p1 p2 p3 : Int32) (g : Int32) (h0 : 0 ≤ g.toInt) (h1 : g.toInt < 1114112) : f0_90 p0 p1 p2 p3 g = 1 := by
  have ha := own_va p0 p1 p2 p3
  have hF := own_vF p0 p1 p2 p3
  have k128 : (128 : Int32).toInt = 128 := by decide
  have k2048 : (2048 : Int32).toInt = 2048 := by decide
  have k65536 : (65536 : Int32).toInt = 65536 := by decide
  have z21 : ¬ (2 : Int32) = 1 := by decide
  have z31 : ¬ (3 : Int32) = 1 := by decide
  have z32 : ¬ (3 : Int32) = 2 := by decide
  have z41 : ¬ (4 : Int32) = 1 := by decide
  have z42 : ¬ (4 : Int32) = 2 := by decide
  have z43 : ¬ (4 : Int32) = 3 := by decide
  unfold f0_90
  by_cases q1 : g < 128
  · have q := q1
    rw [Int32.lt_iff_toInt_lt, k128] at q
    have e : f1 g (va p0 p1 p2 p3) (vF p0 p1 p2 p3) = (1, own_up (vF p0 p1 p2 p3) (va p0 p1 p2 p3).toNatClampNeg (nar .byte (g.toInt8.toInt32))) := by unfold f1; rw [if_pos q1]
    have b := own_byteP h0 q
    have r0 : (own_up (vF p0 p1 p2 p3) (va p0 p1 p2 p3).toNatClampNeg (nar .byte (g.toInt8.toInt32))) (va p0 p1 p2 p3).toNatClampNeg = nar .byte (g.toInt8.toInt32) := by simp [own_up]
    have ld : (nar .byte (g.toInt8.toInt32) &&& 255) < (128 : Int32) := by
      rw [Int32.lt_iff_toInt_lt, k128, Jvm.Kit.i32_mask _ 255 (k := 8) (by decide) (by decide)]; omega
    rw [if_pos q1, e]
    dsimp only
    unfold f0_202
    rw [if_pos rfl, if_pos rfl, r0, if_pos ld]
    unfold f0_243
    refine own_323 p0 p1 p2 p3 g 1 _ _ _ (own_k1_2 _ _ _ _ ha hF) (own_k1_3 _ _ _ _ ha hF) ?_
    rw [own_d0 _ _ r0 (by omega)]
    exact Int32.toInt_inj.mp b
  · have q1' := q1
    rw [Int32.lt_iff_toInt_lt, k128] at q1'
    rw [if_neg q1]
    by_cases q2 : g < 2048
    · have q := q2
      rw [Int32.lt_iff_toInt_lt, k2048] at q
      have s6 := own_sh6 g
      have b0 := own_lead (w := 192) (v := g >>> ((6 : Int32) &&& 31)) (n := 192) 6 (by decide) (by decide) (by decide) (by omega) (by omega) (by omega)
      have m0 := own_m63 g
      have b1 := own_cont (v := g &&& 63) (by omega) (by omega)
      have e : f1 g (va p0 p1 p2 p3) (vF p0 p1 p2 p3) = (2, own_up (own_up (vF p0 p1 p2 p3) (va p0 p1 p2 p3).toNatClampNeg (nar .byte (((192 : Int32) ||| (g >>> ((6 : Int32) &&& 31))).toInt8.toInt32))) (va p0 p1 p2 p3 + 1).toNatClampNeg (nar .byte (((128 : Int32) ||| (g &&& (63 : Int32))).toInt8.toInt32))) := by
        unfold f1; rw [if_neg q1, if_pos q2]
      rw [if_pos q2, e]
      dsimp only
      generalize nar .byte (((192 : Int32) ||| (g >>> ((6 : Int32) &&& 31))).toInt8.toInt32) = x at *
      generalize nar .byte (((128 : Int32) ||| (g &&& (63 : Int32))).toInt8.toInt32) = y at *
      have r0 : (own_up (own_up (vF p0 p1 p2 p3) (va p0 p1 p2 p3).toNatClampNeg x) (va p0 p1 p2 p3 + 1).toNatClampNeg y) (va p0 p1 p2 p3).toNatClampNeg = x := by simp [own_up, own_t1 ha]
      have r1 : (own_up (own_up (vF p0 p1 p2 p3) (va p0 p1 p2 p3).toNatClampNeg x) (va p0 p1 p2 p3 + 1).toNatClampNeg y) (va p0 p1 p2 p3 + 1).toNatClampNeg = y := by simp [own_up, own_t1 ha]
      unfold f0_202
      rw [if_pos rfl, if_neg z21, if_pos rfl, r0, if_pos (own_l2 (by omega) (by omega))]
      unfold f0_271
      refine own_323 p0 p1 p2 p3 g 2 _ _ _ (own_k2_2 _ _ _ _ _ ha hF (own_cb (by omega) (by omega))) (own_k2_3 _ _ _ _ _ ha hF) ?_
      apply Int32.toInt_inj.mp
      rw [own_d1 _ _ r0 r1 (g.toInt / 64) (g.toInt % 64) (by omega) (by omega) (by omega) (by omega)]
      omega
    · have q2' := q2
      rw [Int32.lt_iff_toInt_lt, k2048] at q2'
      rw [if_neg q2]
      by_cases q3 : g < 65536
      · have q := q3
        rw [Int32.lt_iff_toInt_lt, k65536] at q
        have s6 := own_sh6 g
        have s12 := own_sh12 g
        have b0 := own_lead (w := 224) (v := g >>> ((12 : Int32) &&& 31)) (n := 224) 4 (by decide) (by decide) (by decide) (by omega) (by omega) (by omega)
        have m1 := own_m63 (g >>> ((6 : Int32) &&& 31))
        have b1 := own_cont (v := (g >>> ((6 : Int32) &&& 31)) &&& 63) (by omega) (by omega)
        have m0 := own_m63 g
        have b2 := own_cont (v := g &&& 63) (by omega) (by omega)
        have e : f1 g (va p0 p1 p2 p3) (vF p0 p1 p2 p3) = (3, own_up (own_up (own_up (vF p0 p1 p2 p3) (va p0 p1 p2 p3).toNatClampNeg (nar .byte (((224 : Int32) ||| (g >>> ((12 : Int32) &&& 31))).toInt8.toInt32))) (va p0 p1 p2 p3 + 1).toNatClampNeg (nar .byte (((128 : Int32) ||| ((g >>> ((6 : Int32) &&& 31)) &&& (63 : Int32))).toInt8.toInt32))) (va p0 p1 p2 p3 + 2).toNatClampNeg (nar .byte (((128 : Int32) ||| (g &&& (63 : Int32))).toInt8.toInt32))) := by
          unfold f1; rw [if_neg q1, if_neg q2, if_pos q3]
        rw [if_pos q3, e]
        dsimp only
        generalize nar .byte (((224 : Int32) ||| (g >>> ((12 : Int32) &&& 31))).toInt8.toInt32) = x at *
        generalize nar .byte (((128 : Int32) ||| ((g >>> ((6 : Int32) &&& 31)) &&& (63 : Int32))).toInt8.toInt32) = y at *
        generalize nar .byte (((128 : Int32) ||| (g &&& (63 : Int32))).toInt8.toInt32) = z at *
        have r0 : (own_up (own_up (own_up (vF p0 p1 p2 p3) (va p0 p1 p2 p3).toNatClampNeg x) (va p0 p1 p2 p3 + 1).toNatClampNeg y) (va p0 p1 p2 p3 + 2).toNatClampNeg z) (va p0 p1 p2 p3).toNatClampNeg = x := by simp [own_up, own_t1 ha, own_t2 ha]
        have r1 : (own_up (own_up (own_up (vF p0 p1 p2 p3) (va p0 p1 p2 p3).toNatClampNeg x) (va p0 p1 p2 p3 + 1).toNatClampNeg y) (va p0 p1 p2 p3 + 2).toNatClampNeg z) (va p0 p1 p2 p3 + 1).toNatClampNeg = y := by simp [own_up, own_t1 ha, own_t2 ha]
        have r2 : (own_up (own_up (own_up (vF p0 p1 p2 p3) (va p0 p1 p2 p3).toNatClampNeg x) (va p0 p1 p2 p3 + 1).toNatClampNeg y) (va p0 p1 p2 p3 + 2).toNatClampNeg z) (va p0 p1 p2 p3 + 2).toNatClampNeg = z := by simp [own_up, own_t1 ha, own_t2 ha]
        unfold f0_202
        rw [if_pos rfl, if_neg z31, if_neg z32, if_pos rfl, r0, if_pos (own_l3 (by omega) (by omega))]
        unfold f0_299
        refine own_323 p0 p1 p2 p3 g 3 _ _ _ (own_k3_2 _ _ _ _ _ _ ha hF (own_cb (by omega) (by omega)) (own_cb (by omega) (by omega))) (own_k3_3 _ _ _ _ _ _ ha hF) ?_
        apply Int32.toInt_inj.mp
        rw [own_d2 _ _ r0 r1 r2 (g.toInt / 4096) (g.toInt / 64 % 64) (g.toInt % 64) (by omega) (by omega) (by omega) (by omega) (by omega)]
        omega
      · have q3' := q3
        rw [Int32.lt_iff_toInt_lt, k65536] at q3'
        have s6 := own_sh6 g
        have s12 := own_sh12 g
        have s18 := own_sh18 g
        have b0 := own_lead (w := 240) (v := g >>> ((18 : Int32) &&& 31)) (n := 240) 3 (by decide) (by decide) (by decide) (by omega) (by omega) (by omega)
        have m2 := own_m63 (g >>> ((12 : Int32) &&& 31))
        have b1 := own_cont (v := (g >>> ((12 : Int32) &&& 31)) &&& 63) (by omega) (by omega)
        have m1 := own_m63 (g >>> ((6 : Int32) &&& 31))
        have b2 := own_cont (v := (g >>> ((6 : Int32) &&& 31)) &&& 63) (by omega) (by omega)
        have m0 := own_m63 g
        have b3 := own_cont (v := g &&& 63) (by omega) (by omega)
        have e : f1 g (va p0 p1 p2 p3) (vF p0 p1 p2 p3) = (4, own_up (own_up (own_up (own_up (vF p0 p1 p2 p3) (va p0 p1 p2 p3).toNatClampNeg (nar .byte (((240 : Int32) ||| (g >>> ((18 : Int32) &&& 31))).toInt8.toInt32))) (va p0 p1 p2 p3 + 1).toNatClampNeg (nar .byte (((128 : Int32) ||| ((g >>> ((12 : Int32) &&& 31)) &&& (63 : Int32))).toInt8.toInt32))) (va p0 p1 p2 p3 + 2).toNatClampNeg (nar .byte (((128 : Int32) ||| ((g >>> ((6 : Int32) &&& 31)) &&& (63 : Int32))).toInt8.toInt32))) (va p0 p1 p2 p3 + 3).toNatClampNeg (nar .byte (((128 : Int32) ||| (g &&& (63 : Int32))).toInt8.toInt32))) := by
          unfold f1; rw [if_neg q1, if_neg q2, if_neg q3]
        rw [if_neg q3, e]
        dsimp only
        generalize nar .byte (((240 : Int32) ||| (g >>> ((18 : Int32) &&& 31))).toInt8.toInt32) = x at *
        generalize nar .byte (((128 : Int32) ||| ((g >>> ((12 : Int32) &&& 31)) &&& (63 : Int32))).toInt8.toInt32) = y at *
        generalize nar .byte (((128 : Int32) ||| ((g >>> ((6 : Int32) &&& 31)) &&& (63 : Int32))).toInt8.toInt32) = z at *
        generalize nar .byte (((128 : Int32) ||| (g &&& (63 : Int32))).toInt8.toInt32) = w at *
        have r0 : (own_up (own_up (own_up (own_up (vF p0 p1 p2 p3) (va p0 p1 p2 p3).toNatClampNeg x) (va p0 p1 p2 p3 + 1).toNatClampNeg y) (va p0 p1 p2 p3 + 2).toNatClampNeg z) (va p0 p1 p2 p3 + 3).toNatClampNeg w) (va p0 p1 p2 p3).toNatClampNeg = x := by simp [own_up, own_t1 ha, own_t2 ha, own_t3 ha]
        have r1 : (own_up (own_up (own_up (own_up (vF p0 p1 p2 p3) (va p0 p1 p2 p3).toNatClampNeg x) (va p0 p1 p2 p3 + 1).toNatClampNeg y) (va p0 p1 p2 p3 + 2).toNatClampNeg z) (va p0 p1 p2 p3 + 3).toNatClampNeg w) (va p0 p1 p2 p3 + 1).toNatClampNeg = y := by simp [own_up, own_t1 ha, own_t2 ha, own_t3 ha]
        have r2 : (own_up (own_up (own_up (own_up (vF p0 p1 p2 p3) (va p0 p1 p2 p3).toNatClampNeg x) (va p0 p1 p2 p3 + 1).toNatClampNeg y) (va p0 p1 p2 p3 + 2).toNatClampNeg z) (va p0 p1 p2 p3 + 3).toNatClampNeg w) (va p0 p1 p2 p3 + 2).toNatClampNeg = z := by simp [own_up, own_t1 ha, own_t2 ha, own_t3 ha]
        have r3 : (own_up (own_up (own_up (own_up (vF p0 p1 p2 p3) (va p0 p1 p2 p3).toNatClampNeg x) (va p0 p1 p2 p3 + 1).toNatClampNeg y) (va p0 p1 p2 p3 + 2).toNatClampNeg z) (va p0 p1 p2 p3 + 3).toNatClampNeg w) (va p0 p1 p2 p3 + 3).toNatClampNeg = w := by simp [own_up, own_t1 ha, own_t2 ha, own_t3 ha]
        unfold f0_202
        rw [if_pos rfl, if_neg z41, if_neg z42, if_neg z43, r0, if_pos (own_l4 (by omega) (by omega))]
        unfold f0_321
        refine own_323 p0 p1 p2 p3 g 4 _ _ _ (own_k4_2 _ _ _ _ _ _ _ ha hF (own_cb (by omega) (by omega)) (own_cb (by omega) (by omega)) (own_cb (by omega) (by omega))) (own_k4_3 _ _ _ _ _ _ _ ha hF) ?_
        apply Int32.toInt_inj.mp
        rw [own_d3 _ _ r0 r1 r2 r3 (g.toInt / 262144) (g.toInt / 4096 % 64) (g.toInt / 64 % 64) (g.toInt % 64) (by omega) (by omega) (by omega) (by omega) (by omega) (by omega)]
        omega
theorem own_plus {k v : Int32} {n : Int} (hk : k.toInt = n) (h0 : 0 ≤ n) (h1 : n < 1000000000) (h2 : 0 ≤ v.toInt) (h3 : v.toInt < 1000000000) : (k + v).toInt = n + v.toInt := by
  rw [Jvm.Kit.i32_add (by omega) (by omega), hk]
theorem own_law (p0 p1 p2 p3 : Int32) : f0 p0 p1 p2 p3 = 1 := by
  have hr : (vr p0 p1 p2 p3).toInt = p1.toInt % 2147483648 := own_and31 p1
  unfold f0
  split
  · have e : (vr p0 p1 p2 p3 &&& (127 : Int32)).toInt = (vr p0 p1 p2 p3).toInt % 128 := Jvm.Kit.i32_mask _ 127 (k := 7) (by decide) (by decide)
    exact own_90 p0 p1 p2 p3 _ (by omega) (by omega)
  · split
    · have e : (vr p0 p1 p2 p3 - (vr p0 p1 p2 p3 / 1920) * 1920).toInt = (vr p0 p1 p2 p3).toInt % 1920 := own_rem (by omega) (by decide)
      have e2 := own_plus (k := 128) (v := vr p0 p1 p2 p3 - (vr p0 p1 p2 p3 / 1920) * 1920) (n := 128) (by decide) (by omega) (by omega) (by omega) (by omega)
      exact own_90 p0 p1 p2 p3 _ (by omega) (by omega)
    · split
      · have e : (vr p0 p1 p2 p3 - (vr p0 p1 p2 p3 / 61440) * 61440).toInt = (vr p0 p1 p2 p3).toInt % 61440 := own_rem (by omega) (by decide)
        have e2 := own_plus (k := 2048) (v := vr p0 p1 p2 p3 - (vr p0 p1 p2 p3 / 61440) * 61440) (n := 2048) (by decide) (by omega) (by omega) (by omega) (by omega)
        split
        · exact own_90 p0 p1 p2 p3 _ (by omega) (by omega)
        · have k3 : (2048 : Int32).toInt = 2048 := by decide
          have e3 : (2048 + (vr p0 p1 p2 p3 - (vr p0 p1 p2 p3 / 61440) * 61440) + 2048 : Int32).toInt = (2048 + (vr p0 p1 p2 p3 - (vr p0 p1 p2 p3 / 61440) * 61440) : Int32).toInt + 2048 := by
            rw [Jvm.Kit.i32_add (by omega) (by omega), k3]
          exact own_90 p0 p1 p2 p3 _ (by omega) (by omega)
      · have e : (vr p0 p1 p2 p3 - (vr p0 p1 p2 p3 / 1048576) * 1048576).toInt = (vr p0 p1 p2 p3).toInt % 1048576 := own_rem (by omega) (by decide)
        have e2 := own_plus (k := 65536) (v := vr p0 p1 p2 p3 - (vr p0 p1 p2 p3 / 1048576) * 1048576) (n := 65536) (by decide) (by omega) (by omega) (by omega) (by omega)
        exact own_90 p0 p1 p2 p3 _ (by omega) (by omega)
set_option maxRecDepth 65536 in
set_option maxHeartbeats 40000000 in
theorem comes_1 {Post : Tables → Env → Array Value → State → Outcome → State → Prop} (hpost : ∀ tb e args s v u, (limb_1_1.after args s (.returned v) u = true ∧ limb_1_2.after args s (.returned v) u = true ∧ True) → FrameEnd s (.returned v) u (Jvm.fieldLocs frame_1_writes args s ++ Jvm.arrayLocs frame_1_arrays args s ++ Jvm.staticLocs frame_1_statics s) 16 128 → Post tb e args s (.returned v) u) :
    ArmFor flags0 classFile x code maxLocals ret World_1 tables_1 room_1 Calls_1 rest_1 Pre_1 Post := by
  intro l hfl _ _ p e ha hc hk s m args below hf hA hF happ hP
  obtain ⟨hcalls, hrest, hpre⟩ := hP
  obtain ⟨-, -, -, hnamed, -, -, -, hat⟩ := (Spec.applies_iff hf).mp happ
  obtain ⟨hg, hn⟩ := and_e (Cond.before_iff.mp (show (Jvm.Cond.and given_1 narrow_1).before args s = true from hpre))
  obtain ⟨hcnt, g0⟩ := and_e hg
  obtain ⟨t0, g1⟩ := and_e g0
  obtain ⟨t1, g2⟩ := and_e g1
  obtain ⟨t2, g3⟩ := and_e g2
  have t3 := g3
  obtain ⟨w0, w1, w2, w3, rfl⟩ : ∃ w0 w1 w2 w3 : Value, args = #[w0, w1, w2, w3] := by
    have hs : args.size = 4 := by simpa [Cond.value, given_1] using hcnt
    obtain ⟨L⟩ := args
    match L, hs with
    | [w0, w1, w2, w3], _ => exact ⟨w0, w1, w2, w3, rfl⟩
  have hw := fun d (hd : d ∈ tables_1) => atoms_spec (ws := Jvm.Cond.code x code maxLocals ret :: tables_1) hat d (List.mem_cons_of_mem _ hd)
  obtain ⟨i0, ei0⟩ := is_v t0
  obtain rfl : w0 = (.int i0) := Option.some.inj ei0
  obtain ⟨i1, ei1⟩ := is_v t1
  obtain rfl : w1 = (.int i1) := Option.some.inj ei1
  obtain ⟨i2, ei2⟩ := is_v t2
  obtain rfl : w2 = (.int i2) := Option.some.inj ei2
  obtain ⟨i3, ei3⟩ := is_v t3
  obtain rfl : w3 = (.int i3) := Option.some.inj ei3
  obtain ⟨n, o, h1, h2, h3, v, L, rfl, ⟨hv, N, -⟩, hq⟩ := rm0 l s _ hw tables_1 i0 i1 i2 i3 s.heap s.heap.size (Nat.le_refl _) p e ha hc hk s m _ below hf ((Spec.applies_iff_loose hf).mp happ).1 ⟨rfl, State.Warmed39.refl s, rfl⟩ trivial
  obtain rfl : v = some (.int 1) := by rw [hv, own_law]
  refine ⟨n, _, h1, h2, h3, hpost _ _ _ _ _ _ ⟨Cond.after_iff.mpr rfl, Cond.after_iff.mpr (eq_i res_at (Term.int_eval (1)) rfl), trivial⟩ ⟨hq.1, hq.2.1, (hq.2.2.sift fun y hy => Or.inr (N y hy)).mono (by decide) (by decide)⟩⟩
theorem main_1_1 : Claimed_1_1 := comes_1 fun _ _ _ _ _ _ h hF => ⟨h.1, hF⟩
theorem main_1_2 : Claimed_1_2 := comes_1 fun _ _ _ _ _ _ h hF => ⟨h.2.1, hF⟩
end Jvm.Pilot.@@N@@
namespace Jvm.Pilot.@@N@@
open Jvm Jvm.ClassFile Sem Op Lib Jvm.Free Jvm.Stand Jvm.Pilot.@@N@@.Jvm.D
/-! MADE BY PROGRAM (witnessworld.py) out of the Statement's table words and the real class files: 9 classes; the members and pool entries that the words name. The judged class is class 1, her method 3. -/
namespace start1
open Jvm.ClassFile
def u (s : String) : CpInfo := .utf8 (stringToUtf16 s)
/-- a pool by its gaps: so many unusable entries, then the entry; so many at the end -/
def gap : Nat → List CpInfo → List CpInfo
  | 0, r => r
  | n + 1, r => .unusable :: gap n r
def poolList (es : List (Nat × CpInfo)) (last : Nat) : List CpInfo := es.foldr (fun e r => gap e.1 (e.2 :: r)) (gap last [])
def pool (es : List (Nat × CpInfo)) (last : Nat) : Array CpInfo := ⟨poolList es last⟩
def fileOf (pool : Array CpInfo) (this : Nat) (attrs : Array Attribute := #[]) (ms : Array MethodInfo := #[]) (fl : Nat := 33) (sup : Nat := 0) (ifs : Array Nat := #[]) (fds : Array FieldInfo := #[]) : ClassFile where
  minorVersion := 0
  majorVersion := 65
  constantPool := pool
  accessFlags := fl
  thisClass := this
  superClass := sup
  interfaces := ifs
  fields := fds
  methods := ms
  attributes := attrs
def plain (name : String) (sup : Option ClassId) : Class where
  name := name
  kind := .ordinary
  loader := none
  accessFlags := 33
  super := sup
  interfaces := #[]
  cf := none
  fields := #[]
  methods := #[]
  instanceTypes := #[]
  staticTypes := #[]
  resolved := #[]
  callSites := []
  init := .initialized
  statics := none
  mirror := none

def pool0 : Array CpInfo := pool [(5, u "<init>"), (0, u "()V"), (1, .class_ 10), (1, u "java/lang/Object")] 113

def k0m0 : Method := { name := "<init>", desc := "()V", sig := { parameters := [], returnType := none }, accessFlags := 1, code := none }
/-- java/lang/Object -/
def k0 : Class := { plain "java/lang/Object" none with
  accessFlags := 33
  interfaces := #[]
  cf := some (fileOf pool0 8 #[] #[{ accessFlags := 1, nameIndex := 5, descriptorIndex := 6, attributes := #[] }] 33 0 #[] #[])
  fields := #[]
  methods := #[k0m0]
  instanceTypes := #[]
  staticTypes := #[]
  resolved := Array.replicate 124 none
  statics := none }

def pool1 : Array CpInfo := pool [(2, .class_ 4), (1, u "java/lang/Object"), (0, u "<init>"), (0, u "()V"), (0, .integer 2147483647), (0, .integer 61440), (0, .integer 55296), (0, .integer 65536), (0, .integer 1048576), (0, .methodref 13 14), (0, .class_ 15), (0, .nameAndType 16 17), (0, u "com/example/holyrood/holyrood/Utf8"), (0, u "encode"), (0, u "(I[BI)I"), (0, .methodref 19 20), (0, .class_ 21), (0, .nameAndType 22 23), (0, u "com/example/holyrood/holyrood/Utf8EncodePinLaw"), (0, u "continues"), (0, u "([BIII)Z"), (0, .methodref 19 25), (0, .nameAndType 26 27), (0, u "untouched"), (0, u "([BIIIB)Z"), (0, .methodref 13 29), (0, .nameAndType 30 31), (0, u "decode"), (0, u "([BI)I"), (3, u "law"), (0, u "(IIII)Z")] 4

def k1m0 : Method := { name := "<init>", desc := "()V", sig := { parameters := [], returnType := none }, accessFlags := 1, code := none }
def k1c1 : Code := { maxStack := 3, maxLocals := 5, code := method_2_code, exceptionTable := #[], attributes := #[] }
def k1m1 : Method := { name := "untouched", desc := "([BIIIB)Z", sig := { parameters := [(.array .byte), .int, .int, .int, .byte], returnType := some .boolean }, accessFlags := 10, code := some k1c1 }
def k1c2 : Code := { maxStack := 3, maxLocals := 4, code := method_3_code, exceptionTable := #[], attributes := #[] }
def k1m2 : Method := { name := "continues", desc := "([BIII)Z", sig := { parameters := [(.array .byte), .int, .int, .int], returnType := some .boolean }, accessFlags := 10, code := some k1c2 }
def k1c3 : Code := { maxStack := 5, maxLocals := 16, code := code, exceptionTable := #[], attributes := #[] }
def k1m3 : Method := { name := "law", desc := "(IIII)Z", sig := { parameters := [.int, .int, .int, .int], returnType := some .boolean }, accessFlags := 9, code := some k1c3 }
/-- com/example/holyrood/holyrood/Utf8EncodePinLaw -/
def k1 : Class := { plain "com/example/holyrood/holyrood/Utf8EncodePinLaw" (some 0) with
  accessFlags := 49
  interfaces := #[]
  cf := some (fileOf pool1 19 #[] #[{ accessFlags := 1, nameIndex := 5, descriptorIndex := 6, attributes := #[] }, { accessFlags := 10, nameIndex := 26, descriptorIndex := 27, attributes := #[] }, { accessFlags := 10, nameIndex := 22, descriptorIndex := 23, attributes := #[] }, { accessFlags := 9, nameIndex := 35, descriptorIndex := 36, attributes := #[] }] 49 2 #[] #[])
  fields := #[]
  methods := #[k1m0, k1m1, k1m2, k1m3]
  instanceTypes := #[]
  staticTypes := #[]
  resolved := Array.replicate 41 none
  statics := none }

def pool2 : Array CpInfo := pool [(2, .class_ 4), (1, u "java/lang/Object"), (0, u "<init>"), (0, u "()V"), (1, .class_ 10), (1, u "com/example/holyrood/holyrood/Utf8"), (0, u "LENGTHS"), (0, u "[B"), (2, u "SECOND_LOWEST"), (0, u "[I"), (2, u "SECOND_HIGHEST"), (32, u "decode"), (0, u "([BI)I"), (35, u "LONGS"), (0, u "Ljava/lang/invoke/VarHandle;"), (21, u "SPACES"), (0, u "J"), (23, .integer 65536), (18, u "HIGH_BITS"), (1, u "LOW_BITS"), (0, u "ONES"), (0, u "LAST_BYTE"), (0, u "LAST_TWO_BYTES"), (26, u "encode"), (0, u "(I[BI)I")] 4

def k2m0 : Method := { name := "<init>", desc := "()V", sig := { parameters := [], returnType := none }, accessFlags := 2, code := none }
def k2c1 : Code := { maxStack := 4, maxLocals := 3, code := prog_85_method_6_code, exceptionTable := #[], attributes := #[] }
def k2m1 : Method := { name := "decode", desc := "([BI)I", sig := { parameters := [(.array .byte), .int], returnType := some .int }, accessFlags := 8, code := some k2c1 }
def k2c2 : Code := { maxStack := 5, maxLocals := 3, code := prog_85_method_24_code, exceptionTable := #[], attributes := #[] }
def k2m2 : Method := { name := "encode", desc := "(I[BI)I", sig := { parameters := [.int, (.array .byte), .int], returnType := some .int }, accessFlags := 8, code := some k2c2 }
/-- com/example/holyrood/holyrood/Utf8 -/
def k2 : Class := { plain "com/example/holyrood/holyrood/Utf8" (some 0) with
  accessFlags := 48
  interfaces := #[]
  cf := some (fileOf pool2 8 #[] #[{ accessFlags := 2, nameIndex := 5, descriptorIndex := 6, attributes := #[] }, { accessFlags := 8, nameIndex := 52, descriptorIndex := 53, attributes := #[] }, { accessFlags := 8, nameIndex := 188, descriptorIndex := 189, attributes := #[] }] 48 2 #[] #[{ accessFlags := 24, nameIndex := 156, descriptorIndex := 113, attributes := #[] }, { accessFlags := 26, nameIndex := 89, descriptorIndex := 90, attributes := #[] }, { accessFlags := 26, nameIndex := 158, descriptorIndex := 113, attributes := #[] }, { accessFlags := 26, nameIndex := 159, descriptorIndex := 113, attributes := #[] }, { accessFlags := 26, nameIndex := 112, descriptorIndex := 113, attributes := #[] }, { accessFlags := 26, nameIndex := 160, descriptorIndex := 113, attributes := #[] }, { accessFlags := 26, nameIndex := 161, descriptorIndex := 113, attributes := #[] }, { accessFlags := 26, nameIndex := 11, descriptorIndex := 12, attributes := #[] }, { accessFlags := 26, nameIndex := 15, descriptorIndex := 16, attributes := #[] }, { accessFlags := 26, nameIndex := 19, descriptorIndex := 16, attributes := #[] }])
  fields := #[{ name := "HIGH_BITS", type := .long, accessFlags := 24, slot := 0, constantValue := 0 }, { name := "LONGS", type := (.object "java/lang/invoke/VarHandle"), accessFlags := 26, slot := 1, constantValue := 0 }, { name := "LOW_BITS", type := .long, accessFlags := 26, slot := 2, constantValue := 0 }, { name := "ONES", type := .long, accessFlags := 26, slot := 3, constantValue := 0 }, { name := "SPACES", type := .long, accessFlags := 26, slot := 4, constantValue := 0 }, { name := "LAST_BYTE", type := .long, accessFlags := 26, slot := 5, constantValue := 0 }, { name := "LAST_TWO_BYTES", type := .long, accessFlags := 26, slot := 6, constantValue := 0 }, { name := "LENGTHS", type := (.array .byte), accessFlags := 26, slot := 7, constantValue := 0 }, { name := "SECOND_LOWEST", type := (.array .int), accessFlags := 26, slot := 8, constantValue := 0 }, { name := "SECOND_HIGHEST", type := (.array .int), accessFlags := 26, slot := 9, constantValue := 0 }]
  methods := #[k2m0, k2m1, k2m2]
  instanceTypes := #[]
  staticTypes := #[.long, (.object "java/lang/invoke/VarHandle"), .long, .long, .long, .long, .long, (.array .byte), (.array .int), (.array .int)]
  resolved := Array.replicate 194 none
  statics := none }

def pool3 : Array CpInfo := pool [(1, u "java/lang/Cloneable"), (0, .class_ 1), (0, u "java/lang/Object"), (0, .class_ 3)] 3

/-- java/lang/Cloneable -/
def k3 : Class := { plain "java/lang/Cloneable" (some 0) with
  accessFlags := 1537
  interfaces := #[]
  cf := some (fileOf pool3 2 #[] #[] 1537 4 #[] #[])
  fields := #[]
  methods := #[]
  instanceTypes := #[]
  staticTypes := #[]
  resolved := Array.replicate 8 none
  statics := none }

def pool4 : Array CpInfo := pool [(1, u "java/io/Serializable"), (0, .class_ 1), (0, u "java/lang/Object"), (0, .class_ 3)] 3

/-- java/io/Serializable -/
def k4 : Class := { plain "java/io/Serializable" (some 0) with
  accessFlags := 1537
  interfaces := #[]
  cf := some (fileOf pool4 2 #[] #[] 1537 4 #[] #[])
  fields := #[]
  methods := #[]
  instanceTypes := #[]
  staticTypes := #[]
  resolved := Array.replicate 8 none
  statics := none }

/-- the primitive byte -/
def k5 : Class := { plain "byte" none with kind := .primitive 'B', accessFlags := 0x411 }
/-- [B -/
def k6 : Class := { plain "[B" (some 0) with kind := .array 5 .byte, interfaces := #[3, 4], accessFlags := 1041 }

/-- the primitive int -/
def k7 : Class := { plain "int" none with kind := .primitive 'I', accessFlags := 0x411 }
/-- [I -/
def k8 : Class := { plain "[I" (some 0) with kind := .array 7 .int, interfaces := #[3, 4], accessFlags := 1041 }

def heap : Heap := #[]
def classes : Array Class := #[k0, k1, k2, k3, k4, k5, k6, k7, k8]
def interned : List (Array UInt16 × Addr) := []
def slotsUsed : Nat := 0
def theMethod : MethodId := ⟨1, 3⟩
def args0 : Array Value := #[.int 5, .int 5, .int 5, .int 5]
def aboutOver (below : List Frame) : State where
  vm := { classes := classes, interned := interned.toArray }
  heap := heap
  slotsUsed := slotsUsed
  threads := #[{ frames := .invoking theMethod args0 :: below }]
def below0 : List Frame := [.native { method := ⟨0, 0⟩, args := #[] }]
def about1 : State := aboutOver below0
def p0 : Program := .bare "" "" ""
def e0 : Env := launch0.env 0 0 0
theorem w_frames : about1.frames = Frame.invoking theMethod args0 :: below0 := rfl
set_option maxRecDepth 65536 in
theorem w_args : argsFit about1.vm theMethod args0 = true := by decide +kernel
set_option maxRecDepth 65536 in
theorem w_heap : heapFits about1 = true := by decide +kernel
set_option maxRecDepth 65536 in
theorem w_runnable : about1.curStatus? = some .runnable := by decide +kernel
set_option maxRecDepth 65536 in
theorem w_alone : about1.alone = true := by decide +kernel
set_option maxRecDepth 65536 in
theorem w_named : about1.methodNamed? x = some theMethod := by decide +kernel
set_option maxRecDepth 65536 in
theorem w_hears : about1.hears theMethod below0 = true := by decide +kernel
set_option maxRecDepth 65536 in
theorem w_ripe : about1.ripe theMethod args0 below0 = true := by decide +kernel
theorem w_running : about1.status = .running := rfl
set_option maxRecDepth 65536 in
theorem w_room : about1.hasRoom e0.platform room_1 = true :=
  launch0.hasRoom_least _ room_1 (by decide +kernel) (by decide +kernel) (by decide +kernel) (by decide +kernel) (by decide +kernel) (by decide +kernel)
theorem allAtoms_all (ts : List Jvm.Cond) (a : Array Jvm.Value) (st : Jvm.State) : (allAtoms ts).before a st = ts.all (fun c => c.before a st) := by
  induction ts with
  | nil => rfl
  | cons c t ih =>
    show (Jvm.Cond.and c (allAtoms t)).before a st = _
    rw [Jvm.Cond.before_and, ih, List.all_cons]
def words1 : List Jvm.Cond := Jvm.Cond.code x code maxLocals ret :: tables_1
/-- a 'code' word, met by the world's own term for the bytes: nothing is compared byte by byte -/
theorem code_word {y : MethodName} {bytes : ByteArray} {mx : Nat} {rt : Option FieldType} {a : Array Value} {s : State} {m : MethodId} {meth : Method} {c : Code} (h1 : s.methodNamed? y = some m) (h2 : s.vm.method? m = some meth) (h3 : meth.code = some c) (h4 : c.code = bytes)
    (h5 : (c.maxLocals == mx && c.exceptionTable.isEmpty && decide (c.maxStack ≤ mostOperands) && decide (meth.sig.returnType = rt) && !meth.locks && decide (parseMethodDescriptor y.desc = some meth.sig)) = true) : (Jvm.Cond.code y bytes mx rt).before a s = true := by
  simp only [Bool.and_eq_true, beq_iff_eq, Bool.not_eq_true', decide_eq_true_eq] at h5
  obtain ⟨⟨⟨⟨⟨g1, g2⟩, g3⟩, g4⟩, g5⟩, g6⟩ := h5
  simp [Cond.before, Cond.holds, Cond.value, h1, h2, h3, h4, g1, g2, g3, g4, g5, g6]
def isCode : Jvm.Cond → Bool
  | .code _ _ _ _ => true
  | _ => false
theorem all_split {L : List Jvm.Cond} {P : Jvm.Cond → Bool} (h1 : L.all (fun c => isCode c || P c) = true) (h2 : ∀ c ∈ L.filter isCode, P c = true) : L.all P = true := by
  refine List.all_eq_true.mpr fun c hc => ?_
  have h := List.all_eq_true.mp h1 c hc
  rcases Bool.eq_false_or_eq_true (isCode c) with hi | hi
  · exact h2 c (List.mem_filter.mpr ⟨hc, hi⟩)
  · simpa [hi] using h
set_option maxRecDepth 65536 in
theorem w_c0 : (Jvm.Cond.code x code maxLocals ret).before args0 about1 = true := code_word (m := ⟨1, 3⟩) (meth := k1m3) (c := k1c3) (by decide +kernel) rfl rfl rfl (by decide +kernel)
set_option maxRecDepth 65536 in
theorem w_c1 : (Jvm.Cond.code ({ cls := "com/example/holyrood/holyrood/Utf8", name := "encode", desc := "(I[BI)I" } : Jvm.MethodName) prog_85_method_24_code (3 : Nat) (Option.some Jvm.ClassFile.FieldType.int)).before args0 about1 = true := code_word (m := ⟨2, 2⟩) (meth := k2m2) (c := k2c2) (by decide +kernel) rfl rfl rfl (by decide +kernel)
set_option maxRecDepth 65536 in
theorem w_c2 : (Jvm.Cond.code ({ cls := "com/example/holyrood/holyrood/Utf8EncodePinLaw", name := "continues", desc := "([BIII)Z" } : Jvm.MethodName) method_3_code (4 : Nat) (Option.some Jvm.ClassFile.FieldType.boolean)).before args0 about1 = true := code_word (m := ⟨1, 2⟩) (meth := k1m2) (c := k1c2) (by decide +kernel) rfl rfl rfl (by decide +kernel)
set_option maxRecDepth 65536 in
theorem w_c3 : (Jvm.Cond.code ({ cls := "com/example/holyrood/holyrood/Utf8EncodePinLaw", name := "untouched", desc := "([BIIIB)Z" } : Jvm.MethodName) method_2_code (5 : Nat) (Option.some Jvm.ClassFile.FieldType.boolean)).before args0 about1 = true := code_word (m := ⟨1, 1⟩) (meth := k1m1) (c := k1c1) (by decide +kernel) rfl rfl rfl (by decide +kernel)
set_option maxRecDepth 65536 in
theorem w_c4 : (Jvm.Cond.code ({ cls := "com/example/holyrood/holyrood/Utf8", name := "decode", desc := "([BI)I" } : Jvm.MethodName) prog_85_method_6_code (3 : Nat) (Option.some Jvm.ClassFile.FieldType.int)).before args0 about1 = true := code_word (m := ⟨2, 1⟩) (meth := k2m1) (c := k2c1) (by decide +kernel) rfl rfl rfl (by decide +kernel)
def codes1 : List Jvm.Cond := [Jvm.Cond.code x code maxLocals ret, Jvm.Cond.code ({ cls := "com/example/holyrood/holyrood/Utf8", name := "encode", desc := "(I[BI)I" } : Jvm.MethodName) prog_85_method_24_code (3 : Nat) (Option.some Jvm.ClassFile.FieldType.int), Jvm.Cond.code ({ cls := "com/example/holyrood/holyrood/Utf8EncodePinLaw", name := "continues", desc := "([BIII)Z" } : Jvm.MethodName) method_3_code (4 : Nat) (Option.some Jvm.ClassFile.FieldType.boolean), Jvm.Cond.code ({ cls := "com/example/holyrood/holyrood/Utf8EncodePinLaw", name := "untouched", desc := "([BIIIB)Z" } : Jvm.MethodName) method_2_code (5 : Nat) (Option.some Jvm.ClassFile.FieldType.boolean), Jvm.Cond.code ({ cls := "com/example/holyrood/holyrood/Utf8", name := "decode", desc := "([BI)I" } : Jvm.MethodName) prog_85_method_6_code (3 : Nat) (Option.some Jvm.ClassFile.FieldType.int)]
set_option maxRecDepth 65536 in
theorem codes_eq : words1.filter isCode = codes1 := rfl
theorem w_codes : ∀ c ∈ words1.filter isCode, c.before args0 about1 = true := by
  rw [codes_eq]
  intro c hc
  simp only [codes1, List.mem_cons, List.not_mem_nil, or_false] at hc
  rcases hc with rfl | rfl | rfl | rfl | rfl
  · exact w_c0
  · exact w_c1
  · exact w_c2
  · exact w_c3
  · exact w_c4
set_option maxRecDepth 65536 in
theorem w_t1 : words1.all (fun c => isCode c || c.before args0 about1) = true := by decide +kernel
theorem w_tables : (allAtoms (Jvm.Cond.code x code maxLocals ret :: tables_1)).before args0 about1 = true := by
  rw [allAtoms_all]
  show words1.all (fun c => c.before args0 about1) = true
  refine all_split ?_ w_codes
  rw [w_t1]
set_option maxRecDepth 65536 in
theorem w_case : (Jvm.Cond.and given_1 narrow_1).before args0 about1 = true := by decide +kernel
theorem w_applies : (headSpec (Jvm.Cond.code x code maxLocals ret :: tables_1) room_1).applies x e0.platform about1 = true :=
  (Spec.applies_iff w_frames).mpr ⟨w_running, w_runnable, w_alone, w_named, w_hears, w_ripe, w_room, w_tables⟩
theorem atStart : AtStart classFile x code maxLocals ret World_1 tables_1 room_1 Calls_1 rest_1 Pre_1 launch0 p0 e0 about1 theMethod args0 below0 :=
  ⟨lists_1, trivial, launch0.admits_env _ _ _, launch0.least_env, fairChoices_fair.cas, fairChoices_fair.clock, w_frames, w_args, w_heap, w_applies, trivial, trivial, w_case⟩
end start1
theorem witness_1 : WitnessClaimed_1 := ⟨start1.p0, start1.e0, start1.about1, start1.theMethod, start1.args0, start1.below0, start1.atStart⟩
end Jvm.Pilot.@@N@@
