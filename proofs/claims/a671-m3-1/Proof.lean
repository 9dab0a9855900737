import JvmDerived
import JvmDerived.Pilot.@@N@@Statement
import JvmDerived.Pilot.@@N@@Code
set_option linter.unusedVariables false
set_option linter.unusedSimpArgs false
@@BLOCK:NumsL.lean.txt@@
namespace Jvm.Pilot.@@N@@
open Jvm Jvm.ClassFile Sem Op Lib Jvm.Free Jvm.Stand Jvm.LawKit Jvm.RoadKit Bundle Jvm.Pilot.@@N@@.Jvm.D
section OwnKit
variable {p : Program} {l : Launch} {e : Env} {R : Room} {s : State} {m : MethodId} {args : Array Value} {below : List Frame} {meth : Method} {c : Code} {T T' : State} {locs : List Loc} {cells slots : Nat}
/-- from here the body comes to its end and leaves what Q says -/
def own_W (p : Program) (e : Env) (below : List Frame) (s : State) (k n : Nat) (Q : Option Value → Heap → List Loc → Prop) (T : State) (f : JFrame) : Prop :=
  ∃ s₂ o, Steps p.tables e below (T.setTop f) s₂ ∧ s₂.status = .running ∧ Ended s₂ below o ∧ ∃ v L, o = .returned v ∧ Q v s₂.heap L ∧ FrameEnd s o s₂ L k n
theorem own_st {k n : Nat} {Q : Option Value → Heap → List Loc → Prop} {f f' : JFrame} (w : own_W p e below s k n Q T' f') (h : ∀ t, Steps p.tables e below (T'.setTop f') t → Steps p.tables e below (T.setTop f) t) : own_W p e below s k n Q T f := by
  obtain ⟨s₂, o, h1, r⟩ := w
  exact ⟨s₂, o, h _ h1, r⟩
theorem own_to {k n : Nat} {Q : Option Value → Heap → List Loc → Prop} {f f' : JFrame} (q : f = f') (w : own_W p e below s k n Q T f') : own_W p e below s k n Q T f := q ▸ w
theorem own_ite {k n : Nat} {α : Type} {G : α → Option Value → Heap → List Loc → Prop} {f : JFrame} {A : Prop} [Decidable A] {x y : α} (h1 : A → own_W p e below s k n (G x) T f) (h2 : ¬ A → own_W p e below s k n (G y) T f) : own_W p e below s k n (G (if A then x else y)) T f := by
  by_cases q : A
  · rw [if_pos q]; exact h1 q
  · rw [if_neg q]; exact h2 q
/-- an int is returned, nothing old is written, the heap is as P says -/
def own_GI (n0 : Nat) (P : Heap → Prop) (r : Int32) (v : Option Value) (h : Heap) (L : List Loc) : Prop := v = some (.int r) ∧ Fr n0 L ∧ P h
def own_GJ (n0 : Nat) (P : Heap → Prop) (r : Int64) (v : Option Value) (h : Heap) (L : List Loc) : Prop := v = some (.long r) ∧ Fr n0 L ∧ P h
theorem own_retI {k n : Nat} {Q : Option Value → Heap → List Loc → Prop} (X : Stand p l e R s m args below meth c T locs cells slots) (hx : p.tables.exec = Jvm.exec) (hlk : meth.locks = false) (hret : meth.sig.returnType = some .int) {pc : Nat} {Ls : Array Slot} {z : Int32} {rest : List Value} (hd : decode c.code pc = .ok (.ireturn, 1)) (hk : cells ≤ k) (hn : slots ≤ n) (q : Q (some (.int z)) T.heap locs) : own_W p e below s k n Q T (mkF m pc Ls (.int z :: rest)) := by
  obtain ⟨fs, hr, hrun, hended, hW, hsame⟩ := X.leave (v := some (.int z)) (fun h => by rw [hret] at h; cases h) hlk
  exact ⟨_, _, retOut X hx hret rfl (Or.inl ⟨rfl, Or.inl rfl, z, rfl⟩) hd hr, hrun, hended, _, _, rfl, q, ⟨_, rfl⟩, hW, hsame.mono hk hn⟩
theorem own_retN {k n : Nat} {Q : Option Value → Heap → List Loc → Prop} (X : Stand p l e R s m args below meth c T locs cells slots) (hx : p.tables.exec = Jvm.exec) (hlk : meth.locks = false) {t : FieldType} (hret : meth.sig.returnType = some t) (ht : t = .boolean ∨ t = .byte ∨ t = .char ∨ t = .short) {pc : Nat} {Ls : Array Slot} {z : Int32} {rest : List Value} (hd : decode c.code pc = .ok (.ireturn, 1)) (hk : cells ≤ k) (hn : slots ≤ n) (q : Q (some (.int (nar t z))) T.heap locs) : own_W p e below s k n Q T (mkF m pc Ls (.int z :: rest)) := by
  obtain ⟨fs, hr, hrun, hended, hW, hsame⟩ := X.leave (v := some (.int (nar t z))) (fun h => by rw [hret] at h; cases h) hlk
  exact ⟨_, _, retN X hx hret ht hd hr, hrun, hended, _, _, rfl, q, ⟨_, rfl⟩, hW, hsame.mono hk hn⟩
theorem own_retJ {k n : Nat} {Q : Option Value → Heap → List Loc → Prop} (X : Stand p l e R s m args below meth c T locs cells slots) (hx : p.tables.exec = Jvm.exec) (hlk : meth.locks = false) (hret : meth.sig.returnType = some .long) {pc : Nat} {Ls : Array Slot} {z : Int64} {rest : List Value} (hd : decode c.code pc = .ok (.lreturn, 1)) (hk : cells ≤ k) (hn : slots ≤ n) (q : Q (some (.long z)) T.heap locs) : own_W p e below s k n Q T (mkF m pc Ls (.long z :: rest)) := by
  obtain ⟨fs, hr, hrun, hended, hW, hsame⟩ := X.leave (v := some (.long z)) (fun h => by rw [hret] at h; cases h) hlk
  exact ⟨_, _, retOut X hx hret rfl (Or.inr (Or.inl ⟨rfl, rfl, z, rfl⟩)) hd hr, hrun, hended, _, _, rfl, q, ⟨_, rfl⟩, hW, hsame.mono hk hn⟩
theorem own_retA {k n : Nat} {Q : Option Value → Heap → List Loc → Prop} (X : Stand p l e R s m args below meth c T locs cells slots) (hx : p.tables.exec = Jvm.exec) (hlk : meth.locks = false) {t : FieldType} (hret : meth.sig.returnType = some t) (ht : t.isReference = true) {pc : Nat} {Ls : Array Slot} {z : Addr} {rest : List Value} (hn' : narrow t (.ref z) = .ref z) (hd : decode c.code pc = .ok (.areturn, 1)) (hk : cells ≤ k) (hn : slots ≤ n) (q : Q (some (.ref z)) T.heap locs) : own_W p e below s k n Q T (mkF m pc Ls (.ref z :: rest)) := by
  obtain ⟨fs, hr, hrun, hended, hW, hsame⟩ := X.leave (v := some (.ref z)) (fun h => by rw [hret] at h; cases h) hlk
  exact ⟨_, _, retOut X hx hret hn' (Or.inr (Or.inr (Or.inr (Or.inr ⟨rfl, ht, rfl⟩)))) hd hr, hrun, hended, _, _, rfl, q, ⟨_, rfl⟩, hW, hsame.mono hk hn⟩
theorem own_retV {k n : Nat} {Q : Option Value → Heap → List Loc → Prop} (X : Stand p l e R s m args below meth c T locs cells slots) (hx : p.tables.exec = Jvm.exec) (hlk : meth.locks = false) (hret : meth.sig.returnType = none) {pc : Nat} {Ls : Array Slot} (hd : decode c.code pc = .ok (.return_, 1)) (hk : cells ≤ k) (hn : slots ≤ n) (q : Q none T.heap locs) : own_W p e below s k n Q T (mkF m pc Ls []) := by
  obtain ⟨fs, hr, hrun, hended, hW, hsame⟩ := X.leave (v := none) (fun _ => rfl) hlk
  exact ⟨_, _, X.returnOut hx hret hd hr, hrun, hended, _, _, rfl, q, ⟨_, rfl⟩, hW, hsame.mono hk hn⟩
end OwnKit
section OwnNums
theorem own_rem {x y : Int32} (hx : 0 ≤ x.toInt) (hy : 0 < y.toInt) : (x - (x / y) * y).toInt = x.toInt % y.toInt := by
  have hd : (x / y).toInt = x.toInt.tdiv y.toInt := Jvm.Kit.i32_div (by omega)
  rw [Int.tdiv_eq_ediv_of_nonneg hx] at hd
  have hxl := Int32.toInt_lt x
  have h1 : y.toInt * (x.toInt / y.toInt) + x.toInt % y.toInt = x.toInt := Int.mul_ediv_add_emod x.toInt y.toInt
  have h2 := Int.emod_nonneg x.toInt (by omega : y.toInt ≠ 0)
  have h3 := Int.emod_lt_of_pos x.toInt hy
  have h4 : (x / y).toInt * y.toInt = x.toInt - x.toInt % y.toInt := by rw [hd, Int.mul_comm]; omega
  have h6 := Int.mul_nonneg (Int.le_of_lt hy) (Int.ediv_nonneg hx (Int.le_of_lt hy))
  have h5 : x.toInt % y.toInt ≤ x.toInt := by omega
  have hm : ((x / y) * y).toInt = x.toInt - x.toInt % y.toInt := by
    rw [Jvm.Kit.i32_mul (by omega) (by omega), h4]
  rw [Jvm.Kit.i32_sub (by omega) (by omega), hm]; omega
theorem own_and31 (x : Int32) : (x &&& (2147483647 : Int32)).toInt = x.toInt % 2147483648 := Jvm.Kit.i32_mask x 2147483647 (k := 31) (by decide) (by decide)
theorem own_i8 (x : Int32) : -128 ≤ (x.toInt8.toInt32).toInt ∧ (x.toInt8.toInt32).toInt < 128 := by
  rw [Int8.toInt_toInt32]
  have h1 := Int8.le_toInt x.toInt8
  have h2 := Int8.toInt_lt x.toInt8
  omega
end OwnNums
section OwnArr
variable {p : Program} {l : Launch} {e : Env} {R : Room} {s : State} {m : MethodId} {args : Array Value} {below : List Frame} {meth : Method} {c : Code} {T T' : State} {locs : List Loc} {cells slots : Nat} {Z : State} {h h' : Heap} {a b : Addr} {n : Nat} {f : Nat → Int32} {ty : FieldType}
/-- an array of n places whose i-th holds f i -/
def own_A (Z : State) (h : Heap) (a : Addr) (ty : FieldType) (n : Nat) (f : Nat → Int32) : Prop := ∃ c : Cell, Arr Z h a c ty ∧ c.slots.size = n ∧ ∀ i, i < n → c.slots[i]? = some (.int (f i))
def own_up (f : Nat → Int32) (j : Nat) (x : Int32) : Nat → Int32 := fun i => if i = j then x else f i
def own_in (j : Int32) (n : Nat) : Prop := ¬ j < 0 ∧ j.toNatClampNeg < n
theorem own_A.lt (A : own_A Z h a ty n f) : a < h.size := by obtain ⟨c, A, -⟩ := A; exact A.lt
theorem own_A.ext (A : own_A Z h a ty n f) (E : Ext h h') : own_A Z h' a ty n f := by obtain ⟨c, A, r⟩ := A; exact ⟨c, A.ext E, r⟩
theorem own_A.keep {ws : List Addr} (A : own_A Z h a ty n f) (K : Keep h h' ws) (q : a ∉ ws) : own_A Z h' a ty n f := by obtain ⟨c, A, r⟩ := A; exact ⟨c, ⟨K.2.1 a c A.1 q, A.2⟩, r⟩
theorem own_A.eq (A : own_A Z h a ty n f) (q : h' = h) : own_A Z h' a ty n f := q ▸ A
theorem own_A.set {j : Nat} {x : Int32} (A : own_A Z h a ty n f) (W : Wr h h' a j (.int x)) : own_A Z h' a ty n (own_up f j x) := by
  obtain ⟨cl, Ar, S, H⟩ := A
  refine ⟨_, Ar.same W, by rw [sz_set]; exact S, fun i hi => ?_⟩
  show (cl.slots.setIfInBounds j (.int x))[i]? = _
  unfold own_up
  by_cases q : i = j
  · subst q
    rw [if_pos rfl, Array.getElem?_setIfInBounds_self_of_lt (by omega)]
  · rw [if_neg q, Array.getElem?_setIfInBounds_ne (fun z => q z.symm)]; exact H i hi
theorem own_bald {k n' : Nat} {Q : Option Value → Heap → List Loc → Prop} (X : Stand p l e R s m args below meth c T locs cells slots) (hx : p.tables.exec = Jvm.exec) (hZ : Z.Warmed39 s.vm) (A : own_A Z T.heap a .byte n f) {j : Int32} (hj : own_in j n) {pc : Nat} {Ls : Array Slot} {rest : List Value} (hd : decode c.code pc = .ok (.baload, 1)) (w : own_W p e below s k n' Q T (mkF m (pc + 1) Ls (.int (f j.toNatClampNeg) :: rest))) : own_W p e below s k n' Q T (mkF m pc Ls (.int j :: .ref a :: rest)) := by
  obtain ⟨cl, Ar, S, H⟩ := A
  refine own_st w (fun t q => X.baloadBytes hx (j := j) (v := .int (f j.toNatClampNeg)) Ar.1 (State.isArrayOf_alike hZ.alike Ar.2.1) Ar.2.2 (fun u => u.elim hj.1 (fun u => absurd hj.2 (by omega))) (H _ hj.2) (g := mkF m pc Ls (.int j :: .ref a :: rest)) rfl rfl hd _ q)
theorem own_iald {k n' : Nat} {Q : Option Value → Heap → List Loc → Prop} (X : Stand p l e R s m args below meth c T locs cells slots) (hx : p.tables.exec = Jvm.exec) (hZ : Z.Warmed39 s.vm) (A : own_A Z T.heap a .int n f) {j : Int32} (hj : own_in j n) {pc : Nat} {Ls : Array Slot} {rest : List Value} (hd : decode c.code pc = .ok (.iaload, 1)) (w : own_W p e below s k n' Q T (mkF m (pc + 1) Ls (.int (f j.toNatClampNeg) :: rest))) : own_W p e below s k n' Q T (mkF m pc Ls (.int j :: .ref a :: rest)) := by
  obtain ⟨cl, Ar, S, H⟩ := A
  refine own_st w (fun t q => X.iaload hx (j := j) (v := .int (f j.toNatClampNeg)) Ar.1 (State.isArrayOf_alike hZ.alike Ar.2.1) Ar.2.2 (fun u => u.elim hj.1 (fun u => absurd hj.2 (by omega))) (H _ hj.2) (g := mkF m pc Ls (.int j :: .ref a :: rest)) rfl rfl hd _ q)
theorem own_alen {k n' : Nat} {Q : Option Value → Heap → List Loc → Prop} (X : Stand p l e R s m args below meth c T locs cells slots) (hx : p.tables.exec = Jvm.exec) (hZ : Z.Warmed39 s.vm) (A : own_A Z T.heap a ty n f) {pc : Nat} {Ls : Array Slot} {rest : List Value} (hd : decode c.code pc = .ok (.arraylength, 1)) (w : own_W p e below s k n' Q T (mkF m (pc + 1) Ls (.int (Int32.ofNat n) :: rest))) : own_W p e below s k n' Q T (mkF m pc Ls (.ref a :: rest)) := by
  obtain ⟨cl, Ar, S, H⟩ := A
  subst S
  exact own_st w (fun t q => X.arraylength hx (cell := cl) Ar.1 (State.isArrayOf_alike hZ.alike Ar.2.1) (g := mkF m pc Ls (.ref a :: rest)) rfl (rest := rest) rfl hd _ q)
theorem own_bast {k n' : Nat} {Q : Option Value → Heap → List Loc → Prop} (X : Stand p l e R s m args below meth c T locs cells slots) (hx : p.tables.exec = Jvm.exec) (hZ : Z.Warmed39 s.vm) (A : own_A Z T.heap a .byte n f) {j x : Int32} (hj : own_in j n) {pc : Nat} {Ls : Array Slot} {rest : List Value} (hd : decode c.code pc = .ok (.bastore, 1)) {n0 : Nat} (N : Fr n0 locs) (g : n0 ≤ a)
    (w : ∀ (T' : State) (locs' : List Loc), Stand p l e R s m args below meth c T' locs' cells slots → Fr n0 locs' → Keep T.heap T'.heap [a] → own_A Z T'.heap a .byte n (own_up f j.toNatClampNeg (nar .byte x)) → own_W p e below s k n' Q T' (mkF m (pc + 1) Ls rest)) : own_W p e below s k n' Q T (mkF m pc Ls (.int x :: .int j :: .ref a :: rest)) := by
  obtain ⟨cl, Ar, S, H⟩ := A
  obtain ⟨T', h', X', e', W', st⟩ := stB X hx hZ rfl Ar (j := j) (x := x) (fun u => u.elim hj.1 (fun u => absurd hj.2 (by omega))) (g := mkF m pc Ls (.int x :: .int j :: .ref a :: rest)) rfl rfl hd
  subst e'
  exact own_st (w T' _ X' (Fr.snoc X' N g) (Keep.of_wr W') (own_A.set ⟨cl, Ar, S, H⟩ W')) (fun t q => st _ q)
theorem own_iast {k n' : Nat} {Q : Option Value → Heap → List Loc → Prop} (X : Stand p l e R s m args below meth c T locs cells slots) (hx : p.tables.exec = Jvm.exec) (hZ : Z.Warmed39 s.vm) (A : own_A Z T.heap a .int n f) {j x : Int32} (hj : own_in j n) {pc : Nat} {Ls : Array Slot} {rest : List Value} (hd : decode c.code pc = .ok (.iastore, 1)) {n0 : Nat} (N : Fr n0 locs) (g : n0 ≤ a)
    (w : ∀ (T' : State) (locs' : List Loc), Stand p l e R s m args below meth c T' locs' cells slots → Fr n0 locs' → Keep T.heap T'.heap [a] → own_A Z T'.heap a .int n (own_up f j.toNatClampNeg x) → own_W p e below s k n' Q T' (mkF m (pc + 1) Ls rest)) : own_W p e below s k n' Q T (mkF m pc Ls (.int x :: .int j :: .ref a :: rest)) := by
  obtain ⟨cl, Ar, S, H⟩ := A
  obtain ⟨T', h', X', e', W', st⟩ := stI X hx hZ rfl Ar (j := j) (x := x) (fun u => u.elim hj.1 (fun u => absurd hj.2 (by omega))) (g := mkF m pc Ls (.int x :: .int j :: .ref a :: rest)) rfl rfl hd
  subst e'
  exact own_st (w T' _ X' (Fr.snoc X' N g) (Keep.of_wr W') (own_A.set ⟨cl, Ar, S, H⟩ W')) (fun t q => st _ q)
theorem own_newB {k n' : Nat} {Q : Option Value → Heap → List Loc → Prop} {a0 : Array Value} (X : Stand p l e R s m args below meth c T locs cells slots) (hx : p.tables.exec = Jvm.exec) (hZ : Z.Warmed39 s.vm) (wd : (Jvm.Cond.arrayClass .byte).before a0 Z = true) {z : Int32} (hz : ¬ z < 0) {cap : Nat} (hcap : z.toNatClampNeg ≤ cap) (hb8 : cap * 8 ≤ 536870912) (hc : cells + 1 ≤ R.cells) (hl : slots + cap ≤ R.slots) {pc : Nat} {Ls : Array Slot} {rest : List Value} (hd : decode c.code pc = .ok (.newarray .byte, 2))
    (w : ∀ (T' : State) (b : Addr), Stand p l e R s m args below meth c T' locs (cells + 1) (slots + cap) → T.heap.size ≤ b → Ext T.heap T'.heap → own_A Z T'.heap b .byte z.toNatClampNeg (fun _ => 0) → own_W p e below s k n' Q T' (mkF m (pc + 2) Ls (.ref b :: rest))) : own_W p e below s k n' Q T (mkF m pc Ls (.int z :: rest)) := by
  obtain ⟨T', h', cA, X', e', E', A', st⟩ := newP X hx hZ (aty := .byte) wd rfl (g := mkF m pc Ls (.int z :: rest)) rfl hd rfl hz hcap hb8 hc hl
  subst e'
  refine own_st (w T' _ X' (Nat.le_refl _) E' ⟨_, A', sz_new _ _ _, fun i hi => ?_⟩) (fun t q => st _ q)
  show (Array.replicate z.toNatClampNeg (defaultValue .byte))[i]? = _
  simp [hi]; rfl
theorem own_newI {k n' : Nat} {Q : Option Value → Heap → List Loc → Prop} {a0 : Array Value} (X : Stand p l e R s m args below meth c T locs cells slots) (hx : p.tables.exec = Jvm.exec) (hZ : Z.Warmed39 s.vm) (wd : (Jvm.Cond.arrayClass .int).before a0 Z = true) {z : Int32} (hz : ¬ z < 0) {cap : Nat} (hcap : z.toNatClampNeg ≤ cap) (hb8 : cap * 8 ≤ 536870912) (hc : cells + 1 ≤ R.cells) (hl : slots + cap ≤ R.slots) {pc : Nat} {Ls : Array Slot} {rest : List Value} (hd : decode c.code pc = .ok (.newarray .int, 2))
    (w : ∀ (T' : State) (b : Addr), Stand p l e R s m args below meth c T' locs (cells + 1) (slots + cap) → T.heap.size ≤ b → Ext T.heap T'.heap → own_A Z T'.heap b .int z.toNatClampNeg (fun _ => 0) → own_W p e below s k n' Q T' (mkF m (pc + 2) Ls (.ref b :: rest))) : own_W p e below s k n' Q T (mkF m pc Ls (.int z :: rest)) := by
  obtain ⟨T', h', cA, X', e', E', A', st⟩ := newP X hx hZ (aty := .int) wd rfl (g := mkF m pc Ls (.int z :: rest)) rfl hd rfl hz hcap hb8 hc hl
  subst e'
  refine own_st (w T' _ X' (Nat.le_refl _) E' ⟨_, A', sz_new _ _ _, fun i hi => ?_⟩) (fun t q => st _ q)
  show (Array.replicate z.toNatClampNeg (defaultValue .int))[i]? = _
  simp [hi]; rfl
end OwnArr
section OwnIdx
theorem own_idx {j e : Int32} {n : Nat} (h0 : ¬ j < 0) (h : j < e) (he : e.toNatClampNeg ≤ n) : own_in j n := by
  refine ⟨h0, ?_⟩
  simp only [Int32.lt_iff_toInt_lt, Int32.toNatClampNeg, Int32.reduceToInt] at *
  omega
theorem own_inc {i e : Int32} (h : i < e) : (i + 1).toInt = i.toInt + 1 := by
  have h1 := Int32.toInt_lt e
  have h2 := Int32.le_toInt i
  have k : (1 : Int32).toInt = 1 := rfl
  rw [Int32.lt_iff_toInt_lt] at h
  rw [Jvm.Kit.i32_add (by omega) (by omega), k]
theorem own_back {i e : Int32} {k : Nat} (h : i < e) (hk : (e.toInt - i.toInt).toNat < k + 1) : (e.toInt - (i + 1).toInt).toNat < k := by
  rw [own_inc h]
  rw [Int32.lt_iff_toInt_lt] at h
  omega
theorem own_nn {i e : Int32} (h : i < e) (h0 : ¬ i < 0) : ¬ (i + 1) < 0 := by
  have k : (0 : Int32).toInt = 0 := rfl
  rw [Int32.lt_iff_toInt_lt, k] at h0 ⊢
  rw [own_inc h]
  omega
end OwnIdx
section OwnIdx2
theorem own_ge {z k : Int32} {j : Nat} (h : ¬ z < k) (hk : k.toInt = j + 1) : j < z.toNatClampNeg := by
  rw [Int32.lt_iff_toInt_lt] at h
  rw [Int32.toNatClampNeg]; omega
theorem own_ofN {n : Nat} (h : n < 2147483648) : (Int32.ofNat n).toInt = n := Int32.toInt_ofNat_of_lt (by omega)
theorem own_ofC {n : Nat} (h : n < 2147483648) : (Int32.ofNat n).toNatClampNeg = n := by rw [Int32.toNatClampNeg, own_ofN h]; omega
theorem own_cof {z : Int32} (h : 0 ≤ z.toInt) : Int32.ofNat z.toNatClampNeg = z := by
  have h2 := Int32.toInt_lt z
  apply Int32.toInt_inj.mp
  rw [Int32.toNatClampNeg, own_ofN (by omega)]; omega
abbrev own_r (p d : Int32) : Int32 := (p &&& (2147483647 : Int32)) - ((p &&& (2147483647 : Int32)) / d) * d
theorem own_rb (p d : Int32) (hd : 0 < d.toInt) : 0 ≤ (own_r p d).toInt ∧ (own_r p d).toInt < d.toInt := by
  have h : (own_r p d).toInt = (p.toInt % 2147483648) % d.toInt := by
    rw [own_rem (by rw [own_and31]; omega) hd, own_and31]
  rw [h]
  exact ⟨Int.emod_nonneg _ (by omega), Int.emod_lt_of_pos _ hd⟩
end OwnIdx2
section OwnUtf
theorem own_k0 : (0 : Int32).toInt = 0 := rfl
theorem own_k1 : (1 : Int32).toInt = 1 := rfl
theorem own_k2 : (2 : Int32).toInt = 2 := rfl
theorem own_k3 : (3 : Int32).toInt = 3 := rfl
theorem own_at0 {a : Int32} {n : Nat} (h : ¬ a < 0) (h' : a.toInt + 3 < n) (hn : n ≤ 8) : own_in a n := by
  refine ⟨h, ?_⟩
  rw [Int32.lt_iff_toInt_lt, own_k0] at h
  rw [Int32.toNatClampNeg]; omega
theorem own_at1 {a : Int32} {n : Nat} (h : ¬ a < 0) (h' : a.toInt + 3 < n) (hn : n ≤ 8) : own_in (a + 1) n := by
  rw [Int32.lt_iff_toInt_lt, own_k0] at h
  have e : (a + 1).toInt = a.toInt + 1 := Jvm.Kit.i32_add (by rw [own_k1]; omega) (by rw [own_k1]; omega)
  refine ⟨by rw [Int32.lt_iff_toInt_lt, own_k0]; omega, ?_⟩
  rw [Int32.toNatClampNeg]; omega
theorem own_at2 {a : Int32} {n : Nat} (h : ¬ a < 0) (h' : a.toInt + 3 < n) (hn : n ≤ 8) : own_in (a + 2) n := by
  rw [Int32.lt_iff_toInt_lt, own_k0] at h
  have e : (a + 2).toInt = a.toInt + 2 := Jvm.Kit.i32_add (by rw [own_k2]; omega) (by rw [own_k2]; omega)
  refine ⟨by rw [Int32.lt_iff_toInt_lt, own_k0]; omega, ?_⟩
  rw [Int32.toNatClampNeg]; omega
theorem own_at3 {a : Int32} {n : Nat} (h : ¬ a < 0) (h' : a.toInt + 3 < n) (hn : n ≤ 8) : own_in (a + 3) n := by
  rw [Int32.lt_iff_toInt_lt, own_k0] at h
  have e : (a + 3).toInt = a.toInt + 3 := Jvm.Kit.i32_add (by rw [own_k3]; omega) (by rw [own_k3]; omega)
  refine ⟨by rw [Int32.lt_iff_toInt_lt, own_k0]; omega, ?_⟩
  rw [Int32.toNatClampNeg]; omega
theorem own_and3 (x : Int32) : (x &&& (3 : Int32)).toInt = x.toInt % 4 := Jvm.Kit.i32_mask x 3 (k := 2) (by decide) (by decide)
theorem own_a1 (x : Int32) : ¬ (x &&& (3 : Int32)) < 0 := by
  rw [Int32.lt_iff_toInt_lt, own_k0, own_and3]; omega
theorem own_a2 (x : Int32) : (x &&& (3 : Int32)).toInt + 3 < ((8 : Nat) : Int) := by
  rw [own_and3]; omega
end OwnUtf
section OwnUtf2
theorem own_nat {x : Int32} (h : 0 ≤ x.toInt) : (x.toBitVec.toNat : Int) = x.toInt := by
  have h' : 0 ≤ x.toBitVec.toInt := h
  show _ = x.toBitVec.toInt
  have hl := x.toBitVec.isLt
  rw [BitVec.toInt_eq_toNat_cond] at h' ⊢
  split at h'
  · rw [if_pos ‹_›]
  · omega
theorem own_small {x : Int32} (h : x.toBitVec.toNat < 2147483648) : x.toInt = x.toBitVec.toNat := by
  show x.toBitVec.toInt = _
  rw [BitVec.toInt_eq_toNat_cond, if_pos (by omega)]
theorem own_or {x y : Int32} (k : Nat) (hx : 0 ≤ x.toInt) (hm : x.toInt % ((2 ^ k : Nat) : Int) = 0) (hy0 : 0 ≤ y.toInt) (hy : y.toInt < ((2 ^ k : Nat) : Int)) (hs : x.toInt + y.toInt < 2147483648) : (x ||| y).toInt = x.toInt + y.toInt := by
  have nx := own_nat hx
  have ny := own_nat hy0
  have e : (x ||| y).toBitVec.toNat = x.toBitVec.toNat + y.toBitVec.toNat := by
    rw [Int32.toBitVec_or, BitVec.toNat_or]
    have hm' : x.toBitVec.toNat % 2 ^ k = 0 := by
      rw [← nx] at hm
      exact_mod_cast hm
    have hy' : y.toBitVec.toNat < 2 ^ k := by
      rw [← ny] at hy
      exact_mod_cast hy
    have q : x.toBitVec.toNat = (x.toBitVec.toNat / 2 ^ k) <<< k := by
      rw [Nat.shiftLeft_eq]
      exact (Nat.div_mul_cancel (Nat.dvd_of_mod_eq_zero hm')).symm
    rw [q]
    exact (Nat.shiftLeft_add_eq_or_of_lt hy' _).symm
  rw [own_small (by omega), e]
  omega
theorem own_div {x y : Int32} (hx : 0 ≤ x.toInt) (hy : 0 < y.toInt) : (x / y).toInt = x.toInt / y.toInt := by
  rw [Jvm.Kit.i32_div (by omega), Int.tdiv_eq_ediv_of_nonneg hx]
theorem own_byte (v : Int32) : (nar .byte (v.toInt8.toInt32)).toInt = v.toInt.bmod 256 := by
  show (v.toInt8.toInt32.toInt8.toInt32).toInt = _
  rw [Int8.toInt8_toInt32, Int8.toInt_toInt32, Int32.toInt_toInt8]
theorem own_byteN {v : Int32} (h1 : 128 ≤ v.toInt) (h2 : v.toInt < 256) : (nar .byte (v.toInt8.toInt32)).toInt = v.toInt - 256 := by
  rw [own_byte, Int.bmod_def]; split <;> omega
theorem own_byteP {v : Int32} (h1 : 0 ≤ v.toInt) (h2 : v.toInt < 128) : (nar .byte (v.toInt8.toInt32)).toInt = v.toInt := by
  rw [own_byte, Int.bmod_def]; split <;> omega
theorem own_224a : ∀ i : Fin 64, ((Int32.ofInt ((i.val : Int) - 64) &&& 224) = 192) ↔ i.val < 32 := by decide +kernel
theorem own_240a : ∀ i : Fin 64, ((Int32.ofInt ((i.val : Int) - 64) &&& 240) = 224) ↔ (32 ≤ i.val ∧ i.val < 48) := by decide +kernel
theorem own_isF {x : Int32} (h1 : -64 ≤ x.toInt) (h2 : x.toInt < 0) : ∃ i : Fin 64, x = Int32.ofInt ((i.val : Int) - 64) ∧ (i.val : Int) = x.toInt + 64 := by
  refine ⟨⟨(x.toInt + 64).toNat, by omega⟩, ?_, ?_⟩
  · show x = Int32.ofInt (((x.toInt + 64).toNat : Int) - 64)
    rw [show (((x.toInt + 64).toNat : Int) - 64) = x.toInt by omega, Int32.ofInt_toInt]
  · show (((x.toInt + 64).toNat : Nat) : Int) = _
    omega
theorem own_224 {x : Int32} (h1 : -64 ≤ x.toInt) (h2 : x.toInt < 0) : ((x &&& 224) = 192) ↔ x.toInt < -32 := by
  obtain ⟨i, e, f⟩ := own_isF h1 h2
  have := own_224a i
  rw [← e] at this
  rw [this]; omega
theorem own_240 {x : Int32} (h1 : -64 ≤ x.toInt) (h2 : x.toInt < 0) : ((x &&& 240) = 224) ↔ (-32 ≤ x.toInt ∧ x.toInt < -16) := by
  obtain ⟨i, e, f⟩ := own_isF h1 h2
  have := own_240a i
  rw [← e] at this
  rw [this]; omega
theorem own_m63 (x : Int32) : (x &&& (63 : Int32)).toInt = x.toInt % 64 := Jvm.Kit.i32_mask x 63 (k := 6) (by decide) (by decide)
theorem own_m31 (x : Int32) : (x &&& (31 : Int32)).toInt = x.toInt % 32 := Jvm.Kit.i32_mask x 31 (k := 5) (by decide) (by decide)
theorem own_m15 (x : Int32) : (x &&& (15 : Int32)).toInt = x.toInt % 16 := Jvm.Kit.i32_mask x 15 (k := 4) (by decide) (by decide)
theorem own_m7 (x : Int32) : (x &&& (7 : Int32)).toInt = x.toInt % 8 := Jvm.Kit.i32_mask x 7 (k := 3) (by decide) (by decide)
theorem own_s6 {x : Int32} (h1 : 0 ≤ x.toInt) (h2 : x.toInt < 8192) : (x <<< ((6 : Int32) &&& 31)).toInt = x.toInt * 64 := Jvm.Kit.i32_shl x _ (k := 6) (by decide) (by omega) (by omega)
theorem own_s12 {x : Int32} (h1 : 0 ≤ x.toInt) (h2 : x.toInt < 8192) : (x <<< ((12 : Int32) &&& 31)).toInt = x.toInt * 4096 := Jvm.Kit.i32_shl x _ (k := 12) (by decide) (by omega) (by omega)
theorem own_s18 {x : Int32} (h1 : 0 ≤ x.toInt) (h2 : x.toInt < 8192) : (x <<< ((18 : Int32) &&& 31)).toInt = x.toInt * 262144 := Jvm.Kit.i32_shl x _ (k := 18) (by decide) (by omega) (by omega)
end OwnUtf2
theorem d1_0 : decode prog_85_method_6_code 0 = .ok (.aload_n 0, 1) := by decide +kernel
theorem d1_1 : decode prog_85_method_6_code 1 = .ok (.iload_n 1, 1) := by decide +kernel
theorem d1_2 : decode prog_85_method_6_code 2 = .ok (.baload, 1) := by decide +kernel
theorem d1_3 : decode prog_85_method_6_code 3 = .ok (.istore_n 2, 1) := by decide +kernel
theorem d1_4 : decode prog_85_method_6_code 4 = .ok (.iload_n 2, 1) := by decide +kernel
theorem d1_5 : decode prog_85_method_6_code 5 = .ok (.ifCond .lt 5, 3) := by decide +kernel
theorem d1_8 : decode prog_85_method_6_code 8 = .ok (.iload_n 2, 1) := by decide +kernel
theorem d1_9 : decode prog_85_method_6_code 9 = .ok (.ireturn, 1) := by decide +kernel
theorem d1_10 : decode prog_85_method_6_code 10 = .ok (.iload_n 2, 1) := by decide +kernel
theorem d1_11 : decode prog_85_method_6_code 11 = .ok (.sipush 224, 3) := by decide +kernel
theorem d1_14 : decode prog_85_method_6_code 14 = .ok (.iand, 1) := by decide +kernel
theorem d1_15 : decode prog_85_method_6_code 15 = .ok (.sipush 192, 3) := by decide +kernel
theorem d1_18 : decode prog_85_method_6_code 18 = .ok (.if_icmp .ne 20, 3) := by decide +kernel
theorem d1_21 : decode prog_85_method_6_code 21 = .ok (.iload_n 2, 1) := by decide +kernel
theorem d1_22 : decode prog_85_method_6_code 22 = .ok (.bipush 31, 2) := by decide +kernel
theorem d1_24 : decode prog_85_method_6_code 24 = .ok (.iand, 1) := by decide +kernel
theorem d1_25 : decode prog_85_method_6_code 25 = .ok (.bipush 6, 2) := by decide +kernel
theorem d1_27 : decode prog_85_method_6_code 27 = .ok (.ishl, 1) := by decide +kernel
theorem d1_28 : decode prog_85_method_6_code 28 = .ok (.aload_n 0, 1) := by decide +kernel
theorem d1_29 : decode prog_85_method_6_code 29 = .ok (.iload_n 1, 1) := by decide +kernel
theorem d1_30 : decode prog_85_method_6_code 30 = .ok (.iconst 1, 1) := by decide +kernel
theorem d1_31 : decode prog_85_method_6_code 31 = .ok (.iadd, 1) := by decide +kernel
theorem d1_32 : decode prog_85_method_6_code 32 = .ok (.baload, 1) := by decide +kernel
theorem d1_33 : decode prog_85_method_6_code 33 = .ok (.bipush 63, 2) := by decide +kernel
theorem d1_35 : decode prog_85_method_6_code 35 = .ok (.iand, 1) := by decide +kernel
theorem d1_36 : decode prog_85_method_6_code 36 = .ok (.ior, 1) := by decide +kernel
theorem d1_37 : decode prog_85_method_6_code 37 = .ok (.ireturn, 1) := by decide +kernel
theorem d1_38 : decode prog_85_method_6_code 38 = .ok (.iload_n 2, 1) := by decide +kernel
theorem d1_39 : decode prog_85_method_6_code 39 = .ok (.sipush 240, 3) := by decide +kernel
theorem d1_42 : decode prog_85_method_6_code 42 = .ok (.iand, 1) := by decide +kernel
theorem d1_43 : decode prog_85_method_6_code 43 = .ok (.sipush 224, 3) := by decide +kernel
theorem d1_46 : decode prog_85_method_6_code 46 = .ok (.if_icmp .ne 32, 3) := by decide +kernel
theorem d1_49 : decode prog_85_method_6_code 49 = .ok (.iload_n 2, 1) := by decide +kernel
theorem d1_50 : decode prog_85_method_6_code 50 = .ok (.bipush 15, 2) := by decide +kernel
theorem d1_52 : decode prog_85_method_6_code 52 = .ok (.iand, 1) := by decide +kernel
theorem d1_53 : decode prog_85_method_6_code 53 = .ok (.bipush 12, 2) := by decide +kernel
theorem d1_55 : decode prog_85_method_6_code 55 = .ok (.ishl, 1) := by decide +kernel
theorem d1_56 : decode prog_85_method_6_code 56 = .ok (.aload_n 0, 1) := by decide +kernel
theorem d1_57 : decode prog_85_method_6_code 57 = .ok (.iload_n 1, 1) := by decide +kernel
theorem d1_58 : decode prog_85_method_6_code 58 = .ok (.iconst 1, 1) := by decide +kernel
theorem d1_59 : decode prog_85_method_6_code 59 = .ok (.iadd, 1) := by decide +kernel
theorem d1_60 : decode prog_85_method_6_code 60 = .ok (.baload, 1) := by decide +kernel
theorem d1_61 : decode prog_85_method_6_code 61 = .ok (.bipush 63, 2) := by decide +kernel
theorem d1_63 : decode prog_85_method_6_code 63 = .ok (.iand, 1) := by decide +kernel
theorem d1_64 : decode prog_85_method_6_code 64 = .ok (.bipush 6, 2) := by decide +kernel
theorem d1_66 : decode prog_85_method_6_code 66 = .ok (.ishl, 1) := by decide +kernel
theorem d1_67 : decode prog_85_method_6_code 67 = .ok (.ior, 1) := by decide +kernel
theorem d1_68 : decode prog_85_method_6_code 68 = .ok (.aload_n 0, 1) := by decide +kernel
theorem d1_69 : decode prog_85_method_6_code 69 = .ok (.iload_n 1, 1) := by decide +kernel
theorem d1_70 : decode prog_85_method_6_code 70 = .ok (.iconst 2, 1) := by decide +kernel
theorem d1_71 : decode prog_85_method_6_code 71 = .ok (.iadd, 1) := by decide +kernel
theorem d1_72 : decode prog_85_method_6_code 72 = .ok (.baload, 1) := by decide +kernel
theorem d1_73 : decode prog_85_method_6_code 73 = .ok (.bipush 63, 2) := by decide +kernel
theorem d1_75 : decode prog_85_method_6_code 75 = .ok (.iand, 1) := by decide +kernel
theorem d1_76 : decode prog_85_method_6_code 76 = .ok (.ior, 1) := by decide +kernel
theorem d1_77 : decode prog_85_method_6_code 77 = .ok (.ireturn, 1) := by decide +kernel
theorem d1_78 : decode prog_85_method_6_code 78 = .ok (.iload_n 2, 1) := by decide +kernel
theorem d1_79 : decode prog_85_method_6_code 79 = .ok (.bipush 7, 2) := by decide +kernel
theorem d1_81 : decode prog_85_method_6_code 81 = .ok (.iand, 1) := by decide +kernel
theorem d1_82 : decode prog_85_method_6_code 82 = .ok (.bipush 18, 2) := by decide +kernel
theorem d1_84 : decode prog_85_method_6_code 84 = .ok (.ishl, 1) := by decide +kernel
theorem d1_85 : decode prog_85_method_6_code 85 = .ok (.aload_n 0, 1) := by decide +kernel
theorem d1_86 : decode prog_85_method_6_code 86 = .ok (.iload_n 1, 1) := by decide +kernel
theorem d1_87 : decode prog_85_method_6_code 87 = .ok (.iconst 1, 1) := by decide +kernel
theorem d1_88 : decode prog_85_method_6_code 88 = .ok (.iadd, 1) := by decide +kernel
theorem d1_89 : decode prog_85_method_6_code 89 = .ok (.baload, 1) := by decide +kernel
theorem d1_90 : decode prog_85_method_6_code 90 = .ok (.bipush 63, 2) := by decide +kernel
theorem d1_92 : decode prog_85_method_6_code 92 = .ok (.iand, 1) := by decide +kernel
theorem d1_93 : decode prog_85_method_6_code 93 = .ok (.bipush 12, 2) := by decide +kernel
theorem d1_95 : decode prog_85_method_6_code 95 = .ok (.ishl, 1) := by decide +kernel
theorem d1_96 : decode prog_85_method_6_code 96 = .ok (.ior, 1) := by decide +kernel
theorem d1_97 : decode prog_85_method_6_code 97 = .ok (.aload_n 0, 1) := by decide +kernel
theorem d1_98 : decode prog_85_method_6_code 98 = .ok (.iload_n 1, 1) := by decide +kernel
theorem d1_99 : decode prog_85_method_6_code 99 = .ok (.iconst 2, 1) := by decide +kernel
theorem d1_100 : decode prog_85_method_6_code 100 = .ok (.iadd, 1) := by decide +kernel
theorem d1_101 : decode prog_85_method_6_code 101 = .ok (.baload, 1) := by decide +kernel
theorem d1_102 : decode prog_85_method_6_code 102 = .ok (.bipush 63, 2) := by decide +kernel
theorem d1_104 : decode prog_85_method_6_code 104 = .ok (.iand, 1) := by decide +kernel
theorem d1_105 : decode prog_85_method_6_code 105 = .ok (.bipush 6, 2) := by decide +kernel
theorem d1_107 : decode prog_85_method_6_code 107 = .ok (.ishl, 1) := by decide +kernel
theorem d1_108 : decode prog_85_method_6_code 108 = .ok (.ior, 1) := by decide +kernel
theorem d1_109 : decode prog_85_method_6_code 109 = .ok (.aload_n 0, 1) := by decide +kernel
theorem d1_110 : decode prog_85_method_6_code 110 = .ok (.iload_n 1, 1) := by decide +kernel
theorem d1_111 : decode prog_85_method_6_code 111 = .ok (.iconst 3, 1) := by decide +kernel
theorem d1_112 : decode prog_85_method_6_code 112 = .ok (.iadd, 1) := by decide +kernel
theorem d1_113 : decode prog_85_method_6_code 113 = .ok (.baload, 1) := by decide +kernel
theorem d1_114 : decode prog_85_method_6_code 114 = .ok (.bipush 63, 2) := by decide +kernel
theorem d1_116 : decode prog_85_method_6_code 116 = .ok (.iand, 1) := by decide +kernel
theorem d1_117 : decode prog_85_method_6_code 117 = .ok (.ior, 1) := by decide +kernel
theorem d1_118 : decode prog_85_method_6_code 118 = .ok (.ireturn, 1) := by decide +kernel
theorem pn_1 : plainFor (⟨"com/example/holyrood/holyrood/Utf8", "decode", "([BI)I"⟩ : MethodName) = true := by first | exact plainFor_of_name (by first | (simp [plainName, overriddenIn]; done) | decide +kernel) | decide +kernel
theorem ef_1 (m : MethodId) (x0 : Addr) (x1 : Int32) : entryFrame m #[(.ref x0), (.int x1)] 3 = mkF m 0 #[.val (.ref x0), .val (.int x1), .unset] [] := by first | (simp [entryFrame, mkF, argsToLocals, Value.category, maxLocals]; done) | rfl
def f1 (p1 : Int32) (F : Nat → Int32) : Int32 := (if (F p1.toNatClampNeg) < (0 : Int32) then (if ((F p1.toNatClampNeg) &&& (224 : Int32)) = (192 : Int32) then ((((F p1.toNatClampNeg) &&& (31 : Int32)) <<< ((6 : Int32) &&& 31)) ||| ((F (p1 + (1 : Int32)).toNatClampNeg) &&& (63 : Int32))) else (if ((F p1.toNatClampNeg) &&& (240 : Int32)) = (224 : Int32) then (((((F p1.toNatClampNeg) &&& (15 : Int32)) <<< ((12 : Int32) &&& 31)) ||| (((F (p1 + (1 : Int32)).toNatClampNeg) &&& (63 : Int32)) <<< ((6 : Int32) &&& 31))) ||| ((F (p1 + (2 : Int32)).toNatClampNeg) &&& (63 : Int32))) else ((((((F p1.toNatClampNeg) &&& (7 : Int32)) <<< ((18 : Int32) &&& 31)) ||| (((F (p1 + (1 : Int32)).toNatClampNeg) &&& (63 : Int32)) <<< ((12 : Int32) &&& 31))) ||| (((F (p1 + (2 : Int32)).toNatClampNeg) &&& (63 : Int32)) <<< ((6 : Int32) &&& 31))) ||| ((F (p1 + (3 : Int32)).toNatClampNeg) &&& (63 : Int32))))) else (F p1.toNatClampNeg))
theorem own_d0 (a : Int32) (F : Nat → Int32) {x : Int32} (hx : F a.toNatClampNeg = x) (ex : 0 ≤ x.toInt) : f1 a F = x := by
  unfold f1
  rw [hx, if_neg (by rw [Int32.lt_iff_toInt_lt, own_k0]; omega)]
theorem own_d1 (a : Int32) (F : Nat → Int32) {x y : Int32} (hx : F a.toNatClampNeg = x) (hy : F (a + 1).toNatClampNeg = y) (q s : Int) (h0 : 0 ≤ q) (h1 : q < 32) (ex : x.toInt = q - 64) (ey : y.toInt % 64 = s) : (f1 a F).toInt = q * 64 + s := by
  unfold f1
  have a1 : (x &&& (31 : Int32)).toInt = q := by rw [own_m31]; omega
  have a2 := own_s6 (x := x &&& 31) (by omega) (by omega)
  have b1 : (y &&& (63 : Int32)).toInt = s := by rw [own_m63]; exact ey
  rw [hx, hy, if_pos (by rw [Int32.lt_iff_toInt_lt, own_k0]; omega), if_pos ((own_224 (by omega) (by omega)).mpr (by omega))]
  rw [own_or 6 (by omega) (by omega) (by omega) (by omega) (by omega)]
  omega
theorem own_d2 (a : Int32) (F : Nat → Int32) {x y z : Int32} (hx : F a.toNatClampNeg = x) (hy : F (a + 1).toNatClampNeg = y) (hz : F (a + 2).toNatClampNeg = z) (q s t : Int) (h0 : 0 ≤ q) (h1 : q < 16) (ex : x.toInt = q - 32) (ey : y.toInt % 64 = s) (ez : z.toInt % 64 = t) : (f1 a F).toInt = q * 4096 + s * 64 + t := by
  unfold f1
  have a1 : (x &&& (15 : Int32)).toInt = q := by rw [own_m15]; omega
  have a2 := own_s12 (x := x &&& 15) (by omega) (by omega)
  have b1 : (y &&& (63 : Int32)).toInt = s := by rw [own_m63]; exact ey
  have b2 := own_s6 (x := y &&& 63) (by omega) (by omega)
  have c1 : (z &&& (63 : Int32)).toInt = t := by rw [own_m63]; exact ez
  rw [hx, hy, hz, if_pos (by rw [Int32.lt_iff_toInt_lt, own_k0]; omega), if_neg (fun u => absurd ((own_224 (by omega) (by omega)).mp u) (by omega)), if_pos ((own_240 (by omega) (by omega)).mpr (by omega))]
  have d1 := own_or (x := (x &&& 15) <<< ((12 : Int32) &&& 31)) (y := (y &&& 63) <<< ((6 : Int32) &&& 31)) 12 (by omega) (by omega) (by omega) (by omega) (by omega)
  rw [own_or 6 (by omega) (by omega) (by omega) (by omega) (by omega)]
  omega
theorem own_d3 (a : Int32) (F : Nat → Int32) {x y z w : Int32} (hx : F a.toNatClampNeg = x) (hy : F (a + 1).toNatClampNeg = y) (hz : F (a + 2).toNatClampNeg = z) (hw : F (a + 3).toNatClampNeg = w) (q s t u : Int) (h0 : 0 ≤ q) (h1 : q < 8) (ex : x.toInt = q - 16) (ey : y.toInt % 64 = s) (ez : z.toInt % 64 = t) (ew : w.toInt % 64 = u) : (f1 a F).toInt = q * 262144 + s * 4096 + t * 64 + u := by
  unfold f1
  have a1 : (x &&& (7 : Int32)).toInt = q := by rw [own_m7]; omega
  have a2 := own_s18 (x := x &&& 7) (by omega) (by omega)
  have b1 : (y &&& (63 : Int32)).toInt = s := by rw [own_m63]; exact ey
  have b2 := own_s12 (x := y &&& 63) (by omega) (by omega)
  have c1 : (z &&& (63 : Int32)).toInt = t := by rw [own_m63]; exact ez
  have c2 := own_s6 (x := z &&& 63) (by omega) (by omega)
  have e1 : (w &&& (63 : Int32)).toInt = u := by rw [own_m63]; exact ew
  rw [hx, hy, hz, hw, if_pos (by rw [Int32.lt_iff_toInt_lt, own_k0]; omega), if_neg (fun u => absurd ((own_224 (by omega) (by omega)).mp u) (by omega)), if_neg (fun u => absurd ((own_240 (by omega) (by omega)).mp u) (by omega))]
  have d1 := own_or (x := (x &&& 7) <<< ((18 : Int32) &&& 31)) (y := (y &&& 63) <<< ((12 : Int32) &&& 31)) 18 (by omega) (by omega) (by omega) (by omega) (by omega)
  have d2 := own_or (x := (x &&& 7) <<< ((18 : Int32) &&& 31) ||| (y &&& 63) <<< ((12 : Int32) &&& 31)) (y := (z &&& 63) <<< ((6 : Int32) &&& 31)) 12 (by omega) (by omega) (by omega) (by omega) (by omega)
  rw [own_or 6 (by omega) (by omega) (by omega) (by omega) (by omega)]
  omega
set_option maxRecDepth 65536 in
set_option maxHeartbeats 40000000 in
theorem rm1 (l : Launch) (Z : State) (a0 : Array Value) (hw : ∀ d ∈ tables_1, d.before a0 Z = true) (ws : List Jvm.Cond) (o0 : Addr) (p1 : Int32) (n : Nat) (F : Nat → Int32) (h0 : Heap) (n0 : Nat) (A_o0 : own_A Z h0 o0 .byte n F) (hlo : ¬ p1 < 0) (hhi : p1.toInt + 3 < n) (hn : n ≤ 8) :
    MetFree l (⟨"com/example/holyrood/holyrood/Utf8", "decode", "([BI)I"⟩ : MethodName) (head1 (Jvm.Cond.code (⟨"com/example/holyrood/holyrood/Utf8", "decode", "([BI)I"⟩ : MethodName) prog_85_method_6_code 3 (some .int) :: ws) ({ frames := 0, cells := 0, slots := 0, locals := 0 } : Room)) (fun a U => a = #[(.ref o0), (.int p1)] ∧ Z.Warmed39 U.vm ∧ U.heap = h0) (fun _ _ _ _ _ => True) (fun _ U o U' => ∃ v L, o = .returned v ∧ own_GI n0 (fun h => h = h0) (f1 p1 F) v U'.heap L ∧ FrameEnd U o U' L ({ frames := 0, cells := 0, slots := 0, locals := 0 } : Room).cells ({ frames := 0, cells := 0, slots := 0, locals := 0 } : Room).slots) := by
  refine MetFree.of_bodySF pn_1 hisR ?_
  intro p e s m args below meth c s₁ Bd hml0 hP hK
  obtain ⟨rfl, hZ, hh⟩ := hP
  have hx := Bd.exec
  have hby := Bd.bytes
  have hml : c.maxLocals = 3 := hml0
  have hown : s.vm.findClass "com/example/holyrood/holyrood/Utf8" = some m.cls := findClass_of_methodNamed Bd.named
  have hlk : meth.locks = false := BodyLoose.notSynchronized Bd
  have X0 : Stand p l e ({ frames := 0, cells := 0, slots := 0, locals := 0 } : Room) s m #[(.ref o0), (.int p1)] below meth c s₁ [] 0 0 := Stand.of_body Bd
  have e0 : s₁.heap = h0 := by rw [← hh, Bd.state]; rfl
  have N0 := Fr.nil n0
  show own_W p e below s 0 0 (own_GI n0 (fun h => h = h0) (f1 p1 F)) s₁ (entryFrame m #[(.ref o0), (.int p1)] 3)
  refine own_to (ef_1 m o0 p1) ?_
  unfold f1
  refine own_st (T' := s₁) (f' := (mkF m 1 #[.val (.ref o0), .val (.int p1), .unset] [(.ref o0)])) ?_ (fun t q => XS.aloadN X0.here hx rfl (hb hby d1_0) rfl rfl q)
  refine own_st (T' := s₁) (f' := (mkF m 2 #[.val (.ref o0), .val (.int p1), .unset] [(.int p1), (.ref o0)])) ?_ (fun t q => XS.iloadN X0.here hx rfl (hb hby d1_1) rfl q)
  refine own_bald X0 hx hZ (own_A.eq A_o0 e0) (j := p1) (own_at0 hlo hhi hn) (hb hby d1_2) ?_
  show own_W _ _ _ _ _ _ _ s₁ (mkF m 3 #[.val (.ref o0), .val (.int p1), .unset] [(.int (F p1.toNatClampNeg))])
  refine own_st (T' := s₁) (f' := (mkF m 4 #[.val (.ref o0), .val (.int p1), .val (.int (F p1.toNatClampNeg))] [])) ?_ (fun t q => XS.istoreN X0.here hx rfl (hb hby d1_3) rfl (l' := #[.val (.ref o0), .val (.int p1), .val (.int (F p1.toNatClampNeg))]) rfl q)
  refine own_st (T' := s₁) (f' := (mkF m 5 #[.val (.ref o0), .val (.int p1), .val (.int (F p1.toNatClampNeg))] [(.int (F p1.toNatClampNeg))])) ?_ (fun t q => XS.iloadN X0.here hx rfl (hb hby d1_4) rfl q)
  refine own_ite (fun hc5 => ?_) (fun hc5 => ?_)
  · refine own_st (T' := s₁) (f' := (mkF m 10 #[.val (.ref o0), .val (.int p1), .val (.int (F p1.toNatClampNeg))] [])) ?_ (fun t q => XS.ifYes X0.here hx rfl (pc0 := 5) (pc' := 10) rfl (hb hby d1_5) rfl ((if0 _ _).trans (tlt hc5).1) (by decide) (by decide) q)
    refine own_st (T' := s₁) (f' := (mkF m 11 #[.val (.ref o0), .val (.int p1), .val (.int (F p1.toNatClampNeg))] [(.int (F p1.toNatClampNeg))])) ?_ (fun t q => XS.iloadN X0.here hx rfl (hb hby d1_10) rfl q)
    refine own_st (T' := s₁) (f' := (mkF m 14 #[.val (.ref o0), .val (.int p1), .val (.int (F p1.toNatClampNeg))] [(.int (224 : Int32)), (.int (F p1.toNatClampNeg))])) ?_ (fun t q => XS.sipush X0.here hx rfl (hb hby d1_11) q)
    refine own_st (T' := s₁) (f' := (mkF m 15 #[.val (.ref o0), .val (.int p1), .val (.int (F p1.toNatClampNeg))] [(.int ((F p1.toNatClampNeg) &&& (224 : Int32)))])) ?_ (fun t q => XS.iand X0.here hx rfl (hb hby d1_14) rfl q)
    refine own_st (T' := s₁) (f' := (mkF m 18 #[.val (.ref o0), .val (.int p1), .val (.int (F p1.toNatClampNeg))] [(.int (192 : Int32)), (.int ((F p1.toNatClampNeg) &&& (224 : Int32)))])) ?_ (fun t q => XS.sipush X0.here hx rfl (hb hby d1_15) q)
    refine own_ite (fun hc18 => ?_) (fun hc18 => ?_)
    · refine own_st (T' := s₁) (f' := (mkF m 21 #[.val (.ref o0), .val (.int p1), .val (.int (F p1.toNatClampNeg))] [])) ?_ (fun t q => XS.icmpNo X0.here hx rfl (hb hby d1_18) rfl (teq hc18).2 q)
      refine own_st (T' := s₁) (f' := (mkF m 22 #[.val (.ref o0), .val (.int p1), .val (.int (F p1.toNatClampNeg))] [(.int (F p1.toNatClampNeg))])) ?_ (fun t q => XS.iloadN X0.here hx rfl (hb hby d1_21) rfl q)
      refine own_st (T' := s₁) (f' := (mkF m 24 #[.val (.ref o0), .val (.int p1), .val (.int (F p1.toNatClampNeg))] [(.int (31 : Int32)), (.int (F p1.toNatClampNeg))])) ?_ (fun t q => XS.bipush X0.here hx rfl (hb hby d1_22) q)
      refine own_st (T' := s₁) (f' := (mkF m 25 #[.val (.ref o0), .val (.int p1), .val (.int (F p1.toNatClampNeg))] [(.int ((F p1.toNatClampNeg) &&& (31 : Int32)))])) ?_ (fun t q => XS.iand X0.here hx rfl (hb hby d1_24) rfl q)
      refine own_st (T' := s₁) (f' := (mkF m 27 #[.val (.ref o0), .val (.int p1), .val (.int (F p1.toNatClampNeg))] [(.int (6 : Int32)), (.int ((F p1.toNatClampNeg) &&& (31 : Int32)))])) ?_ (fun t q => XS.bipush X0.here hx rfl (hb hby d1_25) q)
      refine own_st (T' := s₁) (f' := (mkF m 28 #[.val (.ref o0), .val (.int p1), .val (.int (F p1.toNatClampNeg))] [(.int (((F p1.toNatClampNeg) &&& (31 : Int32)) <<< ((6 : Int32) &&& 31)))])) ?_ (fun t q => XS.ishl X0.here hx rfl (hb hby d1_27) rfl q)
      refine own_st (T' := s₁) (f' := (mkF m 29 #[.val (.ref o0), .val (.int p1), .val (.int (F p1.toNatClampNeg))] [(.ref o0), (.int (((F p1.toNatClampNeg) &&& (31 : Int32)) <<< ((6 : Int32) &&& 31)))])) ?_ (fun t q => XS.aloadN X0.here hx rfl (hb hby d1_28) rfl rfl q)
      refine own_st (T' := s₁) (f' := (mkF m 30 #[.val (.ref o0), .val (.int p1), .val (.int (F p1.toNatClampNeg))] [(.int p1), (.ref o0), (.int (((F p1.toNatClampNeg) &&& (31 : Int32)) <<< ((6 : Int32) &&& 31)))])) ?_ (fun t q => XS.iloadN X0.here hx rfl (hb hby d1_29) rfl q)
      refine own_st (T' := s₁) (f' := (mkF m 31 #[.val (.ref o0), .val (.int p1), .val (.int (F p1.toNatClampNeg))] [(.int (1 : Int32)), (.int p1), (.ref o0), (.int (((F p1.toNatClampNeg) &&& (31 : Int32)) <<< ((6 : Int32) &&& 31)))])) ?_ (fun t q => XS.iconst X0.here hx rfl (hb hby d1_30) q)
      refine own_st (T' := s₁) (f' := (mkF m 32 #[.val (.ref o0), .val (.int p1), .val (.int (F p1.toNatClampNeg))] [(.int (p1 + (1 : Int32))), (.ref o0), (.int (((F p1.toNatClampNeg) &&& (31 : Int32)) <<< ((6 : Int32) &&& 31)))])) ?_ (fun t q => XS.iadd X0.here hx rfl (hb hby d1_31) rfl q)
      refine own_bald X0 hx hZ (own_A.eq A_o0 e0) (j := (p1 + (1 : Int32))) (own_at1 hlo hhi hn) (hb hby d1_32) ?_
      show own_W _ _ _ _ _ _ _ s₁ (mkF m 33 #[.val (.ref o0), .val (.int p1), .val (.int (F p1.toNatClampNeg))] [(.int (F (p1 + (1 : Int32)).toNatClampNeg)), (.int (((F p1.toNatClampNeg) &&& (31 : Int32)) <<< ((6 : Int32) &&& 31)))])
      refine own_st (T' := s₁) (f' := (mkF m 35 #[.val (.ref o0), .val (.int p1), .val (.int (F p1.toNatClampNeg))] [(.int (63 : Int32)), (.int (F (p1 + (1 : Int32)).toNatClampNeg)), (.int (((F p1.toNatClampNeg) &&& (31 : Int32)) <<< ((6 : Int32) &&& 31)))])) ?_ (fun t q => XS.bipush X0.here hx rfl (hb hby d1_33) q)
      refine own_st (T' := s₁) (f' := (mkF m 36 #[.val (.ref o0), .val (.int p1), .val (.int (F p1.toNatClampNeg))] [(.int ((F (p1 + (1 : Int32)).toNatClampNeg) &&& (63 : Int32))), (.int (((F p1.toNatClampNeg) &&& (31 : Int32)) <<< ((6 : Int32) &&& 31)))])) ?_ (fun t q => XS.iand X0.here hx rfl (hb hby d1_35) rfl q)
      refine own_st (T' := s₁) (f' := (mkF m 37 #[.val (.ref o0), .val (.int p1), .val (.int (F p1.toNatClampNeg))] [(.int ((((F p1.toNatClampNeg) &&& (31 : Int32)) <<< ((6 : Int32) &&& 31)) ||| ((F (p1 + (1 : Int32)).toNatClampNeg) &&& (63 : Int32))))])) ?_ (fun t q => XS.ior X0.here hx rfl (hb hby d1_36) rfl q)
      exact own_retI X0 hx hlk Bd.returns (hb hby d1_37) (by decide) (by decide) ⟨rfl, N0, e0⟩
    · refine own_st (T' := s₁) (f' := (mkF m 38 #[.val (.ref o0), .val (.int p1), .val (.int (F p1.toNatClampNeg))] [])) ?_ (fun t q => XS.icmpYes X0.here hx rfl (pc0 := 18) (pc' := 38) rfl (hb hby d1_18) rfl (feq hc18).2 (by decide) (by decide) q)
      refine own_st (T' := s₁) (f' := (mkF m 39 #[.val (.ref o0), .val (.int p1), .val (.int (F p1.toNatClampNeg))] [(.int (F p1.toNatClampNeg))])) ?_ (fun t q => XS.iloadN X0.here hx rfl (hb hby d1_38) rfl q)
      refine own_st (T' := s₁) (f' := (mkF m 42 #[.val (.ref o0), .val (.int p1), .val (.int (F p1.toNatClampNeg))] [(.int (240 : Int32)), (.int (F p1.toNatClampNeg))])) ?_ (fun t q => XS.sipush X0.here hx rfl (hb hby d1_39) q)
      refine own_st (T' := s₁) (f' := (mkF m 43 #[.val (.ref o0), .val (.int p1), .val (.int (F p1.toNatClampNeg))] [(.int ((F p1.toNatClampNeg) &&& (240 : Int32)))])) ?_ (fun t q => XS.iand X0.here hx rfl (hb hby d1_42) rfl q)
      refine own_st (T' := s₁) (f' := (mkF m 46 #[.val (.ref o0), .val (.int p1), .val (.int (F p1.toNatClampNeg))] [(.int (224 : Int32)), (.int ((F p1.toNatClampNeg) &&& (240 : Int32)))])) ?_ (fun t q => XS.sipush X0.here hx rfl (hb hby d1_43) q)
      refine own_ite (fun hc46 => ?_) (fun hc46 => ?_)
      · refine own_st (T' := s₁) (f' := (mkF m 49 #[.val (.ref o0), .val (.int p1), .val (.int (F p1.toNatClampNeg))] [])) ?_ (fun t q => XS.icmpNo X0.here hx rfl (hb hby d1_46) rfl (teq hc46).2 q)
        refine own_st (T' := s₁) (f' := (mkF m 50 #[.val (.ref o0), .val (.int p1), .val (.int (F p1.toNatClampNeg))] [(.int (F p1.toNatClampNeg))])) ?_ (fun t q => XS.iloadN X0.here hx rfl (hb hby d1_49) rfl q)
        refine own_st (T' := s₁) (f' := (mkF m 52 #[.val (.ref o0), .val (.int p1), .val (.int (F p1.toNatClampNeg))] [(.int (15 : Int32)), (.int (F p1.toNatClampNeg))])) ?_ (fun t q => XS.bipush X0.here hx rfl (hb hby d1_50) q)
        refine own_st (T' := s₁) (f' := (mkF m 53 #[.val (.ref o0), .val (.int p1), .val (.int (F p1.toNatClampNeg))] [(.int ((F p1.toNatClampNeg) &&& (15 : Int32)))])) ?_ (fun t q => XS.iand X0.here hx rfl (hb hby d1_52) rfl q)
        refine own_st (T' := s₁) (f' := (mkF m 55 #[.val (.ref o0), .val (.int p1), .val (.int (F p1.toNatClampNeg))] [(.int (12 : Int32)), (.int ((F p1.toNatClampNeg) &&& (15 : Int32)))])) ?_ (fun t q => XS.bipush X0.here hx rfl (hb hby d1_53) q)
        refine own_st (T' := s₁) (f' := (mkF m 56 #[.val (.ref o0), .val (.int p1), .val (.int (F p1.toNatClampNeg))] [(.int (((F p1.toNatClampNeg) &&& (15 : Int32)) <<< ((12 : Int32) &&& 31)))])) ?_ (fun t q => XS.ishl X0.here hx rfl (hb hby d1_55) rfl q)
        refine own_st (T' := s₁) (f' := (mkF m 57 #[.val (.ref o0), .val (.int p1), .val (.int (F p1.toNatClampNeg))] [(.ref o0), (.int (((F p1.toNatClampNeg) &&& (15 : Int32)) <<< ((12 : Int32) &&& 31)))])) ?_ (fun t q => XS.aloadN X0.here hx rfl (hb hby d1_56) rfl rfl q)
        refine own_st (T' := s₁) (f' := (mkF m 58 #[.val (.ref o0), .val (.int p1), .val (.int (F p1.toNatClampNeg))] [(.int p1), (.ref o0), (.int (((F p1.toNatClampNeg) &&& (15 : Int32)) <<< ((12 : Int32) &&& 31)))])) ?_ (fun t q => XS.iloadN X0.here hx rfl (hb hby d1_57) rfl q)
        refine own_st (T' := s₁) (f' := (mkF m 59 #[.val (.ref o0), .val (.int p1), .val (.int (F p1.toNatClampNeg))] [(.int (1 : Int32)), (.int p1), (.ref o0), (.int (((F p1.toNatClampNeg) &&& (15 : Int32)) <<< ((12 : Int32) &&& 31)))])) ?_ (fun t q => XS.iconst X0.here hx rfl (hb hby d1_58) q)
        refine own_st (T' := s₁) (f' := (mkF m 60 #[.val (.ref o0), .val (.int p1), .val (.int (F p1.toNatClampNeg))] [(.int (p1 + (1 : Int32))), (.ref o0), (.int (((F p1.toNatClampNeg) &&& (15 : Int32)) <<< ((12 : Int32) &&& 31)))])) ?_ (fun t q => XS.iadd X0.here hx rfl (hb hby d1_59) rfl q)
        refine own_bald X0 hx hZ (own_A.eq A_o0 e0) (j := (p1 + (1 : Int32))) (own_at1 hlo hhi hn) (hb hby d1_60) ?_
        show own_W _ _ _ _ _ _ _ s₁ (mkF m 61 #[.val (.ref o0), .val (.int p1), .val (.int (F p1.toNatClampNeg))] [(.int (F (p1 + (1 : Int32)).toNatClampNeg)), (.int (((F p1.toNatClampNeg) &&& (15 : Int32)) <<< ((12 : Int32) &&& 31)))])
        refine own_st (T' := s₁) (f' := (mkF m 63 #[.val (.ref o0), .val (.int p1), .val (.int (F p1.toNatClampNeg))] [(.int (63 : Int32)), (.int (F (p1 + (1 : Int32)).toNatClampNeg)), (.int (((F p1.toNatClampNeg) &&& (15 : Int32)) <<< ((12 : Int32) &&& 31)))])) ?_ (fun t q => XS.bipush X0.here hx rfl (hb hby d1_61) q)
        refine own_st (T' := s₁) (f' := (mkF m 64 #[.val (.ref o0), .val (.int p1), .val (.int (F p1.toNatClampNeg))] [(.int ((F (p1 + (1 : Int32)).toNatClampNeg) &&& (63 : Int32))), (.int (((F p1.toNatClampNeg) &&& (15 : Int32)) <<< ((12 : Int32) &&& 31)))])) ?_ (fun t q => XS.iand X0.here hx rfl (hb hby d1_63) rfl q)
        refine own_st (T' := s₁) (f' := (mkF m 66 #[.val (.ref o0), .val (.int p1), .val (.int (F p1.toNatClampNeg))] [(.int (6 : Int32)), (.int ((F (p1 + (1 : Int32)).toNatClampNeg) &&& (63 : Int32))), (.int (((F p1.toNatClampNeg) &&& (15 : Int32)) <<< ((12 : Int32) &&& 31)))])) ?_ (fun t q => XS.bipush X0.here hx rfl (hb hby d1_64) q)
        refine own_st (T' := s₁) (f' := (mkF m 67 #[.val (.ref o0), .val (.int p1), .val (.int (F p1.toNatClampNeg))] [(.int (((F (p1 + (1 : Int32)).toNatClampNeg) &&& (63 : Int32)) <<< ((6 : Int32) &&& 31))), (.int (((F p1.toNatClampNeg) &&& (15 : Int32)) <<< ((12 : Int32) &&& 31)))])) ?_ (fun t q => XS.ishl X0.here hx rfl (hb hby d1_66) rfl q)
        refine own_st (T' := s₁) (f' := (mkF m 68 #[.val (.ref o0), .val (.int p1), .val (.int (F p1.toNatClampNeg))] [(.int ((((F p1.toNatClampNeg) &&& (15 : Int32)) <<< ((12 : Int32) &&& 31)) ||| (((F (p1 + (1 : Int32)).toNatClampNeg) &&& (63 : Int32)) <<< ((6 : Int32) &&& 31))))])) ?_ (fun t q => XS.ior X0.here hx rfl (hb hby d1_67) rfl q)
        refine own_st (T' := s₁) (f' := (mkF m 69 #[.val (.ref o0), .val (.int p1), .val (.int (F p1.toNatClampNeg))] [(.ref o0), (.int ((((F p1.toNatClampNeg) &&& (15 : Int32)) <<< ((12 : Int32) &&& 31)) ||| (((F (p1 + (1 : Int32)).toNatClampNeg) &&& (63 : Int32)) <<< ((6 : Int32) &&& 31))))])) ?_ (fun t q => XS.aloadN X0.here hx rfl (hb hby d1_68) rfl rfl q)
        refine own_st (T' := s₁) (f' := (mkF m 70 #[.val (.ref o0), .val (.int p1), .val (.int (F p1.toNatClampNeg))] [(.int p1), (.ref o0), (.int ((((F p1.toNatClampNeg) &&& (15 : Int32)) <<< ((12 : Int32) &&& 31)) ||| (((F (p1 + (1 : Int32)).toNatClampNeg) &&& (63 : Int32)) <<< ((6 : Int32) &&& 31))))])) ?_ (fun t q => XS.iloadN X0.here hx rfl (hb hby d1_69) rfl q)
        refine own_st (T' := s₁) (f' := (mkF m 71 #[.val (.ref o0), .val (.int p1), .val (.int (F p1.toNatClampNeg))] [(.int (2 : Int32)), (.int p1), (.ref o0), (.int ((((F p1.toNatClampNeg) &&& (15 : Int32)) <<< ((12 : Int32) &&& 31)) ||| (((F (p1 + (1 : Int32)).toNatClampNeg) &&& (63 : Int32)) <<< ((6 : Int32) &&& 31))))])) ?_ (fun t q => XS.iconst X0.here hx rfl (hb hby d1_70) q)
        refine own_st (T' := s₁) (f' := (mkF m 72 #[.val (.ref o0), .val (.int p1), .val (.int (F p1.toNatClampNeg))] [(.int (p1 + (2 : Int32))), (.ref o0), (.int ((((F p1.toNatClampNeg) &&& (15 : Int32)) <<< ((12 : Int32) &&& 31)) ||| (((F (p1 + (1 : Int32)).toNatClampNeg) &&& (63 : Int32)) <<< ((6 : Int32) &&& 31))))])) ?_ (fun t q => XS.iadd X0.here hx rfl (hb hby d1_71) rfl q)
        refine own_bald X0 hx hZ (own_A.eq A_o0 e0) (j := (p1 + (2 : Int32))) (own_at2 hlo hhi hn) (hb hby d1_72) ?_
        show own_W _ _ _ _ _ _ _ s₁ (mkF m 73 #[.val (.ref o0), .val (.int p1), .val (.int (F p1.toNatClampNeg))] [(.int (F (p1 + (2 : Int32)).toNatClampNeg)), (.int ((((F p1.toNatClampNeg) &&& (15 : Int32)) <<< ((12 : Int32) &&& 31)) ||| (((F (p1 + (1 : Int32)).toNatClampNeg) &&& (63 : Int32)) <<< ((6 : Int32) &&& 31))))])
        refine own_st (T' := s₁) (f' := (mkF m 75 #[.val (.ref o0), .val (.int p1), .val (.int (F p1.toNatClampNeg))] [(.int (63 : Int32)), (.int (F (p1 + (2 : Int32)).toNatClampNeg)), (.int ((((F p1.toNatClampNeg) &&& (15 : Int32)) <<< ((12 : Int32) &&& 31)) ||| (((F (p1 + (1 : Int32)).toNatClampNeg) &&& (63 : Int32)) <<< ((6 : Int32) &&& 31))))])) ?_ (fun t q => XS.bipush X0.here hx rfl (hb hby d1_73) q)
        refine own_st (T' := s₁) (f' := (mkF m 76 #[.val (.ref o0), .val (.int p1), .val (.int (F p1.toNatClampNeg))] [(.int ((F (p1 + (2 : Int32)).toNatClampNeg) &&& (63 : Int32))), (.int ((((F p1.toNatClampNeg) &&& (15 : Int32)) <<< ((12 : Int32) &&& 31)) ||| (((F (p1 + (1 : Int32)).toNatClampNeg) &&& (63 : Int32)) <<< ((6 : Int32) &&& 31))))])) ?_ (fun t q => XS.iand X0.here hx rfl (hb hby d1_75) rfl q)
        refine own_st (T' := s₁) (f' := (mkF m 77 #[.val (.ref o0), .val (.int p1), .val (.int (F p1.toNatClampNeg))] [(.int (((((F p1.toNatClampNeg) &&& (15 : Int32)) <<< ((12 : Int32) &&& 31)) ||| (((F (p1 + (1 : Int32)).toNatClampNeg) &&& (63 : Int32)) <<< ((6 : Int32) &&& 31))) ||| ((F (p1 + (2 : Int32)).toNatClampNeg) &&& (63 : Int32))))])) ?_ (fun t q => XS.ior X0.here hx rfl (hb hby d1_76) rfl q)
        exact own_retI X0 hx hlk Bd.returns (hb hby d1_77) (by decide) (by decide) ⟨rfl, N0, e0⟩
      · refine own_st (T' := s₁) (f' := (mkF m 78 #[.val (.ref o0), .val (.int p1), .val (.int (F p1.toNatClampNeg))] [])) ?_ (fun t q => XS.icmpYes X0.here hx rfl (pc0 := 46) (pc' := 78) rfl (hb hby d1_46) rfl (feq hc46).2 (by decide) (by decide) q)
        refine own_st (T' := s₁) (f' := (mkF m 79 #[.val (.ref o0), .val (.int p1), .val (.int (F p1.toNatClampNeg))] [(.int (F p1.toNatClampNeg))])) ?_ (fun t q => XS.iloadN X0.here hx rfl (hb hby d1_78) rfl q)
        refine own_st (T' := s₁) (f' := (mkF m 81 #[.val (.ref o0), .val (.int p1), .val (.int (F p1.toNatClampNeg))] [(.int (7 : Int32)), (.int (F p1.toNatClampNeg))])) ?_ (fun t q => XS.bipush X0.here hx rfl (hb hby d1_79) q)
        refine own_st (T' := s₁) (f' := (mkF m 82 #[.val (.ref o0), .val (.int p1), .val (.int (F p1.toNatClampNeg))] [(.int ((F p1.toNatClampNeg) &&& (7 : Int32)))])) ?_ (fun t q => XS.iand X0.here hx rfl (hb hby d1_81) rfl q)
        refine own_st (T' := s₁) (f' := (mkF m 84 #[.val (.ref o0), .val (.int p1), .val (.int (F p1.toNatClampNeg))] [(.int (18 : Int32)), (.int ((F p1.toNatClampNeg) &&& (7 : Int32)))])) ?_ (fun t q => XS.bipush X0.here hx rfl (hb hby d1_82) q)
        refine own_st (T' := s₁) (f' := (mkF m 85 #[.val (.ref o0), .val (.int p1), .val (.int (F p1.toNatClampNeg))] [(.int (((F p1.toNatClampNeg) &&& (7 : Int32)) <<< ((18 : Int32) &&& 31)))])) ?_ (fun t q => XS.ishl X0.here hx rfl (hb hby d1_84) rfl q)
        refine own_st (T' := s₁) (f' := (mkF m 86 #[.val (.ref o0), .val (.int p1), .val (.int (F p1.toNatClampNeg))] [(.ref o0), (.int (((F p1.toNatClampNeg) &&& (7 : Int32)) <<< ((18 : Int32) &&& 31)))])) ?_ (fun t q => XS.aloadN X0.here hx rfl (hb hby d1_85) rfl rfl q)
        refine own_st (T' := s₁) (f' := (mkF m 87 #[.val (.ref o0), .val (.int p1), .val (.int (F p1.toNatClampNeg))] [(.int p1), (.ref o0), (.int (((F p1.toNatClampNeg) &&& (7 : Int32)) <<< ((18 : Int32) &&& 31)))])) ?_ (fun t q => XS.iloadN X0.here hx rfl (hb hby d1_86) rfl q)
        refine own_st (T' := s₁) (f' := (mkF m 88 #[.val (.ref o0), .val (.int p1), .val (.int (F p1.toNatClampNeg))] [(.int (1 : Int32)), (.int p1), (.ref o0), (.int (((F p1.toNatClampNeg) &&& (7 : Int32)) <<< ((18 : Int32) &&& 31)))])) ?_ (fun t q => XS.iconst X0.here hx rfl (hb hby d1_87) q)
        refine own_st (T' := s₁) (f' := (mkF m 89 #[.val (.ref o0), .val (.int p1), .val (.int (F p1.toNatClampNeg))] [(.int (p1 + (1 : Int32))), (.ref o0), (.int (((F p1.toNatClampNeg) &&& (7 : Int32)) <<< ((18 : Int32) &&& 31)))])) ?_ (fun t q => XS.iadd X0.here hx rfl (hb hby d1_88) rfl q)
        refine own_bald X0 hx hZ (own_A.eq A_o0 e0) (j := (p1 + (1 : Int32))) (own_at1 hlo hhi hn) (hb hby d1_89) ?_
        show own_W _ _ _ _ _ _ _ s₁ (mkF m 90 #[.val (.ref o0), .val (.int p1), .val (.int (F p1.toNatClampNeg))] [(.int (F (p1 + (1 : Int32)).toNatClampNeg)), (.int (((F p1.toNatClampNeg) &&& (7 : Int32)) <<< ((18 : Int32) &&& 31)))])
        refine own_st (T' := s₁) (f' := (mkF m 92 #[.val (.ref o0), .val (.int p1), .val (.int (F p1.toNatClampNeg))] [(.int (63 : Int32)), (.int (F (p1 + (1 : Int32)).toNatClampNeg)), (.int (((F p1.toNatClampNeg) &&& (7 : Int32)) <<< ((18 : Int32) &&& 31)))])) ?_ (fun t q => XS.bipush X0.here hx rfl (hb hby d1_90) q)
        refine own_st (T' := s₁) (f' := (mkF m 93 #[.val (.ref o0), .val (.int p1), .val (.int (F p1.toNatClampNeg))] [(.int ((F (p1 + (1 : Int32)).toNatClampNeg) &&& (63 : Int32))), (.int (((F p1.toNatClampNeg) &&& (7 : Int32)) <<< ((18 : Int32) &&& 31)))])) ?_ (fun t q => XS.iand X0.here hx rfl (hb hby d1_92) rfl q)
        refine own_st (T' := s₁) (f' := (mkF m 95 #[.val (.ref o0), .val (.int p1), .val (.int (F p1.toNatClampNeg))] [(.int (12 : Int32)), (.int ((F (p1 + (1 : Int32)).toNatClampNeg) &&& (63 : Int32))), (.int (((F p1.toNatClampNeg) &&& (7 : Int32)) <<< ((18 : Int32) &&& 31)))])) ?_ (fun t q => XS.bipush X0.here hx rfl (hb hby d1_93) q)
        refine own_st (T' := s₁) (f' := (mkF m 96 #[.val (.ref o0), .val (.int p1), .val (.int (F p1.toNatClampNeg))] [(.int (((F (p1 + (1 : Int32)).toNatClampNeg) &&& (63 : Int32)) <<< ((12 : Int32) &&& 31))), (.int (((F p1.toNatClampNeg) &&& (7 : Int32)) <<< ((18 : Int32) &&& 31)))])) ?_ (fun t q => XS.ishl X0.here hx rfl (hb hby d1_95) rfl q)
        refine own_st (T' := s₁) (f' := (mkF m 97 #[.val (.ref o0), .val (.int p1), .val (.int (F p1.toNatClampNeg))] [(.int ((((F p1.toNatClampNeg) &&& (7 : Int32)) <<< ((18 : Int32) &&& 31)) ||| (((F (p1 + (1 : Int32)).toNatClampNeg) &&& (63 : Int32)) <<< ((12 : Int32) &&& 31))))])) ?_ (fun t q => XS.ior X0.here hx rfl (hb hby d1_96) rfl q)
        refine own_st (T' := s₁) (f' := (mkF m 98 #[.val (.ref o0), .val (.int p1), .val (.int (F p1.toNatClampNeg))] [(.ref o0), (.int ((((F p1.toNatClampNeg) &&& (7 : Int32)) <<< ((18 : Int32) &&& 31)) ||| (((F (p1 + (1 : Int32)).toNatClampNeg) &&& (63 : Int32)) <<< ((12 : Int32) &&& 31))))])) ?_ (fun t q => XS.aloadN X0.here hx rfl (hb hby d1_97) rfl rfl q)
        refine own_st (T' := s₁) (f' := (mkF m 99 #[.val (.ref o0), .val (.int p1), .val (.int (F p1.toNatClampNeg))] [(.int p1), (.ref o0), (.int ((((F p1.toNatClampNeg) &&& (7 : Int32)) <<< ((18 : Int32) &&& 31)) ||| (((F (p1 + (1 : Int32)).toNatClampNeg) &&& (63 : Int32)) <<< ((12 : Int32) &&& 31))))])) ?_ (fun t q => XS.iloadN X0.here hx rfl (hb hby d1_98) rfl q)
        refine own_st (T' := s₁) (f' := (mkF m 100 #[.val (.ref o0), .val (.int p1), .val (.int (F p1.toNatClampNeg))] [(.int (2 : Int32)), (.int p1), (.ref o0), (.int ((((F p1.toNatClampNeg) &&& (7 : Int32)) <<< ((18 : Int32) &&& 31)) ||| (((F (p1 + (1 : Int32)).toNatClampNeg) &&& (63 : Int32)) <<< ((12 : Int32) &&& 31))))])) ?_ (fun t q => XS.iconst X0.here hx rfl (hb hby d1_99) q)
        refine own_st (T' := s₁) (f' := (mkF m 101 #[.val (.ref o0), .val (.int p1), .val (.int (F p1.toNatClampNeg))] [(.int (p1 + (2 : Int32))), (.ref o0), (.int ((((F p1.toNatClampNeg) &&& (7 : Int32)) <<< ((18 : Int32) &&& 31)) ||| (((F (p1 + (1 : Int32)).toNatClampNeg) &&& (63 : Int32)) <<< ((12 : Int32) &&& 31))))])) ?_ (fun t q => XS.iadd X0.here hx rfl (hb hby d1_100) rfl q)
        refine own_bald X0 hx hZ (own_A.eq A_o0 e0) (j := (p1 + (2 : Int32))) (own_at2 hlo hhi hn) (hb hby d1_101) ?_
        show own_W _ _ _ _ _ _ _ s₁ (mkF m 102 #[.val (.ref o0), .val (.int p1), .val (.int (F p1.toNatClampNeg))] [(.int (F (p1 + (2 : Int32)).toNatClampNeg)), (.int ((((F p1.toNatClampNeg) &&& (7 : Int32)) <<< ((18 : Int32) &&& 31)) ||| (((F (p1 + (1 : Int32)).toNatClampNeg) &&& (63 : Int32)) <<< ((12 : Int32) &&& 31))))])
        refine own_st (T' := s₁) (f' := (mkF m 104 #[.val (.ref o0), .val (.int p1), .val (.int (F p1.toNatClampNeg))] [(.int (63 : Int32)), (.int (F (p1 + (2 : Int32)).toNatClampNeg)), (.int ((((F p1.toNatClampNeg) &&& (7 : Int32)) <<< ((18 : Int32) &&& 31)) ||| (((F (p1 + (1 : Int32)).toNatClampNeg) &&& (63 : Int32)) <<< ((12 : Int32) &&& 31))))])) ?_ (fun t q => XS.bipush X0.here hx rfl (hb hby d1_102) q)
        refine own_st (T' := s₁) (f' := (mkF m 105 #[.val (.ref o0), .val (.int p1), .val (.int (F p1.toNatClampNeg))] [(.int ((F (p1 + (2 : Int32)).toNatClampNeg) &&& (63 : Int32))), (.int ((((F p1.toNatClampNeg) &&& (7 : Int32)) <<< ((18 : Int32) &&& 31)) ||| (((F (p1 + (1 : Int32)).toNatClampNeg) &&& (63 : Int32)) <<< ((12 : Int32) &&& 31))))])) ?_ (fun t q => XS.iand X0.here hx rfl (hb hby d1_104) rfl q)
        refine own_st (T' := s₁) (f' := (mkF m 107 #[.val (.ref o0), .val (.int p1), .val (.int (F p1.toNatClampNeg))] [(.int (6 : Int32)), (.int ((F (p1 + (2 : Int32)).toNatClampNeg) &&& (63 : Int32))), (.int ((((F p1.toNatClampNeg) &&& (7 : Int32)) <<< ((18 : Int32) &&& 31)) ||| (((F (p1 + (1 : Int32)).toNatClampNeg) &&& (63 : Int32)) <<< ((12 : Int32) &&& 31))))])) ?_ (fun t q => XS.bipush X0.here hx rfl (hb hby d1_105) q)
        refine own_st (T' := s₁) (f' := (mkF m 108 #[.val (.ref o0), .val (.int p1), .val (.int (F p1.toNatClampNeg))] [(.int (((F (p1 + (2 : Int32)).toNatClampNeg) &&& (63 : Int32)) <<< ((6 : Int32) &&& 31))), (.int ((((F p1.toNatClampNeg) &&& (7 : Int32)) <<< ((18 : Int32) &&& 31)) ||| (((F (p1 + (1 : Int32)).toNatClampNeg) &&& (63 : Int32)) <<< ((12 : Int32) &&& 31))))])) ?_ (fun t q => XS.ishl X0.here hx rfl (hb hby d1_107) rfl q)
        refine own_st (T' := s₁) (f' := (mkF m 109 #[.val (.ref o0), .val (.int p1), .val (.int (F p1.toNatClampNeg))] [(.int (((((F p1.toNatClampNeg) &&& (7 : Int32)) <<< ((18 : Int32) &&& 31)) ||| (((F (p1 + (1 : Int32)).toNatClampNeg) &&& (63 : Int32)) <<< ((12 : Int32) &&& 31))) ||| (((F (p1 + (2 : Int32)).toNatClampNeg) &&& (63 : Int32)) <<< ((6 : Int32) &&& 31))))])) ?_ (fun t q => XS.ior X0.here hx rfl (hb hby d1_108) rfl q)
        refine own_st (T' := s₁) (f' := (mkF m 110 #[.val (.ref o0), .val (.int p1), .val (.int (F p1.toNatClampNeg))] [(.ref o0), (.int (((((F p1.toNatClampNeg) &&& (7 : Int32)) <<< ((18 : Int32) &&& 31)) ||| (((F (p1 + (1 : Int32)).toNatClampNeg) &&& (63 : Int32)) <<< ((12 : Int32) &&& 31))) ||| (((F (p1 + (2 : Int32)).toNatClampNeg) &&& (63 : Int32)) <<< ((6 : Int32) &&& 31))))])) ?_ (fun t q => XS.aloadN X0.here hx rfl (hb hby d1_109) rfl rfl q)
        refine own_st (T' := s₁) (f' := (mkF m 111 #[.val (.ref o0), .val (.int p1), .val (.int (F p1.toNatClampNeg))] [(.int p1), (.ref o0), (.int (((((F p1.toNatClampNeg) &&& (7 : Int32)) <<< ((18 : Int32) &&& 31)) ||| (((F (p1 + (1 : Int32)).toNatClampNeg) &&& (63 : Int32)) <<< ((12 : Int32) &&& 31))) ||| (((F (p1 + (2 : Int32)).toNatClampNeg) &&& (63 : Int32)) <<< ((6 : Int32) &&& 31))))])) ?_ (fun t q => XS.iloadN X0.here hx rfl (hb hby d1_110) rfl q)
        refine own_st (T' := s₁) (f' := (mkF m 112 #[.val (.ref o0), .val (.int p1), .val (.int (F p1.toNatClampNeg))] [(.int (3 : Int32)), (.int p1), (.ref o0), (.int (((((F p1.toNatClampNeg) &&& (7 : Int32)) <<< ((18 : Int32) &&& 31)) ||| (((F (p1 + (1 : Int32)).toNatClampNeg) &&& (63 : Int32)) <<< ((12 : Int32) &&& 31))) ||| (((F (p1 + (2 : Int32)).toNatClampNeg) &&& (63 : Int32)) <<< ((6 : Int32) &&& 31))))])) ?_ (fun t q => XS.iconst X0.here hx rfl (hb hby d1_111) q)
        refine own_st (T' := s₁) (f' := (mkF m 113 #[.val (.ref o0), .val (.int p1), .val (.int (F p1.toNatClampNeg))] [(.int (p1 + (3 : Int32))), (.ref o0), (.int (((((F p1.toNatClampNeg) &&& (7 : Int32)) <<< ((18 : Int32) &&& 31)) ||| (((F (p1 + (1 : Int32)).toNatClampNeg) &&& (63 : Int32)) <<< ((12 : Int32) &&& 31))) ||| (((F (p1 + (2 : Int32)).toNatClampNeg) &&& (63 : Int32)) <<< ((6 : Int32) &&& 31))))])) ?_ (fun t q => XS.iadd X0.here hx rfl (hb hby d1_112) rfl q)
        refine own_bald X0 hx hZ (own_A.eq A_o0 e0) (j := (p1 + (3 : Int32))) (own_at3 hlo hhi hn) (hb hby d1_113) ?_
        show own_W _ _ _ _ _ _ _ s₁ (mkF m 114 #[.val (.ref o0), .val (.int p1), .val (.int (F p1.toNatClampNeg))] [(.int (F (p1 + (3 : Int32)).toNatClampNeg)), (.int (((((F p1.toNatClampNeg) &&& (7 : Int32)) <<< ((18 : Int32) &&& 31)) ||| (((F (p1 + (1 : Int32)).toNatClampNeg) &&& (63 : Int32)) <<< ((12 : Int32) &&& 31))) ||| (((F (p1 + (2 : Int32)).toNatClampNeg) &&& (63 : Int32)) <<< ((6 : Int32) &&& 31))))])
        refine own_st (T' := s₁) (f' := (mkF m 116 #[.val (.ref o0), .val (.int p1), .val (.int (F p1.toNatClampNeg))] [(.int (63 : Int32)), (.int (F (p1 + (3 : Int32)).toNatClampNeg)), (.int (((((F p1.toNatClampNeg) &&& (7 : Int32)) <<< ((18 : Int32) &&& 31)) ||| (((F (p1 + (1 : Int32)).toNatClampNeg) &&& (63 : Int32)) <<< ((12 : Int32) &&& 31))) ||| (((F (p1 + (2 : Int32)).toNatClampNeg) &&& (63 : Int32)) <<< ((6 : Int32) &&& 31))))])) ?_ (fun t q => XS.bipush X0.here hx rfl (hb hby d1_114) q)
        refine own_st (T' := s₁) (f' := (mkF m 117 #[.val (.ref o0), .val (.int p1), .val (.int (F p1.toNatClampNeg))] [(.int ((F (p1 + (3 : Int32)).toNatClampNeg) &&& (63 : Int32))), (.int (((((F p1.toNatClampNeg) &&& (7 : Int32)) <<< ((18 : Int32) &&& 31)) ||| (((F (p1 + (1 : Int32)).toNatClampNeg) &&& (63 : Int32)) <<< ((12 : Int32) &&& 31))) ||| (((F (p1 + (2 : Int32)).toNatClampNeg) &&& (63 : Int32)) <<< ((6 : Int32) &&& 31))))])) ?_ (fun t q => XS.iand X0.here hx rfl (hb hby d1_116) rfl q)
        refine own_st (T' := s₁) (f' := (mkF m 118 #[.val (.ref o0), .val (.int p1), .val (.int (F p1.toNatClampNeg))] [(.int ((((((F p1.toNatClampNeg) &&& (7 : Int32)) <<< ((18 : Int32) &&& 31)) ||| (((F (p1 + (1 : Int32)).toNatClampNeg) &&& (63 : Int32)) <<< ((12 : Int32) &&& 31))) ||| (((F (p1 + (2 : Int32)).toNatClampNeg) &&& (63 : Int32)) <<< ((6 : Int32) &&& 31))) ||| ((F (p1 + (3 : Int32)).toNatClampNeg) &&& (63 : Int32))))])) ?_ (fun t q => XS.ior X0.here hx rfl (hb hby d1_117) rfl q)
        exact own_retI X0 hx hlk Bd.returns (hb hby d1_118) (by decide) (by decide) ⟨rfl, N0, e0⟩
  · refine own_st (T' := s₁) (f' := (mkF m 8 #[.val (.ref o0), .val (.int p1), .val (.int (F p1.toNatClampNeg))] [])) ?_ (fun t q => XS.ifNo X0.here hx rfl (hb hby d1_5) rfl ((if0 _ _).trans (flt hc5).1) q)
    refine own_st (T' := s₁) (f' := (mkF m 9 #[.val (.ref o0), .val (.int p1), .val (.int (F p1.toNatClampNeg))] [(.int (F p1.toNatClampNeg))])) ?_ (fun t q => XS.iloadN X0.here hx rfl (hb hby d1_8) rfl q)
    exact own_retI X0 hx hlk Bd.returns (hb hby d1_9) (by decide) (by decide) ⟨rfl, N0, e0⟩
theorem pd_0 : parseMethodDescriptor "([BI)I" = some ⟨[(.array .byte), .int], some .int⟩ := by decide +kernel
theorem pn_0 : plainFor x = true := by first | exact plainFor_of_name (by first | (simp [plainName, overriddenIn]; done) | decide +kernel) | decide +kernel
theorem ef_0 (m : MethodId) (x0 : Int32) (x1 : Int32) (x2 : Int32) (x3 : Int64) : entryFrame m #[(.int x0), (.int x1), (.int x2), (.long x3)] maxLocals = mkF m 0 #[.val (.int x0), .val (.int x1), .val (.int x2), .val (.long x3), .second, .unset, .unset, .unset, .unset, .unset] [] := by first | (simp [entryFrame, mkF, argsToLocals, Value.category, maxLocals]; done) | rfl
def vk (p0 : Int32) (p1 : Int32) (p2 : Int32) (w3 : Int64) : Int32 := (p0 &&& (3 : Int32))
def vr (p0 : Int32) (p1 : Int32) (p2 : Int32) (w3 : Int64) : Int32 := (p1 &&& (2147483647 : Int32))
def vF (p0 : Int32) (p1 : Int32) (p2 : Int32) (w3 : Int64) : Nat → Int32 := (own_up (own_up (own_up (own_up (own_up (own_up (own_up (own_up (fun _ => 0) 0 (nar .byte ((w3.toInt32).toInt8.toInt32))) 1 (nar .byte ((((w3.toUInt64 >>> ((8 : Int32) &&& 0x3f).toInt64.toUInt64).toInt64).toInt32).toInt8.toInt32))) 2 (nar .byte ((((w3.toUInt64 >>> ((16 : Int32) &&& 0x3f).toInt64.toUInt64).toInt64).toInt32).toInt8.toInt32))) 3 (nar .byte ((((w3.toUInt64 >>> ((24 : Int32) &&& 0x3f).toInt64.toUInt64).toInt64).toInt32).toInt8.toInt32))) 4 (nar .byte ((((w3.toUInt64 >>> ((32 : Int32) &&& 0x3f).toInt64.toUInt64).toInt64).toInt32).toInt8.toInt32))) 5 (nar .byte ((((w3.toUInt64 >>> ((40 : Int32) &&& 0x3f).toInt64.toUInt64).toInt64).toInt32).toInt8.toInt32))) 6 (nar .byte ((((w3.toUInt64 >>> ((48 : Int32) &&& 0x3f).toInt64.toUInt64).toInt64).toInt32).toInt8.toInt32))) 7 (nar .byte ((((w3.toUInt64 >>> ((56 : Int32) &&& 0x3f).toInt64.toUInt64).toInt64).toInt32).toInt8.toInt32)))
def va (p0 : Int32) (p1 : Int32) (p2 : Int32) (w3 : Int64) : Int32 := (p2 &&& (3 : Int32))
def f0_381 (p0 : Int32) (p1 : Int32) (p2 : Int32) (w3 : Int64) (g7_381 : Int32) (F8_381 : Nat → Int32) : Int32 := (if (f1 (va p0 p1 p2 w3) F8_381) = g7_381 then (1 : Int32) else (0 : Int32))
def f0_99 (p0 : Int32) (p1 : Int32) (p2 : Int32) (w3 : Int64) (g7_99 : Int32) : Int32 := (if (vk p0 p1 p2 w3) = (0 : Int32) then (f0_381 p0 p1 p2 w3 g7_99 (own_up (vF p0 p1 p2 w3) (va p0 p1 p2 w3).toNatClampNeg (nar .byte (g7_99.toInt8.toInt32)))) else (if (vk p0 p1 p2 w3) = (1 : Int32) then (f0_381 p0 p1 p2 w3 g7_99 (own_up (own_up (vF p0 p1 p2 w3) (va p0 p1 p2 w3).toNatClampNeg (nar .byte (((192 : Int32) + (g7_99 / (64 : Int32))).toInt8.toInt32))) ((va p0 p1 p2 w3) + (1 : Int32)).toNatClampNeg (nar .byte (((128 : Int32) + (g7_99 - (g7_99 / (64 : Int32)) * (64 : Int32))).toInt8.toInt32)))) else (if (vk p0 p1 p2 w3) = (2 : Int32) then (f0_381 p0 p1 p2 w3 g7_99 (own_up (own_up (own_up (vF p0 p1 p2 w3) (va p0 p1 p2 w3).toNatClampNeg (nar .byte (((224 : Int32) + (g7_99 / (4096 : Int32))).toInt8.toInt32))) ((va p0 p1 p2 w3) + (1 : Int32)).toNatClampNeg (nar .byte (((128 : Int32) + ((g7_99 / (64 : Int32)) - ((g7_99 / (64 : Int32)) / (64 : Int32)) * (64 : Int32))).toInt8.toInt32))) ((va p0 p1 p2 w3) + (2 : Int32)).toNatClampNeg (nar .byte (((128 : Int32) + (g7_99 - (g7_99 / (64 : Int32)) * (64 : Int32))).toInt8.toInt32)))) else (f0_381 p0 p1 p2 w3 g7_99 (own_up (own_up (own_up (own_up (vF p0 p1 p2 w3) (va p0 p1 p2 w3).toNatClampNeg (nar .byte (((240 : Int32) + (g7_99 / (262144 : Int32))).toInt8.toInt32))) ((va p0 p1 p2 w3) + (1 : Int32)).toNatClampNeg (nar .byte (((128 : Int32) + ((g7_99 / (4096 : Int32)) - ((g7_99 / (4096 : Int32)) / (64 : Int32)) * (64 : Int32))).toInt8.toInt32))) ((va p0 p1 p2 w3) + (2 : Int32)).toNatClampNeg (nar .byte (((128 : Int32) + ((g7_99 / (64 : Int32)) - ((g7_99 / (64 : Int32)) / (64 : Int32)) * (64 : Int32))).toInt8.toInt32))) ((va p0 p1 p2 w3) + (3 : Int32)).toNatClampNeg (nar .byte (((128 : Int32) + (g7_99 - (g7_99 / (64 : Int32)) * (64 : Int32))).toInt8.toInt32)))))))
def f0 (p0 : Int32) (p1 : Int32) (p2 : Int32) (w3 : Int64) : Int32 := (if (vk p0 p1 p2 w3) = (0 : Int32) then (f0_99 p0 p1 p2 w3 ((vr p0 p1 p2 w3) &&& (127 : Int32))) else (if (vk p0 p1 p2 w3) = (1 : Int32) then (f0_99 p0 p1 p2 w3 ((128 : Int32) + ((vr p0 p1 p2 w3) - ((vr p0 p1 p2 w3) / (1920 : Int32)) * (1920 : Int32)))) else (if (vk p0 p1 p2 w3) = (2 : Int32) then (if ((2048 : Int32) + ((vr p0 p1 p2 w3) - ((vr p0 p1 p2 w3) / (63488 : Int32)) * (63488 : Int32))) < (55296 : Int32) then (f0_99 p0 p1 p2 w3 ((2048 : Int32) + ((vr p0 p1 p2 w3) - ((vr p0 p1 p2 w3) / (63488 : Int32)) * (63488 : Int32)))) else (if (57343 : Int32) < ((2048 : Int32) + ((vr p0 p1 p2 w3) - ((vr p0 p1 p2 w3) / (63488 : Int32)) * (63488 : Int32))) then (f0_99 p0 p1 p2 w3 ((2048 : Int32) + ((vr p0 p1 p2 w3) - ((vr p0 p1 p2 w3) / (63488 : Int32)) * (63488 : Int32)))) else (f0_99 p0 p1 p2 w3 (((2048 : Int32) + ((vr p0 p1 p2 w3) - ((vr p0 p1 p2 w3) / (63488 : Int32)) * (63488 : Int32))) - (2048 : Int32))))) else (f0_99 p0 p1 p2 w3 ((65536 : Int32) + ((vr p0 p1 p2 w3) - ((vr p0 p1 p2 w3) / (1048576 : Int32)) * (1048576 : Int32)))))))
set_option maxRecDepth 65536 in
set_option maxHeartbeats 40000000 in
theorem rm0 (l : Launch) (Z : State) (a0 : Array Value) (hw : ∀ d ∈ tables_1, d.before a0 Z = true) (ws : List Jvm.Cond) (p0 : Int32) (p1 : Int32) (p2 : Int32) (w3 : Int64) (h0 : Heap) (n0 : Nat) (Z0 : n0 ≤ h0.size) :
    MetFree l x (head1 (Jvm.Cond.code x code maxLocals ret :: ws) room_1) (fun a U => a = #[(.int p0), (.int p1), (.int p2), (.long w3)] ∧ Z.Warmed39 U.vm ∧ U.heap = h0) (fun _ _ _ _ _ => True) (fun _ U o U' => ∃ v L, o = .returned v ∧ own_GI n0 (fun _ => True) (f0 p0 p1 p2 w3) v U'.heap L ∧ FrameEnd U o U' L 1 8) := by
  refine MetFree.of_bodySF pn_0 hisR ?_
  intro p e s m args below meth c s₁ Bd hml0 hP hK
  obtain ⟨rfl, hZ, hh⟩ := hP
  have hx := Bd.exec
  have hby := Bd.bytes
  have hml : c.maxLocals = 10 := hml0
  have hown : s.vm.findClass "com/example/holyrood/holyrood/Utf8DecodePinLaw" = some m.cls := findClass_of_methodNamed Bd.named
  have hlk : meth.locks = false := BodyLoose.notSynchronized Bd
  have X0 : Stand p l e room_1 s m #[(.int p0), (.int p1), (.int p2), (.long w3)] below meth c s₁ [] 0 0 := Stand.of_body Bd
  have e0 : s₁.heap = h0 := by rw [← hh, Bd.state]; rfl
  have N0 := Fr.nil n0
  have zs0 : n0 ≤ s₁.heap.size := by rw [e0]; exact Z0
  have B381 : ∀ (T : State) (locs : List Loc) (g7_381 : Int32) (r8_381 : Addr) (F8_381 : Nat → Int32) (X : Stand p l e room_1 s m #[(.int p0), (.int p1), (.int p2), (.long w3)] below meth c T locs 1 8) (N : Fr n0 locs) (zs : n0 ≤ T.heap.size) (G_r8_381 : n0 ≤ r8_381) (A_r8_381 : own_A Z T.heap r8_381 .byte 8 F8_381), own_W p e below s 1 8 (own_GI n0 (fun _ => True) (f0_381 p0 p1 p2 w3 g7_381 F8_381)) T (mkF m 381 #[.val (.int p0), .val (.int p1), .val (.int p2), .val (.long w3), .second, .val (.int (vk p0 p1 p2 w3)), .val (.int (vr p0 p1 p2 w3)), .val (.int g7_381), .val (.ref r8_381), .val (.int (va p0 p1 p2 w3))] []) := by
    intro T locs g7_381 r8_381 F8_381 X N zs G_r8_381 A_r8_381
    unfold f0_381
    refine own_st (T' := T) (f' := (mkF m 383 #[.val (.int p0), .val (.int p1), .val (.int p2), .val (.long w3), .second, .val (.int (vk p0 p1 p2 w3)), .val (.int (vr p0 p1 p2 w3)), .val (.int g7_381), .val (.ref r8_381), .val (.int (va p0 p1 p2 w3))] [(.ref r8_381)])) ?_ (fun t q => XS.aload X.here hx rfl (hb hby at_381) rfl rfl q)
    refine own_st (T' := T) (f' := (mkF m 385 #[.val (.int p0), .val (.int p1), .val (.int p2), .val (.long w3), .second, .val (.int (vk p0 p1 p2 w3)), .val (.int (vr p0 p1 p2 w3)), .val (.int g7_381), .val (.ref r8_381), .val (.int (va p0 p1 p2 w3))] [(.int (va p0 p1 p2 w3)), (.ref r8_381)])) ?_ (fun t q => XS.iload X.here hx rfl (hb hby at_383) rfl q)
    obtain ⟨_, _, ⟨T1, L1, k1, n1⟩, -, X1, ⟨Lc1, hQ1, l1, y1, z1⟩, st1⟩ := Jvm.LawKit.callS X hx (y := (⟨"com/example/holyrood/holyrood/Utf8", "decode", "([BI)I"⟩ : MethodName)) hown (mvT hZ (hw _ (List.mem_of_getElem? (i := 2) rfl))) (mvT hZ (hw _ (List.mem_of_getElem? (i := 3) rfl))) (mvT hZ (hw _ (List.mem_of_getElem? (i := 4) rfl))) (mvT hZ (hw _ (List.mem_of_getElem? (i := 5) rfl))) (by decide) (backOf (W := 0) (rm1 l Z a0 hw [] r8_381 (va p0 p1 p2 w3) 8 F8_381 T.heap n0 A_r8_381 (own_a1 p2) (own_a2 p2) (by decide)) hZ (hw _ (List.mem_of_getElem? (i := 5) rfl)) (hw _ (List.mem_of_getElem? (i := 4) rfl)) (by decide) (by decide)) (g := (mkF m 385 #[.val (.int p0), .val (.int p1), .val (.int p2), .val (.long w3), .second, .val (.int (vk p0 p1 p2 w3)), .val (.int (vr p0 p1 p2 w3)), .val (.int g7_381), .val (.ref r8_381), .val (.int (va p0 p1 p2 w3))] [(.int (va p0 p1 p2 w3)), (.ref r8_381)])) rfl (by rw [hml]; rfl) (argsL := [(.ref r8_381), (.int (va p0 p1 p2 w3))]) (rest := []) (lenOf pd_0 rfl) rfl (by show 2 * 0 + _ ≤ _; exact Nat.le_of_eq rfl) (hb hby at_385) (fun _ _ => ⟨rfl, rfl, (Nat.le_of_ble_eq_true rfl), (Nat.le_of_ble_eq_true rfl)⟩)
    dsimp only [Pt.U, Pt.locs, Pt.cells, Pt.slots] at X1 l1 y1 z1 st1 hQ1
    subst l1 y1 z1
    obtain ⟨rfl, N1q, e1⟩ := hQ1
    have N1 := Fr.app N N1q
    have zs1 : n0 ≤ T1.heap.size := by rw [e1]; exact zs
    have A1_r8_381 := own_A.eq A_r8_381 e1
    refine own_st (T' := T1) (f' := (mkF m 388 #[.val (.int p0), .val (.int p1), .val (.int p2), .val (.long w3), .second, .val (.int (vk p0 p1 p2 w3)), .val (.int (vr p0 p1 p2 w3)), .val (.int g7_381), .val (.ref r8_381), .val (.int (va p0 p1 p2 w3))] [(.int (f1 (va p0 p1 p2 w3) F8_381))])) ?_ (fun t q => st1 _ q)
    refine own_st (T' := T1) (f' := (mkF m 390 #[.val (.int p0), .val (.int p1), .val (.int p2), .val (.long w3), .second, .val (.int (vk p0 p1 p2 w3)), .val (.int (vr p0 p1 p2 w3)), .val (.int g7_381), .val (.ref r8_381), .val (.int (va p0 p1 p2 w3))] [(.int g7_381), (.int (f1 (va p0 p1 p2 w3) F8_381))])) ?_ (fun t q => XS.iload X1.here hx rfl (hb hby at_388) rfl q)
    refine own_ite (fun hc390 => ?_) (fun hc390 => ?_)
    · refine own_st (T' := T1) (f' := (mkF m 393 #[.val (.int p0), .val (.int p1), .val (.int p2), .val (.long w3), .second, .val (.int (vk p0 p1 p2 w3)), .val (.int (vr p0 p1 p2 w3)), .val (.int g7_381), .val (.ref r8_381), .val (.int (va p0 p1 p2 w3))] [])) ?_ (fun t q => XS.icmpNo X1.here hx rfl (hb hby at_390) rfl (teq hc390).2 q)
      refine own_st (T' := T1) (f' := (mkF m 394 #[.val (.int p0), .val (.int p1), .val (.int p2), .val (.long w3), .second, .val (.int (vk p0 p1 p2 w3)), .val (.int (vr p0 p1 p2 w3)), .val (.int g7_381), .val (.ref r8_381), .val (.int (va p0 p1 p2 w3))] [(.int (1 : Int32))])) ?_ (fun t q => XS.iconst X1.here hx rfl (hb hby at_393) q)
      refine own_st (T' := T1) (f' := (mkF m 398 #[.val (.int p0), .val (.int p1), .val (.int p2), .val (.long w3), .second, .val (.int (vk p0 p1 p2 w3)), .val (.int (vr p0 p1 p2 w3)), .val (.int g7_381), .val (.ref r8_381), .val (.int (va p0 p1 p2 w3))] [(.int (1 : Int32))])) ?_ (fun t q => XS.goto X1.here hx rfl (pc0 := 394) (pc' := 398) rfl (hb hby at_394) (by decide) (by decide) q)
      exact own_retN X1 hx hlk (t := .boolean) Bd.returns (by simp) (hb hby at_398) (by decide) (by decide) ⟨rfl, N1, trivial⟩
    · refine own_st (T' := T1) (f' := (mkF m 397 #[.val (.int p0), .val (.int p1), .val (.int p2), .val (.long w3), .second, .val (.int (vk p0 p1 p2 w3)), .val (.int (vr p0 p1 p2 w3)), .val (.int g7_381), .val (.ref r8_381), .val (.int (va p0 p1 p2 w3))] [])) ?_ (fun t q => XS.icmpYes X1.here hx rfl (pc0 := 390) (pc' := 397) rfl (hb hby at_390) rfl (feq hc390).2 (by decide) (by decide) q)
      refine own_st (T' := T1) (f' := (mkF m 398 #[.val (.int p0), .val (.int p1), .val (.int p2), .val (.long w3), .second, .val (.int (vk p0 p1 p2 w3)), .val (.int (vr p0 p1 p2 w3)), .val (.int g7_381), .val (.ref r8_381), .val (.int (va p0 p1 p2 w3))] [(.int (0 : Int32))])) ?_ (fun t q => XS.iconst X1.here hx rfl (hb hby at_397) q)
      exact own_retN X1 hx hlk (t := .boolean) Bd.returns (by simp) (hb hby at_398) (by decide) (by decide) ⟨rfl, N1, trivial⟩
  have B99 : ∀ (T : State) (locs : List Loc) (g7_99 : Int32) (X : Stand p l e room_1 s m #[(.int p0), (.int p1), (.int p2), (.long w3)] below meth c T locs 0 0) (N : Fr n0 locs) (zs : n0 ≤ T.heap.size), own_W p e below s 1 8 (own_GI n0 (fun _ => True) (f0_99 p0 p1 p2 w3 g7_99)) T (mkF m 99 #[.val (.int p0), .val (.int p1), .val (.int p2), .val (.long w3), .second, .val (.int (vk p0 p1 p2 w3)), .val (.int (vr p0 p1 p2 w3)), .val (.int g7_99), .unset, .unset] []) := by
    intro T locs g7_99 X N zs
    unfold f0_99
    refine own_st (T' := T) (f' := (mkF m 101 #[.val (.int p0), .val (.int p1), .val (.int p2), .val (.long w3), .second, .val (.int (vk p0 p1 p2 w3)), .val (.int (vr p0 p1 p2 w3)), .val (.int g7_99), .unset, .unset] [(.int (8 : Int32))])) ?_ (fun t q => XS.bipush X.here hx rfl (hb hby at_99) q)
    refine own_newB X hx hZ (hw _ (List.mem_of_getElem? (i := 1) rfl)) (z := (8 : Int32)) (by decide) (cap := 8) (by decide) (by decide) (by decide) (by decide) (hb hby at_101) (fun T2 b2 X2 ge2 E2 A2_b2 => ?_)
    have G2 : n0 ≤ b2 := Nat.le_trans zs ge2
    have zs2 : n0 ≤ T2.heap.size := Nat.le_trans zs E2.1
    show own_W _ _ _ _ _ _ _ T2 (mkF m 103 #[.val (.int p0), .val (.int p1), .val (.int p2), .val (.long w3), .second, .val (.int (vk p0 p1 p2 w3)), .val (.int (vr p0 p1 p2 w3)), .val (.int g7_99), .unset, .unset] [(.ref b2)])
    refine own_st (T' := T2) (f' := (mkF m 105 #[.val (.int p0), .val (.int p1), .val (.int p2), .val (.long w3), .second, .val (.int (vk p0 p1 p2 w3)), .val (.int (vr p0 p1 p2 w3)), .val (.int g7_99), .val (.ref b2), .unset] [])) ?_ (fun t q => XS.astore X2.here hx rfl (hb hby at_103) rfl rfl (l' := #[.val (.int p0), .val (.int p1), .val (.int p2), .val (.long w3), .second, .val (.int (vk p0 p1 p2 w3)), .val (.int (vr p0 p1 p2 w3)), .val (.int g7_99), .val (.ref b2), .unset]) rfl q)
    refine own_st (T' := T2) (f' := (mkF m 107 #[.val (.int p0), .val (.int p1), .val (.int p2), .val (.long w3), .second, .val (.int (vk p0 p1 p2 w3)), .val (.int (vr p0 p1 p2 w3)), .val (.int g7_99), .val (.ref b2), .unset] [(.ref b2)])) ?_ (fun t q => XS.aload X2.here hx rfl (hb hby at_105) rfl rfl q)
    refine own_st (T' := T2) (f' := (mkF m 108 #[.val (.int p0), .val (.int p1), .val (.int p2), .val (.long w3), .second, .val (.int (vk p0 p1 p2 w3)), .val (.int (vr p0 p1 p2 w3)), .val (.int g7_99), .val (.ref b2), .unset] [(.int (0 : Int32)), (.ref b2)])) ?_ (fun t q => XS.iconst X2.here hx rfl (hb hby at_107) q)
    refine own_st (T' := T2) (f' := (mkF m 109 #[.val (.int p0), .val (.int p1), .val (.int p2), .val (.long w3), .second, .val (.int (vk p0 p1 p2 w3)), .val (.int (vr p0 p1 p2 w3)), .val (.int g7_99), .val (.ref b2), .unset] [(.long w3), (.int (0 : Int32)), (.ref b2)])) ?_ (fun t q => XS.lloadN X2.here hx rfl (hb hby at_108) rfl q)
    refine own_st (T' := T2) (f' := (mkF m 110 #[.val (.int p0), .val (.int p1), .val (.int p2), .val (.long w3), .second, .val (.int (vk p0 p1 p2 w3)), .val (.int (vr p0 p1 p2 w3)), .val (.int g7_99), .val (.ref b2), .unset] [(.int (w3.toInt32)), (.int (0 : Int32)), (.ref b2)])) ?_ (fun t q => XS.l2i X2.here hx rfl (hb hby at_109) rfl q)
    refine own_st (T' := T2) (f' := (mkF m 111 #[.val (.int p0), .val (.int p1), .val (.int p2), .val (.long w3), .second, .val (.int (vk p0 p1 p2 w3)), .val (.int (vr p0 p1 p2 w3)), .val (.int g7_99), .val (.ref b2), .unset] [(.int ((w3.toInt32).toInt8.toInt32)), (.int (0 : Int32)), (.ref b2)])) ?_ (fun t q => XS.i2b X2.here hx rfl (hb hby at_110) rfl q)
    refine own_bast X2 hx hZ A2_b2 (j := (0 : Int32)) (x := ((w3.toInt32).toInt8.toInt32)) ⟨by decide, by decide⟩ (hb hby at_111) N G2 (fun T3 lo3 X3 N3 K3 A3_b2 => ?_)
    have zs3 : n0 ≤ T3.heap.size := Nat.le_trans zs2 K3.1
    show own_W _ _ _ _ _ _ _ T3 (mkF m 112 #[.val (.int p0), .val (.int p1), .val (.int p2), .val (.long w3), .second, .val (.int (vk p0 p1 p2 w3)), .val (.int (vr p0 p1 p2 w3)), .val (.int g7_99), .val (.ref b2), .unset] [])
    refine own_st (T' := T3) (f' := (mkF m 114 #[.val (.int p0), .val (.int p1), .val (.int p2), .val (.long w3), .second, .val (.int (vk p0 p1 p2 w3)), .val (.int (vr p0 p1 p2 w3)), .val (.int g7_99), .val (.ref b2), .unset] [(.ref b2)])) ?_ (fun t q => XS.aload X3.here hx rfl (hb hby at_112) rfl rfl q)
    refine own_st (T' := T3) (f' := (mkF m 115 #[.val (.int p0), .val (.int p1), .val (.int p2), .val (.long w3), .second, .val (.int (vk p0 p1 p2 w3)), .val (.int (vr p0 p1 p2 w3)), .val (.int g7_99), .val (.ref b2), .unset] [(.int (1 : Int32)), (.ref b2)])) ?_ (fun t q => XS.iconst X3.here hx rfl (hb hby at_114) q)
    refine own_st (T' := T3) (f' := (mkF m 116 #[.val (.int p0), .val (.int p1), .val (.int p2), .val (.long w3), .second, .val (.int (vk p0 p1 p2 w3)), .val (.int (vr p0 p1 p2 w3)), .val (.int g7_99), .val (.ref b2), .unset] [(.long w3), (.int (1 : Int32)), (.ref b2)])) ?_ (fun t q => XS.lloadN X3.here hx rfl (hb hby at_115) rfl q)
    refine own_st (T' := T3) (f' := (mkF m 118 #[.val (.int p0), .val (.int p1), .val (.int p2), .val (.long w3), .second, .val (.int (vk p0 p1 p2 w3)), .val (.int (vr p0 p1 p2 w3)), .val (.int g7_99), .val (.ref b2), .unset] [(.int (8 : Int32)), (.long w3), (.int (1 : Int32)), (.ref b2)])) ?_ (fun t q => XS.bipush X3.here hx rfl (hb hby at_116) q)
    refine own_st (T' := T3) (f' := (mkF m 119 #[.val (.int p0), .val (.int p1), .val (.int p2), .val (.long w3), .second, .val (.int (vk p0 p1 p2 w3)), .val (.int (vr p0 p1 p2 w3)), .val (.int g7_99), .val (.ref b2), .unset] [(.long ((w3.toUInt64 >>> ((8 : Int32) &&& 0x3f).toInt64.toUInt64).toInt64)), (.int (1 : Int32)), (.ref b2)])) ?_ (fun t q => XS.lushr X3.here hx rfl (hb hby at_118) rfl q)
    refine own_st (T' := T3) (f' := (mkF m 120 #[.val (.int p0), .val (.int p1), .val (.int p2), .val (.long w3), .second, .val (.int (vk p0 p1 p2 w3)), .val (.int (vr p0 p1 p2 w3)), .val (.int g7_99), .val (.ref b2), .unset] [(.int (((w3.toUInt64 >>> ((8 : Int32) &&& 0x3f).toInt64.toUInt64).toInt64).toInt32)), (.int (1 : Int32)), (.ref b2)])) ?_ (fun t q => XS.l2i X3.here hx rfl (hb hby at_119) rfl q)
    refine own_st (T' := T3) (f' := (mkF m 121 #[.val (.int p0), .val (.int p1), .val (.int p2), .val (.long w3), .second, .val (.int (vk p0 p1 p2 w3)), .val (.int (vr p0 p1 p2 w3)), .val (.int g7_99), .val (.ref b2), .unset] [(.int ((((w3.toUInt64 >>> ((8 : Int32) &&& 0x3f).toInt64.toUInt64).toInt64).toInt32).toInt8.toInt32)), (.int (1 : Int32)), (.ref b2)])) ?_ (fun t q => XS.i2b X3.here hx rfl (hb hby at_120) rfl q)
    refine own_bast X3 hx hZ A3_b2 (j := (1 : Int32)) (x := ((((w3.toUInt64 >>> ((8 : Int32) &&& 0x3f).toInt64.toUInt64).toInt64).toInt32).toInt8.toInt32)) ⟨by decide, by decide⟩ (hb hby at_121) N3 G2 (fun T4 lo4 X4 N4 K4 A4_b2 => ?_)
    have zs4 : n0 ≤ T4.heap.size := Nat.le_trans zs3 K4.1
    show own_W _ _ _ _ _ _ _ T4 (mkF m 122 #[.val (.int p0), .val (.int p1), .val (.int p2), .val (.long w3), .second, .val (.int (vk p0 p1 p2 w3)), .val (.int (vr p0 p1 p2 w3)), .val (.int g7_99), .val (.ref b2), .unset] [])
    refine own_st (T' := T4) (f' := (mkF m 124 #[.val (.int p0), .val (.int p1), .val (.int p2), .val (.long w3), .second, .val (.int (vk p0 p1 p2 w3)), .val (.int (vr p0 p1 p2 w3)), .val (.int g7_99), .val (.ref b2), .unset] [(.ref b2)])) ?_ (fun t q => XS.aload X4.here hx rfl (hb hby at_122) rfl rfl q)
    refine own_st (T' := T4) (f' := (mkF m 125 #[.val (.int p0), .val (.int p1), .val (.int p2), .val (.long w3), .second, .val (.int (vk p0 p1 p2 w3)), .val (.int (vr p0 p1 p2 w3)), .val (.int g7_99), .val (.ref b2), .unset] [(.int (2 : Int32)), (.ref b2)])) ?_ (fun t q => XS.iconst X4.here hx rfl (hb hby at_124) q)
    refine own_st (T' := T4) (f' := (mkF m 126 #[.val (.int p0), .val (.int p1), .val (.int p2), .val (.long w3), .second, .val (.int (vk p0 p1 p2 w3)), .val (.int (vr p0 p1 p2 w3)), .val (.int g7_99), .val (.ref b2), .unset] [(.long w3), (.int (2 : Int32)), (.ref b2)])) ?_ (fun t q => XS.lloadN X4.here hx rfl (hb hby at_125) rfl q)
    refine own_st (T' := T4) (f' := (mkF m 128 #[.val (.int p0), .val (.int p1), .val (.int p2), .val (.long w3), .second, .val (.int (vk p0 p1 p2 w3)), .val (.int (vr p0 p1 p2 w3)), .val (.int g7_99), .val (.ref b2), .unset] [(.int (16 : Int32)), (.long w3), (.int (2 : Int32)), (.ref b2)])) ?_ (fun t q => XS.bipush X4.here hx rfl (hb hby at_126) q)
    refine own_st (T' := T4) (f' := (mkF m 129 #[.val (.int p0), .val (.int p1), .val (.int p2), .val (.long w3), .second, .val (.int (vk p0 p1 p2 w3)), .val (.int (vr p0 p1 p2 w3)), .val (.int g7_99), .val (.ref b2), .unset] [(.long ((w3.toUInt64 >>> ((16 : Int32) &&& 0x3f).toInt64.toUInt64).toInt64)), (.int (2 : Int32)), (.ref b2)])) ?_ (fun t q => XS.lushr X4.here hx rfl (hb hby at_128) rfl q)
    refine own_st (T' := T4) (f' := (mkF m 130 #[.val (.int p0), .val (.int p1), .val (.int p2), .val (.long w3), .second, .val (.int (vk p0 p1 p2 w3)), .val (.int (vr p0 p1 p2 w3)), .val (.int g7_99), .val (.ref b2), .unset] [(.int (((w3.toUInt64 >>> ((16 : Int32) &&& 0x3f).toInt64.toUInt64).toInt64).toInt32)), (.int (2 : Int32)), (.ref b2)])) ?_ (fun t q => XS.l2i X4.here hx rfl (hb hby at_129) rfl q)
    refine own_st (T' := T4) (f' := (mkF m 131 #[.val (.int p0), .val (.int p1), .val (.int p2), .val (.long w3), .second, .val (.int (vk p0 p1 p2 w3)), .val (.int (vr p0 p1 p2 w3)), .val (.int g7_99), .val (.ref b2), .unset] [(.int ((((w3.toUInt64 >>> ((16 : Int32) &&& 0x3f).toInt64.toUInt64).toInt64).toInt32).toInt8.toInt32)), (.int (2 : Int32)), (.ref b2)])) ?_ (fun t q => XS.i2b X4.here hx rfl (hb hby at_130) rfl q)
    refine own_bast X4 hx hZ A4_b2 (j := (2 : Int32)) (x := ((((w3.toUInt64 >>> ((16 : Int32) &&& 0x3f).toInt64.toUInt64).toInt64).toInt32).toInt8.toInt32)) ⟨by decide, by decide⟩ (hb hby at_131) N4 G2 (fun T5 lo5 X5 N5 K5 A5_b2 => ?_)
    have zs5 : n0 ≤ T5.heap.size := Nat.le_trans zs4 K5.1
    show own_W _ _ _ _ _ _ _ T5 (mkF m 132 #[.val (.int p0), .val (.int p1), .val (.int p2), .val (.long w3), .second, .val (.int (vk p0 p1 p2 w3)), .val (.int (vr p0 p1 p2 w3)), .val (.int g7_99), .val (.ref b2), .unset] [])
    refine own_st (T' := T5) (f' := (mkF m 134 #[.val (.int p0), .val (.int p1), .val (.int p2), .val (.long w3), .second, .val (.int (vk p0 p1 p2 w3)), .val (.int (vr p0 p1 p2 w3)), .val (.int g7_99), .val (.ref b2), .unset] [(.ref b2)])) ?_ (fun t q => XS.aload X5.here hx rfl (hb hby at_132) rfl rfl q)
    refine own_st (T' := T5) (f' := (mkF m 135 #[.val (.int p0), .val (.int p1), .val (.int p2), .val (.long w3), .second, .val (.int (vk p0 p1 p2 w3)), .val (.int (vr p0 p1 p2 w3)), .val (.int g7_99), .val (.ref b2), .unset] [(.int (3 : Int32)), (.ref b2)])) ?_ (fun t q => XS.iconst X5.here hx rfl (hb hby at_134) q)
    refine own_st (T' := T5) (f' := (mkF m 136 #[.val (.int p0), .val (.int p1), .val (.int p2), .val (.long w3), .second, .val (.int (vk p0 p1 p2 w3)), .val (.int (vr p0 p1 p2 w3)), .val (.int g7_99), .val (.ref b2), .unset] [(.long w3), (.int (3 : Int32)), (.ref b2)])) ?_ (fun t q => XS.lloadN X5.here hx rfl (hb hby at_135) rfl q)
    refine own_st (T' := T5) (f' := (mkF m 138 #[.val (.int p0), .val (.int p1), .val (.int p2), .val (.long w3), .second, .val (.int (vk p0 p1 p2 w3)), .val (.int (vr p0 p1 p2 w3)), .val (.int g7_99), .val (.ref b2), .unset] [(.int (24 : Int32)), (.long w3), (.int (3 : Int32)), (.ref b2)])) ?_ (fun t q => XS.bipush X5.here hx rfl (hb hby at_136) q)
    refine own_st (T' := T5) (f' := (mkF m 139 #[.val (.int p0), .val (.int p1), .val (.int p2), .val (.long w3), .second, .val (.int (vk p0 p1 p2 w3)), .val (.int (vr p0 p1 p2 w3)), .val (.int g7_99), .val (.ref b2), .unset] [(.long ((w3.toUInt64 >>> ((24 : Int32) &&& 0x3f).toInt64.toUInt64).toInt64)), (.int (3 : Int32)), (.ref b2)])) ?_ (fun t q => XS.lushr X5.here hx rfl (hb hby at_138) rfl q)
    refine own_st (T' := T5) (f' := (mkF m 140 #[.val (.int p0), .val (.int p1), .val (.int p2), .val (.long w3), .second, .val (.int (vk p0 p1 p2 w3)), .val (.int (vr p0 p1 p2 w3)), .val (.int g7_99), .val (.ref b2), .unset] [(.int (((w3.toUInt64 >>> ((24 : Int32) &&& 0x3f).toInt64.toUInt64).toInt64).toInt32)), (.int (3 : Int32)), (.ref b2)])) ?_ (fun t q => XS.l2i X5.here hx rfl (hb hby at_139) rfl q)
    refine own_st (T' := T5) (f' := (mkF m 141 #[.val (.int p0), .val (.int p1), .val (.int p2), .val (.long w3), .second, .val (.int (vk p0 p1 p2 w3)), .val (.int (vr p0 p1 p2 w3)), .val (.int g7_99), .val (.ref b2), .unset] [(.int ((((w3.toUInt64 >>> ((24 : Int32) &&& 0x3f).toInt64.toUInt64).toInt64).toInt32).toInt8.toInt32)), (.int (3 : Int32)), (.ref b2)])) ?_ (fun t q => XS.i2b X5.here hx rfl (hb hby at_140) rfl q)
    refine own_bast X5 hx hZ A5_b2 (j := (3 : Int32)) (x := ((((w3.toUInt64 >>> ((24 : Int32) &&& 0x3f).toInt64.toUInt64).toInt64).toInt32).toInt8.toInt32)) ⟨by decide, by decide⟩ (hb hby at_141) N5 G2 (fun T6 lo6 X6 N6 K6 A6_b2 => ?_)
    have zs6 : n0 ≤ T6.heap.size := Nat.le_trans zs5 K6.1
    show own_W _ _ _ _ _ _ _ T6 (mkF m 142 #[.val (.int p0), .val (.int p1), .val (.int p2), .val (.long w3), .second, .val (.int (vk p0 p1 p2 w3)), .val (.int (vr p0 p1 p2 w3)), .val (.int g7_99), .val (.ref b2), .unset] [])
    refine own_st (T' := T6) (f' := (mkF m 144 #[.val (.int p0), .val (.int p1), .val (.int p2), .val (.long w3), .second, .val (.int (vk p0 p1 p2 w3)), .val (.int (vr p0 p1 p2 w3)), .val (.int g7_99), .val (.ref b2), .unset] [(.ref b2)])) ?_ (fun t q => XS.aload X6.here hx rfl (hb hby at_142) rfl rfl q)
    refine own_st (T' := T6) (f' := (mkF m 145 #[.val (.int p0), .val (.int p1), .val (.int p2), .val (.long w3), .second, .val (.int (vk p0 p1 p2 w3)), .val (.int (vr p0 p1 p2 w3)), .val (.int g7_99), .val (.ref b2), .unset] [(.int (4 : Int32)), (.ref b2)])) ?_ (fun t q => XS.iconst X6.here hx rfl (hb hby at_144) q)
    refine own_st (T' := T6) (f' := (mkF m 146 #[.val (.int p0), .val (.int p1), .val (.int p2), .val (.long w3), .second, .val (.int (vk p0 p1 p2 w3)), .val (.int (vr p0 p1 p2 w3)), .val (.int g7_99), .val (.ref b2), .unset] [(.long w3), (.int (4 : Int32)), (.ref b2)])) ?_ (fun t q => XS.lloadN X6.here hx rfl (hb hby at_145) rfl q)
    refine own_st (T' := T6) (f' := (mkF m 148 #[.val (.int p0), .val (.int p1), .val (.int p2), .val (.long w3), .second, .val (.int (vk p0 p1 p2 w3)), .val (.int (vr p0 p1 p2 w3)), .val (.int g7_99), .val (.ref b2), .unset] [(.int (32 : Int32)), (.long w3), (.int (4 : Int32)), (.ref b2)])) ?_ (fun t q => XS.bipush X6.here hx rfl (hb hby at_146) q)
    refine own_st (T' := T6) (f' := (mkF m 149 #[.val (.int p0), .val (.int p1), .val (.int p2), .val (.long w3), .second, .val (.int (vk p0 p1 p2 w3)), .val (.int (vr p0 p1 p2 w3)), .val (.int g7_99), .val (.ref b2), .unset] [(.long ((w3.toUInt64 >>> ((32 : Int32) &&& 0x3f).toInt64.toUInt64).toInt64)), (.int (4 : Int32)), (.ref b2)])) ?_ (fun t q => XS.lushr X6.here hx rfl (hb hby at_148) rfl q)
    refine own_st (T' := T6) (f' := (mkF m 150 #[.val (.int p0), .val (.int p1), .val (.int p2), .val (.long w3), .second, .val (.int (vk p0 p1 p2 w3)), .val (.int (vr p0 p1 p2 w3)), .val (.int g7_99), .val (.ref b2), .unset] [(.int (((w3.toUInt64 >>> ((32 : Int32) &&& 0x3f).toInt64.toUInt64).toInt64).toInt32)), (.int (4 : Int32)), (.ref b2)])) ?_ (fun t q => XS.l2i X6.here hx rfl (hb hby at_149) rfl q)
    refine own_st (T' := T6) (f' := (mkF m 151 #[.val (.int p0), .val (.int p1), .val (.int p2), .val (.long w3), .second, .val (.int (vk p0 p1 p2 w3)), .val (.int (vr p0 p1 p2 w3)), .val (.int g7_99), .val (.ref b2), .unset] [(.int ((((w3.toUInt64 >>> ((32 : Int32) &&& 0x3f).toInt64.toUInt64).toInt64).toInt32).toInt8.toInt32)), (.int (4 : Int32)), (.ref b2)])) ?_ (fun t q => XS.i2b X6.here hx rfl (hb hby at_150) rfl q)
    refine own_bast X6 hx hZ A6_b2 (j := (4 : Int32)) (x := ((((w3.toUInt64 >>> ((32 : Int32) &&& 0x3f).toInt64.toUInt64).toInt64).toInt32).toInt8.toInt32)) ⟨by decide, by decide⟩ (hb hby at_151) N6 G2 (fun T7 lo7 X7 N7 K7 A7_b2 => ?_)
    have zs7 : n0 ≤ T7.heap.size := Nat.le_trans zs6 K7.1
    show own_W _ _ _ _ _ _ _ T7 (mkF m 152 #[.val (.int p0), .val (.int p1), .val (.int p2), .val (.long w3), .second, .val (.int (vk p0 p1 p2 w3)), .val (.int (vr p0 p1 p2 w3)), .val (.int g7_99), .val (.ref b2), .unset] [])
    refine own_st (T' := T7) (f' := (mkF m 154 #[.val (.int p0), .val (.int p1), .val (.int p2), .val (.long w3), .second, .val (.int (vk p0 p1 p2 w3)), .val (.int (vr p0 p1 p2 w3)), .val (.int g7_99), .val (.ref b2), .unset] [(.ref b2)])) ?_ (fun t q => XS.aload X7.here hx rfl (hb hby at_152) rfl rfl q)
    refine own_st (T' := T7) (f' := (mkF m 155 #[.val (.int p0), .val (.int p1), .val (.int p2), .val (.long w3), .second, .val (.int (vk p0 p1 p2 w3)), .val (.int (vr p0 p1 p2 w3)), .val (.int g7_99), .val (.ref b2), .unset] [(.int (5 : Int32)), (.ref b2)])) ?_ (fun t q => XS.iconst X7.here hx rfl (hb hby at_154) q)
    refine own_st (T' := T7) (f' := (mkF m 156 #[.val (.int p0), .val (.int p1), .val (.int p2), .val (.long w3), .second, .val (.int (vk p0 p1 p2 w3)), .val (.int (vr p0 p1 p2 w3)), .val (.int g7_99), .val (.ref b2), .unset] [(.long w3), (.int (5 : Int32)), (.ref b2)])) ?_ (fun t q => XS.lloadN X7.here hx rfl (hb hby at_155) rfl q)
    refine own_st (T' := T7) (f' := (mkF m 158 #[.val (.int p0), .val (.int p1), .val (.int p2), .val (.long w3), .second, .val (.int (vk p0 p1 p2 w3)), .val (.int (vr p0 p1 p2 w3)), .val (.int g7_99), .val (.ref b2), .unset] [(.int (40 : Int32)), (.long w3), (.int (5 : Int32)), (.ref b2)])) ?_ (fun t q => XS.bipush X7.here hx rfl (hb hby at_156) q)
    refine own_st (T' := T7) (f' := (mkF m 159 #[.val (.int p0), .val (.int p1), .val (.int p2), .val (.long w3), .second, .val (.int (vk p0 p1 p2 w3)), .val (.int (vr p0 p1 p2 w3)), .val (.int g7_99), .val (.ref b2), .unset] [(.long ((w3.toUInt64 >>> ((40 : Int32) &&& 0x3f).toInt64.toUInt64).toInt64)), (.int (5 : Int32)), (.ref b2)])) ?_ (fun t q => XS.lushr X7.here hx rfl (hb hby at_158) rfl q)
    refine own_st (T' := T7) (f' := (mkF m 160 #[.val (.int p0), .val (.int p1), .val (.int p2), .val (.long w3), .second, .val (.int (vk p0 p1 p2 w3)), .val (.int (vr p0 p1 p2 w3)), .val (.int g7_99), .val (.ref b2), .unset] [(.int (((w3.toUInt64 >>> ((40 : Int32) &&& 0x3f).toInt64.toUInt64).toInt64).toInt32)), (.int (5 : Int32)), (.ref b2)])) ?_ (fun t q => XS.l2i X7.here hx rfl (hb hby at_159) rfl q)
    refine own_st (T' := T7) (f' := (mkF m 161 #[.val (.int p0), .val (.int p1), .val (.int p2), .val (.long w3), .second, .val (.int (vk p0 p1 p2 w3)), .val (.int (vr p0 p1 p2 w3)), .val (.int g7_99), .val (.ref b2), .unset] [(.int ((((w3.toUInt64 >>> ((40 : Int32) &&& 0x3f).toInt64.toUInt64).toInt64).toInt32).toInt8.toInt32)), (.int (5 : Int32)), (.ref b2)])) ?_ (fun t q => XS.i2b X7.here hx rfl (hb hby at_160) rfl q)
    refine own_bast X7 hx hZ A7_b2 (j := (5 : Int32)) (x := ((((w3.toUInt64 >>> ((40 : Int32) &&& 0x3f).toInt64.toUInt64).toInt64).toInt32).toInt8.toInt32)) ⟨by decide, by decide⟩ (hb hby at_161) N7 G2 (fun T8 lo8 X8 N8 K8 A8_b2 => ?_)
    have zs8 : n0 ≤ T8.heap.size := Nat.le_trans zs7 K8.1
    show own_W _ _ _ _ _ _ _ T8 (mkF m 162 #[.val (.int p0), .val (.int p1), .val (.int p2), .val (.long w3), .second, .val (.int (vk p0 p1 p2 w3)), .val (.int (vr p0 p1 p2 w3)), .val (.int g7_99), .val (.ref b2), .unset] [])
    refine own_st (T' := T8) (f' := (mkF m 164 #[.val (.int p0), .val (.int p1), .val (.int p2), .val (.long w3), .second, .val (.int (vk p0 p1 p2 w3)), .val (.int (vr p0 p1 p2 w3)), .val (.int g7_99), .val (.ref b2), .unset] [(.ref b2)])) ?_ (fun t q => XS.aload X8.here hx rfl (hb hby at_162) rfl rfl q)
    refine own_st (T' := T8) (f' := (mkF m 166 #[.val (.int p0), .val (.int p1), .val (.int p2), .val (.long w3), .second, .val (.int (vk p0 p1 p2 w3)), .val (.int (vr p0 p1 p2 w3)), .val (.int g7_99), .val (.ref b2), .unset] [(.int (6 : Int32)), (.ref b2)])) ?_ (fun t q => XS.bipush X8.here hx rfl (hb hby at_164) q)
    refine own_st (T' := T8) (f' := (mkF m 167 #[.val (.int p0), .val (.int p1), .val (.int p2), .val (.long w3), .second, .val (.int (vk p0 p1 p2 w3)), .val (.int (vr p0 p1 p2 w3)), .val (.int g7_99), .val (.ref b2), .unset] [(.long w3), (.int (6 : Int32)), (.ref b2)])) ?_ (fun t q => XS.lloadN X8.here hx rfl (hb hby at_166) rfl q)
    refine own_st (T' := T8) (f' := (mkF m 169 #[.val (.int p0), .val (.int p1), .val (.int p2), .val (.long w3), .second, .val (.int (vk p0 p1 p2 w3)), .val (.int (vr p0 p1 p2 w3)), .val (.int g7_99), .val (.ref b2), .unset] [(.int (48 : Int32)), (.long w3), (.int (6 : Int32)), (.ref b2)])) ?_ (fun t q => XS.bipush X8.here hx rfl (hb hby at_167) q)
    refine own_st (T' := T8) (f' := (mkF m 170 #[.val (.int p0), .val (.int p1), .val (.int p2), .val (.long w3), .second, .val (.int (vk p0 p1 p2 w3)), .val (.int (vr p0 p1 p2 w3)), .val (.int g7_99), .val (.ref b2), .unset] [(.long ((w3.toUInt64 >>> ((48 : Int32) &&& 0x3f).toInt64.toUInt64).toInt64)), (.int (6 : Int32)), (.ref b2)])) ?_ (fun t q => XS.lushr X8.here hx rfl (hb hby at_169) rfl q)
    refine own_st (T' := T8) (f' := (mkF m 171 #[.val (.int p0), .val (.int p1), .val (.int p2), .val (.long w3), .second, .val (.int (vk p0 p1 p2 w3)), .val (.int (vr p0 p1 p2 w3)), .val (.int g7_99), .val (.ref b2), .unset] [(.int (((w3.toUInt64 >>> ((48 : Int32) &&& 0x3f).toInt64.toUInt64).toInt64).toInt32)), (.int (6 : Int32)), (.ref b2)])) ?_ (fun t q => XS.l2i X8.here hx rfl (hb hby at_170) rfl q)
    refine own_st (T' := T8) (f' := (mkF m 172 #[.val (.int p0), .val (.int p1), .val (.int p2), .val (.long w3), .second, .val (.int (vk p0 p1 p2 w3)), .val (.int (vr p0 p1 p2 w3)), .val (.int g7_99), .val (.ref b2), .unset] [(.int ((((w3.toUInt64 >>> ((48 : Int32) &&& 0x3f).toInt64.toUInt64).toInt64).toInt32).toInt8.toInt32)), (.int (6 : Int32)), (.ref b2)])) ?_ (fun t q => XS.i2b X8.here hx rfl (hb hby at_171) rfl q)
    refine own_bast X8 hx hZ A8_b2 (j := (6 : Int32)) (x := ((((w3.toUInt64 >>> ((48 : Int32) &&& 0x3f).toInt64.toUInt64).toInt64).toInt32).toInt8.toInt32)) ⟨by decide, by decide⟩ (hb hby at_172) N8 G2 (fun T9 lo9 X9 N9 K9 A9_b2 => ?_)
    have zs9 : n0 ≤ T9.heap.size := Nat.le_trans zs8 K9.1
    show own_W _ _ _ _ _ _ _ T9 (mkF m 173 #[.val (.int p0), .val (.int p1), .val (.int p2), .val (.long w3), .second, .val (.int (vk p0 p1 p2 w3)), .val (.int (vr p0 p1 p2 w3)), .val (.int g7_99), .val (.ref b2), .unset] [])
    refine own_st (T' := T9) (f' := (mkF m 175 #[.val (.int p0), .val (.int p1), .val (.int p2), .val (.long w3), .second, .val (.int (vk p0 p1 p2 w3)), .val (.int (vr p0 p1 p2 w3)), .val (.int g7_99), .val (.ref b2), .unset] [(.ref b2)])) ?_ (fun t q => XS.aload X9.here hx rfl (hb hby at_173) rfl rfl q)
    refine own_st (T' := T9) (f' := (mkF m 177 #[.val (.int p0), .val (.int p1), .val (.int p2), .val (.long w3), .second, .val (.int (vk p0 p1 p2 w3)), .val (.int (vr p0 p1 p2 w3)), .val (.int g7_99), .val (.ref b2), .unset] [(.int (7 : Int32)), (.ref b2)])) ?_ (fun t q => XS.bipush X9.here hx rfl (hb hby at_175) q)
    refine own_st (T' := T9) (f' := (mkF m 178 #[.val (.int p0), .val (.int p1), .val (.int p2), .val (.long w3), .second, .val (.int (vk p0 p1 p2 w3)), .val (.int (vr p0 p1 p2 w3)), .val (.int g7_99), .val (.ref b2), .unset] [(.long w3), (.int (7 : Int32)), (.ref b2)])) ?_ (fun t q => XS.lloadN X9.here hx rfl (hb hby at_177) rfl q)
    refine own_st (T' := T9) (f' := (mkF m 180 #[.val (.int p0), .val (.int p1), .val (.int p2), .val (.long w3), .second, .val (.int (vk p0 p1 p2 w3)), .val (.int (vr p0 p1 p2 w3)), .val (.int g7_99), .val (.ref b2), .unset] [(.int (56 : Int32)), (.long w3), (.int (7 : Int32)), (.ref b2)])) ?_ (fun t q => XS.bipush X9.here hx rfl (hb hby at_178) q)
    refine own_st (T' := T9) (f' := (mkF m 181 #[.val (.int p0), .val (.int p1), .val (.int p2), .val (.long w3), .second, .val (.int (vk p0 p1 p2 w3)), .val (.int (vr p0 p1 p2 w3)), .val (.int g7_99), .val (.ref b2), .unset] [(.long ((w3.toUInt64 >>> ((56 : Int32) &&& 0x3f).toInt64.toUInt64).toInt64)), (.int (7 : Int32)), (.ref b2)])) ?_ (fun t q => XS.lushr X9.here hx rfl (hb hby at_180) rfl q)
    refine own_st (T' := T9) (f' := (mkF m 182 #[.val (.int p0), .val (.int p1), .val (.int p2), .val (.long w3), .second, .val (.int (vk p0 p1 p2 w3)), .val (.int (vr p0 p1 p2 w3)), .val (.int g7_99), .val (.ref b2), .unset] [(.int (((w3.toUInt64 >>> ((56 : Int32) &&& 0x3f).toInt64.toUInt64).toInt64).toInt32)), (.int (7 : Int32)), (.ref b2)])) ?_ (fun t q => XS.l2i X9.here hx rfl (hb hby at_181) rfl q)
    refine own_st (T' := T9) (f' := (mkF m 183 #[.val (.int p0), .val (.int p1), .val (.int p2), .val (.long w3), .second, .val (.int (vk p0 p1 p2 w3)), .val (.int (vr p0 p1 p2 w3)), .val (.int g7_99), .val (.ref b2), .unset] [(.int ((((w3.toUInt64 >>> ((56 : Int32) &&& 0x3f).toInt64.toUInt64).toInt64).toInt32).toInt8.toInt32)), (.int (7 : Int32)), (.ref b2)])) ?_ (fun t q => XS.i2b X9.here hx rfl (hb hby at_182) rfl q)
    refine own_bast X9 hx hZ A9_b2 (j := (7 : Int32)) (x := ((((w3.toUInt64 >>> ((56 : Int32) &&& 0x3f).toInt64.toUInt64).toInt64).toInt32).toInt8.toInt32)) ⟨by decide, by decide⟩ (hb hby at_183) N9 G2 (fun T10 lo10 X10 N10 K10 A10_b2 => ?_)
    have zs10 : n0 ≤ T10.heap.size := Nat.le_trans zs9 K10.1
    show own_W _ _ _ _ _ _ _ T10 (mkF m 184 #[.val (.int p0), .val (.int p1), .val (.int p2), .val (.long w3), .second, .val (.int (vk p0 p1 p2 w3)), .val (.int (vr p0 p1 p2 w3)), .val (.int g7_99), .val (.ref b2), .unset] [])
    refine own_st (T' := T10) (f' := (mkF m 185 #[.val (.int p0), .val (.int p1), .val (.int p2), .val (.long w3), .second, .val (.int (vk p0 p1 p2 w3)), .val (.int (vr p0 p1 p2 w3)), .val (.int g7_99), .val (.ref b2), .unset] [(.int p2)])) ?_ (fun t q => XS.iloadN X10.here hx rfl (hb hby at_184) rfl q)
    refine own_st (T' := T10) (f' := (mkF m 186 #[.val (.int p0), .val (.int p1), .val (.int p2), .val (.long w3), .second, .val (.int (vk p0 p1 p2 w3)), .val (.int (vr p0 p1 p2 w3)), .val (.int g7_99), .val (.ref b2), .unset] [(.int (3 : Int32)), (.int p2)])) ?_ (fun t q => XS.iconst X10.here hx rfl (hb hby at_185) q)
    refine own_st (T' := T10) (f' := (mkF m 187 #[.val (.int p0), .val (.int p1), .val (.int p2), .val (.long w3), .second, .val (.int (vk p0 p1 p2 w3)), .val (.int (vr p0 p1 p2 w3)), .val (.int g7_99), .val (.ref b2), .unset] [(.int (p2 &&& (3 : Int32)))])) ?_ (fun t q => XS.iand X10.here hx rfl (hb hby at_186) rfl q)
    refine own_st (T' := T10) (f' := (mkF m 189 #[.val (.int p0), .val (.int p1), .val (.int p2), .val (.long w3), .second, .val (.int (vk p0 p1 p2 w3)), .val (.int (vr p0 p1 p2 w3)), .val (.int g7_99), .val (.ref b2), .val (.int (va p0 p1 p2 w3))] [])) ?_ (fun t q => XS.istore X10.here hx rfl (hb hby at_187) rfl (l' := #[.val (.int p0), .val (.int p1), .val (.int p2), .val (.long w3), .second, .val (.int (vk p0 p1 p2 w3)), .val (.int (vr p0 p1 p2 w3)), .val (.int g7_99), .val (.ref b2), .val (.int (va p0 p1 p2 w3))]) rfl q)
    refine own_st (T' := T10) (f' := (mkF m 191 #[.val (.int p0), .val (.int p1), .val (.int p2), .val (.long w3), .second, .val (.int (vk p0 p1 p2 w3)), .val (.int (vr p0 p1 p2 w3)), .val (.int g7_99), .val (.ref b2), .val (.int (va p0 p1 p2 w3))] [(.int (vk p0 p1 p2 w3))])) ?_ (fun t q => XS.iload X10.here hx rfl (hb hby at_189) rfl q)
    refine own_ite (fun hc191 => ?_) (fun hc191 => ?_)
    · refine own_st (T' := T10) (f' := (mkF m 194 #[.val (.int p0), .val (.int p1), .val (.int p2), .val (.long w3), .second, .val (.int (vk p0 p1 p2 w3)), .val (.int (vr p0 p1 p2 w3)), .val (.int g7_99), .val (.ref b2), .val (.int (va p0 p1 p2 w3))] [])) ?_ (fun t q => XS.ifNo X10.here hx rfl (hb hby at_191) rfl ((if0 _ _).trans (teq hc191).2) q)
      refine own_st (T' := T10) (f' := (mkF m 196 #[.val (.int p0), .val (.int p1), .val (.int p2), .val (.long w3), .second, .val (.int (vk p0 p1 p2 w3)), .val (.int (vr p0 p1 p2 w3)), .val (.int g7_99), .val (.ref b2), .val (.int (va p0 p1 p2 w3))] [(.ref b2)])) ?_ (fun t q => XS.aload X10.here hx rfl (hb hby at_194) rfl rfl q)
      refine own_st (T' := T10) (f' := (mkF m 198 #[.val (.int p0), .val (.int p1), .val (.int p2), .val (.long w3), .second, .val (.int (vk p0 p1 p2 w3)), .val (.int (vr p0 p1 p2 w3)), .val (.int g7_99), .val (.ref b2), .val (.int (va p0 p1 p2 w3))] [(.int (va p0 p1 p2 w3)), (.ref b2)])) ?_ (fun t q => XS.iload X10.here hx rfl (hb hby at_196) rfl q)
      refine own_st (T' := T10) (f' := (mkF m 200 #[.val (.int p0), .val (.int p1), .val (.int p2), .val (.long w3), .second, .val (.int (vk p0 p1 p2 w3)), .val (.int (vr p0 p1 p2 w3)), .val (.int g7_99), .val (.ref b2), .val (.int (va p0 p1 p2 w3))] [(.int g7_99), (.int (va p0 p1 p2 w3)), (.ref b2)])) ?_ (fun t q => XS.iload X10.here hx rfl (hb hby at_198) rfl q)
      refine own_st (T' := T10) (f' := (mkF m 201 #[.val (.int p0), .val (.int p1), .val (.int p2), .val (.long w3), .second, .val (.int (vk p0 p1 p2 w3)), .val (.int (vr p0 p1 p2 w3)), .val (.int g7_99), .val (.ref b2), .val (.int (va p0 p1 p2 w3))] [(.int (g7_99.toInt8.toInt32)), (.int (va p0 p1 p2 w3)), (.ref b2)])) ?_ (fun t q => XS.i2b X10.here hx rfl (hb hby at_200) rfl q)
      refine own_bast X10 hx hZ A10_b2 (j := (va p0 p1 p2 w3)) (x := (g7_99.toInt8.toInt32)) (own_at0 (own_a1 p2) (own_a2 p2) (by decide)) (hb hby at_201) N10 G2 (fun T11 lo11 X11 N11 K11 A11_b2 => ?_)
      have zs11 : n0 ≤ T11.heap.size := Nat.le_trans zs10 K11.1
      show own_W _ _ _ _ _ _ _ T11 (mkF m 202 #[.val (.int p0), .val (.int p1), .val (.int p2), .val (.long w3), .second, .val (.int (vk p0 p1 p2 w3)), .val (.int (vr p0 p1 p2 w3)), .val (.int g7_99), .val (.ref b2), .val (.int (va p0 p1 p2 w3))] [])
      refine own_st (T' := T11) (f' := (mkF m 381 #[.val (.int p0), .val (.int p1), .val (.int p2), .val (.long w3), .second, .val (.int (vk p0 p1 p2 w3)), .val (.int (vr p0 p1 p2 w3)), .val (.int g7_99), .val (.ref b2), .val (.int (va p0 p1 p2 w3))] [])) ?_ (fun t q => XS.goto X11.here hx rfl (pc0 := 202) (pc' := 381) rfl (hb hby at_202) (by decide) (by decide) q)
      exact B381 T11 _ g7_99 b2 (own_up (vF p0 p1 p2 w3) (va p0 p1 p2 w3).toNatClampNeg (nar .byte (g7_99.toInt8.toInt32))) X11 N11 zs11 G2 A11_b2
    · refine own_st (T' := T10) (f' := (mkF m 205 #[.val (.int p0), .val (.int p1), .val (.int p2), .val (.long w3), .second, .val (.int (vk p0 p1 p2 w3)), .val (.int (vr p0 p1 p2 w3)), .val (.int g7_99), .val (.ref b2), .val (.int (va p0 p1 p2 w3))] [])) ?_ (fun t q => XS.ifYes X10.here hx rfl (pc0 := 191) (pc' := 205) rfl (hb hby at_191) rfl ((if0 _ _).trans (feq hc191).2) (by decide) (by decide) q)
      refine own_st (T' := T10) (f' := (mkF m 207 #[.val (.int p0), .val (.int p1), .val (.int p2), .val (.long w3), .second, .val (.int (vk p0 p1 p2 w3)), .val (.int (vr p0 p1 p2 w3)), .val (.int g7_99), .val (.ref b2), .val (.int (va p0 p1 p2 w3))] [(.int (vk p0 p1 p2 w3))])) ?_ (fun t q => XS.iload X10.here hx rfl (hb hby at_205) rfl q)
      refine own_st (T' := T10) (f' := (mkF m 208 #[.val (.int p0), .val (.int p1), .val (.int p2), .val (.long w3), .second, .val (.int (vk p0 p1 p2 w3)), .val (.int (vr p0 p1 p2 w3)), .val (.int g7_99), .val (.ref b2), .val (.int (va p0 p1 p2 w3))] [(.int (1 : Int32)), (.int (vk p0 p1 p2 w3))])) ?_ (fun t q => XS.iconst X10.here hx rfl (hb hby at_207) q)
      refine own_ite (fun hc208 => ?_) (fun hc208 => ?_)
      · refine own_st (T' := T10) (f' := (mkF m 211 #[.val (.int p0), .val (.int p1), .val (.int p2), .val (.long w3), .second, .val (.int (vk p0 p1 p2 w3)), .val (.int (vr p0 p1 p2 w3)), .val (.int g7_99), .val (.ref b2), .val (.int (va p0 p1 p2 w3))] [])) ?_ (fun t q => XS.icmpNo X10.here hx rfl (hb hby at_208) rfl (teq hc208).2 q)
        refine own_st (T' := T10) (f' := (mkF m 213 #[.val (.int p0), .val (.int p1), .val (.int p2), .val (.long w3), .second, .val (.int (vk p0 p1 p2 w3)), .val (.int (vr p0 p1 p2 w3)), .val (.int g7_99), .val (.ref b2), .val (.int (va p0 p1 p2 w3))] [(.ref b2)])) ?_ (fun t q => XS.aload X10.here hx rfl (hb hby at_211) rfl rfl q)
        refine own_st (T' := T10) (f' := (mkF m 215 #[.val (.int p0), .val (.int p1), .val (.int p2), .val (.long w3), .second, .val (.int (vk p0 p1 p2 w3)), .val (.int (vr p0 p1 p2 w3)), .val (.int g7_99), .val (.ref b2), .val (.int (va p0 p1 p2 w3))] [(.int (va p0 p1 p2 w3)), (.ref b2)])) ?_ (fun t q => XS.iload X10.here hx rfl (hb hby at_213) rfl q)
        refine own_st (T' := T10) (f' := (mkF m 218 #[.val (.int p0), .val (.int p1), .val (.int p2), .val (.long w3), .second, .val (.int (vk p0 p1 p2 w3)), .val (.int (vr p0 p1 p2 w3)), .val (.int g7_99), .val (.ref b2), .val (.int (va p0 p1 p2 w3))] [(.int (192 : Int32)), (.int (va p0 p1 p2 w3)), (.ref b2)])) ?_ (fun t q => XS.sipush X10.here hx rfl (hb hby at_215) q)
        refine own_st (T' := T10) (f' := (mkF m 220 #[.val (.int p0), .val (.int p1), .val (.int p2), .val (.long w3), .second, .val (.int (vk p0 p1 p2 w3)), .val (.int (vr p0 p1 p2 w3)), .val (.int g7_99), .val (.ref b2), .val (.int (va p0 p1 p2 w3))] [(.int g7_99), (.int (192 : Int32)), (.int (va p0 p1 p2 w3)), (.ref b2)])) ?_ (fun t q => XS.iload X10.here hx rfl (hb hby at_218) rfl q)
        refine own_st (T' := T10) (f' := (mkF m 222 #[.val (.int p0), .val (.int p1), .val (.int p2), .val (.long w3), .second, .val (.int (vk p0 p1 p2 w3)), .val (.int (vr p0 p1 p2 w3)), .val (.int g7_99), .val (.ref b2), .val (.int (va p0 p1 p2 w3))] [(.int (64 : Int32)), (.int g7_99), (.int (192 : Int32)), (.int (va p0 p1 p2 w3)), (.ref b2)])) ?_ (fun t q => XS.bipush X10.here hx rfl (hb hby at_220) q)
        refine own_st (T' := T10) (f' := (mkF m 223 #[.val (.int p0), .val (.int p1), .val (.int p2), .val (.long w3), .second, .val (.int (vk p0 p1 p2 w3)), .val (.int (vr p0 p1 p2 w3)), .val (.int g7_99), .val (.ref b2), .val (.int (va p0 p1 p2 w3))] [(.int (g7_99 / (64 : Int32))), (.int (192 : Int32)), (.int (va p0 p1 p2 w3)), (.ref b2)])) ?_ (fun t q => XS.idiv X10.here hx rfl (hb hby at_222) rfl (by decide) q)
        refine own_st (T' := T10) (f' := (mkF m 224 #[.val (.int p0), .val (.int p1), .val (.int p2), .val (.long w3), .second, .val (.int (vk p0 p1 p2 w3)), .val (.int (vr p0 p1 p2 w3)), .val (.int g7_99), .val (.ref b2), .val (.int (va p0 p1 p2 w3))] [(.int ((192 : Int32) + (g7_99 / (64 : Int32)))), (.int (va p0 p1 p2 w3)), (.ref b2)])) ?_ (fun t q => XS.iadd X10.here hx rfl (hb hby at_223) rfl q)
        refine own_st (T' := T10) (f' := (mkF m 225 #[.val (.int p0), .val (.int p1), .val (.int p2), .val (.long w3), .second, .val (.int (vk p0 p1 p2 w3)), .val (.int (vr p0 p1 p2 w3)), .val (.int g7_99), .val (.ref b2), .val (.int (va p0 p1 p2 w3))] [(.int (((192 : Int32) + (g7_99 / (64 : Int32))).toInt8.toInt32)), (.int (va p0 p1 p2 w3)), (.ref b2)])) ?_ (fun t q => XS.i2b X10.here hx rfl (hb hby at_224) rfl q)
        refine own_bast X10 hx hZ A10_b2 (j := (va p0 p1 p2 w3)) (x := (((192 : Int32) + (g7_99 / (64 : Int32))).toInt8.toInt32)) (own_at0 (own_a1 p2) (own_a2 p2) (by decide)) (hb hby at_225) N10 G2 (fun T12 lo12 X12 N12 K12 A12_b2 => ?_)
        have zs12 : n0 ≤ T12.heap.size := Nat.le_trans zs10 K12.1
        show own_W _ _ _ _ _ _ _ T12 (mkF m 226 #[.val (.int p0), .val (.int p1), .val (.int p2), .val (.long w3), .second, .val (.int (vk p0 p1 p2 w3)), .val (.int (vr p0 p1 p2 w3)), .val (.int g7_99), .val (.ref b2), .val (.int (va p0 p1 p2 w3))] [])
        refine own_st (T' := T12) (f' := (mkF m 228 #[.val (.int p0), .val (.int p1), .val (.int p2), .val (.long w3), .second, .val (.int (vk p0 p1 p2 w3)), .val (.int (vr p0 p1 p2 w3)), .val (.int g7_99), .val (.ref b2), .val (.int (va p0 p1 p2 w3))] [(.ref b2)])) ?_ (fun t q => XS.aload X12.here hx rfl (hb hby at_226) rfl rfl q)
        refine own_st (T' := T12) (f' := (mkF m 230 #[.val (.int p0), .val (.int p1), .val (.int p2), .val (.long w3), .second, .val (.int (vk p0 p1 p2 w3)), .val (.int (vr p0 p1 p2 w3)), .val (.int g7_99), .val (.ref b2), .val (.int (va p0 p1 p2 w3))] [(.int (va p0 p1 p2 w3)), (.ref b2)])) ?_ (fun t q => XS.iload X12.here hx rfl (hb hby at_228) rfl q)
        refine own_st (T' := T12) (f' := (mkF m 231 #[.val (.int p0), .val (.int p1), .val (.int p2), .val (.long w3), .second, .val (.int (vk p0 p1 p2 w3)), .val (.int (vr p0 p1 p2 w3)), .val (.int g7_99), .val (.ref b2), .val (.int (va p0 p1 p2 w3))] [(.int (1 : Int32)), (.int (va p0 p1 p2 w3)), (.ref b2)])) ?_ (fun t q => XS.iconst X12.here hx rfl (hb hby at_230) q)
        refine own_st (T' := T12) (f' := (mkF m 232 #[.val (.int p0), .val (.int p1), .val (.int p2), .val (.long w3), .second, .val (.int (vk p0 p1 p2 w3)), .val (.int (vr p0 p1 p2 w3)), .val (.int g7_99), .val (.ref b2), .val (.int (va p0 p1 p2 w3))] [(.int ((va p0 p1 p2 w3) + (1 : Int32))), (.ref b2)])) ?_ (fun t q => XS.iadd X12.here hx rfl (hb hby at_231) rfl q)
        refine own_st (T' := T12) (f' := (mkF m 235 #[.val (.int p0), .val (.int p1), .val (.int p2), .val (.long w3), .second, .val (.int (vk p0 p1 p2 w3)), .val (.int (vr p0 p1 p2 w3)), .val (.int g7_99), .val (.ref b2), .val (.int (va p0 p1 p2 w3))] [(.int (128 : Int32)), (.int ((va p0 p1 p2 w3) + (1 : Int32))), (.ref b2)])) ?_ (fun t q => XS.sipush X12.here hx rfl (hb hby at_232) q)
        refine own_st (T' := T12) (f' := (mkF m 237 #[.val (.int p0), .val (.int p1), .val (.int p2), .val (.long w3), .second, .val (.int (vk p0 p1 p2 w3)), .val (.int (vr p0 p1 p2 w3)), .val (.int g7_99), .val (.ref b2), .val (.int (va p0 p1 p2 w3))] [(.int g7_99), (.int (128 : Int32)), (.int ((va p0 p1 p2 w3) + (1 : Int32))), (.ref b2)])) ?_ (fun t q => XS.iload X12.here hx rfl (hb hby at_235) rfl q)
        refine own_st (T' := T12) (f' := (mkF m 239 #[.val (.int p0), .val (.int p1), .val (.int p2), .val (.long w3), .second, .val (.int (vk p0 p1 p2 w3)), .val (.int (vr p0 p1 p2 w3)), .val (.int g7_99), .val (.ref b2), .val (.int (va p0 p1 p2 w3))] [(.int (64 : Int32)), (.int g7_99), (.int (128 : Int32)), (.int ((va p0 p1 p2 w3) + (1 : Int32))), (.ref b2)])) ?_ (fun t q => XS.bipush X12.here hx rfl (hb hby at_237) q)
        refine own_st (T' := T12) (f' := (mkF m 240 #[.val (.int p0), .val (.int p1), .val (.int p2), .val (.long w3), .second, .val (.int (vk p0 p1 p2 w3)), .val (.int (vr p0 p1 p2 w3)), .val (.int g7_99), .val (.ref b2), .val (.int (va p0 p1 p2 w3))] [(.int (g7_99 - (g7_99 / (64 : Int32)) * (64 : Int32))), (.int (128 : Int32)), (.int ((va p0 p1 p2 w3) + (1 : Int32))), (.ref b2)])) ?_ (fun t q => XS.irem X12.here hx rfl (hb hby at_239) rfl (by decide) q)
        refine own_st (T' := T12) (f' := (mkF m 241 #[.val (.int p0), .val (.int p1), .val (.int p2), .val (.long w3), .second, .val (.int (vk p0 p1 p2 w3)), .val (.int (vr p0 p1 p2 w3)), .val (.int g7_99), .val (.ref b2), .val (.int (va p0 p1 p2 w3))] [(.int ((128 : Int32) + (g7_99 - (g7_99 / (64 : Int32)) * (64 : Int32)))), (.int ((va p0 p1 p2 w3) + (1 : Int32))), (.ref b2)])) ?_ (fun t q => XS.iadd X12.here hx rfl (hb hby at_240) rfl q)
        refine own_st (T' := T12) (f' := (mkF m 242 #[.val (.int p0), .val (.int p1), .val (.int p2), .val (.long w3), .second, .val (.int (vk p0 p1 p2 w3)), .val (.int (vr p0 p1 p2 w3)), .val (.int g7_99), .val (.ref b2), .val (.int (va p0 p1 p2 w3))] [(.int (((128 : Int32) + (g7_99 - (g7_99 / (64 : Int32)) * (64 : Int32))).toInt8.toInt32)), (.int ((va p0 p1 p2 w3) + (1 : Int32))), (.ref b2)])) ?_ (fun t q => XS.i2b X12.here hx rfl (hb hby at_241) rfl q)
        refine own_bast X12 hx hZ A12_b2 (j := ((va p0 p1 p2 w3) + (1 : Int32))) (x := (((128 : Int32) + (g7_99 - (g7_99 / (64 : Int32)) * (64 : Int32))).toInt8.toInt32)) (own_at1 (own_a1 p2) (own_a2 p2) (by decide)) (hb hby at_242) N12 G2 (fun T13 lo13 X13 N13 K13 A13_b2 => ?_)
        have zs13 : n0 ≤ T13.heap.size := Nat.le_trans zs12 K13.1
        show own_W _ _ _ _ _ _ _ T13 (mkF m 243 #[.val (.int p0), .val (.int p1), .val (.int p2), .val (.long w3), .second, .val (.int (vk p0 p1 p2 w3)), .val (.int (vr p0 p1 p2 w3)), .val (.int g7_99), .val (.ref b2), .val (.int (va p0 p1 p2 w3))] [])
        refine own_st (T' := T13) (f' := (mkF m 381 #[.val (.int p0), .val (.int p1), .val (.int p2), .val (.long w3), .second, .val (.int (vk p0 p1 p2 w3)), .val (.int (vr p0 p1 p2 w3)), .val (.int g7_99), .val (.ref b2), .val (.int (va p0 p1 p2 w3))] [])) ?_ (fun t q => XS.goto X13.here hx rfl (pc0 := 243) (pc' := 381) rfl (hb hby at_243) (by decide) (by decide) q)
        exact B381 T13 _ g7_99 b2 (own_up (own_up (vF p0 p1 p2 w3) (va p0 p1 p2 w3).toNatClampNeg (nar .byte (((192 : Int32) + (g7_99 / (64 : Int32))).toInt8.toInt32))) ((va p0 p1 p2 w3) + (1 : Int32)).toNatClampNeg (nar .byte (((128 : Int32) + (g7_99 - (g7_99 / (64 : Int32)) * (64 : Int32))).toInt8.toInt32))) X13 N13 zs13 G2 A13_b2
      · refine own_st (T' := T10) (f' := (mkF m 246 #[.val (.int p0), .val (.int p1), .val (.int p2), .val (.long w3), .second, .val (.int (vk p0 p1 p2 w3)), .val (.int (vr p0 p1 p2 w3)), .val (.int g7_99), .val (.ref b2), .val (.int (va p0 p1 p2 w3))] [])) ?_ (fun t q => XS.icmpYes X10.here hx rfl (pc0 := 208) (pc' := 246) rfl (hb hby at_208) rfl (feq hc208).2 (by decide) (by decide) q)
        refine own_st (T' := T10) (f' := (mkF m 248 #[.val (.int p0), .val (.int p1), .val (.int p2), .val (.long w3), .second, .val (.int (vk p0 p1 p2 w3)), .val (.int (vr p0 p1 p2 w3)), .val (.int g7_99), .val (.ref b2), .val (.int (va p0 p1 p2 w3))] [(.int (vk p0 p1 p2 w3))])) ?_ (fun t q => XS.iload X10.here hx rfl (hb hby at_246) rfl q)
        refine own_st (T' := T10) (f' := (mkF m 249 #[.val (.int p0), .val (.int p1), .val (.int p2), .val (.long w3), .second, .val (.int (vk p0 p1 p2 w3)), .val (.int (vr p0 p1 p2 w3)), .val (.int g7_99), .val (.ref b2), .val (.int (va p0 p1 p2 w3))] [(.int (2 : Int32)), (.int (vk p0 p1 p2 w3))])) ?_ (fun t q => XS.iconst X10.here hx rfl (hb hby at_248) q)
        refine own_ite (fun hc249 => ?_) (fun hc249 => ?_)
        · refine own_st (T' := T10) (f' := (mkF m 252 #[.val (.int p0), .val (.int p1), .val (.int p2), .val (.long w3), .second, .val (.int (vk p0 p1 p2 w3)), .val (.int (vr p0 p1 p2 w3)), .val (.int g7_99), .val (.ref b2), .val (.int (va p0 p1 p2 w3))] [])) ?_ (fun t q => XS.icmpNo X10.here hx rfl (hb hby at_249) rfl (teq hc249).2 q)
          refine own_st (T' := T10) (f' := (mkF m 254 #[.val (.int p0), .val (.int p1), .val (.int p2), .val (.long w3), .second, .val (.int (vk p0 p1 p2 w3)), .val (.int (vr p0 p1 p2 w3)), .val (.int g7_99), .val (.ref b2), .val (.int (va p0 p1 p2 w3))] [(.ref b2)])) ?_ (fun t q => XS.aload X10.here hx rfl (hb hby at_252) rfl rfl q)
          refine own_st (T' := T10) (f' := (mkF m 256 #[.val (.int p0), .val (.int p1), .val (.int p2), .val (.long w3), .second, .val (.int (vk p0 p1 p2 w3)), .val (.int (vr p0 p1 p2 w3)), .val (.int g7_99), .val (.ref b2), .val (.int (va p0 p1 p2 w3))] [(.int (va p0 p1 p2 w3)), (.ref b2)])) ?_ (fun t q => XS.iload X10.here hx rfl (hb hby at_254) rfl q)
          refine own_st (T' := T10) (f' := (mkF m 259 #[.val (.int p0), .val (.int p1), .val (.int p2), .val (.long w3), .second, .val (.int (vk p0 p1 p2 w3)), .val (.int (vr p0 p1 p2 w3)), .val (.int g7_99), .val (.ref b2), .val (.int (va p0 p1 p2 w3))] [(.int (224 : Int32)), (.int (va p0 p1 p2 w3)), (.ref b2)])) ?_ (fun t q => XS.sipush X10.here hx rfl (hb hby at_256) q)
          refine own_st (T' := T10) (f' := (mkF m 261 #[.val (.int p0), .val (.int p1), .val (.int p2), .val (.long w3), .second, .val (.int (vk p0 p1 p2 w3)), .val (.int (vr p0 p1 p2 w3)), .val (.int g7_99), .val (.ref b2), .val (.int (va p0 p1 p2 w3))] [(.int g7_99), (.int (224 : Int32)), (.int (va p0 p1 p2 w3)), (.ref b2)])) ?_ (fun t q => XS.iload X10.here hx rfl (hb hby at_259) rfl q)
          refine own_st (T' := T10) (f' := (mkF m 264 #[.val (.int p0), .val (.int p1), .val (.int p2), .val (.long w3), .second, .val (.int (vk p0 p1 p2 w3)), .val (.int (vr p0 p1 p2 w3)), .val (.int g7_99), .val (.ref b2), .val (.int (va p0 p1 p2 w3))] [(.int (4096 : Int32)), (.int g7_99), (.int (224 : Int32)), (.int (va p0 p1 p2 w3)), (.ref b2)])) ?_ (fun t q => XS.sipush X10.here hx rfl (hb hby at_261) q)
          refine own_st (T' := T10) (f' := (mkF m 265 #[.val (.int p0), .val (.int p1), .val (.int p2), .val (.long w3), .second, .val (.int (vk p0 p1 p2 w3)), .val (.int (vr p0 p1 p2 w3)), .val (.int g7_99), .val (.ref b2), .val (.int (va p0 p1 p2 w3))] [(.int (g7_99 / (4096 : Int32))), (.int (224 : Int32)), (.int (va p0 p1 p2 w3)), (.ref b2)])) ?_ (fun t q => XS.idiv X10.here hx rfl (hb hby at_264) rfl (by decide) q)
          refine own_st (T' := T10) (f' := (mkF m 266 #[.val (.int p0), .val (.int p1), .val (.int p2), .val (.long w3), .second, .val (.int (vk p0 p1 p2 w3)), .val (.int (vr p0 p1 p2 w3)), .val (.int g7_99), .val (.ref b2), .val (.int (va p0 p1 p2 w3))] [(.int ((224 : Int32) + (g7_99 / (4096 : Int32)))), (.int (va p0 p1 p2 w3)), (.ref b2)])) ?_ (fun t q => XS.iadd X10.here hx rfl (hb hby at_265) rfl q)
          refine own_st (T' := T10) (f' := (mkF m 267 #[.val (.int p0), .val (.int p1), .val (.int p2), .val (.long w3), .second, .val (.int (vk p0 p1 p2 w3)), .val (.int (vr p0 p1 p2 w3)), .val (.int g7_99), .val (.ref b2), .val (.int (va p0 p1 p2 w3))] [(.int (((224 : Int32) + (g7_99 / (4096 : Int32))).toInt8.toInt32)), (.int (va p0 p1 p2 w3)), (.ref b2)])) ?_ (fun t q => XS.i2b X10.here hx rfl (hb hby at_266) rfl q)
          refine own_bast X10 hx hZ A10_b2 (j := (va p0 p1 p2 w3)) (x := (((224 : Int32) + (g7_99 / (4096 : Int32))).toInt8.toInt32)) (own_at0 (own_a1 p2) (own_a2 p2) (by decide)) (hb hby at_267) N10 G2 (fun T14 lo14 X14 N14 K14 A14_b2 => ?_)
          have zs14 : n0 ≤ T14.heap.size := Nat.le_trans zs10 K14.1
          show own_W _ _ _ _ _ _ _ T14 (mkF m 268 #[.val (.int p0), .val (.int p1), .val (.int p2), .val (.long w3), .second, .val (.int (vk p0 p1 p2 w3)), .val (.int (vr p0 p1 p2 w3)), .val (.int g7_99), .val (.ref b2), .val (.int (va p0 p1 p2 w3))] [])
          refine own_st (T' := T14) (f' := (mkF m 270 #[.val (.int p0), .val (.int p1), .val (.int p2), .val (.long w3), .second, .val (.int (vk p0 p1 p2 w3)), .val (.int (vr p0 p1 p2 w3)), .val (.int g7_99), .val (.ref b2), .val (.int (va p0 p1 p2 w3))] [(.ref b2)])) ?_ (fun t q => XS.aload X14.here hx rfl (hb hby at_268) rfl rfl q)
          refine own_st (T' := T14) (f' := (mkF m 272 #[.val (.int p0), .val (.int p1), .val (.int p2), .val (.long w3), .second, .val (.int (vk p0 p1 p2 w3)), .val (.int (vr p0 p1 p2 w3)), .val (.int g7_99), .val (.ref b2), .val (.int (va p0 p1 p2 w3))] [(.int (va p0 p1 p2 w3)), (.ref b2)])) ?_ (fun t q => XS.iload X14.here hx rfl (hb hby at_270) rfl q)
          refine own_st (T' := T14) (f' := (mkF m 273 #[.val (.int p0), .val (.int p1), .val (.int p2), .val (.long w3), .second, .val (.int (vk p0 p1 p2 w3)), .val (.int (vr p0 p1 p2 w3)), .val (.int g7_99), .val (.ref b2), .val (.int (va p0 p1 p2 w3))] [(.int (1 : Int32)), (.int (va p0 p1 p2 w3)), (.ref b2)])) ?_ (fun t q => XS.iconst X14.here hx rfl (hb hby at_272) q)
          refine own_st (T' := T14) (f' := (mkF m 274 #[.val (.int p0), .val (.int p1), .val (.int p2), .val (.long w3), .second, .val (.int (vk p0 p1 p2 w3)), .val (.int (vr p0 p1 p2 w3)), .val (.int g7_99), .val (.ref b2), .val (.int (va p0 p1 p2 w3))] [(.int ((va p0 p1 p2 w3) + (1 : Int32))), (.ref b2)])) ?_ (fun t q => XS.iadd X14.here hx rfl (hb hby at_273) rfl q)
          refine own_st (T' := T14) (f' := (mkF m 277 #[.val (.int p0), .val (.int p1), .val (.int p2), .val (.long w3), .second, .val (.int (vk p0 p1 p2 w3)), .val (.int (vr p0 p1 p2 w3)), .val (.int g7_99), .val (.ref b2), .val (.int (va p0 p1 p2 w3))] [(.int (128 : Int32)), (.int ((va p0 p1 p2 w3) + (1 : Int32))), (.ref b2)])) ?_ (fun t q => XS.sipush X14.here hx rfl (hb hby at_274) q)
          refine own_st (T' := T14) (f' := (mkF m 279 #[.val (.int p0), .val (.int p1), .val (.int p2), .val (.long w3), .second, .val (.int (vk p0 p1 p2 w3)), .val (.int (vr p0 p1 p2 w3)), .val (.int g7_99), .val (.ref b2), .val (.int (va p0 p1 p2 w3))] [(.int g7_99), (.int (128 : Int32)), (.int ((va p0 p1 p2 w3) + (1 : Int32))), (.ref b2)])) ?_ (fun t q => XS.iload X14.here hx rfl (hb hby at_277) rfl q)
          refine own_st (T' := T14) (f' := (mkF m 281 #[.val (.int p0), .val (.int p1), .val (.int p2), .val (.long w3), .second, .val (.int (vk p0 p1 p2 w3)), .val (.int (vr p0 p1 p2 w3)), .val (.int g7_99), .val (.ref b2), .val (.int (va p0 p1 p2 w3))] [(.int (64 : Int32)), (.int g7_99), (.int (128 : Int32)), (.int ((va p0 p1 p2 w3) + (1 : Int32))), (.ref b2)])) ?_ (fun t q => XS.bipush X14.here hx rfl (hb hby at_279) q)
          refine own_st (T' := T14) (f' := (mkF m 282 #[.val (.int p0), .val (.int p1), .val (.int p2), .val (.long w3), .second, .val (.int (vk p0 p1 p2 w3)), .val (.int (vr p0 p1 p2 w3)), .val (.int g7_99), .val (.ref b2), .val (.int (va p0 p1 p2 w3))] [(.int (g7_99 / (64 : Int32))), (.int (128 : Int32)), (.int ((va p0 p1 p2 w3) + (1 : Int32))), (.ref b2)])) ?_ (fun t q => XS.idiv X14.here hx rfl (hb hby at_281) rfl (by decide) q)
          refine own_st (T' := T14) (f' := (mkF m 284 #[.val (.int p0), .val (.int p1), .val (.int p2), .val (.long w3), .second, .val (.int (vk p0 p1 p2 w3)), .val (.int (vr p0 p1 p2 w3)), .val (.int g7_99), .val (.ref b2), .val (.int (va p0 p1 p2 w3))] [(.int (64 : Int32)), (.int (g7_99 / (64 : Int32))), (.int (128 : Int32)), (.int ((va p0 p1 p2 w3) + (1 : Int32))), (.ref b2)])) ?_ (fun t q => XS.bipush X14.here hx rfl (hb hby at_282) q)
          refine own_st (T' := T14) (f' := (mkF m 285 #[.val (.int p0), .val (.int p1), .val (.int p2), .val (.long w3), .second, .val (.int (vk p0 p1 p2 w3)), .val (.int (vr p0 p1 p2 w3)), .val (.int g7_99), .val (.ref b2), .val (.int (va p0 p1 p2 w3))] [(.int ((g7_99 / (64 : Int32)) - ((g7_99 / (64 : Int32)) / (64 : Int32)) * (64 : Int32))), (.int (128 : Int32)), (.int ((va p0 p1 p2 w3) + (1 : Int32))), (.ref b2)])) ?_ (fun t q => XS.irem X14.here hx rfl (hb hby at_284) rfl (by decide) q)
          refine own_st (T' := T14) (f' := (mkF m 286 #[.val (.int p0), .val (.int p1), .val (.int p2), .val (.long w3), .second, .val (.int (vk p0 p1 p2 w3)), .val (.int (vr p0 p1 p2 w3)), .val (.int g7_99), .val (.ref b2), .val (.int (va p0 p1 p2 w3))] [(.int ((128 : Int32) + ((g7_99 / (64 : Int32)) - ((g7_99 / (64 : Int32)) / (64 : Int32)) * (64 : Int32)))), (.int ((va p0 p1 p2 w3) + (1 : Int32))), (.ref b2)])) ?_ (fun t q => XS.iadd X14.here hx rfl (hb hby at_285) rfl q)
          refine own_st (T' := T14) (f' := (mkF m 287 #[.val (.int p0), .val (.int p1), .val (.int p2), .val (.long w3), .second, .val (.int (vk p0 p1 p2 w3)), .val (.int (vr p0 p1 p2 w3)), .val (.int g7_99), .val (.ref b2), .val (.int (va p0 p1 p2 w3))] [(.int (((128 : Int32) + ((g7_99 / (64 : Int32)) - ((g7_99 / (64 : Int32)) / (64 : Int32)) * (64 : Int32))).toInt8.toInt32)), (.int ((va p0 p1 p2 w3) + (1 : Int32))), (.ref b2)])) ?_ (fun t q => XS.i2b X14.here hx rfl (hb hby at_286) rfl q)
          refine own_bast X14 hx hZ A14_b2 (j := ((va p0 p1 p2 w3) + (1 : Int32))) (x := (((128 : Int32) + ((g7_99 / (64 : Int32)) - ((g7_99 / (64 : Int32)) / (64 : Int32)) * (64 : Int32))).toInt8.toInt32)) (own_at1 (own_a1 p2) (own_a2 p2) (by decide)) (hb hby at_287) N14 G2 (fun T15 lo15 X15 N15 K15 A15_b2 => ?_)
          have zs15 : n0 ≤ T15.heap.size := Nat.le_trans zs14 K15.1
          show own_W _ _ _ _ _ _ _ T15 (mkF m 288 #[.val (.int p0), .val (.int p1), .val (.int p2), .val (.long w3), .second, .val (.int (vk p0 p1 p2 w3)), .val (.int (vr p0 p1 p2 w3)), .val (.int g7_99), .val (.ref b2), .val (.int (va p0 p1 p2 w3))] [])
          refine own_st (T' := T15) (f' := (mkF m 290 #[.val (.int p0), .val (.int p1), .val (.int p2), .val (.long w3), .second, .val (.int (vk p0 p1 p2 w3)), .val (.int (vr p0 p1 p2 w3)), .val (.int g7_99), .val (.ref b2), .val (.int (va p0 p1 p2 w3))] [(.ref b2)])) ?_ (fun t q => XS.aload X15.here hx rfl (hb hby at_288) rfl rfl q)
          refine own_st (T' := T15) (f' := (mkF m 292 #[.val (.int p0), .val (.int p1), .val (.int p2), .val (.long w3), .second, .val (.int (vk p0 p1 p2 w3)), .val (.int (vr p0 p1 p2 w3)), .val (.int g7_99), .val (.ref b2), .val (.int (va p0 p1 p2 w3))] [(.int (va p0 p1 p2 w3)), (.ref b2)])) ?_ (fun t q => XS.iload X15.here hx rfl (hb hby at_290) rfl q)
          refine own_st (T' := T15) (f' := (mkF m 293 #[.val (.int p0), .val (.int p1), .val (.int p2), .val (.long w3), .second, .val (.int (vk p0 p1 p2 w3)), .val (.int (vr p0 p1 p2 w3)), .val (.int g7_99), .val (.ref b2), .val (.int (va p0 p1 p2 w3))] [(.int (2 : Int32)), (.int (va p0 p1 p2 w3)), (.ref b2)])) ?_ (fun t q => XS.iconst X15.here hx rfl (hb hby at_292) q)
          refine own_st (T' := T15) (f' := (mkF m 294 #[.val (.int p0), .val (.int p1), .val (.int p2), .val (.long w3), .second, .val (.int (vk p0 p1 p2 w3)), .val (.int (vr p0 p1 p2 w3)), .val (.int g7_99), .val (.ref b2), .val (.int (va p0 p1 p2 w3))] [(.int ((va p0 p1 p2 w3) + (2 : Int32))), (.ref b2)])) ?_ (fun t q => XS.iadd X15.here hx rfl (hb hby at_293) rfl q)
          refine own_st (T' := T15) (f' := (mkF m 297 #[.val (.int p0), .val (.int p1), .val (.int p2), .val (.long w3), .second, .val (.int (vk p0 p1 p2 w3)), .val (.int (vr p0 p1 p2 w3)), .val (.int g7_99), .val (.ref b2), .val (.int (va p0 p1 p2 w3))] [(.int (128 : Int32)), (.int ((va p0 p1 p2 w3) + (2 : Int32))), (.ref b2)])) ?_ (fun t q => XS.sipush X15.here hx rfl (hb hby at_294) q)
          refine own_st (T' := T15) (f' := (mkF m 299 #[.val (.int p0), .val (.int p1), .val (.int p2), .val (.long w3), .second, .val (.int (vk p0 p1 p2 w3)), .val (.int (vr p0 p1 p2 w3)), .val (.int g7_99), .val (.ref b2), .val (.int (va p0 p1 p2 w3))] [(.int g7_99), (.int (128 : Int32)), (.int ((va p0 p1 p2 w3) + (2 : Int32))), (.ref b2)])) ?_ (fun t q => XS.iload X15.here hx rfl (hb hby at_297) rfl q)
          refine own_st (T' := T15) (f' := (mkF m 301 #[.val (.int p0), .val (.int p1), .val (.int p2), .val (.long w3), .second, .val (.int (vk p0 p1 p2 w3)), .val (.int (vr p0 p1 p2 w3)), .val (.int g7_99), .val (.ref b2), .val (.int (va p0 p1 p2 w3))] [(.int (64 : Int32)), (.int g7_99), (.int (128 : Int32)), (.int ((va p0 p1 p2 w3) + (2 : Int32))), (.ref b2)])) ?_ (fun t q => XS.bipush X15.here hx rfl (hb hby at_299) q)
          refine own_st (T' := T15) (f' := (mkF m 302 #[.val (.int p0), .val (.int p1), .val (.int p2), .val (.long w3), .second, .val (.int (vk p0 p1 p2 w3)), .val (.int (vr p0 p1 p2 w3)), .val (.int g7_99), .val (.ref b2), .val (.int (va p0 p1 p2 w3))] [(.int (g7_99 - (g7_99 / (64 : Int32)) * (64 : Int32))), (.int (128 : Int32)), (.int ((va p0 p1 p2 w3) + (2 : Int32))), (.ref b2)])) ?_ (fun t q => XS.irem X15.here hx rfl (hb hby at_301) rfl (by decide) q)
          refine own_st (T' := T15) (f' := (mkF m 303 #[.val (.int p0), .val (.int p1), .val (.int p2), .val (.long w3), .second, .val (.int (vk p0 p1 p2 w3)), .val (.int (vr p0 p1 p2 w3)), .val (.int g7_99), .val (.ref b2), .val (.int (va p0 p1 p2 w3))] [(.int ((128 : Int32) + (g7_99 - (g7_99 / (64 : Int32)) * (64 : Int32)))), (.int ((va p0 p1 p2 w3) + (2 : Int32))), (.ref b2)])) ?_ (fun t q => XS.iadd X15.here hx rfl (hb hby at_302) rfl q)
          refine own_st (T' := T15) (f' := (mkF m 304 #[.val (.int p0), .val (.int p1), .val (.int p2), .val (.long w3), .second, .val (.int (vk p0 p1 p2 w3)), .val (.int (vr p0 p1 p2 w3)), .val (.int g7_99), .val (.ref b2), .val (.int (va p0 p1 p2 w3))] [(.int (((128 : Int32) + (g7_99 - (g7_99 / (64 : Int32)) * (64 : Int32))).toInt8.toInt32)), (.int ((va p0 p1 p2 w3) + (2 : Int32))), (.ref b2)])) ?_ (fun t q => XS.i2b X15.here hx rfl (hb hby at_303) rfl q)
          refine own_bast X15 hx hZ A15_b2 (j := ((va p0 p1 p2 w3) + (2 : Int32))) (x := (((128 : Int32) + (g7_99 - (g7_99 / (64 : Int32)) * (64 : Int32))).toInt8.toInt32)) (own_at2 (own_a1 p2) (own_a2 p2) (by decide)) (hb hby at_304) N15 G2 (fun T16 lo16 X16 N16 K16 A16_b2 => ?_)
          have zs16 : n0 ≤ T16.heap.size := Nat.le_trans zs15 K16.1
          show own_W _ _ _ _ _ _ _ T16 (mkF m 305 #[.val (.int p0), .val (.int p1), .val (.int p2), .val (.long w3), .second, .val (.int (vk p0 p1 p2 w3)), .val (.int (vr p0 p1 p2 w3)), .val (.int g7_99), .val (.ref b2), .val (.int (va p0 p1 p2 w3))] [])
          refine own_st (T' := T16) (f' := (mkF m 381 #[.val (.int p0), .val (.int p1), .val (.int p2), .val (.long w3), .second, .val (.int (vk p0 p1 p2 w3)), .val (.int (vr p0 p1 p2 w3)), .val (.int g7_99), .val (.ref b2), .val (.int (va p0 p1 p2 w3))] [])) ?_ (fun t q => XS.goto X16.here hx rfl (pc0 := 305) (pc' := 381) rfl (hb hby at_305) (by decide) (by decide) q)
          exact B381 T16 _ g7_99 b2 (own_up (own_up (own_up (vF p0 p1 p2 w3) (va p0 p1 p2 w3).toNatClampNeg (nar .byte (((224 : Int32) + (g7_99 / (4096 : Int32))).toInt8.toInt32))) ((va p0 p1 p2 w3) + (1 : Int32)).toNatClampNeg (nar .byte (((128 : Int32) + ((g7_99 / (64 : Int32)) - ((g7_99 / (64 : Int32)) / (64 : Int32)) * (64 : Int32))).toInt8.toInt32))) ((va p0 p1 p2 w3) + (2 : Int32)).toNatClampNeg (nar .byte (((128 : Int32) + (g7_99 - (g7_99 / (64 : Int32)) * (64 : Int32))).toInt8.toInt32))) X16 N16 zs16 G2 A16_b2
        · refine own_st (T' := T10) (f' := (mkF m 308 #[.val (.int p0), .val (.int p1), .val (.int p2), .val (.long w3), .second, .val (.int (vk p0 p1 p2 w3)), .val (.int (vr p0 p1 p2 w3)), .val (.int g7_99), .val (.ref b2), .val (.int (va p0 p1 p2 w3))] [])) ?_ (fun t q => XS.icmpYes X10.here hx rfl (pc0 := 249) (pc' := 308) rfl (hb hby at_249) rfl (feq hc249).2 (by decide) (by decide) q)
          refine own_st (T' := T10) (f' := (mkF m 310 #[.val (.int p0), .val (.int p1), .val (.int p2), .val (.long w3), .second, .val (.int (vk p0 p1 p2 w3)), .val (.int (vr p0 p1 p2 w3)), .val (.int g7_99), .val (.ref b2), .val (.int (va p0 p1 p2 w3))] [(.ref b2)])) ?_ (fun t q => XS.aload X10.here hx rfl (hb hby at_308) rfl rfl q)
          refine own_st (T' := T10) (f' := (mkF m 312 #[.val (.int p0), .val (.int p1), .val (.int p2), .val (.long w3), .second, .val (.int (vk p0 p1 p2 w3)), .val (.int (vr p0 p1 p2 w3)), .val (.int g7_99), .val (.ref b2), .val (.int (va p0 p1 p2 w3))] [(.int (va p0 p1 p2 w3)), (.ref b2)])) ?_ (fun t q => XS.iload X10.here hx rfl (hb hby at_310) rfl q)
          refine own_st (T' := T10) (f' := (mkF m 315 #[.val (.int p0), .val (.int p1), .val (.int p2), .val (.long w3), .second, .val (.int (vk p0 p1 p2 w3)), .val (.int (vr p0 p1 p2 w3)), .val (.int g7_99), .val (.ref b2), .val (.int (va p0 p1 p2 w3))] [(.int (240 : Int32)), (.int (va p0 p1 p2 w3)), (.ref b2)])) ?_ (fun t q => XS.sipush X10.here hx rfl (hb hby at_312) q)
          refine own_st (T' := T10) (f' := (mkF m 317 #[.val (.int p0), .val (.int p1), .val (.int p2), .val (.long w3), .second, .val (.int (vk p0 p1 p2 w3)), .val (.int (vr p0 p1 p2 w3)), .val (.int g7_99), .val (.ref b2), .val (.int (va p0 p1 p2 w3))] [(.int g7_99), (.int (240 : Int32)), (.int (va p0 p1 p2 w3)), (.ref b2)])) ?_ (fun t q => XS.iload X10.here hx rfl (hb hby at_315) rfl q)
          refine own_st (T' := T10) (f' := (mkF m 319 #[.val (.int p0), .val (.int p1), .val (.int p2), .val (.long w3), .second, .val (.int (vk p0 p1 p2 w3)), .val (.int (vr p0 p1 p2 w3)), .val (.int g7_99), .val (.ref b2), .val (.int (va p0 p1 p2 w3))] [(.int (262144 : Int32)), (.int g7_99), (.int (240 : Int32)), (.int (va p0 p1 p2 w3)), (.ref b2)])) ?_ (fun t q => X10.ldcInt hx hown (mvT hZ (hw _ (List.mem_of_getElem? (i := 10) rfl))) (g := (mkF m 317 #[.val (.int p0), .val (.int p1), .val (.int p2), .val (.long w3), .second, .val (.int (vk p0 p1 p2 w3)), .val (.int (vr p0 p1 p2 w3)), .val (.int g7_99), .val (.ref b2), .val (.int (va p0 p1 p2 w3))] [(.int g7_99), (.int (240 : Int32)), (.int (va p0 p1 p2 w3)), (.ref b2)])) rfl (hb hby at_317) _ q)
          refine own_st (T' := T10) (f' := (mkF m 320 #[.val (.int p0), .val (.int p1), .val (.int p2), .val (.long w3), .second, .val (.int (vk p0 p1 p2 w3)), .val (.int (vr p0 p1 p2 w3)), .val (.int g7_99), .val (.ref b2), .val (.int (va p0 p1 p2 w3))] [(.int (g7_99 / (262144 : Int32))), (.int (240 : Int32)), (.int (va p0 p1 p2 w3)), (.ref b2)])) ?_ (fun t q => XS.idiv X10.here hx rfl (hb hby at_319) rfl (by decide) q)
          refine own_st (T' := T10) (f' := (mkF m 321 #[.val (.int p0), .val (.int p1), .val (.int p2), .val (.long w3), .second, .val (.int (vk p0 p1 p2 w3)), .val (.int (vr p0 p1 p2 w3)), .val (.int g7_99), .val (.ref b2), .val (.int (va p0 p1 p2 w3))] [(.int ((240 : Int32) + (g7_99 / (262144 : Int32)))), (.int (va p0 p1 p2 w3)), (.ref b2)])) ?_ (fun t q => XS.iadd X10.here hx rfl (hb hby at_320) rfl q)
          refine own_st (T' := T10) (f' := (mkF m 322 #[.val (.int p0), .val (.int p1), .val (.int p2), .val (.long w3), .second, .val (.int (vk p0 p1 p2 w3)), .val (.int (vr p0 p1 p2 w3)), .val (.int g7_99), .val (.ref b2), .val (.int (va p0 p1 p2 w3))] [(.int (((240 : Int32) + (g7_99 / (262144 : Int32))).toInt8.toInt32)), (.int (va p0 p1 p2 w3)), (.ref b2)])) ?_ (fun t q => XS.i2b X10.here hx rfl (hb hby at_321) rfl q)
          refine own_bast X10 hx hZ A10_b2 (j := (va p0 p1 p2 w3)) (x := (((240 : Int32) + (g7_99 / (262144 : Int32))).toInt8.toInt32)) (own_at0 (own_a1 p2) (own_a2 p2) (by decide)) (hb hby at_322) N10 G2 (fun T17 lo17 X17 N17 K17 A17_b2 => ?_)
          have zs17 : n0 ≤ T17.heap.size := Nat.le_trans zs10 K17.1
          show own_W _ _ _ _ _ _ _ T17 (mkF m 323 #[.val (.int p0), .val (.int p1), .val (.int p2), .val (.long w3), .second, .val (.int (vk p0 p1 p2 w3)), .val (.int (vr p0 p1 p2 w3)), .val (.int g7_99), .val (.ref b2), .val (.int (va p0 p1 p2 w3))] [])
          refine own_st (T' := T17) (f' := (mkF m 325 #[.val (.int p0), .val (.int p1), .val (.int p2), .val (.long w3), .second, .val (.int (vk p0 p1 p2 w3)), .val (.int (vr p0 p1 p2 w3)), .val (.int g7_99), .val (.ref b2), .val (.int (va p0 p1 p2 w3))] [(.ref b2)])) ?_ (fun t q => XS.aload X17.here hx rfl (hb hby at_323) rfl rfl q)
          refine own_st (T' := T17) (f' := (mkF m 327 #[.val (.int p0), .val (.int p1), .val (.int p2), .val (.long w3), .second, .val (.int (vk p0 p1 p2 w3)), .val (.int (vr p0 p1 p2 w3)), .val (.int g7_99), .val (.ref b2), .val (.int (va p0 p1 p2 w3))] [(.int (va p0 p1 p2 w3)), (.ref b2)])) ?_ (fun t q => XS.iload X17.here hx rfl (hb hby at_325) rfl q)
          refine own_st (T' := T17) (f' := (mkF m 328 #[.val (.int p0), .val (.int p1), .val (.int p2), .val (.long w3), .second, .val (.int (vk p0 p1 p2 w3)), .val (.int (vr p0 p1 p2 w3)), .val (.int g7_99), .val (.ref b2), .val (.int (va p0 p1 p2 w3))] [(.int (1 : Int32)), (.int (va p0 p1 p2 w3)), (.ref b2)])) ?_ (fun t q => XS.iconst X17.here hx rfl (hb hby at_327) q)
          refine own_st (T' := T17) (f' := (mkF m 329 #[.val (.int p0), .val (.int p1), .val (.int p2), .val (.long w3), .second, .val (.int (vk p0 p1 p2 w3)), .val (.int (vr p0 p1 p2 w3)), .val (.int g7_99), .val (.ref b2), .val (.int (va p0 p1 p2 w3))] [(.int ((va p0 p1 p2 w3) + (1 : Int32))), (.ref b2)])) ?_ (fun t q => XS.iadd X17.here hx rfl (hb hby at_328) rfl q)
          refine own_st (T' := T17) (f' := (mkF m 332 #[.val (.int p0), .val (.int p1), .val (.int p2), .val (.long w3), .second, .val (.int (vk p0 p1 p2 w3)), .val (.int (vr p0 p1 p2 w3)), .val (.int g7_99), .val (.ref b2), .val (.int (va p0 p1 p2 w3))] [(.int (128 : Int32)), (.int ((va p0 p1 p2 w3) + (1 : Int32))), (.ref b2)])) ?_ (fun t q => XS.sipush X17.here hx rfl (hb hby at_329) q)
          refine own_st (T' := T17) (f' := (mkF m 334 #[.val (.int p0), .val (.int p1), .val (.int p2), .val (.long w3), .second, .val (.int (vk p0 p1 p2 w3)), .val (.int (vr p0 p1 p2 w3)), .val (.int g7_99), .val (.ref b2), .val (.int (va p0 p1 p2 w3))] [(.int g7_99), (.int (128 : Int32)), (.int ((va p0 p1 p2 w3) + (1 : Int32))), (.ref b2)])) ?_ (fun t q => XS.iload X17.here hx rfl (hb hby at_332) rfl q)
          refine own_st (T' := T17) (f' := (mkF m 337 #[.val (.int p0), .val (.int p1), .val (.int p2), .val (.long w3), .second, .val (.int (vk p0 p1 p2 w3)), .val (.int (vr p0 p1 p2 w3)), .val (.int g7_99), .val (.ref b2), .val (.int (va p0 p1 p2 w3))] [(.int (4096 : Int32)), (.int g7_99), (.int (128 : Int32)), (.int ((va p0 p1 p2 w3) + (1 : Int32))), (.ref b2)])) ?_ (fun t q => XS.sipush X17.here hx rfl (hb hby at_334) q)
          refine own_st (T' := T17) (f' := (mkF m 338 #[.val (.int p0), .val (.int p1), .val (.int p2), .val (.long w3), .second, .val (.int (vk p0 p1 p2 w3)), .val (.int (vr p0 p1 p2 w3)), .val (.int g7_99), .val (.ref b2), .val (.int (va p0 p1 p2 w3))] [(.int (g7_99 / (4096 : Int32))), (.int (128 : Int32)), (.int ((va p0 p1 p2 w3) + (1 : Int32))), (.ref b2)])) ?_ (fun t q => XS.idiv X17.here hx rfl (hb hby at_337) rfl (by decide) q)
          refine own_st (T' := T17) (f' := (mkF m 340 #[.val (.int p0), .val (.int p1), .val (.int p2), .val (.long w3), .second, .val (.int (vk p0 p1 p2 w3)), .val (.int (vr p0 p1 p2 w3)), .val (.int g7_99), .val (.ref b2), .val (.int (va p0 p1 p2 w3))] [(.int (64 : Int32)), (.int (g7_99 / (4096 : Int32))), (.int (128 : Int32)), (.int ((va p0 p1 p2 w3) + (1 : Int32))), (.ref b2)])) ?_ (fun t q => XS.bipush X17.here hx rfl (hb hby at_338) q)
          refine own_st (T' := T17) (f' := (mkF m 341 #[.val (.int p0), .val (.int p1), .val (.int p2), .val (.long w3), .second, .val (.int (vk p0 p1 p2 w3)), .val (.int (vr p0 p1 p2 w3)), .val (.int g7_99), .val (.ref b2), .val (.int (va p0 p1 p2 w3))] [(.int ((g7_99 / (4096 : Int32)) - ((g7_99 / (4096 : Int32)) / (64 : Int32)) * (64 : Int32))), (.int (128 : Int32)), (.int ((va p0 p1 p2 w3) + (1 : Int32))), (.ref b2)])) ?_ (fun t q => XS.irem X17.here hx rfl (hb hby at_340) rfl (by decide) q)
          refine own_st (T' := T17) (f' := (mkF m 342 #[.val (.int p0), .val (.int p1), .val (.int p2), .val (.long w3), .second, .val (.int (vk p0 p1 p2 w3)), .val (.int (vr p0 p1 p2 w3)), .val (.int g7_99), .val (.ref b2), .val (.int (va p0 p1 p2 w3))] [(.int ((128 : Int32) + ((g7_99 / (4096 : Int32)) - ((g7_99 / (4096 : Int32)) / (64 : Int32)) * (64 : Int32)))), (.int ((va p0 p1 p2 w3) + (1 : Int32))), (.ref b2)])) ?_ (fun t q => XS.iadd X17.here hx rfl (hb hby at_341) rfl q)
          refine own_st (T' := T17) (f' := (mkF m 343 #[.val (.int p0), .val (.int p1), .val (.int p2), .val (.long w3), .second, .val (.int (vk p0 p1 p2 w3)), .val (.int (vr p0 p1 p2 w3)), .val (.int g7_99), .val (.ref b2), .val (.int (va p0 p1 p2 w3))] [(.int (((128 : Int32) + ((g7_99 / (4096 : Int32)) - ((g7_99 / (4096 : Int32)) / (64 : Int32)) * (64 : Int32))).toInt8.toInt32)), (.int ((va p0 p1 p2 w3) + (1 : Int32))), (.ref b2)])) ?_ (fun t q => XS.i2b X17.here hx rfl (hb hby at_342) rfl q)
          refine own_bast X17 hx hZ A17_b2 (j := ((va p0 p1 p2 w3) + (1 : Int32))) (x := (((128 : Int32) + ((g7_99 / (4096 : Int32)) - ((g7_99 / (4096 : Int32)) / (64 : Int32)) * (64 : Int32))).toInt8.toInt32)) (own_at1 (own_a1 p2) (own_a2 p2) (by decide)) (hb hby at_343) N17 G2 (fun T18 lo18 X18 N18 K18 A18_b2 => ?_)
          have zs18 : n0 ≤ T18.heap.size := Nat.le_trans zs17 K18.1
          show own_W _ _ _ _ _ _ _ T18 (mkF m 344 #[.val (.int p0), .val (.int p1), .val (.int p2), .val (.long w3), .second, .val (.int (vk p0 p1 p2 w3)), .val (.int (vr p0 p1 p2 w3)), .val (.int g7_99), .val (.ref b2), .val (.int (va p0 p1 p2 w3))] [])
          refine own_st (T' := T18) (f' := (mkF m 346 #[.val (.int p0), .val (.int p1), .val (.int p2), .val (.long w3), .second, .val (.int (vk p0 p1 p2 w3)), .val (.int (vr p0 p1 p2 w3)), .val (.int g7_99), .val (.ref b2), .val (.int (va p0 p1 p2 w3))] [(.ref b2)])) ?_ (fun t q => XS.aload X18.here hx rfl (hb hby at_344) rfl rfl q)
          refine own_st (T' := T18) (f' := (mkF m 348 #[.val (.int p0), .val (.int p1), .val (.int p2), .val (.long w3), .second, .val (.int (vk p0 p1 p2 w3)), .val (.int (vr p0 p1 p2 w3)), .val (.int g7_99), .val (.ref b2), .val (.int (va p0 p1 p2 w3))] [(.int (va p0 p1 p2 w3)), (.ref b2)])) ?_ (fun t q => XS.iload X18.here hx rfl (hb hby at_346) rfl q)
          refine own_st (T' := T18) (f' := (mkF m 349 #[.val (.int p0), .val (.int p1), .val (.int p2), .val (.long w3), .second, .val (.int (vk p0 p1 p2 w3)), .val (.int (vr p0 p1 p2 w3)), .val (.int g7_99), .val (.ref b2), .val (.int (va p0 p1 p2 w3))] [(.int (2 : Int32)), (.int (va p0 p1 p2 w3)), (.ref b2)])) ?_ (fun t q => XS.iconst X18.here hx rfl (hb hby at_348) q)
          refine own_st (T' := T18) (f' := (mkF m 350 #[.val (.int p0), .val (.int p1), .val (.int p2), .val (.long w3), .second, .val (.int (vk p0 p1 p2 w3)), .val (.int (vr p0 p1 p2 w3)), .val (.int g7_99), .val (.ref b2), .val (.int (va p0 p1 p2 w3))] [(.int ((va p0 p1 p2 w3) + (2 : Int32))), (.ref b2)])) ?_ (fun t q => XS.iadd X18.here hx rfl (hb hby at_349) rfl q)
          refine own_st (T' := T18) (f' := (mkF m 353 #[.val (.int p0), .val (.int p1), .val (.int p2), .val (.long w3), .second, .val (.int (vk p0 p1 p2 w3)), .val (.int (vr p0 p1 p2 w3)), .val (.int g7_99), .val (.ref b2), .val (.int (va p0 p1 p2 w3))] [(.int (128 : Int32)), (.int ((va p0 p1 p2 w3) + (2 : Int32))), (.ref b2)])) ?_ (fun t q => XS.sipush X18.here hx rfl (hb hby at_350) q)
          refine own_st (T' := T18) (f' := (mkF m 355 #[.val (.int p0), .val (.int p1), .val (.int p2), .val (.long w3), .second, .val (.int (vk p0 p1 p2 w3)), .val (.int (vr p0 p1 p2 w3)), .val (.int g7_99), .val (.ref b2), .val (.int (va p0 p1 p2 w3))] [(.int g7_99), (.int (128 : Int32)), (.int ((va p0 p1 p2 w3) + (2 : Int32))), (.ref b2)])) ?_ (fun t q => XS.iload X18.here hx rfl (hb hby at_353) rfl q)
          refine own_st (T' := T18) (f' := (mkF m 357 #[.val (.int p0), .val (.int p1), .val (.int p2), .val (.long w3), .second, .val (.int (vk p0 p1 p2 w3)), .val (.int (vr p0 p1 p2 w3)), .val (.int g7_99), .val (.ref b2), .val (.int (va p0 p1 p2 w3))] [(.int (64 : Int32)), (.int g7_99), (.int (128 : Int32)), (.int ((va p0 p1 p2 w3) + (2 : Int32))), (.ref b2)])) ?_ (fun t q => XS.bipush X18.here hx rfl (hb hby at_355) q)
          refine own_st (T' := T18) (f' := (mkF m 358 #[.val (.int p0), .val (.int p1), .val (.int p2), .val (.long w3), .second, .val (.int (vk p0 p1 p2 w3)), .val (.int (vr p0 p1 p2 w3)), .val (.int g7_99), .val (.ref b2), .val (.int (va p0 p1 p2 w3))] [(.int (g7_99 / (64 : Int32))), (.int (128 : Int32)), (.int ((va p0 p1 p2 w3) + (2 : Int32))), (.ref b2)])) ?_ (fun t q => XS.idiv X18.here hx rfl (hb hby at_357) rfl (by decide) q)
          refine own_st (T' := T18) (f' := (mkF m 360 #[.val (.int p0), .val (.int p1), .val (.int p2), .val (.long w3), .second, .val (.int (vk p0 p1 p2 w3)), .val (.int (vr p0 p1 p2 w3)), .val (.int g7_99), .val (.ref b2), .val (.int (va p0 p1 p2 w3))] [(.int (64 : Int32)), (.int (g7_99 / (64 : Int32))), (.int (128 : Int32)), (.int ((va p0 p1 p2 w3) + (2 : Int32))), (.ref b2)])) ?_ (fun t q => XS.bipush X18.here hx rfl (hb hby at_358) q)
          refine own_st (T' := T18) (f' := (mkF m 361 #[.val (.int p0), .val (.int p1), .val (.int p2), .val (.long w3), .second, .val (.int (vk p0 p1 p2 w3)), .val (.int (vr p0 p1 p2 w3)), .val (.int g7_99), .val (.ref b2), .val (.int (va p0 p1 p2 w3))] [(.int ((g7_99 / (64 : Int32)) - ((g7_99 / (64 : Int32)) / (64 : Int32)) * (64 : Int32))), (.int (128 : Int32)), (.int ((va p0 p1 p2 w3) + (2 : Int32))), (.ref b2)])) ?_ (fun t q => XS.irem X18.here hx rfl (hb hby at_360) rfl (by decide) q)
          refine own_st (T' := T18) (f' := (mkF m 362 #[.val (.int p0), .val (.int p1), .val (.int p2), .val (.long w3), .second, .val (.int (vk p0 p1 p2 w3)), .val (.int (vr p0 p1 p2 w3)), .val (.int g7_99), .val (.ref b2), .val (.int (va p0 p1 p2 w3))] [(.int ((128 : Int32) + ((g7_99 / (64 : Int32)) - ((g7_99 / (64 : Int32)) / (64 : Int32)) * (64 : Int32)))), (.int ((va p0 p1 p2 w3) + (2 : Int32))), (.ref b2)])) ?_ (fun t q => XS.iadd X18.here hx rfl (hb hby at_361) rfl q)
          refine own_st (T' := T18) (f' := (mkF m 363 #[.val (.int p0), .val (.int p1), .val (.int p2), .val (.long w3), .second, .val (.int (vk p0 p1 p2 w3)), .val (.int (vr p0 p1 p2 w3)), .val (.int g7_99), .val (.ref b2), .val (.int (va p0 p1 p2 w3))] [(.int (((128 : Int32) + ((g7_99 / (64 : Int32)) - ((g7_99 / (64 : Int32)) / (64 : Int32)) * (64 : Int32))).toInt8.toInt32)), (.int ((va p0 p1 p2 w3) + (2 : Int32))), (.ref b2)])) ?_ (fun t q => XS.i2b X18.here hx rfl (hb hby at_362) rfl q)
          refine own_bast X18 hx hZ A18_b2 (j := ((va p0 p1 p2 w3) + (2 : Int32))) (x := (((128 : Int32) + ((g7_99 / (64 : Int32)) - ((g7_99 / (64 : Int32)) / (64 : Int32)) * (64 : Int32))).toInt8.toInt32)) (own_at2 (own_a1 p2) (own_a2 p2) (by decide)) (hb hby at_363) N18 G2 (fun T19 lo19 X19 N19 K19 A19_b2 => ?_)
          have zs19 : n0 ≤ T19.heap.size := Nat.le_trans zs18 K19.1
          show own_W _ _ _ _ _ _ _ T19 (mkF m 364 #[.val (.int p0), .val (.int p1), .val (.int p2), .val (.long w3), .second, .val (.int (vk p0 p1 p2 w3)), .val (.int (vr p0 p1 p2 w3)), .val (.int g7_99), .val (.ref b2), .val (.int (va p0 p1 p2 w3))] [])
          refine own_st (T' := T19) (f' := (mkF m 366 #[.val (.int p0), .val (.int p1), .val (.int p2), .val (.long w3), .second, .val (.int (vk p0 p1 p2 w3)), .val (.int (vr p0 p1 p2 w3)), .val (.int g7_99), .val (.ref b2), .val (.int (va p0 p1 p2 w3))] [(.ref b2)])) ?_ (fun t q => XS.aload X19.here hx rfl (hb hby at_364) rfl rfl q)
          refine own_st (T' := T19) (f' := (mkF m 368 #[.val (.int p0), .val (.int p1), .val (.int p2), .val (.long w3), .second, .val (.int (vk p0 p1 p2 w3)), .val (.int (vr p0 p1 p2 w3)), .val (.int g7_99), .val (.ref b2), .val (.int (va p0 p1 p2 w3))] [(.int (va p0 p1 p2 w3)), (.ref b2)])) ?_ (fun t q => XS.iload X19.here hx rfl (hb hby at_366) rfl q)
          refine own_st (T' := T19) (f' := (mkF m 369 #[.val (.int p0), .val (.int p1), .val (.int p2), .val (.long w3), .second, .val (.int (vk p0 p1 p2 w3)), .val (.int (vr p0 p1 p2 w3)), .val (.int g7_99), .val (.ref b2), .val (.int (va p0 p1 p2 w3))] [(.int (3 : Int32)), (.int (va p0 p1 p2 w3)), (.ref b2)])) ?_ (fun t q => XS.iconst X19.here hx rfl (hb hby at_368) q)
          refine own_st (T' := T19) (f' := (mkF m 370 #[.val (.int p0), .val (.int p1), .val (.int p2), .val (.long w3), .second, .val (.int (vk p0 p1 p2 w3)), .val (.int (vr p0 p1 p2 w3)), .val (.int g7_99), .val (.ref b2), .val (.int (va p0 p1 p2 w3))] [(.int ((va p0 p1 p2 w3) + (3 : Int32))), (.ref b2)])) ?_ (fun t q => XS.iadd X19.here hx rfl (hb hby at_369) rfl q)
          refine own_st (T' := T19) (f' := (mkF m 373 #[.val (.int p0), .val (.int p1), .val (.int p2), .val (.long w3), .second, .val (.int (vk p0 p1 p2 w3)), .val (.int (vr p0 p1 p2 w3)), .val (.int g7_99), .val (.ref b2), .val (.int (va p0 p1 p2 w3))] [(.int (128 : Int32)), (.int ((va p0 p1 p2 w3) + (3 : Int32))), (.ref b2)])) ?_ (fun t q => XS.sipush X19.here hx rfl (hb hby at_370) q)
          refine own_st (T' := T19) (f' := (mkF m 375 #[.val (.int p0), .val (.int p1), .val (.int p2), .val (.long w3), .second, .val (.int (vk p0 p1 p2 w3)), .val (.int (vr p0 p1 p2 w3)), .val (.int g7_99), .val (.ref b2), .val (.int (va p0 p1 p2 w3))] [(.int g7_99), (.int (128 : Int32)), (.int ((va p0 p1 p2 w3) + (3 : Int32))), (.ref b2)])) ?_ (fun t q => XS.iload X19.here hx rfl (hb hby at_373) rfl q)
          refine own_st (T' := T19) (f' := (mkF m 377 #[.val (.int p0), .val (.int p1), .val (.int p2), .val (.long w3), .second, .val (.int (vk p0 p1 p2 w3)), .val (.int (vr p0 p1 p2 w3)), .val (.int g7_99), .val (.ref b2), .val (.int (va p0 p1 p2 w3))] [(.int (64 : Int32)), (.int g7_99), (.int (128 : Int32)), (.int ((va p0 p1 p2 w3) + (3 : Int32))), (.ref b2)])) ?_ (fun t q => XS.bipush X19.here hx rfl (hb hby at_375) q)
          refine own_st (T' := T19) (f' := (mkF m 378 #[.val (.int p0), .val (.int p1), .val (.int p2), .val (.long w3), .second, .val (.int (vk p0 p1 p2 w3)), .val (.int (vr p0 p1 p2 w3)), .val (.int g7_99), .val (.ref b2), .val (.int (va p0 p1 p2 w3))] [(.int (g7_99 - (g7_99 / (64 : Int32)) * (64 : Int32))), (.int (128 : Int32)), (.int ((va p0 p1 p2 w3) + (3 : Int32))), (.ref b2)])) ?_ (fun t q => XS.irem X19.here hx rfl (hb hby at_377) rfl (by decide) q)
          refine own_st (T' := T19) (f' := (mkF m 379 #[.val (.int p0), .val (.int p1), .val (.int p2), .val (.long w3), .second, .val (.int (vk p0 p1 p2 w3)), .val (.int (vr p0 p1 p2 w3)), .val (.int g7_99), .val (.ref b2), .val (.int (va p0 p1 p2 w3))] [(.int ((128 : Int32) + (g7_99 - (g7_99 / (64 : Int32)) * (64 : Int32)))), (.int ((va p0 p1 p2 w3) + (3 : Int32))), (.ref b2)])) ?_ (fun t q => XS.iadd X19.here hx rfl (hb hby at_378) rfl q)
          refine own_st (T' := T19) (f' := (mkF m 380 #[.val (.int p0), .val (.int p1), .val (.int p2), .val (.long w3), .second, .val (.int (vk p0 p1 p2 w3)), .val (.int (vr p0 p1 p2 w3)), .val (.int g7_99), .val (.ref b2), .val (.int (va p0 p1 p2 w3))] [(.int (((128 : Int32) + (g7_99 - (g7_99 / (64 : Int32)) * (64 : Int32))).toInt8.toInt32)), (.int ((va p0 p1 p2 w3) + (3 : Int32))), (.ref b2)])) ?_ (fun t q => XS.i2b X19.here hx rfl (hb hby at_379) rfl q)
          refine own_bast X19 hx hZ A19_b2 (j := ((va p0 p1 p2 w3) + (3 : Int32))) (x := (((128 : Int32) + (g7_99 - (g7_99 / (64 : Int32)) * (64 : Int32))).toInt8.toInt32)) (own_at3 (own_a1 p2) (own_a2 p2) (by decide)) (hb hby at_380) N19 G2 (fun T20 lo20 X20 N20 K20 A20_b2 => ?_)
          have zs20 : n0 ≤ T20.heap.size := Nat.le_trans zs19 K20.1
          show own_W _ _ _ _ _ _ _ T20 (mkF m 381 #[.val (.int p0), .val (.int p1), .val (.int p2), .val (.long w3), .second, .val (.int (vk p0 p1 p2 w3)), .val (.int (vr p0 p1 p2 w3)), .val (.int g7_99), .val (.ref b2), .val (.int (va p0 p1 p2 w3))] [])
          exact B381 T20 _ g7_99 b2 (own_up (own_up (own_up (own_up (vF p0 p1 p2 w3) (va p0 p1 p2 w3).toNatClampNeg (nar .byte (((240 : Int32) + (g7_99 / (262144 : Int32))).toInt8.toInt32))) ((va p0 p1 p2 w3) + (1 : Int32)).toNatClampNeg (nar .byte (((128 : Int32) + ((g7_99 / (4096 : Int32)) - ((g7_99 / (4096 : Int32)) / (64 : Int32)) * (64 : Int32))).toInt8.toInt32))) ((va p0 p1 p2 w3) + (2 : Int32)).toNatClampNeg (nar .byte (((128 : Int32) + ((g7_99 / (64 : Int32)) - ((g7_99 / (64 : Int32)) / (64 : Int32)) * (64 : Int32))).toInt8.toInt32))) ((va p0 p1 p2 w3) + (3 : Int32)).toNatClampNeg (nar .byte (((128 : Int32) + (g7_99 - (g7_99 / (64 : Int32)) * (64 : Int32))).toInt8.toInt32))) X20 N20 zs20 G2 A20_b2
  show own_W p e below s 1 8 (own_GI n0 (fun _ => True) (f0 p0 p1 p2 w3)) s₁ (entryFrame m #[(.int p0), (.int p1), (.int p2), (.long w3)] maxLocals)
  refine own_to (ef_0 m p0 p1 p2 w3) ?_
  unfold f0
  refine own_st (T' := s₁) (f' := (mkF m 1 #[.val (.int p0), .val (.int p1), .val (.int p2), .val (.long w3), .second, .unset, .unset, .unset, .unset, .unset] [(.int p0)])) ?_ (fun t q => XS.iloadN X0.here hx rfl (hb hby at_0) rfl q)
  refine own_st (T' := s₁) (f' := (mkF m 2 #[.val (.int p0), .val (.int p1), .val (.int p2), .val (.long w3), .second, .unset, .unset, .unset, .unset, .unset] [(.int (3 : Int32)), (.int p0)])) ?_ (fun t q => XS.iconst X0.here hx rfl (hb hby at_1) q)
  refine own_st (T' := s₁) (f' := (mkF m 3 #[.val (.int p0), .val (.int p1), .val (.int p2), .val (.long w3), .second, .unset, .unset, .unset, .unset, .unset] [(.int (p0 &&& (3 : Int32)))])) ?_ (fun t q => XS.iand X0.here hx rfl (hb hby at_2) rfl q)
  refine own_st (T' := s₁) (f' := (mkF m 5 #[.val (.int p0), .val (.int p1), .val (.int p2), .val (.long w3), .second, .val (.int (vk p0 p1 p2 w3)), .unset, .unset, .unset, .unset] [])) ?_ (fun t q => XS.istore X0.here hx rfl (hb hby at_3) rfl (l' := #[.val (.int p0), .val (.int p1), .val (.int p2), .val (.long w3), .second, .val (.int (vk p0 p1 p2 w3)), .unset, .unset, .unset, .unset]) rfl q)
  refine own_st (T' := s₁) (f' := (mkF m 6 #[.val (.int p0), .val (.int p1), .val (.int p2), .val (.long w3), .second, .val (.int (vk p0 p1 p2 w3)), .unset, .unset, .unset, .unset] [(.int p1)])) ?_ (fun t q => XS.iloadN X0.here hx rfl (hb hby at_5) rfl q)
  refine own_st (T' := s₁) (f' := (mkF m 8 #[.val (.int p0), .val (.int p1), .val (.int p2), .val (.long w3), .second, .val (.int (vk p0 p1 p2 w3)), .unset, .unset, .unset, .unset] [(.int (2147483647 : Int32)), (.int p1)])) ?_ (fun t q => X0.ldcInt hx hown (mvT hZ (hw _ (List.mem_of_getElem? (i := 0) rfl))) (g := (mkF m 6 #[.val (.int p0), .val (.int p1), .val (.int p2), .val (.long w3), .second, .val (.int (vk p0 p1 p2 w3)), .unset, .unset, .unset, .unset] [(.int p1)])) rfl (hb hby at_6) _ q)
  refine own_st (T' := s₁) (f' := (mkF m 9 #[.val (.int p0), .val (.int p1), .val (.int p2), .val (.long w3), .second, .val (.int (vk p0 p1 p2 w3)), .unset, .unset, .unset, .unset] [(.int (p1 &&& (2147483647 : Int32)))])) ?_ (fun t q => XS.iand X0.here hx rfl (hb hby at_8) rfl q)
  refine own_st (T' := s₁) (f' := (mkF m 11 #[.val (.int p0), .val (.int p1), .val (.int p2), .val (.long w3), .second, .val (.int (vk p0 p1 p2 w3)), .val (.int (vr p0 p1 p2 w3)), .unset, .unset, .unset] [])) ?_ (fun t q => XS.istore X0.here hx rfl (hb hby at_9) rfl (l' := #[.val (.int p0), .val (.int p1), .val (.int p2), .val (.long w3), .second, .val (.int (vk p0 p1 p2 w3)), .val (.int (vr p0 p1 p2 w3)), .unset, .unset, .unset]) rfl q)
  refine own_st (T' := s₁) (f' := (mkF m 13 #[.val (.int p0), .val (.int p1), .val (.int p2), .val (.long w3), .second, .val (.int (vk p0 p1 p2 w3)), .val (.int (vr p0 p1 p2 w3)), .unset, .unset, .unset] [(.int (vk p0 p1 p2 w3))])) ?_ (fun t q => XS.iload X0.here hx rfl (hb hby at_11) rfl q)
  refine own_ite (fun hc13 => ?_) (fun hc13 => ?_)
  · refine own_st (T' := s₁) (f' := (mkF m 16 #[.val (.int p0), .val (.int p1), .val (.int p2), .val (.long w3), .second, .val (.int (vk p0 p1 p2 w3)), .val (.int (vr p0 p1 p2 w3)), .unset, .unset, .unset] [])) ?_ (fun t q => XS.ifNo X0.here hx rfl (hb hby at_13) rfl ((if0 _ _).trans (teq hc13).2) q)
    refine own_st (T' := s₁) (f' := (mkF m 18 #[.val (.int p0), .val (.int p1), .val (.int p2), .val (.long w3), .second, .val (.int (vk p0 p1 p2 w3)), .val (.int (vr p0 p1 p2 w3)), .unset, .unset, .unset] [(.int (vr p0 p1 p2 w3))])) ?_ (fun t q => XS.iload X0.here hx rfl (hb hby at_16) rfl q)
    refine own_st (T' := s₁) (f' := (mkF m 20 #[.val (.int p0), .val (.int p1), .val (.int p2), .val (.long w3), .second, .val (.int (vk p0 p1 p2 w3)), .val (.int (vr p0 p1 p2 w3)), .unset, .unset, .unset] [(.int (127 : Int32)), (.int (vr p0 p1 p2 w3))])) ?_ (fun t q => XS.bipush X0.here hx rfl (hb hby at_18) q)
    refine own_st (T' := s₁) (f' := (mkF m 21 #[.val (.int p0), .val (.int p1), .val (.int p2), .val (.long w3), .second, .val (.int (vk p0 p1 p2 w3)), .val (.int (vr p0 p1 p2 w3)), .unset, .unset, .unset] [(.int ((vr p0 p1 p2 w3) &&& (127 : Int32)))])) ?_ (fun t q => XS.iand X0.here hx rfl (hb hby at_20) rfl q)
    refine own_st (T' := s₁) (f' := (mkF m 23 #[.val (.int p0), .val (.int p1), .val (.int p2), .val (.long w3), .second, .val (.int (vk p0 p1 p2 w3)), .val (.int (vr p0 p1 p2 w3)), .val (.int ((vr p0 p1 p2 w3) &&& (127 : Int32))), .unset, .unset] [])) ?_ (fun t q => XS.istore X0.here hx rfl (hb hby at_21) rfl (l' := #[.val (.int p0), .val (.int p1), .val (.int p2), .val (.long w3), .second, .val (.int (vk p0 p1 p2 w3)), .val (.int (vr p0 p1 p2 w3)), .val (.int ((vr p0 p1 p2 w3) &&& (127 : Int32))), .unset, .unset]) rfl q)
    refine own_st (T' := s₁) (f' := (mkF m 99 #[.val (.int p0), .val (.int p1), .val (.int p2), .val (.long w3), .second, .val (.int (vk p0 p1 p2 w3)), .val (.int (vr p0 p1 p2 w3)), .val (.int ((vr p0 p1 p2 w3) &&& (127 : Int32))), .unset, .unset] [])) ?_ (fun t q => XS.goto X0.here hx rfl (pc0 := 23) (pc' := 99) rfl (hb hby at_23) (by decide) (by decide) q)
    exact B99 s₁ _ ((vr p0 p1 p2 w3) &&& (127 : Int32)) X0 N0 zs0
  · refine own_st (T' := s₁) (f' := (mkF m 26 #[.val (.int p0), .val (.int p1), .val (.int p2), .val (.long w3), .second, .val (.int (vk p0 p1 p2 w3)), .val (.int (vr p0 p1 p2 w3)), .unset, .unset, .unset] [])) ?_ (fun t q => XS.ifYes X0.here hx rfl (pc0 := 13) (pc' := 26) rfl (hb hby at_13) rfl ((if0 _ _).trans (feq hc13).2) (by decide) (by decide) q)
    refine own_st (T' := s₁) (f' := (mkF m 28 #[.val (.int p0), .val (.int p1), .val (.int p2), .val (.long w3), .second, .val (.int (vk p0 p1 p2 w3)), .val (.int (vr p0 p1 p2 w3)), .unset, .unset, .unset] [(.int (vk p0 p1 p2 w3))])) ?_ (fun t q => XS.iload X0.here hx rfl (hb hby at_26) rfl q)
    refine own_st (T' := s₁) (f' := (mkF m 29 #[.val (.int p0), .val (.int p1), .val (.int p2), .val (.long w3), .second, .val (.int (vk p0 p1 p2 w3)), .val (.int (vr p0 p1 p2 w3)), .unset, .unset, .unset] [(.int (1 : Int32)), (.int (vk p0 p1 p2 w3))])) ?_ (fun t q => XS.iconst X0.here hx rfl (hb hby at_28) q)
    refine own_ite (fun hc29 => ?_) (fun hc29 => ?_)
    · refine own_st (T' := s₁) (f' := (mkF m 32 #[.val (.int p0), .val (.int p1), .val (.int p2), .val (.long w3), .second, .val (.int (vk p0 p1 p2 w3)), .val (.int (vr p0 p1 p2 w3)), .unset, .unset, .unset] [])) ?_ (fun t q => XS.icmpNo X0.here hx rfl (hb hby at_29) rfl (teq hc29).2 q)
      refine own_st (T' := s₁) (f' := (mkF m 35 #[.val (.int p0), .val (.int p1), .val (.int p2), .val (.long w3), .second, .val (.int (vk p0 p1 p2 w3)), .val (.int (vr p0 p1 p2 w3)), .unset, .unset, .unset] [(.int (128 : Int32))])) ?_ (fun t q => XS.sipush X0.here hx rfl (hb hby at_32) q)
      refine own_st (T' := s₁) (f' := (mkF m 37 #[.val (.int p0), .val (.int p1), .val (.int p2), .val (.long w3), .second, .val (.int (vk p0 p1 p2 w3)), .val (.int (vr p0 p1 p2 w3)), .unset, .unset, .unset] [(.int (vr p0 p1 p2 w3)), (.int (128 : Int32))])) ?_ (fun t q => XS.iload X0.here hx rfl (hb hby at_35) rfl q)
      refine own_st (T' := s₁) (f' := (mkF m 40 #[.val (.int p0), .val (.int p1), .val (.int p2), .val (.long w3), .second, .val (.int (vk p0 p1 p2 w3)), .val (.int (vr p0 p1 p2 w3)), .unset, .unset, .unset] [(.int (1920 : Int32)), (.int (vr p0 p1 p2 w3)), (.int (128 : Int32))])) ?_ (fun t q => XS.sipush X0.here hx rfl (hb hby at_37) q)
      refine own_st (T' := s₁) (f' := (mkF m 41 #[.val (.int p0), .val (.int p1), .val (.int p2), .val (.long w3), .second, .val (.int (vk p0 p1 p2 w3)), .val (.int (vr p0 p1 p2 w3)), .unset, .unset, .unset] [(.int ((vr p0 p1 p2 w3) - ((vr p0 p1 p2 w3) / (1920 : Int32)) * (1920 : Int32))), (.int (128 : Int32))])) ?_ (fun t q => XS.irem X0.here hx rfl (hb hby at_40) rfl (by decide) q)
      refine own_st (T' := s₁) (f' := (mkF m 42 #[.val (.int p0), .val (.int p1), .val (.int p2), .val (.long w3), .second, .val (.int (vk p0 p1 p2 w3)), .val (.int (vr p0 p1 p2 w3)), .unset, .unset, .unset] [(.int ((128 : Int32) + ((vr p0 p1 p2 w3) - ((vr p0 p1 p2 w3) / (1920 : Int32)) * (1920 : Int32))))])) ?_ (fun t q => XS.iadd X0.here hx rfl (hb hby at_41) rfl q)
      refine own_st (T' := s₁) (f' := (mkF m 44 #[.val (.int p0), .val (.int p1), .val (.int p2), .val (.long w3), .second, .val (.int (vk p0 p1 p2 w3)), .val (.int (vr p0 p1 p2 w3)), .val (.int ((128 : Int32) + ((vr p0 p1 p2 w3) - ((vr p0 p1 p2 w3) / (1920 : Int32)) * (1920 : Int32)))), .unset, .unset] [])) ?_ (fun t q => XS.istore X0.here hx rfl (hb hby at_42) rfl (l' := #[.val (.int p0), .val (.int p1), .val (.int p2), .val (.long w3), .second, .val (.int (vk p0 p1 p2 w3)), .val (.int (vr p0 p1 p2 w3)), .val (.int ((128 : Int32) + ((vr p0 p1 p2 w3) - ((vr p0 p1 p2 w3) / (1920 : Int32)) * (1920 : Int32)))), .unset, .unset]) rfl q)
      refine own_st (T' := s₁) (f' := (mkF m 99 #[.val (.int p0), .val (.int p1), .val (.int p2), .val (.long w3), .second, .val (.int (vk p0 p1 p2 w3)), .val (.int (vr p0 p1 p2 w3)), .val (.int ((128 : Int32) + ((vr p0 p1 p2 w3) - ((vr p0 p1 p2 w3) / (1920 : Int32)) * (1920 : Int32)))), .unset, .unset] [])) ?_ (fun t q => XS.goto X0.here hx rfl (pc0 := 44) (pc' := 99) rfl (hb hby at_44) (by decide) (by decide) q)
      exact B99 s₁ _ ((128 : Int32) + ((vr p0 p1 p2 w3) - ((vr p0 p1 p2 w3) / (1920 : Int32)) * (1920 : Int32))) X0 N0 zs0
    · refine own_st (T' := s₁) (f' := (mkF m 47 #[.val (.int p0), .val (.int p1), .val (.int p2), .val (.long w3), .second, .val (.int (vk p0 p1 p2 w3)), .val (.int (vr p0 p1 p2 w3)), .unset, .unset, .unset] [])) ?_ (fun t q => XS.icmpYes X0.here hx rfl (pc0 := 29) (pc' := 47) rfl (hb hby at_29) rfl (feq hc29).2 (by decide) (by decide) q)
      refine own_st (T' := s₁) (f' := (mkF m 49 #[.val (.int p0), .val (.int p1), .val (.int p2), .val (.long w3), .second, .val (.int (vk p0 p1 p2 w3)), .val (.int (vr p0 p1 p2 w3)), .unset, .unset, .unset] [(.int (vk p0 p1 p2 w3))])) ?_ (fun t q => XS.iload X0.here hx rfl (hb hby at_47) rfl q)
      refine own_st (T' := s₁) (f' := (mkF m 50 #[.val (.int p0), .val (.int p1), .val (.int p2), .val (.long w3), .second, .val (.int (vk p0 p1 p2 w3)), .val (.int (vr p0 p1 p2 w3)), .unset, .unset, .unset] [(.int (2 : Int32)), (.int (vk p0 p1 p2 w3))])) ?_ (fun t q => XS.iconst X0.here hx rfl (hb hby at_49) q)
      refine own_ite (fun hc50 => ?_) (fun hc50 => ?_)
      · refine own_st (T' := s₁) (f' := (mkF m 53 #[.val (.int p0), .val (.int p1), .val (.int p2), .val (.long w3), .second, .val (.int (vk p0 p1 p2 w3)), .val (.int (vr p0 p1 p2 w3)), .unset, .unset, .unset] [])) ?_ (fun t q => XS.icmpNo X0.here hx rfl (hb hby at_50) rfl (teq hc50).2 q)
        refine own_st (T' := s₁) (f' := (mkF m 56 #[.val (.int p0), .val (.int p1), .val (.int p2), .val (.long w3), .second, .val (.int (vk p0 p1 p2 w3)), .val (.int (vr p0 p1 p2 w3)), .unset, .unset, .unset] [(.int (2048 : Int32))])) ?_ (fun t q => XS.sipush X0.here hx rfl (hb hby at_53) q)
        refine own_st (T' := s₁) (f' := (mkF m 58 #[.val (.int p0), .val (.int p1), .val (.int p2), .val (.long w3), .second, .val (.int (vk p0 p1 p2 w3)), .val (.int (vr p0 p1 p2 w3)), .unset, .unset, .unset] [(.int (vr p0 p1 p2 w3)), (.int (2048 : Int32))])) ?_ (fun t q => XS.iload X0.here hx rfl (hb hby at_56) rfl q)
        refine own_st (T' := s₁) (f' := (mkF m 60 #[.val (.int p0), .val (.int p1), .val (.int p2), .val (.long w3), .second, .val (.int (vk p0 p1 p2 w3)), .val (.int (vr p0 p1 p2 w3)), .unset, .unset, .unset] [(.int (63488 : Int32)), (.int (vr p0 p1 p2 w3)), (.int (2048 : Int32))])) ?_ (fun t q => X0.ldcInt hx hown (mvT hZ (hw _ (List.mem_of_getElem? (i := 6) rfl))) (g := (mkF m 58 #[.val (.int p0), .val (.int p1), .val (.int p2), .val (.long w3), .second, .val (.int (vk p0 p1 p2 w3)), .val (.int (vr p0 p1 p2 w3)), .unset, .unset, .unset] [(.int (vr p0 p1 p2 w3)), (.int (2048 : Int32))])) rfl (hb hby at_58) _ q)
        refine own_st (T' := s₁) (f' := (mkF m 61 #[.val (.int p0), .val (.int p1), .val (.int p2), .val (.long w3), .second, .val (.int (vk p0 p1 p2 w3)), .val (.int (vr p0 p1 p2 w3)), .unset, .unset, .unset] [(.int ((vr p0 p1 p2 w3) - ((vr p0 p1 p2 w3) / (63488 : Int32)) * (63488 : Int32))), (.int (2048 : Int32))])) ?_ (fun t q => XS.irem X0.here hx rfl (hb hby at_60) rfl (by decide) q)
        refine own_st (T' := s₁) (f' := (mkF m 62 #[.val (.int p0), .val (.int p1), .val (.int p2), .val (.long w3), .second, .val (.int (vk p0 p1 p2 w3)), .val (.int (vr p0 p1 p2 w3)), .unset, .unset, .unset] [(.int ((2048 : Int32) + ((vr p0 p1 p2 w3) - ((vr p0 p1 p2 w3) / (63488 : Int32)) * (63488 : Int32))))])) ?_ (fun t q => XS.iadd X0.here hx rfl (hb hby at_61) rfl q)
        refine own_st (T' := s₁) (f' := (mkF m 64 #[.val (.int p0), .val (.int p1), .val (.int p2), .val (.long w3), .second, .val (.int (vk p0 p1 p2 w3)), .val (.int (vr p0 p1 p2 w3)), .val (.int ((2048 : Int32) + ((vr p0 p1 p2 w3) - ((vr p0 p1 p2 w3) / (63488 : Int32)) * (63488 : Int32)))), .unset, .unset] [])) ?_ (fun t q => XS.istore X0.here hx rfl (hb hby at_62) rfl (l' := #[.val (.int p0), .val (.int p1), .val (.int p2), .val (.long w3), .second, .val (.int (vk p0 p1 p2 w3)), .val (.int (vr p0 p1 p2 w3)), .val (.int ((2048 : Int32) + ((vr p0 p1 p2 w3) - ((vr p0 p1 p2 w3) / (63488 : Int32)) * (63488 : Int32)))), .unset, .unset]) rfl q)
        refine own_st (T' := s₁) (f' := (mkF m 66 #[.val (.int p0), .val (.int p1), .val (.int p2), .val (.long w3), .second, .val (.int (vk p0 p1 p2 w3)), .val (.int (vr p0 p1 p2 w3)), .val (.int ((2048 : Int32) + ((vr p0 p1 p2 w3) - ((vr p0 p1 p2 w3) / (63488 : Int32)) * (63488 : Int32)))), .unset, .unset] [(.int ((2048 : Int32) + ((vr p0 p1 p2 w3) - ((vr p0 p1 p2 w3) / (63488 : Int32)) * (63488 : Int32))))])) ?_ (fun t q => XS.iload X0.here hx rfl (hb hby at_64) rfl q)
        refine own_st (T' := s₁) (f' := (mkF m 68 #[.val (.int p0), .val (.int p1), .val (.int p2), .val (.long w3), .second, .val (.int (vk p0 p1 p2 w3)), .val (.int (vr p0 p1 p2 w3)), .val (.int ((2048 : Int32) + ((vr p0 p1 p2 w3) - ((vr p0 p1 p2 w3) / (63488 : Int32)) * (63488 : Int32)))), .unset, .unset] [(.int (55296 : Int32)), (.int ((2048 : Int32) + ((vr p0 p1 p2 w3) - ((vr p0 p1 p2 w3) / (63488 : Int32)) * (63488 : Int32))))])) ?_ (fun t q => X0.ldcInt hx hown (mvT hZ (hw _ (List.mem_of_getElem? (i := 7) rfl))) (g := (mkF m 66 #[.val (.int p0), .val (.int p1), .val (.int p2), .val (.long w3), .second, .val (.int (vk p0 p1 p2 w3)), .val (.int (vr p0 p1 p2 w3)), .val (.int ((2048 : Int32) + ((vr p0 p1 p2 w3) - ((vr p0 p1 p2 w3) / (63488 : Int32)) * (63488 : Int32)))), .unset, .unset] [(.int ((2048 : Int32) + ((vr p0 p1 p2 w3) - ((vr p0 p1 p2 w3) / (63488 : Int32)) * (63488 : Int32))))])) rfl (hb hby at_66) _ q)
        refine own_ite (fun hc68 => ?_) (fun hc68 => ?_)
        · refine own_st (T' := s₁) (f' := (mkF m 99 #[.val (.int p0), .val (.int p1), .val (.int p2), .val (.long w3), .second, .val (.int (vk p0 p1 p2 w3)), .val (.int (vr p0 p1 p2 w3)), .val (.int ((2048 : Int32) + ((vr p0 p1 p2 w3) - ((vr p0 p1 p2 w3) / (63488 : Int32)) * (63488 : Int32)))), .unset, .unset] [])) ?_ (fun t q => XS.icmpYes X0.here hx rfl (pc0 := 68) (pc' := 99) rfl (hb hby at_68) rfl (tlt hc68).1 (by decide) (by decide) q)
          exact B99 s₁ _ ((2048 : Int32) + ((vr p0 p1 p2 w3) - ((vr p0 p1 p2 w3) / (63488 : Int32)) * (63488 : Int32))) X0 N0 zs0
        · refine own_st (T' := s₁) (f' := (mkF m 71 #[.val (.int p0), .val (.int p1), .val (.int p2), .val (.long w3), .second, .val (.int (vk p0 p1 p2 w3)), .val (.int (vr p0 p1 p2 w3)), .val (.int ((2048 : Int32) + ((vr p0 p1 p2 w3) - ((vr p0 p1 p2 w3) / (63488 : Int32)) * (63488 : Int32)))), .unset, .unset] [])) ?_ (fun t q => XS.icmpNo X0.here hx rfl (hb hby at_68) rfl (flt hc68).1 q)
          refine own_st (T' := s₁) (f' := (mkF m 73 #[.val (.int p0), .val (.int p1), .val (.int p2), .val (.long w3), .second, .val (.int (vk p0 p1 p2 w3)), .val (.int (vr p0 p1 p2 w3)), .val (.int ((2048 : Int32) + ((vr p0 p1 p2 w3) - ((vr p0 p1 p2 w3) / (63488 : Int32)) * (63488 : Int32)))), .unset, .unset] [(.int ((2048 : Int32) + ((vr p0 p1 p2 w3) - ((vr p0 p1 p2 w3) / (63488 : Int32)) * (63488 : Int32))))])) ?_ (fun t q => XS.iload X0.here hx rfl (hb hby at_71) rfl q)
          refine own_st (T' := s₁) (f' := (mkF m 75 #[.val (.int p0), .val (.int p1), .val (.int p2), .val (.long w3), .second, .val (.int (vk p0 p1 p2 w3)), .val (.int (vr p0 p1 p2 w3)), .val (.int ((2048 : Int32) + ((vr p0 p1 p2 w3) - ((vr p0 p1 p2 w3) / (63488 : Int32)) * (63488 : Int32)))), .unset, .unset] [(.int (57343 : Int32)), (.int ((2048 : Int32) + ((vr p0 p1 p2 w3) - ((vr p0 p1 p2 w3) / (63488 : Int32)) * (63488 : Int32))))])) ?_ (fun t q => X0.ldcInt hx hown (mvT hZ (hw _ (List.mem_of_getElem? (i := 11) rfl))) (g := (mkF m 73 #[.val (.int p0), .val (.int p1), .val (.int p2), .val (.long w3), .second, .val (.int (vk p0 p1 p2 w3)), .val (.int (vr p0 p1 p2 w3)), .val (.int ((2048 : Int32) + ((vr p0 p1 p2 w3) - ((vr p0 p1 p2 w3) / (63488 : Int32)) * (63488 : Int32)))), .unset, .unset] [(.int ((2048 : Int32) + ((vr p0 p1 p2 w3) - ((vr p0 p1 p2 w3) / (63488 : Int32)) * (63488 : Int32))))])) rfl (hb hby at_73) _ q)
          refine own_ite (fun hc75 => ?_) (fun hc75 => ?_)
          · refine own_st (T' := s₁) (f' := (mkF m 99 #[.val (.int p0), .val (.int p1), .val (.int p2), .val (.long w3), .second, .val (.int (vk p0 p1 p2 w3)), .val (.int (vr p0 p1 p2 w3)), .val (.int ((2048 : Int32) + ((vr p0 p1 p2 w3) - ((vr p0 p1 p2 w3) / (63488 : Int32)) * (63488 : Int32)))), .unset, .unset] [])) ?_ (fun t q => XS.icmpYes X0.here hx rfl (pc0 := 75) (pc' := 99) rfl (hb hby at_75) rfl (tlt hc75).2.2.1 (by decide) (by decide) q)
            exact B99 s₁ _ ((2048 : Int32) + ((vr p0 p1 p2 w3) - ((vr p0 p1 p2 w3) / (63488 : Int32)) * (63488 : Int32))) X0 N0 zs0
          · refine own_st (T' := s₁) (f' := (mkF m 78 #[.val (.int p0), .val (.int p1), .val (.int p2), .val (.long w3), .second, .val (.int (vk p0 p1 p2 w3)), .val (.int (vr p0 p1 p2 w3)), .val (.int ((2048 : Int32) + ((vr p0 p1 p2 w3) - ((vr p0 p1 p2 w3) / (63488 : Int32)) * (63488 : Int32)))), .unset, .unset] [])) ?_ (fun t q => XS.icmpNo X0.here hx rfl (hb hby at_75) rfl (flt hc75).2.2.1 q)
            refine own_st (T' := s₁) (f' := (mkF m 80 #[.val (.int p0), .val (.int p1), .val (.int p2), .val (.long w3), .second, .val (.int (vk p0 p1 p2 w3)), .val (.int (vr p0 p1 p2 w3)), .val (.int ((2048 : Int32) + ((vr p0 p1 p2 w3) - ((vr p0 p1 p2 w3) / (63488 : Int32)) * (63488 : Int32)))), .unset, .unset] [(.int ((2048 : Int32) + ((vr p0 p1 p2 w3) - ((vr p0 p1 p2 w3) / (63488 : Int32)) * (63488 : Int32))))])) ?_ (fun t q => XS.iload X0.here hx rfl (hb hby at_78) rfl q)
            refine own_st (T' := s₁) (f' := (mkF m 83 #[.val (.int p0), .val (.int p1), .val (.int p2), .val (.long w3), .second, .val (.int (vk p0 p1 p2 w3)), .val (.int (vr p0 p1 p2 w3)), .val (.int ((2048 : Int32) + ((vr p0 p1 p2 w3) - ((vr p0 p1 p2 w3) / (63488 : Int32)) * (63488 : Int32)))), .unset, .unset] [(.int (2048 : Int32)), (.int ((2048 : Int32) + ((vr p0 p1 p2 w3) - ((vr p0 p1 p2 w3) / (63488 : Int32)) * (63488 : Int32))))])) ?_ (fun t q => XS.sipush X0.here hx rfl (hb hby at_80) q)
            refine own_st (T' := s₁) (f' := (mkF m 84 #[.val (.int p0), .val (.int p1), .val (.int p2), .val (.long w3), .second, .val (.int (vk p0 p1 p2 w3)), .val (.int (vr p0 p1 p2 w3)), .val (.int ((2048 : Int32) + ((vr p0 p1 p2 w3) - ((vr p0 p1 p2 w3) / (63488 : Int32)) * (63488 : Int32)))), .unset, .unset] [(.int (((2048 : Int32) + ((vr p0 p1 p2 w3) - ((vr p0 p1 p2 w3) / (63488 : Int32)) * (63488 : Int32))) - (2048 : Int32)))])) ?_ (fun t q => XS.isub X0.here hx rfl (hb hby at_83) rfl q)
            refine own_st (T' := s₁) (f' := (mkF m 86 #[.val (.int p0), .val (.int p1), .val (.int p2), .val (.long w3), .second, .val (.int (vk p0 p1 p2 w3)), .val (.int (vr p0 p1 p2 w3)), .val (.int (((2048 : Int32) + ((vr p0 p1 p2 w3) - ((vr p0 p1 p2 w3) / (63488 : Int32)) * (63488 : Int32))) - (2048 : Int32))), .unset, .unset] [])) ?_ (fun t q => XS.istore X0.here hx rfl (hb hby at_84) rfl (l' := #[.val (.int p0), .val (.int p1), .val (.int p2), .val (.long w3), .second, .val (.int (vk p0 p1 p2 w3)), .val (.int (vr p0 p1 p2 w3)), .val (.int (((2048 : Int32) + ((vr p0 p1 p2 w3) - ((vr p0 p1 p2 w3) / (63488 : Int32)) * (63488 : Int32))) - (2048 : Int32))), .unset, .unset]) rfl q)
            refine own_st (T' := s₁) (f' := (mkF m 99 #[.val (.int p0), .val (.int p1), .val (.int p2), .val (.long w3), .second, .val (.int (vk p0 p1 p2 w3)), .val (.int (vr p0 p1 p2 w3)), .val (.int (((2048 : Int32) + ((vr p0 p1 p2 w3) - ((vr p0 p1 p2 w3) / (63488 : Int32)) * (63488 : Int32))) - (2048 : Int32))), .unset, .unset] [])) ?_ (fun t q => XS.goto X0.here hx rfl (pc0 := 86) (pc' := 99) rfl (hb hby at_86) (by decide) (by decide) q)
            exact B99 s₁ _ (((2048 : Int32) + ((vr p0 p1 p2 w3) - ((vr p0 p1 p2 w3) / (63488 : Int32)) * (63488 : Int32))) - (2048 : Int32)) X0 N0 zs0
      · refine own_st (T' := s₁) (f' := (mkF m 89 #[.val (.int p0), .val (.int p1), .val (.int p2), .val (.long w3), .second, .val (.int (vk p0 p1 p2 w3)), .val (.int (vr p0 p1 p2 w3)), .unset, .unset, .unset] [])) ?_ (fun t q => XS.icmpYes X0.here hx rfl (pc0 := 50) (pc' := 89) rfl (hb hby at_50) rfl (feq hc50).2 (by decide) (by decide) q)
        refine own_st (T' := s₁) (f' := (mkF m 91 #[.val (.int p0), .val (.int p1), .val (.int p2), .val (.long w3), .second, .val (.int (vk p0 p1 p2 w3)), .val (.int (vr p0 p1 p2 w3)), .unset, .unset, .unset] [(.int (65536 : Int32))])) ?_ (fun t q => X0.ldcInt hx hown (mvT hZ (hw _ (List.mem_of_getElem? (i := 8) rfl))) (g := (mkF m 89 #[.val (.int p0), .val (.int p1), .val (.int p2), .val (.long w3), .second, .val (.int (vk p0 p1 p2 w3)), .val (.int (vr p0 p1 p2 w3)), .unset, .unset, .unset] [])) rfl (hb hby at_89) _ q)
        refine own_st (T' := s₁) (f' := (mkF m 93 #[.val (.int p0), .val (.int p1), .val (.int p2), .val (.long w3), .second, .val (.int (vk p0 p1 p2 w3)), .val (.int (vr p0 p1 p2 w3)), .unset, .unset, .unset] [(.int (vr p0 p1 p2 w3)), (.int (65536 : Int32))])) ?_ (fun t q => XS.iload X0.here hx rfl (hb hby at_91) rfl q)
        refine own_st (T' := s₁) (f' := (mkF m 95 #[.val (.int p0), .val (.int p1), .val (.int p2), .val (.long w3), .second, .val (.int (vk p0 p1 p2 w3)), .val (.int (vr p0 p1 p2 w3)), .unset, .unset, .unset] [(.int (1048576 : Int32)), (.int (vr p0 p1 p2 w3)), (.int (65536 : Int32))])) ?_ (fun t q => X0.ldcInt hx hown (mvT hZ (hw _ (List.mem_of_getElem? (i := 9) rfl))) (g := (mkF m 93 #[.val (.int p0), .val (.int p1), .val (.int p2), .val (.long w3), .second, .val (.int (vk p0 p1 p2 w3)), .val (.int (vr p0 p1 p2 w3)), .unset, .unset, .unset] [(.int (vr p0 p1 p2 w3)), (.int (65536 : Int32))])) rfl (hb hby at_93) _ q)
        refine own_st (T' := s₁) (f' := (mkF m 96 #[.val (.int p0), .val (.int p1), .val (.int p2), .val (.long w3), .second, .val (.int (vk p0 p1 p2 w3)), .val (.int (vr p0 p1 p2 w3)), .unset, .unset, .unset] [(.int ((vr p0 p1 p2 w3) - ((vr p0 p1 p2 w3) / (1048576 : Int32)) * (1048576 : Int32))), (.int (65536 : Int32))])) ?_ (fun t q => XS.irem X0.here hx rfl (hb hby at_95) rfl (by decide) q)
        refine own_st (T' := s₁) (f' := (mkF m 97 #[.val (.int p0), .val (.int p1), .val (.int p2), .val (.long w3), .second, .val (.int (vk p0 p1 p2 w3)), .val (.int (vr p0 p1 p2 w3)), .unset, .unset, .unset] [(.int ((65536 : Int32) + ((vr p0 p1 p2 w3) - ((vr p0 p1 p2 w3) / (1048576 : Int32)) * (1048576 : Int32))))])) ?_ (fun t q => XS.iadd X0.here hx rfl (hb hby at_96) rfl q)
        refine own_st (T' := s₁) (f' := (mkF m 99 #[.val (.int p0), .val (.int p1), .val (.int p2), .val (.long w3), .second, .val (.int (vk p0 p1 p2 w3)), .val (.int (vr p0 p1 p2 w3)), .val (.int ((65536 : Int32) + ((vr p0 p1 p2 w3) - ((vr p0 p1 p2 w3) / (1048576 : Int32)) * (1048576 : Int32)))), .unset, .unset] [])) ?_ (fun t q => XS.istore X0.here hx rfl (hb hby at_97) rfl (l' := #[.val (.int p0), .val (.int p1), .val (.int p2), .val (.long w3), .second, .val (.int (vk p0 p1 p2 w3)), .val (.int (vr p0 p1 p2 w3)), .val (.int ((65536 : Int32) + ((vr p0 p1 p2 w3) - ((vr p0 p1 p2 w3) / (1048576 : Int32)) * (1048576 : Int32)))), .unset, .unset]) rfl q)
        exact B99 s₁ _ ((65536 : Int32) + ((vr p0 p1 p2 w3) - ((vr p0 p1 p2 w3) / (1048576 : Int32)) * (1048576 : Int32))) X0 N0 zs0

theorem own_va (p0 p1 p2 : Int32) (w3 : Int64) : (va p0 p1 p2 w3).toInt = p2.toInt % 4 := own_and3 p2
theorem own_t1 (p0 p1 p2 : Int32) (w3 : Int64) : (va p0 p1 p2 w3 + 1).toNatClampNeg = (va p0 p1 p2 w3).toNatClampNeg + 1 := by
  have h := own_va p0 p1 p2 w3
  rw [Int32.toNatClampNeg, Int32.toNatClampNeg, Jvm.Kit.i32_add (by rw [own_k1]; omega) (by rw [own_k1]; omega), own_k1]; omega
theorem own_t2 (p0 p1 p2 : Int32) (w3 : Int64) : (va p0 p1 p2 w3 + 2).toNatClampNeg = (va p0 p1 p2 w3).toNatClampNeg + 2 := by
  have h := own_va p0 p1 p2 w3
  rw [Int32.toNatClampNeg, Int32.toNatClampNeg, Jvm.Kit.i32_add (by rw [own_k2]; omega) (by rw [own_k2]; omega), own_k2]; omega
theorem own_t3 (p0 p1 p2 : Int32) (w3 : Int64) : (va p0 p1 p2 w3 + 3).toNatClampNeg = (va p0 p1 p2 w3).toNatClampNeg + 3 := by
  have h := own_va p0 p1 p2 w3
  rw [Int32.toNatClampNeg, Int32.toNatClampNeg, Jvm.Kit.i32_add (by rw [own_k3]; omega) (by rw [own_k3]; omega), own_k3]; omega
theorem own_c64 : (64 : Int32).toInt = 64 := by decide
theorem own_c4096 : (4096 : Int32).toInt = 4096 := by decide
theorem own_c262144 : (262144 : Int32).toInt = 262144 := by decide
theorem own_q64 {g : Int32} (h : 0 ≤ g.toInt) : (g / 64).toInt = g.toInt / 64 := own_div h (by decide)
theorem own_q4096 {g : Int32} (h : 0 ≤ g.toInt) : (g / 4096).toInt = g.toInt / 4096 := own_div h (by decide)
theorem own_q262144 {g : Int32} (h : 0 ≤ g.toInt) : (g / 262144).toInt = g.toInt / 262144 := own_div h (by decide)
theorem own_r64 {g : Int32} (h : 0 ≤ g.toInt) : (g - (g / 64) * 64).toInt = g.toInt % 64 := own_rem h (by decide)
theorem own_plus {k v : Int32} {n : Int} (hk : k.toInt = n) (h0 : 0 ≤ n) (h1 : n < 1000000000) (h2 : 0 ≤ v.toInt) (h3 : v.toInt < 1000000000) : (k + v).toInt = n + v.toInt := by
  rw [Jvm.Kit.i32_add (by omega) (by omega), hk]
theorem own_cont {v : Int32} (h0 : 0 ≤ v.toInt) (h1 : v.toInt < 64) : (nar .byte (((128 : Int32) + v).toInt8.toInt32)).toInt % 64 = v.toInt := by
  have e := own_plus (k := 128) (v := v) (n := 128) (by decide) (by omega) (by omega) h0 (by omega)
  rw [own_byteN (by omega) (by omega), e]; omega
theorem own_990 (p0 p1 p2 : Int32) (w3 : Int64) (g : Int32) (hk : vk p0 p1 p2 w3 = 0) (h0 : 0 ≤ g.toInt) (h1 : g.toInt < 128) : f0_99 p0 p1 p2 w3 g = 1 := by
  have e := own_byteP h0 h1
  unfold f0_99 f0_381
  rw [if_pos hk, own_d0 _ _ (x := nar .byte (g.toInt8.toInt32)) (by simp [own_up]) (by omega), if_pos (Int32.toInt_inj.mp e)]
theorem own_991 (p0 p1 p2 : Int32) (w3 : Int64) (g : Int32) (hk0 : ¬ vk p0 p1 p2 w3 = 0) (hk : vk p0 p1 p2 w3 = 1) (h0 : 128 ≤ g.toInt) (h1 : g.toInt < 2048) : f0_99 p0 p1 p2 w3 g = 1 := by
  have q := own_q64 (g := g) (by omega)
  have r := own_r64 (g := g) (by omega)
  have e := own_plus (k := 192) (v := g / 64) (n := 192) (by decide) (by omega) (by omega) (by omega) (by omega)
  have b := own_byteN (v := 192 + g / 64) (by omega) (by omega)
  have cc := own_cont (v := g - (g / 64) * 64) (by omega) (by omega)
  unfold f0_99 f0_381
  rw [if_neg hk0, if_pos hk, if_pos]
  apply Int32.toInt_inj.mp
  rw [own_d1 _ _ (x := nar .byte ((192 + g / 64).toInt8.toInt32)) (y := nar .byte ((128 + (g - (g / 64) * 64)).toInt8.toInt32)) (by simp [own_up, own_t1]) (by simp [own_up, own_t1]) (g.toInt / 64) _ (by omega) (by omega) (by omega) cc]
  omega
theorem own_992 (p0 p1 p2 : Int32) (w3 : Int64) (g : Int32) (hk0 : ¬ vk p0 p1 p2 w3 = 0) (hk1 : ¬ vk p0 p1 p2 w3 = 1) (hk : vk p0 p1 p2 w3 = 2) (h0 : 2048 ≤ g.toInt) (h1 : g.toInt < 65536) : f0_99 p0 p1 p2 w3 g = 1 := by
  have q := own_q4096 (g := g) (by omega)
  have q2 := own_q64 (g := g) (by omega)
  have r := own_r64 (g := g) (by omega)
  have r2 := own_r64 (g := g / 64) (by omega)
  have e := own_plus (k := 224) (v := g / 4096) (n := 224) (by decide) (by omega) (by omega) (by omega) (by omega)
  have b := own_byteN (v := 224 + g / 4096) (by omega) (by omega)
  have cc := own_cont (v := g - (g / 64) * 64) (by omega) (by omega)
  have c2 := own_cont (v := g / 64 - (g / 64 / 64) * 64) (by omega) (by omega)
  unfold f0_99 f0_381
  rw [if_neg hk0, if_neg hk1, if_pos hk, if_pos]
  apply Int32.toInt_inj.mp
  rw [own_d2 _ _ (x := nar .byte ((224 + g / 4096).toInt8.toInt32)) (y := nar .byte ((128 + (g / 64 - (g / 64 / 64) * 64)).toInt8.toInt32)) (z := nar .byte ((128 + (g - (g / 64) * 64)).toInt8.toInt32)) (by simp [own_up, own_t1, own_t2]) (by simp [own_up, own_t1, own_t2]) (by simp [own_up, own_t1, own_t2]) (g.toInt / 4096) _ _ (by omega) (by omega) (by omega) c2 cc]
  omega
theorem own_993 (p0 p1 p2 : Int32) (w3 : Int64) (g : Int32) (hk0 : ¬ vk p0 p1 p2 w3 = 0) (hk1 : ¬ vk p0 p1 p2 w3 = 1) (hk2 : ¬ vk p0 p1 p2 w3 = 2) (h0 : 65536 ≤ g.toInt) (h1 : g.toInt < 1114112) : f0_99 p0 p1 p2 w3 g = 1 := by
  have q := own_q262144 (g := g) (by omega)
  have q1 := own_q4096 (g := g) (by omega)
  have q2 := own_q64 (g := g) (by omega)
  have r := own_r64 (g := g) (by omega)
  have r2 := own_r64 (g := g / 64) (by omega)
  have r3 := own_r64 (g := g / 4096) (by omega)
  have e := own_plus (k := 240) (v := g / 262144) (n := 240) (by decide) (by omega) (by omega) (by omega) (by omega)
  have b := own_byteN (v := 240 + g / 262144) (by omega) (by omega)
  have cc := own_cont (v := g - (g / 64) * 64) (by omega) (by omega)
  have c2 := own_cont (v := g / 64 - (g / 64 / 64) * 64) (by omega) (by omega)
  have c3 := own_cont (v := g / 4096 - (g / 4096 / 64) * 64) (by omega) (by omega)
  unfold f0_99 f0_381
  rw [if_neg hk0, if_neg hk1, if_neg hk2, if_pos]
  apply Int32.toInt_inj.mp
  rw [own_d3 _ _ (x := nar .byte ((240 + g / 262144).toInt8.toInt32)) (y := nar .byte ((128 + (g / 4096 - (g / 4096 / 64) * 64)).toInt8.toInt32)) (z := nar .byte ((128 + (g / 64 - (g / 64 / 64) * 64)).toInt8.toInt32)) (w := nar .byte ((128 + (g - (g / 64) * 64)).toInt8.toInt32)) (by simp [own_up, own_t1, own_t2, own_t3]) (by simp [own_up, own_t1, own_t2, own_t3]) (by simp [own_up, own_t1, own_t2, own_t3]) (by simp [own_up, own_t1, own_t2, own_t3]) (g.toInt / 262144) _ _ _ (by omega) (by omega) (by omega) c3 c2 cc]
  omega
theorem own_law (p0 p1 p2 : Int32) (w3 : Int64) : f0 p0 p1 p2 w3 = 1 := by
  have hr : (vr p0 p1 p2 w3).toInt = p1.toInt % 2147483648 := own_and31 p1
  unfold f0
  split
  · rename_i hk
    have e : (vr p0 p1 p2 w3 &&& (127 : Int32)).toInt = (vr p0 p1 p2 w3).toInt % 128 := Jvm.Kit.i32_mask _ 127 (k := 7) (by decide) (by decide)
    exact own_990 _ _ _ _ _ hk (by omega) (by omega)
  · rename_i hk0
    split
    · rename_i hk1
      have e : (vr p0 p1 p2 w3 - (vr p0 p1 p2 w3 / 1920) * 1920).toInt = (vr p0 p1 p2 w3).toInt % 1920 := own_rem (by omega) (by decide)
      have e2 := own_plus (k := 128) (v := vr p0 p1 p2 w3 - (vr p0 p1 p2 w3 / 1920) * 1920) (n := 128) (by decide) (by omega) (by omega) (by omega) (by omega)
      exact own_991 _ _ _ _ _ hk0 hk1 (by omega) (by omega)
    · rename_i hk1
      split
      · rename_i hk2
        have e : (vr p0 p1 p2 w3 - (vr p0 p1 p2 w3 / 63488) * 63488).toInt = (vr p0 p1 p2 w3).toInt % 63488 := own_rem (by omega) (by decide)
        have e2 := own_plus (k := 2048) (v := vr p0 p1 p2 w3 - (vr p0 p1 p2 w3 / 63488) * 63488) (n := 2048) (by decide) (by omega) (by omega) (by omega) (by omega)
        have k1 : (55296 : Int32).toInt = 55296 := by decide
        have k2 : (57343 : Int32).toInt = 57343 := by decide
        have k3 : (2048 : Int32).toInt = 2048 := by decide
        split
        · exact own_992 _ _ _ _ _ hk0 hk1 hk2 (by omega) (by omega)
        · rename_i u1
          rw [Int32.lt_iff_toInt_lt, k1] at u1
          split
          · exact own_992 _ _ _ _ _ hk0 hk1 hk2 (by omega) (by omega)
          · have e3 : (2048 + (vr p0 p1 p2 w3 - (vr p0 p1 p2 w3 / 63488) * 63488) - 2048 : Int32).toInt = (2048 + (vr p0 p1 p2 w3 - (vr p0 p1 p2 w3 / 63488) * 63488) : Int32).toInt - 2048 := by
              rw [Jvm.Kit.i32_sub (by omega) (by omega), k3]
            exact own_992 _ _ _ _ _ hk0 hk1 hk2 (by omega) (by omega)
      · rename_i hk2
        have e : (vr p0 p1 p2 w3 - (vr p0 p1 p2 w3 / 1048576) * 1048576).toInt = (vr p0 p1 p2 w3).toInt % 1048576 := own_rem (by omega) (by decide)
        have e2 := own_plus (k := 65536) (v := vr p0 p1 p2 w3 - (vr p0 p1 p2 w3 / 1048576) * 1048576) (n := 65536) (by decide) (by omega) (by omega) (by omega) (by omega)
        exact own_993 _ _ _ _ _ hk0 hk1 hk2 (by omega) (by omega)
set_option maxRecDepth 65536 in
set_option maxHeartbeats 40000000 in
theorem comes_1 {Post : Tables → Env → Array Value → State → Outcome → State → Prop} (hpost : ∀ tb e args s v u, (limb_1_1.after args s (.returned v) u = true ∧ limb_1_2.after args s (.returned v) u = true ∧ True) → FrameEnd s (.returned v) u (Jvm.fieldLocs frame_1_writes args s ++ Jvm.arrayLocs frame_1_arrays args s ++ Jvm.staticLocs frame_1_statics s) 16 128 → Post tb e args s (.returned v) u) :
    ArmFor flags0 classFile x code maxLocals ret World_1 tables_1 room_1 Calls_1 rest_1 Pre_1 Post := by
  intro l hfl _ _ p e ha hc hk s m args below hf hA hF happ hP
  obtain ⟨hcalls, hrest, hpre⟩ := hP
  obtain ⟨-, -, -, hnamed, -, -, -, hat⟩ := (Spec.applies_iff hf).mp happ
  obtain ⟨hg, hn⟩ := and_e (Cond.before_iff.mp (show (Jvm.Cond.and given_1 narrow_1).before args s = true from hpre))
  obtain ⟨hcnt, g0⟩ := and_e hg
  obtain ⟨t0, g1⟩ := and_e g0
  obtain ⟨t1, g2⟩ := and_e g1
  obtain ⟨t2, g3⟩ := and_e g2
  have t3 := g3
  obtain ⟨w0, w1, w2, w3, rfl⟩ : ∃ w0 w1 w2 w3 : Value, args = #[w0, w1, w2, w3] := by
    have hs : args.size = 4 := by simpa [Cond.value, given_1] using hcnt
    obtain ⟨L⟩ := args
    match L, hs with
    | [w0, w1, w2, w3], _ => exact ⟨w0, w1, w2, w3, rfl⟩
  have hw := fun d (hd : d ∈ tables_1) => atoms_spec (ws := Jvm.Cond.code x code maxLocals ret :: tables_1) hat d (List.mem_cons_of_mem _ hd)
  obtain ⟨i0, ei0⟩ := is_v t0
  obtain rfl : w0 = (.int i0) := Option.some.inj ei0
  obtain ⟨i1, ei1⟩ := is_v t1
  obtain rfl : w1 = (.int i1) := Option.some.inj ei1
  obtain ⟨i2, ei2⟩ := is_v t2
  obtain rfl : w2 = (.int i2) := Option.some.inj ei2
  obtain ⟨i3, ei3⟩ := isL_v t3
  obtain rfl : w3 = (.long i3) := Option.some.inj ei3
  obtain ⟨n, o, h1, h2, h3, v, L, rfl, ⟨hv, N, -⟩, hq⟩ := rm0 l s _ hw tables_1 i0 i1 i2 i3 s.heap s.heap.size (Nat.le_refl _) p e ha hc hk s m _ below hf ((Spec.applies_iff_loose hf).mp happ).1 ⟨rfl, State.Warmed39.refl s, rfl⟩ trivial
  obtain rfl : v = some (.int 1) := by rw [hv, own_law]
  refine ⟨n, _, h1, h2, h3, hpost _ _ _ _ _ _ ⟨Cond.after_iff.mpr rfl, Cond.after_iff.mpr (eq_i res_at (Term.int_eval (1)) rfl), trivial⟩ ⟨hq.1, hq.2.1, (hq.2.2.sift fun y hy => Or.inr (N y hy)).mono (by decide) (by decide)⟩⟩
theorem main_1_1 : Claimed_1_1 := comes_1 fun _ _ _ _ _ _ h hF => ⟨h.1, hF⟩
theorem main_1_2 : Claimed_1_2 := comes_1 fun _ _ _ _ _ _ h hF => ⟨h.2.1, hF⟩
end Jvm.Pilot.@@N@@
namespace Jvm.Pilot.@@N@@
open Jvm Jvm.ClassFile Sem Op Lib Jvm.Free Jvm.Stand Jvm.Pilot.@@N@@.Jvm.D
/-! MADE BY PROGRAM (witnessworld.py) out of the Statement's table words and the real class files: 9 classes; the members and pool entries that the words name. The judged class is class 1, her method 1. -/
namespace start1
open Jvm.ClassFile
def u (s : String) : CpInfo := .utf8 (stringToUtf16 s)
/-- a pool by its gaps: so many unusable entries, then the entry; so many at the end -/
def gap : Nat → List CpInfo → List CpInfo
  | 0, r => r
  | n + 1, r => .unusable :: gap n r
def poolList (es : List (Nat × CpInfo)) (last : Nat) : List CpInfo := es.foldr (fun e r => gap e.1 (e.2 :: r)) (gap last [])
def pool (es : List (Nat × CpInfo)) (last : Nat) : Array CpInfo := ⟨poolList es last⟩
def fileOf (pool : Array CpInfo) (this : Nat) (attrs : Array Attribute := #[]) (ms : Array MethodInfo := #[]) (fl : Nat := 33) (sup : Nat := 0) (ifs : Array Nat := #[]) (fds : Array FieldInfo := #[]) : ClassFile where
  minorVersion := 0
  majorVersion := 65
  constantPool := pool
  accessFlags := fl
  thisClass := this
  superClass := sup
  interfaces := ifs
  fields := fds
  methods := ms
  attributes := attrs
def plain (name : String) (sup : Option ClassId) : Class where
  name := name
  kind := .ordinary
  loader := none
  accessFlags := 33
  super := sup
  interfaces := #[]
  cf := none
  fields := #[]
  methods := #[]
  instanceTypes := #[]
  staticTypes := #[]
  resolved := #[]
  callSites := []
  init := .initialized
  statics := none
  mirror := none

def pool0 : Array CpInfo := pool [(5, u "<init>"), (0, u "()V"), (1, .class_ 10), (1, u "java/lang/Object")] 113

def k0m0 : Method := { name := "<init>", desc := "()V", sig := { parameters := [], returnType := none }, accessFlags := 1, code := none }
/-- java/lang/Object -/
def k0 : Class := { plain "java/lang/Object" none with
  accessFlags := 33
  interfaces := #[]
  cf := some (fileOf pool0 8 #[] #[{ accessFlags := 1, nameIndex := 5, descriptorIndex := 6, attributes := #[] }] 33 0 #[] #[])
  fields := #[]
  methods := #[k0m0]
  instanceTypes := #[]
  staticTypes := #[]
  resolved := Array.replicate 124 none
  statics := none }

def pool1 : Array CpInfo := pool [(2, .class_ 4), (1, u "java/lang/Object"), (0, u "<init>"), (0, u "()V"), (0, .integer 2147483647), (0, .integer 63488), (0, .integer 55296), (0, .integer 57343), (0, .integer 65536), (0, .integer 1048576), (0, .integer 262144), (0, .methodref 15 16), (0, .class_ 17), (0, .nameAndType 18 19), (0, u "com/example/holyrood/holyrood/Utf8"), (0, u "decode"), (0, u "([BI)I"), (0, .class_ 21), (0, u "com/example/holyrood/holyrood/Utf8DecodePinLaw"), (2, u "law"), (0, u "(IIIJ)Z")] 5

def k1m0 : Method := { name := "<init>", desc := "()V", sig := { parameters := [], returnType := none }, accessFlags := 1, code := none }
def k1c1 : Code := { maxStack := 5, maxLocals := 10, code := code, exceptionTable := #[], attributes := #[] }
def k1m1 : Method := { name := "law", desc := "(IIIJ)Z", sig := { parameters := [.int, .int, .int, .long], returnType := some .boolean }, accessFlags := 9, code := some k1c1 }
/-- com/example/holyrood/holyrood/Utf8DecodePinLaw -/
def k1 : Class := { plain "com/example/holyrood/holyrood/Utf8DecodePinLaw" (some 0) with
  accessFlags := 49
  interfaces := #[]
  cf := some (fileOf pool1 20 #[] #[{ accessFlags := 1, nameIndex := 5, descriptorIndex := 6, attributes := #[] }, { accessFlags := 9, nameIndex := 24, descriptorIndex := 25, attributes := #[] }] 49 2 #[] #[])
  fields := #[]
  methods := #[k1m0, k1m1]
  instanceTypes := #[]
  staticTypes := #[]
  resolved := Array.replicate 31 none
  statics := none }

def pool2 : Array CpInfo := pool [(2, .class_ 4), (1, u "java/lang/Object"), (0, u "<init>"), (0, u "()V"), (1, .class_ 10), (1, u "com/example/holyrood/holyrood/Utf8"), (0, u "LENGTHS"), (0, u "[B"), (2, u "SECOND_LOWEST"), (0, u "[I"), (2, u "SECOND_HIGHEST"), (32, u "decode"), (0, u "([BI)I"), (35, u "LONGS"), (0, u "Ljava/lang/invoke/VarHandle;"), (21, u "SPACES"), (0, u "J"), (42, u "HIGH_BITS"), (1, u "LOW_BITS"), (0, u "ONES"), (0, u "LAST_BYTE"), (0, u "LAST_TWO_BYTES")] 32

def k2m0 : Method := { name := "<init>", desc := "()V", sig := { parameters := [], returnType := none }, accessFlags := 2, code := none }
def k2c1 : Code := { maxStack := 4, maxLocals := 3, code := prog_85_method_6_code, exceptionTable := #[], attributes := #[] }
def k2m1 : Method := { name := "decode", desc := "([BI)I", sig := { parameters := [(.array .byte), .int], returnType := some .int }, accessFlags := 8, code := some k2c1 }
/-- com/example/holyrood/holyrood/Utf8 -/
def k2 : Class := { plain "com/example/holyrood/holyrood/Utf8" (some 0) with
  accessFlags := 48
  interfaces := #[]
  cf := some (fileOf pool2 8 #[] #[{ accessFlags := 2, nameIndex := 5, descriptorIndex := 6, attributes := #[] }, { accessFlags := 8, nameIndex := 52, descriptorIndex := 53, attributes := #[] }] 48 2 #[] #[{ accessFlags := 24, nameIndex := 156, descriptorIndex := 113, attributes := #[] }, { accessFlags := 26, nameIndex := 89, descriptorIndex := 90, attributes := #[] }, { accessFlags := 26, nameIndex := 158, descriptorIndex := 113, attributes := #[] }, { accessFlags := 26, nameIndex := 159, descriptorIndex := 113, attributes := #[] }, { accessFlags := 26, nameIndex := 112, descriptorIndex := 113, attributes := #[] }, { accessFlags := 26, nameIndex := 160, descriptorIndex := 113, attributes := #[] }, { accessFlags := 26, nameIndex := 161, descriptorIndex := 113, attributes := #[] }, { accessFlags := 26, nameIndex := 11, descriptorIndex := 12, attributes := #[] }, { accessFlags := 26, nameIndex := 15, descriptorIndex := 16, attributes := #[] }, { accessFlags := 26, nameIndex := 19, descriptorIndex := 16, attributes := #[] }])
  fields := #[{ name := "HIGH_BITS", type := .long, accessFlags := 24, slot := 0, constantValue := 0 }, { name := "LONGS", type := (.object "java/lang/invoke/VarHandle"), accessFlags := 26, slot := 1, constantValue := 0 }, { name := "LOW_BITS", type := .long, accessFlags := 26, slot := 2, constantValue := 0 }, { name := "ONES", type := .long, accessFlags := 26, slot := 3, constantValue := 0 }, { name := "SPACES", type := .long, accessFlags := 26, slot := 4, constantValue := 0 }, { name := "LAST_BYTE", type := .long, accessFlags := 26, slot := 5, constantValue := 0 }, { name := "LAST_TWO_BYTES", type := .long, accessFlags := 26, slot := 6, constantValue := 0 }, { name := "LENGTHS", type := (.array .byte), accessFlags := 26, slot := 7, constantValue := 0 }, { name := "SECOND_LOWEST", type := (.array .int), accessFlags := 26, slot := 8, constantValue := 0 }, { name := "SECOND_HIGHEST", type := (.array .int), accessFlags := 26, slot := 9, constantValue := 0 }]
  methods := #[k2m0, k2m1]
  instanceTypes := #[]
  staticTypes := #[.long, (.object "java/lang/invoke/VarHandle"), .long, .long, .long, .long, .long, (.array .byte), (.array .int), (.array .int)]
  resolved := Array.replicate 194 none
  statics := none }

def pool3 : Array CpInfo := pool [(1, u "java/lang/Cloneable"), (0, .class_ 1), (0, u "java/lang/Object"), (0, .class_ 3)] 3

/-- java/lang/Cloneable -/
def k3 : Class := { plain "java/lang/Cloneable" (some 0) with
  accessFlags := 1537
  interfaces := #[]
  cf := some (fileOf pool3 2 #[] #[] 1537 4 #[] #[])
  fields := #[]
  methods := #[]
  instanceTypes := #[]
  staticTypes := #[]
  resolved := Array.replicate 8 none
  statics := none }

def pool4 : Array CpInfo := pool [(1, u "java/io/Serializable"), (0, .class_ 1), (0, u "java/lang/Object"), (0, .class_ 3)] 3

/-- java/io/Serializable -/
def k4 : Class := { plain "java/io/Serializable" (some 0) with
  accessFlags := 1537
  interfaces := #[]
  cf := some (fileOf pool4 2 #[] #[] 1537 4 #[] #[])
  fields := #[]
  methods := #[]
  instanceTypes := #[]
  staticTypes := #[]
  resolved := Array.replicate 8 none
  statics := none }

/-- the primitive byte -/
def k5 : Class := { plain "byte" none with kind := .primitive 'B', accessFlags := 0x411 }
/-- [B -/
def k6 : Class := { plain "[B" (some 0) with kind := .array 5 .byte, interfaces := #[3, 4], accessFlags := 1041 }

/-- the primitive int -/
def k7 : Class := { plain "int" none with kind := .primitive 'I', accessFlags := 0x411 }
/-- [I -/
def k8 : Class := { plain "[I" (some 0) with kind := .array 7 .int, interfaces := #[3, 4], accessFlags := 1041 }

def heap : Heap := #[]
def classes : Array Class := #[k0, k1, k2, k3, k4, k5, k6, k7, k8]
def interned : List (Array UInt16 × Addr) := []
def slotsUsed : Nat := 0
def theMethod : MethodId := ⟨1, 1⟩
def args0 : Array Value := #[.int 5, .int 5, .int 5, .long 5]
def aboutOver (below : List Frame) : State where
  vm := { classes := classes, interned := interned.toArray }
  heap := heap
  slotsUsed := slotsUsed
  threads := #[{ frames := .invoking theMethod args0 :: below }]
def below0 : List Frame := [.native { method := ⟨0, 0⟩, args := #[] }]
def about1 : State := aboutOver below0
def p0 : Program := .bare "" "" ""
def e0 : Env := launch0.env 0 0 0
theorem w_frames : about1.frames = Frame.invoking theMethod args0 :: below0 := rfl
set_option maxRecDepth 65536 in
theorem w_args : argsFit about1.vm theMethod args0 = true := by decide +kernel
set_option maxRecDepth 65536 in
theorem w_heap : heapFits about1 = true := by decide +kernel
set_option maxRecDepth 65536 in
theorem w_runnable : about1.curStatus? = some .runnable := by decide +kernel
set_option maxRecDepth 65536 in
theorem w_alone : about1.alone = true := by decide +kernel
set_option maxRecDepth 65536 in
theorem w_named : about1.methodNamed? x = some theMethod := by decide +kernel
set_option maxRecDepth 65536 in
theorem w_hears : about1.hears theMethod below0 = true := by decide +kernel
set_option maxRecDepth 65536 in
theorem w_ripe : about1.ripe theMethod args0 below0 = true := by decide +kernel
theorem w_running : about1.status = .running := rfl
set_option maxRecDepth 65536 in
theorem w_room : about1.hasRoom e0.platform room_1 = true :=
  launch0.hasRoom_least _ room_1 (by decide +kernel) (by decide +kernel) (by decide +kernel) (by decide +kernel) (by decide +kernel) (by decide +kernel)
theorem allAtoms_all (ts : List Jvm.Cond) (a : Array Jvm.Value) (st : Jvm.State) : (allAtoms ts).before a st = ts.all (fun c => c.before a st) := by
  induction ts with
  | nil => rfl
  | cons c t ih =>
    show (Jvm.Cond.and c (allAtoms t)).before a st = _
    rw [Jvm.Cond.before_and, ih, List.all_cons]
def words1 : List Jvm.Cond := Jvm.Cond.code x code maxLocals ret :: tables_1
/-- a 'code' word, met by the world's own term for the bytes: nothing is compared byte by byte -/
theorem code_word {y : MethodName} {bytes : ByteArray} {mx : Nat} {rt : Option FieldType} {a : Array Value} {s : State} {m : MethodId} {meth : Method} {c : Code} (h1 : s.methodNamed? y = some m) (h2 : s.vm.method? m = some meth) (h3 : meth.code = some c) (h4 : c.code = bytes)
    (h5 : (c.maxLocals == mx && c.exceptionTable.isEmpty && decide (c.maxStack ≤ mostOperands) && decide (meth.sig.returnType = rt) && !meth.locks && decide (parseMethodDescriptor y.desc = some meth.sig)) = true) : (Jvm.Cond.code y bytes mx rt).before a s = true := by
  simp only [Bool.and_eq_true, beq_iff_eq, Bool.not_eq_true', decide_eq_true_eq] at h5
  obtain ⟨⟨⟨⟨⟨g1, g2⟩, g3⟩, g4⟩, g5⟩, g6⟩ := h5
  simp [Cond.before, Cond.holds, Cond.value, h1, h2, h3, h4, g1, g2, g3, g4, g5, g6]
def isCode : Jvm.Cond → Bool
  | .code _ _ _ _ => true
  | _ => false
theorem all_split {L : List Jvm.Cond} {P : Jvm.Cond → Bool} (h1 : L.all (fun c => isCode c || P c) = true) (h2 : ∀ c ∈ L.filter isCode, P c = true) : L.all P = true := by
  refine List.all_eq_true.mpr fun c hc => ?_
  have h := List.all_eq_true.mp h1 c hc
  rcases Bool.eq_false_or_eq_true (isCode c) with hi | hi
  · exact h2 c (List.mem_filter.mpr ⟨hc, hi⟩)
  · simpa [hi] using h
set_option maxRecDepth 65536 in
theorem w_c0 : (Jvm.Cond.code x code maxLocals ret).before args0 about1 = true := code_word (m := ⟨1, 1⟩) (meth := k1m1) (c := k1c1) (by decide +kernel) rfl rfl rfl (by decide +kernel)
set_option maxRecDepth 65536 in
theorem w_c1 : (Jvm.Cond.code ({ cls := "com/example/holyrood/holyrood/Utf8", name := "decode", desc := "([BI)I" } : Jvm.MethodName) prog_85_method_6_code (3 : Nat) (Option.some Jvm.ClassFile.FieldType.int)).before args0 about1 = true := code_word (m := ⟨2, 1⟩) (meth := k2m1) (c := k2c1) (by decide +kernel) rfl rfl rfl (by decide +kernel)
def codes1 : List Jvm.Cond := [Jvm.Cond.code x code maxLocals ret, Jvm.Cond.code ({ cls := "com/example/holyrood/holyrood/Utf8", name := "decode", desc := "([BI)I" } : Jvm.MethodName) prog_85_method_6_code (3 : Nat) (Option.some Jvm.ClassFile.FieldType.int)]
set_option maxRecDepth 65536 in
theorem codes_eq : words1.filter isCode = codes1 := rfl
theorem w_codes : ∀ c ∈ words1.filter isCode, c.before args0 about1 = true := by
  rw [codes_eq]
  intro c hc
  simp only [codes1, List.mem_cons, List.not_mem_nil, or_false] at hc
  rcases hc with rfl | rfl
  · exact w_c0
  · exact w_c1
set_option maxRecDepth 65536 in
theorem w_t1 : words1.all (fun c => isCode c || c.before args0 about1) = true := by decide +kernel
theorem w_tables : (allAtoms (Jvm.Cond.code x code maxLocals ret :: tables_1)).before args0 about1 = true := by
  rw [allAtoms_all]
  show words1.all (fun c => c.before args0 about1) = true
  refine all_split ?_ w_codes
  rw [w_t1]
set_option maxRecDepth 65536 in
theorem w_case : (Jvm.Cond.and given_1 narrow_1).before args0 about1 = true := by decide +kernel
theorem w_applies : (headSpec (Jvm.Cond.code x code maxLocals ret :: tables_1) room_1).applies x e0.platform about1 = true :=
  (Spec.applies_iff w_frames).mpr ⟨w_running, w_runnable, w_alone, w_named, w_hears, w_ripe, w_room, w_tables⟩
theorem atStart : AtStart classFile x code maxLocals ret World_1 tables_1 room_1 Calls_1 rest_1 Pre_1 launch0 p0 e0 about1 theMethod args0 below0 :=
  ⟨lists_1, trivial, launch0.admits_env _ _ _, launch0.least_env, fairChoices_fair.cas, fairChoices_fair.clock, w_frames, w_args, w_heap, w_applies, trivial, trivial, w_case⟩
end start1
theorem witness_1 : WitnessClaimed_1 := ⟨start1.p0, start1.e0, start1.about1, start1.theMethod, start1.args0, start1.below0, start1.atStart⟩
end Jvm.Pilot.@@N@@
