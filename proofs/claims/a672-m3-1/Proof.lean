import JvmDerived
import JvmDerived.Pilot.@@N@@Statement
import JvmDerived.Pilot.@@N@@Code
set_option linter.unusedVariables false
set_option linter.unusedSimpArgs false
@@BLOCK:NumsL.lean.txt@@
namespace Jvm.Pilot.@@N@@
open Jvm Jvm.ClassFile Sem Op Lib Jvm.Free Jvm.Stand Jvm.LawKit Jvm.RoadKit Bundle Jvm.Pilot.@@N@@.Jvm.D
section OwnKit
variable {p : Program} {l : Launch} {e : Env} {R : Room} {s : State} {m : MethodId} {args : Array Value} {below : List Frame} {meth : Method} {c : Code} {T T' : State} {locs : List Loc} {cells slots : Nat}
/-- from here the body comes to its end and leaves what Q says -/
def own_W (p : Program) (e : Env) (below : List Frame) (s : State) (k n : Nat) (Q : Option Value → Heap → List Loc → Prop) (T : State) (f : JFrame) : Prop :=
  ∃ s₂ o, Steps p.tables e below (T.setTop f) s₂ ∧ s₂.status = .running ∧ Ended s₂ below o ∧ ∃ v L, o = .returned v ∧ Q v s₂.heap L ∧ FrameEnd s o s₂ L k n
theorem own_st {k n : Nat} {Q : Option Value → Heap → List Loc → Prop} {f f' : JFrame} (w : own_W p e below s k n Q T' f') (h : ∀ t, Steps p.tables e below (T'.setTop f') t → Steps p.tables e below (T.setTop f) t) : own_W p e below s k n Q T f := by
  obtain ⟨s₂, o, h1, r⟩ := w
  exact ⟨s₂, o, h _ h1, r⟩
theorem own_to {k n : Nat} {Q : Option Value → Heap → List Loc → Prop} {f f' : JFrame} (q : f = f') (w : own_W p e below s k n Q T f') : own_W p e below s k n Q T f := q ▸ w
theorem own_ite {k n : Nat} {α : Type} {G : α → Option Value → Heap → List Loc → Prop} {f : JFrame} {A : Prop} [Decidable A] {x y : α} (h1 : A → own_W p e below s k n (G x) T f) (h2 : ¬ A → own_W p e below s k n (G y) T f) : own_W p e below s k n (G (if A then x else y)) T f := by
  by_cases q : A
  · rw [if_pos q]; exact h1 q
  · rw [if_neg q]; exact h2 q
/-- an int is returned, nothing old is written, the heap is as P says -/
def own_GI (n0 : Nat) (P : Heap → Prop) (r : Int32) (v : Option Value) (h : Heap) (L : List Loc) : Prop := v = some (.int r) ∧ Fr n0 L ∧ P h
def own_GJ (n0 : Nat) (P : Heap → Prop) (r : Int64) (v : Option Value) (h : Heap) (L : List Loc) : Prop := v = some (.long r) ∧ Fr n0 L ∧ P h
theorem own_retI {k n : Nat} {Q : Option Value → Heap → List Loc → Prop} (X : Stand p l e R s m args below meth c T locs cells slots) (hx : p.tables.exec = Jvm.exec) (hlk : meth.locks = false) (hret : meth.sig.returnType = some .int) {pc : Nat} {Ls : Array Slot} {z : Int32} {rest : List Value} (hd : decode c.code pc = .ok (.ireturn, 1)) (hk : cells ≤ k) (hn : slots ≤ n) (q : Q (some (.int z)) T.heap locs) : own_W p e below s k n Q T (mkF m pc Ls (.int z :: rest)) := by
  obtain ⟨fs, hr, hrun, hended, hW, hsame⟩ := X.leave (v := some (.int z)) (fun h => by rw [hret] at h; cases h) hlk
  exact ⟨_, _, retOut X hx hret rfl (Or.inl ⟨rfl, Or.inl rfl, z, rfl⟩) hd hr, hrun, hended, _, _, rfl, q, ⟨_, rfl⟩, hW, hsame.mono hk hn⟩
theorem own_retN {k n : Nat} {Q : Option Value → Heap → List Loc → Prop} (X : Stand p l e R s m args below meth c T locs cells slots) (hx : p.tables.exec = Jvm.exec) (hlk : meth.locks = false) {t : FieldType} (hret : meth.sig.returnType = some t) (ht : t = .boolean ∨ t = .byte ∨ t = .char ∨ t = .short) {pc : Nat} {Ls : Array Slot} {z : Int32} {rest : List Value} (hd : decode c.code pc = .ok (.ireturn, 1)) (hk : cells ≤ k) (hn : slots ≤ n) (q : Q (some (.int (nar t z))) T.heap locs) : own_W p e below s k n Q T (mkF m pc Ls (.int z :: rest)) := by
  obtain ⟨fs, hr, hrun, hended, hW, hsame⟩ := X.leave (v := some (.int (nar t z))) (fun h => by rw [hret] at h; cases h) hlk
  exact ⟨_, _, retN X hx hret ht hd hr, hrun, hended, _, _, rfl, q, ⟨_, rfl⟩, hW, hsame.mono hk hn⟩
theorem own_retJ {k n : Nat} {Q : Option Value → Heap → List Loc → Prop} (X : Stand p l e R s m args below meth c T locs cells slots) (hx : p.tables.exec = Jvm.exec) (hlk : meth.locks = false) (hret : meth.sig.returnType = some .long) {pc : Nat} {Ls : Array Slot} {z : Int64} {rest : List Value} (hd : decode c.code pc = .ok (.lreturn, 1)) (hk : cells ≤ k) (hn : slots ≤ n) (q : Q (some (.long z)) T.heap locs) : own_W p e below s k n Q T (mkF m pc Ls (.long z :: rest)) := by
  obtain ⟨fs, hr, hrun, hended, hW, hsame⟩ := X.leave (v := some (.long z)) (fun h => by rw [hret] at h; cases h) hlk
  exact ⟨_, _, retOut X hx hret rfl (Or.inr (Or.inl ⟨rfl, rfl, z, rfl⟩)) hd hr, hrun, hended, _, _, rfl, q, ⟨_, rfl⟩, hW, hsame.mono hk hn⟩
theorem own_retA {k n : Nat} {Q : Option Value → Heap → List Loc → Prop} (X : Stand p l e R s m args below meth c T locs cells slots) (hx : p.tables.exec = Jvm.exec) (hlk : meth.locks = false) {t : FieldType} (hret : meth.sig.returnType = some t) (ht : t.isReference = true) {pc : Nat} {Ls : Array Slot} {z : Addr} {rest : List Value} (hn' : narrow t (.ref z) = .ref z) (hd : decode c.code pc = .ok (.areturn, 1)) (hk : cells ≤ k) (hn : slots ≤ n) (q : Q (some (.ref z)) T.heap locs) : own_W p e below s k n Q T (mkF m pc Ls (.ref z :: rest)) := by
  obtain ⟨fs, hr, hrun, hended, hW, hsame⟩ := X.leave (v := some (.ref z)) (fun h => by rw [hret] at h; cases h) hlk
  exact ⟨_, _, retOut X hx hret hn' (Or.inr (Or.inr (Or.inr (Or.inr ⟨rfl, ht, rfl⟩)))) hd hr, hrun, hended, _, _, rfl, q, ⟨_, rfl⟩, hW, hsame.mono hk hn⟩
theorem own_retV {k n : Nat} {Q : Option Value → Heap → List Loc → Prop} (X : Stand p l e R s m args below meth c T locs cells slots) (hx : p.tables.exec = Jvm.exec) (hlk : meth.locks = false) (hret : meth.sig.returnType = none) {pc : Nat} {Ls : Array Slot} (hd : decode c.code pc = .ok (.return_, 1)) (hk : cells ≤ k) (hn : slots ≤ n) (q : Q none T.heap locs) : own_W p e below s k n Q T (mkF m pc Ls []) := by
  obtain ⟨fs, hr, hrun, hended, hW, hsame⟩ := X.leave (v := none) (fun _ => rfl) hlk
  exact ⟨_, _, X.returnOut hx hret hd hr, hrun, hended, _, _, rfl, q, ⟨_, rfl⟩, hW, hsame.mono hk hn⟩
end OwnKit
section OwnNums
theorem own_rem {x y : Int32} (hx : 0 ≤ x.toInt) (hy : 0 < y.toInt) : (x - (x / y) * y).toInt = x.toInt % y.toInt := by
  have hd : (x / y).toInt = x.toInt.tdiv y.toInt := Jvm.Kit.i32_div (by omega)
  rw [Int.tdiv_eq_ediv_of_nonneg hx] at hd
  have hxl := Int32.toInt_lt x
  have h1 : y.toInt * (x.toInt / y.toInt) + x.toInt % y.toInt = x.toInt := Int.mul_ediv_add_emod x.toInt y.toInt
  have h2 := Int.emod_nonneg x.toInt (by omega : y.toInt ≠ 0)
  have h3 := Int.emod_lt_of_pos x.toInt hy
  have h4 : (x / y).toInt * y.toInt = x.toInt - x.toInt % y.toInt := by rw [hd, Int.mul_comm]; omega
  have h6 := Int.mul_nonneg (Int.le_of_lt hy) (Int.ediv_nonneg hx (Int.le_of_lt hy))
  have h5 : x.toInt % y.toInt ≤ x.toInt := by omega
  have hm : ((x / y) * y).toInt = x.toInt - x.toInt % y.toInt := by
    rw [Jvm.Kit.i32_mul (by omega) (by omega), h4]
  rw [Jvm.Kit.i32_sub (by omega) (by omega), hm]; omega
theorem own_and31 (x : Int32) : (x &&& (2147483647 : Int32)).toInt = x.toInt % 2147483648 := Jvm.Kit.i32_mask x 2147483647 (k := 31) (by decide) (by decide)
theorem own_i8 (x : Int32) : -128 ≤ (x.toInt8.toInt32).toInt ∧ (x.toInt8.toInt32).toInt < 128 := by
  rw [Int8.toInt_toInt32]
  have h1 := Int8.le_toInt x.toInt8
  have h2 := Int8.toInt_lt x.toInt8
  omega
end OwnNums
section OwnArr
variable {p : Program} {l : Launch} {e : Env} {R : Room} {s : State} {m : MethodId} {args : Array Value} {below : List Frame} {meth : Method} {c : Code} {T T' : State} {locs : List Loc} {cells slots : Nat} {Z : State} {h h' : Heap} {a b : Addr} {n : Nat} {f : Nat → Int32} {ty : FieldType}
/-- an array of n places whose i-th holds f i -/
def own_A (Z : State) (h : Heap) (a : Addr) (ty : FieldType) (n : Nat) (f : Nat → Int32) : Prop := ∃ c : Cell, Arr Z h a c ty ∧ c.slots.size = n ∧ ∀ i, i < n → c.slots[i]? = some (.int (f i))
def own_up (f : Nat → Int32) (j : Nat) (x : Int32) : Nat → Int32 := fun i => if i = j then x else f i
def own_in (j : Int32) (n : Nat) : Prop := ¬ j < 0 ∧ j.toNatClampNeg < n
theorem own_A.lt (A : own_A Z h a ty n f) : a < h.size := by obtain ⟨c, A, -⟩ := A; exact A.lt
theorem own_A.ext (A : own_A Z h a ty n f) (E : Ext h h') : own_A Z h' a ty n f := by obtain ⟨c, A, r⟩ := A; exact ⟨c, A.ext E, r⟩
theorem own_A.keep {ws : List Addr} (A : own_A Z h a ty n f) (K : Keep h h' ws) (q : a ∉ ws) : own_A Z h' a ty n f := by obtain ⟨c, A, r⟩ := A; exact ⟨c, ⟨K.2.1 a c A.1 q, A.2⟩, r⟩
theorem own_A.eq (A : own_A Z h a ty n f) (q : h' = h) : own_A Z h' a ty n f := q ▸ A
theorem own_A.set {j : Nat} {x : Int32} (A : own_A Z h a ty n f) (W : Wr h h' a j (.int x)) : own_A Z h' a ty n (own_up f j x) := by
  obtain ⟨cl, Ar, S, H⟩ := A
  refine ⟨_, Ar.same W, by rw [sz_set]; exact S, fun i hi => ?_⟩
  show (cl.slots.setIfInBounds j (.int x))[i]? = _
  unfold own_up
  by_cases q : i = j
  · subst q
    rw [if_pos rfl, Array.getElem?_setIfInBounds_self_of_lt (by omega)]
  · rw [if_neg q, Array.getElem?_setIfInBounds_ne (fun z => q z.symm)]; exact H i hi
theorem own_bald {k n' : Nat} {Q : Option Value → Heap → List Loc → Prop} (X : Stand p l e R s m args below meth c T locs cells slots) (hx : p.tables.exec = Jvm.exec) (hZ : Z.Warmed39 s.vm) (A : own_A Z T.heap a .byte n f) {j : Int32} (hj : own_in j n) {pc : Nat} {Ls : Array Slot} {rest : List Value} (hd : decode c.code pc = .ok (.baload, 1)) (w : own_W p e below s k n' Q T (mkF m (pc + 1) Ls (.int (f j.toNatClampNeg) :: rest))) : own_W p e below s k n' Q T (mkF m pc Ls (.int j :: .ref a :: rest)) := by
  obtain ⟨cl, Ar, S, H⟩ := A
  refine own_st w (fun t q => X.baloadBytes hx (j := j) (v := .int (f j.toNatClampNeg)) Ar.1 (State.isArrayOf_alike hZ.alike Ar.2.1) Ar.2.2 (fun u => u.elim hj.1 (fun u => absurd hj.2 (by omega))) (H _ hj.2) (g := mkF m pc Ls (.int j :: .ref a :: rest)) rfl rfl hd _ q)
theorem own_iald {k n' : Nat} {Q : Option Value → Heap → List Loc → Prop} (X : Stand p l e R s m args below meth c T locs cells slots) (hx : p.tables.exec = Jvm.exec) (hZ : Z.Warmed39 s.vm) (A : own_A Z T.heap a .int n f) {j : Int32} (hj : own_in j n) {pc : Nat} {Ls : Array Slot} {rest : List Value} (hd : decode c.code pc = .ok (.iaload, 1)) (w : own_W p e below s k n' Q T (mkF m (pc + 1) Ls (.int (f j.toNatClampNeg) :: rest))) : own_W p e below s k n' Q T (mkF m pc Ls (.int j :: .ref a :: rest)) := by
  obtain ⟨cl, Ar, S, H⟩ := A
  refine own_st w (fun t q => X.iaload hx (j := j) (v := .int (f j.toNatClampNeg)) Ar.1 (State.isArrayOf_alike hZ.alike Ar.2.1) Ar.2.2 (fun u => u.elim hj.1 (fun u => absurd hj.2 (by omega))) (H _ hj.2) (g := mkF m pc Ls (.int j :: .ref a :: rest)) rfl rfl hd _ q)
theorem own_alen {k n' : Nat} {Q : Option Value → Heap → List Loc → Prop} (X : Stand p l e R s m args below meth c T locs cells slots) (hx : p.tables.exec = Jvm.exec) (hZ : Z.Warmed39 s.vm) (A : own_A Z T.heap a ty n f) {pc : Nat} {Ls : Array Slot} {rest : List Value} (hd : decode c.code pc = .ok (.arraylength, 1)) (w : own_W p e below s k n' Q T (mkF m (pc + 1) Ls (.int (Int32.ofNat n) :: rest))) : own_W p e below s k n' Q T (mkF m pc Ls (.ref a :: rest)) := by
  obtain ⟨cl, Ar, S, H⟩ := A
  subst S
  exact own_st w (fun t q => X.arraylength hx (cell := cl) Ar.1 (State.isArrayOf_alike hZ.alike Ar.2.1) (g := mkF m pc Ls (.ref a :: rest)) rfl (rest := rest) rfl hd _ q)
theorem own_bast {k n' : Nat} {Q : Option Value → Heap → List Loc → Prop} (X : Stand p l e R s m args below meth c T locs cells slots) (hx : p.tables.exec = Jvm.exec) (hZ : Z.Warmed39 s.vm) (A : own_A Z T.heap a .byte n f) {j x : Int32} (hj : own_in j n) {pc : Nat} {Ls : Array Slot} {rest : List Value} (hd : decode c.code pc = .ok (.bastore, 1)) {n0 : Nat} (N : Fr n0 locs) (g : n0 ≤ a)
    (w : ∀ (T' : State) (locs' : List Loc), Stand p l e R s m args below meth c T' locs' cells slots → Fr n0 locs' → Keep T.heap T'.heap [a] → own_A Z T'.heap a .byte n (own_up f j.toNatClampNeg (nar .byte x)) → own_W p e below s k n' Q T' (mkF m (pc + 1) Ls rest)) : own_W p e below s k n' Q T (mkF m pc Ls (.int x :: .int j :: .ref a :: rest)) := by
  obtain ⟨cl, Ar, S, H⟩ := A
  obtain ⟨T', h', X', e', W', st⟩ := stB X hx hZ rfl Ar (j := j) (x := x) (fun u => u.elim hj.1 (fun u => absurd hj.2 (by omega))) (g := mkF m pc Ls (.int x :: .int j :: .ref a :: rest)) rfl rfl hd
  subst e'
  exact own_st (w T' _ X' (Fr.snoc X' N g) (Keep.of_wr W') (own_A.set ⟨cl, Ar, S, H⟩ W')) (fun t q => st _ q)
theorem own_iast {k n' : Nat} {Q : Option Value → Heap → List Loc → Prop} (X : Stand p l e R s m args below meth c T locs cells slots) (hx : p.tables.exec = Jvm.exec) (hZ : Z.Warmed39 s.vm) (A : own_A Z T.heap a .int n f) {j x : Int32} (hj : own_in j n) {pc : Nat} {Ls : Array Slot} {rest : List Value} (hd : decode c.code pc = .ok (.iastore, 1)) {n0 : Nat} (N : Fr n0 locs) (g : n0 ≤ a)
    (w : ∀ (T' : State) (locs' : List Loc), Stand p l e R s m args below meth c T' locs' cells slots → Fr n0 locs' → Keep T.heap T'.heap [a] → own_A Z T'.heap a .int n (own_up f j.toNatClampNeg x) → own_W p e below s k n' Q T' (mkF m (pc + 1) Ls rest)) : own_W p e below s k n' Q T (mkF m pc Ls (.int x :: .int j :: .ref a :: rest)) := by
  obtain ⟨cl, Ar, S, H⟩ := A
  obtain ⟨T', h', X', e', W', st⟩ := stI X hx hZ rfl Ar (j := j) (x := x) (fun u => u.elim hj.1 (fun u => absurd hj.2 (by omega))) (g := mkF m pc Ls (.int x :: .int j :: .ref a :: rest)) rfl rfl hd
  subst e'
  exact own_st (w T' _ X' (Fr.snoc X' N g) (Keep.of_wr W') (own_A.set ⟨cl, Ar, S, H⟩ W')) (fun t q => st _ q)
theorem own_newB {k n' : Nat} {Q : Option Value → Heap → List Loc → Prop} {a0 : Array Value} (X : Stand p l e R s m args below meth c T locs cells slots) (hx : p.tables.exec = Jvm.exec) (hZ : Z.Warmed39 s.vm) (wd : (Jvm.Cond.arrayClass .byte).before a0 Z = true) {z : Int32} (hz : ¬ z < 0) {cap : Nat} (hcap : z.toNatClampNeg ≤ cap) (hb8 : cap * 8 ≤ 536870912) (hc : cells + 1 ≤ R.cells) (hl : slots + cap ≤ R.slots) {pc : Nat} {Ls : Array Slot} {rest : List Value} (hd : decode c.code pc = .ok (.newarray .byte, 2))
    (w : ∀ (T' : State) (b : Addr), Stand p l e R s m args below meth c T' locs (cells + 1) (slots + cap) → T.heap.size ≤ b → Ext T.heap T'.heap → own_A Z T'.heap b .byte z.toNatClampNeg (fun _ => 0) → own_W p e below s k n' Q T' (mkF m (pc + 2) Ls (.ref b :: rest))) : own_W p e below s k n' Q T (mkF m pc Ls (.int z :: rest)) := by
  obtain ⟨T', h', cA, X', e', E', A', st⟩ := newP X hx hZ (aty := .byte) wd rfl (g := mkF m pc Ls (.int z :: rest)) rfl hd rfl hz hcap hb8 hc hl
  subst e'
  refine own_st (w T' _ X' (Nat.le_refl _) E' ⟨_, A', sz_new _ _ _, fun i hi => ?_⟩) (fun t q => st _ q)
  show (Array.replicate z.toNatClampNeg (defaultValue .byte))[i]? = _
  simp [hi]; rfl
theorem own_newI {k n' : Nat} {Q : Option Value → Heap → List Loc → Prop} {a0 : Array Value} (X : Stand p l e R s m args below meth c T locs cells slots) (hx : p.tables.exec = Jvm.exec) (hZ : Z.Warmed39 s.vm) (wd : (Jvm.Cond.arrayClass .int).before a0 Z = true) {z : Int32} (hz : ¬ z < 0) {cap : Nat} (hcap : z.toNatClampNeg ≤ cap) (hb8 : cap * 8 ≤ 536870912) (hc : cells + 1 ≤ R.cells) (hl : slots + cap ≤ R.slots) {pc : Nat} {Ls : Array Slot} {rest : List Value} (hd : decode c.code pc = .ok (.newarray .int, 2))
    (w : ∀ (T' : State) (b : Addr), Stand p l e R s m args below meth c T' locs (cells + 1) (slots + cap) → T.heap.size ≤ b → Ext T.heap T'.heap → own_A Z T'.heap b .int z.toNatClampNeg (fun _ => 0) → own_W p e below s k n' Q T' (mkF m (pc + 2) Ls (.ref b :: rest))) : own_W p e below s k n' Q T (mkF m pc Ls (.int z :: rest)) := by
  obtain ⟨T', h', cA, X', e', E', A', st⟩ := newP X hx hZ (aty := .int) wd rfl (g := mkF m pc Ls (.int z :: rest)) rfl hd rfl hz hcap hb8 hc hl
  subst e'
  refine own_st (w T' _ X' (Nat.le_refl _) E' ⟨_, A', sz_new _ _ _, fun i hi => ?_⟩) (fun t q => st _ q)
  show (Array.replicate z.toNatClampNeg (defaultValue .int))[i]? = _
  simp [hi]; rfl
end OwnArr
section OwnIdx
theorem own_idx {j e : Int32} {n : Nat} (h0 : ¬ j < 0) (h : j < e) (he : e.toNatClampNeg ≤ n) : own_in j n := by
  refine ⟨h0, ?_⟩
  simp only [Int32.lt_iff_toInt_lt, Int32.toNatClampNeg, Int32.reduceToInt] at *
  omega
theorem own_inc {i e : Int32} (h : i < e) : (i + 1).toInt = i.toInt + 1 := by
  have h1 := Int32.toInt_lt e
  have h2 := Int32.le_toInt i
  have k : (1 : Int32).toInt = 1 := rfl
  rw [Int32.lt_iff_toInt_lt] at h
  rw [Jvm.Kit.i32_add (by omega) (by omega), k]
theorem own_back {i e : Int32} {k : Nat} (h : i < e) (hk : (e.toInt - i.toInt).toNat < k + 1) : (e.toInt - (i + 1).toInt).toNat < k := by
  rw [own_inc h]
  rw [Int32.lt_iff_toInt_lt] at h
  omega
theorem own_nn {i e : Int32} (h : i < e) (h0 : ¬ i < 0) : ¬ (i + 1) < 0 := by
  have k : (0 : Int32).toInt = 0 := rfl
  rw [Int32.lt_iff_toInt_lt, k] at h0 ⊢
  rw [own_inc h]
  omega
end OwnIdx
section OwnIdx2
theorem own_ge {z k : Int32} {j : Nat} (h : ¬ z < k) (hk : k.toInt = j + 1) : j < z.toNatClampNeg := by
  rw [Int32.lt_iff_toInt_lt] at h
  rw [Int32.toNatClampNeg]; omega
theorem own_ofN {n : Nat} (h : n < 2147483648) : (Int32.ofNat n).toInt = n := Int32.toInt_ofNat_of_lt (by omega)
theorem own_ofC {n : Nat} (h : n < 2147483648) : (Int32.ofNat n).toNatClampNeg = n := by rw [Int32.toNatClampNeg, own_ofN h]; omega
theorem own_cof {z : Int32} (h : 0 ≤ z.toInt) : Int32.ofNat z.toNatClampNeg = z := by
  have h2 := Int32.toInt_lt z
  apply Int32.toInt_inj.mp
  rw [Int32.toNatClampNeg, own_ofN (by omega)]; omega
abbrev own_r (p d : Int32) : Int32 := (p &&& (2147483647 : Int32)) - ((p &&& (2147483647 : Int32)) / d) * d
theorem own_rb (p d : Int32) (hd : 0 < d.toInt) : 0 ≤ (own_r p d).toInt ∧ (own_r p d).toInt < d.toInt := by
  have h : (own_r p d).toInt = (p.toInt % 2147483648) % d.toInt := by
    rw [own_rem (by rw [own_and31]; omega) hd, own_and31]
  rw [h]
  exact ⟨Int.emod_nonneg _ (by omega), Int.emod_lt_of_pos _ hd⟩
end OwnIdx2
theorem d4_0 : decode method_3_code 0 = .ok (.iload_n 0, 1) := by decide +kernel
theorem d4_1 : decode method_3_code 1 = .ok (.bipush 13, 2) := by decide +kernel
theorem d4_3 : decode method_3_code 3 = .ok (.if_icmp .eq 9, 3) := by decide +kernel
theorem d4_6 : decode method_3_code 6 = .ok (.iload_n 0, 1) := by decide +kernel
theorem d4_7 : decode method_3_code 7 = .ok (.bipush 10, 2) := by decide +kernel
theorem d4_9 : decode method_3_code 9 = .ok (.if_icmp .ne 7, 3) := by decide +kernel
theorem d4_12 : decode method_3_code 12 = .ok (.iconst 1, 1) := by decide +kernel
theorem d4_13 : decode method_3_code 13 = .ok (.goto 4, 3) := by decide +kernel
theorem d4_16 : decode method_3_code 16 = .ok (.iconst 0, 1) := by decide +kernel
theorem d4_17 : decode method_3_code 17 = .ok (.ireturn, 1) := by decide +kernel
theorem pn_4 : plainFor (⟨"com/example/lease/lease/http/RequestHeadStartPinLaw", "blank", "(B)Z"⟩ : MethodName) = true := by first | exact plainFor_of_name (by first | (simp [plainName, overriddenIn]; done) | decide +kernel) | decide +kernel
theorem ef_4 (m : MethodId) (x0 : Int32) : entryFrame m #[(.int x0)] 1 = mkF m 0 #[.val (.int x0)] [] := by first | (simp [entryFrame, mkF, argsToLocals, Value.category, maxLocals]; done) | rfl
def f4 (p0 : Int32) : Int32 := (if p0 = (13 : Int32) then (1 : Int32) else (if p0 = (10 : Int32) then (1 : Int32) else (0 : Int32)))
set_option maxRecDepth 65536 in
set_option maxHeartbeats 40000000 in
theorem rm4 (l : Launch) (Z : State) (a0 : Array Value) (hw : ∀ d ∈ tables_1, d.before a0 Z = true) (ws : List Jvm.Cond) (p0 : Int32) (h0 : Heap) (n0 : Nat) :
    MetFree l (⟨"com/example/lease/lease/http/RequestHeadStartPinLaw", "blank", "(B)Z"⟩ : MethodName) (head1 (Jvm.Cond.code (⟨"com/example/lease/lease/http/RequestHeadStartPinLaw", "blank", "(B)Z"⟩ : MethodName) method_3_code 1 (some .boolean) :: ws) ({ frames := 0, cells := 0, slots := 0, locals := 0 } : Room)) (fun a U => a = #[(.int p0)] ∧ Z.Warmed39 U.vm ∧ U.heap = h0) (fun _ _ _ _ _ => True) (fun _ U o U' => ∃ v L, o = .returned v ∧ own_GI n0 (fun h => h = h0) (f4 p0) v U'.heap L ∧ FrameEnd U o U' L ({ frames := 0, cells := 0, slots := 0, locals := 0 } : Room).cells ({ frames := 0, cells := 0, slots := 0, locals := 0 } : Room).slots) := by
  refine MetFree.of_bodySF pn_4 hisR ?_
  intro p e s m args below meth c s₁ Bd hml0 hP hK
  obtain ⟨rfl, hZ, hh⟩ := hP
  have hx := Bd.exec
  have hby := Bd.bytes
  have hml : c.maxLocals = 1 := hml0
  have hown : s.vm.findClass "com/example/lease/lease/http/RequestHeadStartPinLaw" = some m.cls := findClass_of_methodNamed Bd.named
  have hlk : meth.locks = false := BodyLoose.notSynchronized Bd
  have X0 : Stand p l e ({ frames := 0, cells := 0, slots := 0, locals := 0 } : Room) s m #[(.int p0)] below meth c s₁ [] 0 0 := Stand.of_body Bd
  have e0 : s₁.heap = h0 := by rw [← hh, Bd.state]; rfl
  have N0 := Fr.nil n0
  show own_W p e below s 0 0 (own_GI n0 (fun h => h = h0) (f4 p0)) s₁ (entryFrame m #[(.int p0)] 1)
  refine own_to (ef_4 m p0) ?_
  unfold f4
  refine own_st (T' := s₁) (f' := (mkF m 1 #[.val (.int p0)] [(.int p0)])) ?_ (fun t q => XS.iloadN X0.here hx rfl (hb hby d4_0) rfl q)
  refine own_st (T' := s₁) (f' := (mkF m 3 #[.val (.int p0)] [(.int (13 : Int32)), (.int p0)])) ?_ (fun t q => XS.bipush X0.here hx rfl (hb hby d4_1) q)
  refine own_ite (fun hc3 => ?_) (fun hc3 => ?_)
  · refine own_st (T' := s₁) (f' := (mkF m 12 #[.val (.int p0)] [])) ?_ (fun t q => XS.icmpYes X0.here hx rfl (pc0 := 3) (pc' := 12) rfl (hb hby d4_3) rfl (teq hc3).1 (by decide) (by decide) q)
    refine own_st (T' := s₁) (f' := (mkF m 13 #[.val (.int p0)] [(.int (1 : Int32))])) ?_ (fun t q => XS.iconst X0.here hx rfl (hb hby d4_12) q)
    refine own_st (T' := s₁) (f' := (mkF m 17 #[.val (.int p0)] [(.int (1 : Int32))])) ?_ (fun t q => XS.goto X0.here hx rfl (pc0 := 13) (pc' := 17) rfl (hb hby d4_13) (by decide) (by decide) q)
    exact own_retN X0 hx hlk (t := .boolean) Bd.returns (by simp) (hb hby d4_17) (by decide) (by decide) ⟨rfl, N0, e0⟩
  · refine own_st (T' := s₁) (f' := (mkF m 6 #[.val (.int p0)] [])) ?_ (fun t q => XS.icmpNo X0.here hx rfl (hb hby d4_3) rfl (feq hc3).1 q)
    refine own_st (T' := s₁) (f' := (mkF m 7 #[.val (.int p0)] [(.int p0)])) ?_ (fun t q => XS.iloadN X0.here hx rfl (hb hby d4_6) rfl q)
    refine own_st (T' := s₁) (f' := (mkF m 9 #[.val (.int p0)] [(.int (10 : Int32)), (.int p0)])) ?_ (fun t q => XS.bipush X0.here hx rfl (hb hby d4_7) q)
    refine own_ite (fun hc9 => ?_) (fun hc9 => ?_)
    · refine own_st (T' := s₁) (f' := (mkF m 12 #[.val (.int p0)] [])) ?_ (fun t q => XS.icmpNo X0.here hx rfl (hb hby d4_9) rfl (teq hc9).2 q)
      refine own_st (T' := s₁) (f' := (mkF m 13 #[.val (.int p0)] [(.int (1 : Int32))])) ?_ (fun t q => XS.iconst X0.here hx rfl (hb hby d4_12) q)
      refine own_st (T' := s₁) (f' := (mkF m 17 #[.val (.int p0)] [(.int (1 : Int32))])) ?_ (fun t q => XS.goto X0.here hx rfl (pc0 := 13) (pc' := 17) rfl (hb hby d4_13) (by decide) (by decide) q)
      exact own_retN X0 hx hlk (t := .boolean) Bd.returns (by simp) (hb hby d4_17) (by decide) (by decide) ⟨rfl, N0, e0⟩
    · refine own_st (T' := s₁) (f' := (mkF m 16 #[.val (.int p0)] [])) ?_ (fun t q => XS.icmpYes X0.here hx rfl (pc0 := 9) (pc' := 16) rfl (hb hby d4_9) rfl (feq hc9).2 (by decide) (by decide) q)
      refine own_st (T' := s₁) (f' := (mkF m 17 #[.val (.int p0)] [(.int (0 : Int32))])) ?_ (fun t q => XS.iconst X0.here hx rfl (hb hby d4_16) q)
      exact own_retN X0 hx hlk (t := .boolean) Bd.returns (by simp) (hb hby d4_17) (by decide) (by decide) ⟨rfl, N0, e0⟩
theorem d1_0 : decode method_2_code 0 = .ok (.iload_n 0, 1) := by decide +kernel
theorem d1_1 : decode method_2_code 1 = .ok (.iconst 3, 1) := by decide +kernel
theorem d1_2 : decode method_2_code 2 = .ok (.iand, 1) := by decide +kernel
theorem d1_3 : decode method_2_code 3 = .ok (.istore_n 1, 1) := by decide +kernel
theorem d1_4 : decode method_2_code 4 = .ok (.iload_n 1, 1) := by decide +kernel
theorem d1_5 : decode method_2_code 5 = .ok (.ifCond .ne 6, 3) := by decide +kernel
theorem d1_8 : decode method_2_code 8 = .ok (.bipush 13, 2) := by decide +kernel
theorem d1_10 : decode method_2_code 10 = .ok (.ireturn, 1) := by decide +kernel
theorem d1_11 : decode method_2_code 11 = .ok (.iload_n 1, 1) := by decide +kernel
theorem d1_12 : decode method_2_code 12 = .ok (.iconst 1, 1) := by decide +kernel
theorem d1_13 : decode method_2_code 13 = .ok (.if_icmp .ne 6, 3) := by decide +kernel
theorem d1_16 : decode method_2_code 16 = .ok (.bipush 10, 2) := by decide +kernel
theorem d1_18 : decode method_2_code 18 = .ok (.ireturn, 1) := by decide +kernel
theorem d1_19 : decode method_2_code 19 = .ok (.iload_n 0, 1) := by decide +kernel
theorem d1_20 : decode method_2_code 20 = .ok (.iconst 2, 1) := by decide +kernel
theorem d1_21 : decode method_2_code 21 = .ok (.ishr, 1) := by decide +kernel
theorem d1_22 : decode method_2_code 22 = .ok (.i2b, 1) := by decide +kernel
theorem d1_23 : decode method_2_code 23 = .ok (.ireturn, 1) := by decide +kernel
theorem pn_1 : plainFor (⟨"com/example/lease/lease/http/RequestHeadStartPinLaw", "pick", "(I)B"⟩ : MethodName) = true := by first | exact plainFor_of_name (by first | (simp [plainName, overriddenIn]; done) | decide +kernel) | decide +kernel
theorem ef_1 (m : MethodId) (x0 : Int32) : entryFrame m #[(.int x0)] 2 = mkF m 0 #[.val (.int x0), .unset] [] := by first | (simp [entryFrame, mkF, argsToLocals, Value.category, maxLocals]; done) | rfl
def f1 (p0 : Int32) : Int32 := (if (p0 &&& (3 : Int32)) = (0 : Int32) then (13 : Int32) else (if (p0 &&& (3 : Int32)) = (1 : Int32) then (10 : Int32) else (nar .byte ((p0 >>> ((2 : Int32) &&& 31)).toInt8.toInt32))))
set_option maxRecDepth 65536 in
set_option maxHeartbeats 40000000 in
theorem rm1 (l : Launch) (Z : State) (a0 : Array Value) (hw : ∀ d ∈ tables_1, d.before a0 Z = true) (ws : List Jvm.Cond) (p0 : Int32) (h0 : Heap) (n0 : Nat) :
    MetFree l (⟨"com/example/lease/lease/http/RequestHeadStartPinLaw", "pick", "(I)B"⟩ : MethodName) (head1 (Jvm.Cond.code (⟨"com/example/lease/lease/http/RequestHeadStartPinLaw", "pick", "(I)B"⟩ : MethodName) method_2_code 2 (some .byte) :: ws) ({ frames := 0, cells := 0, slots := 0, locals := 0 } : Room)) (fun a U => a = #[(.int p0)] ∧ Z.Warmed39 U.vm ∧ U.heap = h0) (fun _ _ _ _ _ => True) (fun _ U o U' => ∃ v L, o = .returned v ∧ own_GI n0 (fun h => h = h0) (f1 p0) v U'.heap L ∧ FrameEnd U o U' L ({ frames := 0, cells := 0, slots := 0, locals := 0 } : Room).cells ({ frames := 0, cells := 0, slots := 0, locals := 0 } : Room).slots) := by
  refine MetFree.of_bodySF pn_1 hisR ?_
  intro p e s m args below meth c s₁ Bd hml0 hP hK
  obtain ⟨rfl, hZ, hh⟩ := hP
  have hx := Bd.exec
  have hby := Bd.bytes
  have hml : c.maxLocals = 2 := hml0
  have hown : s.vm.findClass "com/example/lease/lease/http/RequestHeadStartPinLaw" = some m.cls := findClass_of_methodNamed Bd.named
  have hlk : meth.locks = false := BodyLoose.notSynchronized Bd
  have X0 : Stand p l e ({ frames := 0, cells := 0, slots := 0, locals := 0 } : Room) s m #[(.int p0)] below meth c s₁ [] 0 0 := Stand.of_body Bd
  have e0 : s₁.heap = h0 := by rw [← hh, Bd.state]; rfl
  have N0 := Fr.nil n0
  show own_W p e below s 0 0 (own_GI n0 (fun h => h = h0) (f1 p0)) s₁ (entryFrame m #[(.int p0)] 2)
  refine own_to (ef_1 m p0) ?_
  unfold f1
  refine own_st (T' := s₁) (f' := (mkF m 1 #[.val (.int p0), .unset] [(.int p0)])) ?_ (fun t q => XS.iloadN X0.here hx rfl (hb hby d1_0) rfl q)
  refine own_st (T' := s₁) (f' := (mkF m 2 #[.val (.int p0), .unset] [(.int (3 : Int32)), (.int p0)])) ?_ (fun t q => XS.iconst X0.here hx rfl (hb hby d1_1) q)
  refine own_st (T' := s₁) (f' := (mkF m 3 #[.val (.int p0), .unset] [(.int (p0 &&& (3 : Int32)))])) ?_ (fun t q => XS.iand X0.here hx rfl (hb hby d1_2) rfl q)
  refine own_st (T' := s₁) (f' := (mkF m 4 #[.val (.int p0), .val (.int (p0 &&& (3 : Int32)))] [])) ?_ (fun t q => XS.istoreN X0.here hx rfl (hb hby d1_3) rfl (l' := #[.val (.int p0), .val (.int (p0 &&& (3 : Int32)))]) rfl q)
  refine own_st (T' := s₁) (f' := (mkF m 5 #[.val (.int p0), .val (.int (p0 &&& (3 : Int32)))] [(.int (p0 &&& (3 : Int32)))])) ?_ (fun t q => XS.iloadN X0.here hx rfl (hb hby d1_4) rfl q)
  refine own_ite (fun hc5 => ?_) (fun hc5 => ?_)
  · refine own_st (T' := s₁) (f' := (mkF m 8 #[.val (.int p0), .val (.int (p0 &&& (3 : Int32)))] [])) ?_ (fun t q => XS.ifNo X0.here hx rfl (hb hby d1_5) rfl ((if0 _ _).trans (teq hc5).2) q)
    refine own_st (T' := s₁) (f' := (mkF m 10 #[.val (.int p0), .val (.int (p0 &&& (3 : Int32)))] [(.int (13 : Int32))])) ?_ (fun t q => XS.bipush X0.here hx rfl (hb hby d1_8) q)
    exact own_retN X0 hx hlk (t := .byte) Bd.returns (by simp) (hb hby d1_10) (by decide) (by decide) ⟨rfl, N0, e0⟩
  · refine own_st (T' := s₁) (f' := (mkF m 11 #[.val (.int p0), .val (.int (p0 &&& (3 : Int32)))] [])) ?_ (fun t q => XS.ifYes X0.here hx rfl (pc0 := 5) (pc' := 11) rfl (hb hby d1_5) rfl ((if0 _ _).trans (feq hc5).2) (by decide) (by decide) q)
    refine own_st (T' := s₁) (f' := (mkF m 12 #[.val (.int p0), .val (.int (p0 &&& (3 : Int32)))] [(.int (p0 &&& (3 : Int32)))])) ?_ (fun t q => XS.iloadN X0.here hx rfl (hb hby d1_11) rfl q)
    refine own_st (T' := s₁) (f' := (mkF m 13 #[.val (.int p0), .val (.int (p0 &&& (3 : Int32)))] [(.int (1 : Int32)), (.int (p0 &&& (3 : Int32)))])) ?_ (fun t q => XS.iconst X0.here hx rfl (hb hby d1_12) q)
    refine own_ite (fun hc13 => ?_) (fun hc13 => ?_)
    · refine own_st (T' := s₁) (f' := (mkF m 16 #[.val (.int p0), .val (.int (p0 &&& (3 : Int32)))] [])) ?_ (fun t q => XS.icmpNo X0.here hx rfl (hb hby d1_13) rfl (teq hc13).2 q)
      refine own_st (T' := s₁) (f' := (mkF m 18 #[.val (.int p0), .val (.int (p0 &&& (3 : Int32)))] [(.int (10 : Int32))])) ?_ (fun t q => XS.bipush X0.here hx rfl (hb hby d1_16) q)
      exact own_retN X0 hx hlk (t := .byte) Bd.returns (by simp) (hb hby d1_18) (by decide) (by decide) ⟨rfl, N0, e0⟩
    · refine own_st (T' := s₁) (f' := (mkF m 19 #[.val (.int p0), .val (.int (p0 &&& (3 : Int32)))] [])) ?_ (fun t q => XS.icmpYes X0.here hx rfl (pc0 := 13) (pc' := 19) rfl (hb hby d1_13) rfl (feq hc13).2 (by decide) (by decide) q)
      refine own_st (T' := s₁) (f' := (mkF m 20 #[.val (.int p0), .val (.int (p0 &&& (3 : Int32)))] [(.int p0)])) ?_ (fun t q => XS.iloadN X0.here hx rfl (hb hby d1_19) rfl q)
      refine own_st (T' := s₁) (f' := (mkF m 21 #[.val (.int p0), .val (.int (p0 &&& (3 : Int32)))] [(.int (2 : Int32)), (.int p0)])) ?_ (fun t q => XS.iconst X0.here hx rfl (hb hby d1_20) q)
      refine own_st (T' := s₁) (f' := (mkF m 22 #[.val (.int p0), .val (.int (p0 &&& (3 : Int32)))] [(.int (p0 >>> ((2 : Int32) &&& 31)))])) ?_ (fun t q => XS.ishr X0.here hx rfl (hb hby d1_21) rfl q)
      refine own_st (T' := s₁) (f' := (mkF m 23 #[.val (.int p0), .val (.int (p0 &&& (3 : Int32)))] [(.int ((p0 >>> ((2 : Int32) &&& 31)).toInt8.toInt32))])) ?_ (fun t q => XS.i2b X0.here hx rfl (hb hby d1_22) rfl q)
      exact own_retN X0 hx hlk (t := .byte) Bd.returns (by simp) (hb hby d1_23) (by decide) (by decide) ⟨rfl, N0, e0⟩
theorem pd_0 : parseMethodDescriptor "(B)Z" = some ⟨[.byte], some .boolean⟩ := by decide +kernel
theorem d2_0 : decode method_4_code 0 = .ok (.iload_n 1, 1) := by decide +kernel
theorem d2_1 : decode method_4_code 1 = .ok (.iload_n 2, 1) := by decide +kernel
theorem d2_2 : decode method_4_code 2 = .ok (.if_icmp .lt 19, 3) := by decide +kernel
theorem d2_5 : decode method_4_code 5 = .ok (.iload_n 1, 1) := by decide +kernel
theorem d2_6 : decode method_4_code 6 = .ok (.iload_n 3, 1) := by decide +kernel
theorem d2_7 : decode method_4_code 7 = .ok (.if_icmp .ge 14, 3) := by decide +kernel
theorem d2_10 : decode method_4_code 10 = .ok (.aload_n 0, 1) := by decide +kernel
theorem d2_11 : decode method_4_code 11 = .ok (.iload_n 1, 1) := by decide +kernel
theorem d2_12 : decode method_4_code 12 = .ok (.baload, 1) := by decide +kernel
theorem d2_13 : decode method_4_code 13 = .ok (.invokestatic 7, 3) := by decide +kernel
theorem d2_16 : decode method_4_code 16 = .ok (.ifCond .ne 5, 3) := by decide +kernel
theorem d2_19 : decode method_4_code 19 = .ok (.iload_n 1, 1) := by decide +kernel
theorem d2_20 : decode method_4_code 20 = .ok (.ireturn, 1) := by decide +kernel
theorem d2_21 : decode method_4_code 21 = .ok (.iload 4, 2) := by decide +kernel
theorem d2_23 : decode method_4_code 23 = .ok (.ireturn, 1) := by decide +kernel
theorem pn_2 : plainFor (⟨"com/example/lease/lease/http/RequestHeadStartPinLaw", "cand", "([BIIII)I"⟩ : MethodName) = true := by first | exact plainFor_of_name (by first | (simp [plainName, overriddenIn]; done) | decide +kernel) | decide +kernel
theorem ef_2 (m : MethodId) (x0 : Addr) (x1 : Int32) (x2 : Int32) (x3 : Int32) (x4 : Int32) : entryFrame m #[(.ref x0), (.int x1), (.int x2), (.int x3), (.int x4)] 5 = mkF m 0 #[.val (.ref x0), .val (.int x1), .val (.int x2), .val (.int x3), .val (.int x4)] [] := by first | (simp [entryFrame, mkF, argsToLocals, Value.category, maxLocals]; done) | rfl
def f2 (p1 : Int32) (p2 : Int32) (p3 : Int32) (p4 : Int32) (F : Nat → Int32) : Int32 := (if p1 < p2 then p4 else (if p1 < p3 then (if (f4 (F p1.toNatClampNeg)) = (0 : Int32) then p1 else p4) else p4))
set_option maxRecDepth 65536 in
set_option maxHeartbeats 40000000 in
theorem rm2 (l : Launch) (Z : State) (a0 : Array Value) (hw : ∀ d ∈ tables_1, d.before a0 Z = true) (ws : List Jvm.Cond) (o0 : Addr) (p1 : Int32) (p2 : Int32) (p3 : Int32) (p4 : Int32) (n : Nat) (F : Nat → Int32) (h0 : Heap) (n0 : Nat) (A_o0 : own_A Z h0 o0 .byte n F) (hlo : ¬ p1 < 0) (hto : p3.toNatClampNeg ≤ n) :
    MetFree l (⟨"com/example/lease/lease/http/RequestHeadStartPinLaw", "cand", "([BIIII)I"⟩ : MethodName) (head1 (Jvm.Cond.code (⟨"com/example/lease/lease/http/RequestHeadStartPinLaw", "cand", "([BIIII)I"⟩ : MethodName) method_4_code 5 (some .int) :: ws) ({ frames := 1, cells := 0, slots := 0, locals := 16 } : Room)) (fun a U => a = #[(.ref o0), (.int p1), (.int p2), (.int p3), (.int p4)] ∧ Z.Warmed39 U.vm ∧ U.heap = h0) (fun _ _ _ _ _ => True) (fun _ U o U' => ∃ v L, o = .returned v ∧ own_GI n0 (fun h => h = h0) (f2 p1 p2 p3 p4 F) v U'.heap L ∧ FrameEnd U o U' L ({ frames := 1, cells := 0, slots := 0, locals := 16 } : Room).cells ({ frames := 1, cells := 0, slots := 0, locals := 16 } : Room).slots) := by
  refine MetFree.of_bodySF pn_2 hisR ?_
  intro p e s m args below meth c s₁ Bd hml0 hP hK
  obtain ⟨rfl, hZ, hh⟩ := hP
  have hx := Bd.exec
  have hby := Bd.bytes
  have hml : c.maxLocals = 5 := hml0
  have hown : s.vm.findClass "com/example/lease/lease/http/RequestHeadStartPinLaw" = some m.cls := findClass_of_methodNamed Bd.named
  have hlk : meth.locks = false := BodyLoose.notSynchronized Bd
  have X0 : Stand p l e ({ frames := 1, cells := 0, slots := 0, locals := 16 } : Room) s m #[(.ref o0), (.int p1), (.int p2), (.int p3), (.int p4)] below meth c s₁ [] 0 0 := Stand.of_body Bd
  have e0 : s₁.heap = h0 := by rw [← hh, Bd.state]; rfl
  have N0 := Fr.nil n0
  show own_W p e below s 0 0 (own_GI n0 (fun h => h = h0) (f2 p1 p2 p3 p4 F)) s₁ (entryFrame m #[(.ref o0), (.int p1), (.int p2), (.int p3), (.int p4)] 5)
  refine own_to (ef_2 m o0 p1 p2 p3 p4) ?_
  unfold f2
  refine own_st (T' := s₁) (f' := (mkF m 1 #[.val (.ref o0), .val (.int p1), .val (.int p2), .val (.int p3), .val (.int p4)] [(.int p1)])) ?_ (fun t q => XS.iloadN X0.here hx rfl (hb hby d2_0) rfl q)
  refine own_st (T' := s₁) (f' := (mkF m 2 #[.val (.ref o0), .val (.int p1), .val (.int p2), .val (.int p3), .val (.int p4)] [(.int p2), (.int p1)])) ?_ (fun t q => XS.iloadN X0.here hx rfl (hb hby d2_1) rfl q)
  refine own_ite (fun hc2 => ?_) (fun hc2 => ?_)
  · refine own_st (T' := s₁) (f' := (mkF m 21 #[.val (.ref o0), .val (.int p1), .val (.int p2), .val (.int p3), .val (.int p4)] [])) ?_ (fun t q => XS.icmpYes X0.here hx rfl (pc0 := 2) (pc' := 21) rfl (hb hby d2_2) rfl (tlt hc2).1 (by decide) (by decide) q)
    refine own_st (T' := s₁) (f' := (mkF m 23 #[.val (.ref o0), .val (.int p1), .val (.int p2), .val (.int p3), .val (.int p4)] [(.int p4)])) ?_ (fun t q => XS.iload X0.here hx rfl (hb hby d2_21) rfl q)
    exact own_retI X0 hx hlk Bd.returns (hb hby d2_23) (by decide) (by decide) ⟨rfl, N0, e0⟩
  · refine own_st (T' := s₁) (f' := (mkF m 5 #[.val (.ref o0), .val (.int p1), .val (.int p2), .val (.int p3), .val (.int p4)] [])) ?_ (fun t q => XS.icmpNo X0.here hx rfl (hb hby d2_2) rfl (flt hc2).1 q)
    refine own_st (T' := s₁) (f' := (mkF m 6 #[.val (.ref o0), .val (.int p1), .val (.int p2), .val (.int p3), .val (.int p4)] [(.int p1)])) ?_ (fun t q => XS.iloadN X0.here hx rfl (hb hby d2_5) rfl q)
    refine own_st (T' := s₁) (f' := (mkF m 7 #[.val (.ref o0), .val (.int p1), .val (.int p2), .val (.int p3), .val (.int p4)] [(.int p3), (.int p1)])) ?_ (fun t q => XS.iloadN X0.here hx rfl (hb hby d2_6) rfl q)
    refine own_ite (fun hc7 => ?_) (fun hc7 => ?_)
    · refine own_st (T' := s₁) (f' := (mkF m 10 #[.val (.ref o0), .val (.int p1), .val (.int p2), .val (.int p3), .val (.int p4)] [])) ?_ (fun t q => XS.icmpNo X0.here hx rfl (hb hby d2_7) rfl (tlt hc7).2.1 q)
      refine own_st (T' := s₁) (f' := (mkF m 11 #[.val (.ref o0), .val (.int p1), .val (.int p2), .val (.int p3), .val (.int p4)] [(.ref o0)])) ?_ (fun t q => XS.aloadN X0.here hx rfl (hb hby d2_10) rfl rfl q)
      refine own_st (T' := s₁) (f' := (mkF m 12 #[.val (.ref o0), .val (.int p1), .val (.int p2), .val (.int p3), .val (.int p4)] [(.int p1), (.ref o0)])) ?_ (fun t q => XS.iloadN X0.here hx rfl (hb hby d2_11) rfl q)
      refine own_bald X0 hx hZ (own_A.eq A_o0 e0) (j := p1) (own_idx hlo hc7 hto) (hb hby d2_12) ?_
      show own_W _ _ _ _ _ _ _ s₁ (mkF m 13 #[.val (.ref o0), .val (.int p1), .val (.int p2), .val (.int p3), .val (.int p4)] [(.int (F p1.toNatClampNeg))])
      obtain ⟨_, _, ⟨T1, L1, k1, n1⟩, -, X1, ⟨Lc1, hQ1, l1, y1, z1⟩, st1⟩ := Jvm.LawKit.callS X0 hx (y := (⟨"com/example/lease/lease/http/RequestHeadStartPinLaw", "blank", "(B)Z"⟩ : MethodName)) hown (mvT hZ (hw _ (List.mem_of_getElem? (i := 13) rfl))) (mvT hZ (hw _ (List.mem_of_getElem? (i := 14) rfl))) (mvT hZ (hw _ (List.mem_of_getElem? (i := 3) rfl))) (mvT hZ (hw _ (List.mem_of_getElem? (i := 15) rfl))) (by decide) (backOf (W := 0) (rm4 l Z a0 hw [] (F p1.toNatClampNeg) h0 n0) hZ (hw _ (List.mem_of_getElem? (i := 15) rfl)) (hw _ (List.mem_of_getElem? (i := 3) rfl)) (by decide) (by decide)) (g := (mkF m 13 #[.val (.ref o0), .val (.int p1), .val (.int p2), .val (.int p3), .val (.int p4)] [(.int (F p1.toNatClampNeg))])) rfl (by rw [hml]; rfl) (argsL := [(.int (F p1.toNatClampNeg))]) (rest := []) (lenOf pd_0 rfl) rfl (by show 2 * 0 + _ ≤ _; exact Nat.le_of_eq rfl) (hb hby d2_13) (fun _ _ => ⟨rfl, e0, (Nat.le_of_ble_eq_true rfl), (Nat.le_of_ble_eq_true rfl)⟩)
      dsimp only [Pt.U, Pt.locs, Pt.cells, Pt.slots] at X1 l1 y1 z1 st1 hQ1
      subst l1 y1 z1
      obtain ⟨rfl, N1q, e1⟩ := hQ1
      have N1 := Fr.app N0 N1q
      refine own_st (T' := T1) (f' := (mkF m 16 #[.val (.ref o0), .val (.int p1), .val (.int p2), .val (.int p3), .val (.int p4)] [(.int (f4 (F p1.toNatClampNeg)))])) ?_ (fun t q => st1 _ q)
      refine own_ite (fun hc16 => ?_) (fun hc16 => ?_)
      · refine own_st (T' := T1) (f' := (mkF m 19 #[.val (.ref o0), .val (.int p1), .val (.int p2), .val (.int p3), .val (.int p4)] [])) ?_ (fun t q => XS.ifNo X1.here hx rfl (hb hby d2_16) rfl ((if0 _ _).trans (teq hc16).2) q)
        refine own_st (T' := T1) (f' := (mkF m 20 #[.val (.ref o0), .val (.int p1), .val (.int p2), .val (.int p3), .val (.int p4)] [(.int p1)])) ?_ (fun t q => XS.iloadN X1.here hx rfl (hb hby d2_19) rfl q)
        exact own_retI X1 hx hlk Bd.returns (hb hby d2_20) (by decide) (by decide) ⟨rfl, N1, e1⟩
      · refine own_st (T' := T1) (f' := (mkF m 21 #[.val (.ref o0), .val (.int p1), .val (.int p2), .val (.int p3), .val (.int p4)] [])) ?_ (fun t q => XS.ifYes X1.here hx rfl (pc0 := 16) (pc' := 21) rfl (hb hby d2_16) rfl ((if0 _ _).trans (feq hc16).2) (by decide) (by decide) q)
        refine own_st (T' := T1) (f' := (mkF m 23 #[.val (.ref o0), .val (.int p1), .val (.int p2), .val (.int p3), .val (.int p4)] [(.int p4)])) ?_ (fun t q => XS.iload X1.here hx rfl (hb hby d2_21) rfl q)
        exact own_retI X1 hx hlk Bd.returns (hb hby d2_23) (by decide) (by decide) ⟨rfl, N1, e1⟩
    · refine own_st (T' := s₁) (f' := (mkF m 21 #[.val (.ref o0), .val (.int p1), .val (.int p2), .val (.int p3), .val (.int p4)] [])) ?_ (fun t q => XS.icmpYes X0.here hx rfl (pc0 := 7) (pc' := 21) rfl (hb hby d2_7) rfl (flt hc7).2.1 (by decide) (by decide) q)
      refine own_st (T' := s₁) (f' := (mkF m 23 #[.val (.ref o0), .val (.int p1), .val (.int p2), .val (.int p3), .val (.int p4)] [(.int p4)])) ?_ (fun t q => XS.iload X0.here hx rfl (hb hby d2_21) rfl q)
      exact own_retI X0 hx hlk Bd.returns (hb hby d2_23) (by decide) (by decide) ⟨rfl, N0, e0⟩
theorem d3_0 : decode prog_87_method_2_code 0 = .ok (.iload_n 1, 1) := by decide +kernel
theorem d3_1 : decode prog_87_method_2_code 1 = .ok (.istore_n 3, 1) := by decide +kernel
theorem d3_2 : decode prog_87_method_2_code 2 = .ok (.iload_n 3, 1) := by decide +kernel
theorem d3_3 : decode prog_87_method_2_code 3 = .ok (.iload_n 2, 1) := by decide +kernel
theorem d3_4 : decode prog_87_method_2_code 4 = .ok (.if_icmp .ge 25, 3) := by decide +kernel
theorem d3_7 : decode prog_87_method_2_code 7 = .ok (.aload_n 0, 1) := by decide +kernel
theorem d3_8 : decode prog_87_method_2_code 8 = .ok (.iload_n 3, 1) := by decide +kernel
theorem d3_9 : decode prog_87_method_2_code 9 = .ok (.baload, 1) := by decide +kernel
theorem d3_10 : decode prog_87_method_2_code 10 = .ok (.bipush 13, 2) := by decide +kernel
theorem d3_12 : decode prog_87_method_2_code 12 = .ok (.if_icmp .eq 11, 3) := by decide +kernel
theorem d3_15 : decode prog_87_method_2_code 15 = .ok (.aload_n 0, 1) := by decide +kernel
theorem d3_16 : decode prog_87_method_2_code 16 = .ok (.iload_n 3, 1) := by decide +kernel
theorem d3_17 : decode prog_87_method_2_code 17 = .ok (.baload, 1) := by decide +kernel
theorem d3_18 : decode prog_87_method_2_code 18 = .ok (.bipush 10, 2) := by decide +kernel
theorem d3_20 : decode prog_87_method_2_code 20 = .ok (.if_icmp .ne 9, 3) := by decide +kernel
theorem d3_23 : decode prog_87_method_2_code 23 = .ok (.iinc 3 1, 3) := by decide +kernel
theorem d3_26 : decode prog_87_method_2_code 26 = .ok (.goto (-24), 3) := by decide +kernel
theorem d3_29 : decode prog_87_method_2_code 29 = .ok (.iload_n 3, 1) := by decide +kernel
theorem d3_30 : decode prog_87_method_2_code 30 = .ok (.ireturn, 1) := by decide +kernel
theorem pn_3 : plainFor (⟨"com/example/lease/lease/http/RequestHead", "start", "([BII)I"⟩ : MethodName) = true := by first | exact plainFor_of_name (by first | (simp [plainName, overriddenIn]; done) | decide +kernel) | decide +kernel
theorem ef_3 (m : MethodId) (x0 : Addr) (x1 : Int32) (x2 : Int32) : entryFrame m #[(.ref x0), (.int x1), (.int x2)] 4 = mkF m 0 #[.val (.ref x0), .val (.int x1), .val (.int x2), .unset] [] := by first | (simp [entryFrame, mkF, argsToLocals, Value.category, maxLocals]; done) | rfl
def f3_2 (p1 : Int32) (p2 : Int32) (F : Nat → Int32) : Nat → Int32 → Int32
  | 0, _ => 0
  | k + 1, g3_2 => (if g3_2 < p2 then (if (F g3_2.toNatClampNeg) = (13 : Int32) then (f3_2 p1 p2 F k (g3_2 + (1 : Int32))) else (if (F g3_2.toNatClampNeg) = (10 : Int32) then (f3_2 p1 p2 F k (g3_2 + (1 : Int32))) else g3_2)) else g3_2)
def f3 (p1 : Int32) (p2 : Int32) (F : Nat → Int32) : Int32 := (f3_2 p1 p2 F 10 p1)
set_option maxRecDepth 65536 in
set_option maxHeartbeats 40000000 in
theorem rm3 (l : Launch) (Z : State) (a0 : Array Value) (hw : ∀ d ∈ tables_1, d.before a0 Z = true) (ws : List Jvm.Cond) (o0 : Addr) (p1 : Int32) (p2 : Int32) (n : Nat) (F : Nat → Int32) (h0 : Heap) (n0 : Nat) (A_o0 : own_A Z h0 o0 .byte n F) (hlo : ¬ p1 < 0) (hhi : p2.toNatClampNeg ≤ n) (hm : (p2.toInt - p1.toInt).toNat < 10) :
    MetFree l (⟨"com/example/lease/lease/http/RequestHead", "start", "([BII)I"⟩ : MethodName) (head1 (Jvm.Cond.code (⟨"com/example/lease/lease/http/RequestHead", "start", "([BII)I"⟩ : MethodName) prog_87_method_2_code 4 (some .int) :: ws) ({ frames := 0, cells := 0, slots := 0, locals := 0 } : Room)) (fun a U => a = #[(.ref o0), (.int p1), (.int p2)] ∧ Z.Warmed39 U.vm ∧ U.heap = h0) (fun _ _ _ _ _ => True) (fun _ U o U' => ∃ v L, o = .returned v ∧ own_GI n0 (fun h => h = h0) (f3 p1 p2 F) v U'.heap L ∧ FrameEnd U o U' L ({ frames := 0, cells := 0, slots := 0, locals := 0 } : Room).cells ({ frames := 0, cells := 0, slots := 0, locals := 0 } : Room).slots) := by
  refine MetFree.of_bodySF pn_3 hisR ?_
  intro p e s m args below meth c s₁ Bd hml0 hP hK
  obtain ⟨rfl, hZ, hh⟩ := hP
  have hx := Bd.exec
  have hby := Bd.bytes
  have hml : c.maxLocals = 4 := hml0
  have hown : s.vm.findClass "com/example/lease/lease/http/RequestHead" = some m.cls := findClass_of_methodNamed Bd.named
  have hlk : meth.locks = false := BodyLoose.notSynchronized Bd
  have X0 : Stand p l e ({ frames := 0, cells := 0, slots := 0, locals := 0 } : Room) s m #[(.ref o0), (.int p1), (.int p2)] below meth c s₁ [] 0 0 := Stand.of_body Bd
  have e0 : s₁.heap = h0 := by rw [← hh, Bd.state]; rfl
  have N0 := Fr.nil n0
  have B2 : ∀ (k : Nat) (T : State) (locs : List Loc) (g3_2 : Int32) (X : Stand p l e ({ frames := 0, cells := 0, slots := 0, locals := 0 } : Room) s m #[(.ref o0), (.int p1), (.int p2)] below meth c T locs 0 0) (N : Fr n0 locs) (eh : T.heap = h0) (hk : (p2.toInt - g3_2.toInt).toNat < k) (hi : ¬ g3_2 < 0), own_W p e below s 0 0 (own_GI n0 (fun h => h = h0) (f3_2 p1 p2 F k g3_2)) T (mkF m 2 #[.val (.ref o0), .val (.int p1), .val (.int p2), .val (.int g3_2)] []) := by
    intro k
    induction k with
    | zero =>
      intro T locs g3_2 X N eh hk hi
      exact absurd hk (Nat.not_lt_zero _)
    | succ k ih =>
      intro T locs g3_2 X N eh hk hi
      rw [f3_2]
      refine own_st (T' := T) (f' := (mkF m 3 #[.val (.ref o0), .val (.int p1), .val (.int p2), .val (.int g3_2)] [(.int g3_2)])) ?_ (fun t q => XS.iloadN X.here hx rfl (hb hby d3_2) rfl q)
      refine own_st (T' := T) (f' := (mkF m 4 #[.val (.ref o0), .val (.int p1), .val (.int p2), .val (.int g3_2)] [(.int p2), (.int g3_2)])) ?_ (fun t q => XS.iloadN X.here hx rfl (hb hby d3_3) rfl q)
      refine own_ite (fun hc4 => ?_) (fun hc4 => ?_)
      · refine own_st (T' := T) (f' := (mkF m 7 #[.val (.ref o0), .val (.int p1), .val (.int p2), .val (.int g3_2)] [])) ?_ (fun t q => XS.icmpNo X.here hx rfl (hb hby d3_4) rfl (tlt hc4).2.1 q)
        refine own_st (T' := T) (f' := (mkF m 8 #[.val (.ref o0), .val (.int p1), .val (.int p2), .val (.int g3_2)] [(.ref o0)])) ?_ (fun t q => XS.aloadN X.here hx rfl (hb hby d3_7) rfl rfl q)
        refine own_st (T' := T) (f' := (mkF m 9 #[.val (.ref o0), .val (.int p1), .val (.int p2), .val (.int g3_2)] [(.int g3_2), (.ref o0)])) ?_ (fun t q => XS.iloadN X.here hx rfl (hb hby d3_8) rfl q)
        refine own_bald X hx hZ (own_A.eq A_o0 eh) (j := g3_2) (own_idx hi hc4 hhi) (hb hby d3_9) ?_
        show own_W _ _ _ _ _ _ _ T (mkF m 10 #[.val (.ref o0), .val (.int p1), .val (.int p2), .val (.int g3_2)] [(.int (F g3_2.toNatClampNeg))])
        refine own_st (T' := T) (f' := (mkF m 12 #[.val (.ref o0), .val (.int p1), .val (.int p2), .val (.int g3_2)] [(.int (13 : Int32)), (.int (F g3_2.toNatClampNeg))])) ?_ (fun t q => XS.bipush X.here hx rfl (hb hby d3_10) q)
        refine own_ite (fun hc12 => ?_) (fun hc12 => ?_)
        · refine own_st (T' := T) (f' := (mkF m 23 #[.val (.ref o0), .val (.int p1), .val (.int p2), .val (.int g3_2)] [])) ?_ (fun t q => XS.icmpYes X.here hx rfl (pc0 := 12) (pc' := 23) rfl (hb hby d3_12) rfl (teq hc12).1 (by decide) (by decide) q)
          refine own_st (T' := T) (f' := (mkF m 26 #[.val (.ref o0), .val (.int p1), .val (.int p2), .val (.int (g3_2 + (1 : Int32)))] [])) ?_ (fun t q => XS.iinc X.here hx rfl (hb hby d3_23) rfl (l' := #[.val (.ref o0), .val (.int p1), .val (.int p2), .val (.int (g3_2 + (1 : Int32)))]) rfl q)
          refine own_st (T' := T) (f' := (mkF m 2 #[.val (.ref o0), .val (.int p1), .val (.int p2), .val (.int (g3_2 + (1 : Int32)))] [])) ?_ (fun t q => XS.goto X.here hx rfl (pc0 := 26) (pc' := 2) rfl (hb hby d3_26) (by decide) (by decide) q)
          exact ih T _ (g3_2 + (1 : Int32)) X N eh (own_back hc4 hk) (own_nn hc4 hi)
        · refine own_st (T' := T) (f' := (mkF m 15 #[.val (.ref o0), .val (.int p1), .val (.int p2), .val (.int g3_2)] [])) ?_ (fun t q => XS.icmpNo X.here hx rfl (hb hby d3_12) rfl (feq hc12).1 q)
          refine own_st (T' := T) (f' := (mkF m 16 #[.val (.ref o0), .val (.int p1), .val (.int p2), .val (.int g3_2)] [(.ref o0)])) ?_ (fun t q => XS.aloadN X.here hx rfl (hb hby d3_15) rfl rfl q)
          refine own_st (T' := T) (f' := (mkF m 17 #[.val (.ref o0), .val (.int p1), .val (.int p2), .val (.int g3_2)] [(.int g3_2), (.ref o0)])) ?_ (fun t q => XS.iloadN X.here hx rfl (hb hby d3_16) rfl q)
          refine own_bald X hx hZ (own_A.eq A_o0 eh) (j := g3_2) (own_idx hi hc4 hhi) (hb hby d3_17) ?_
          show own_W _ _ _ _ _ _ _ T (mkF m 18 #[.val (.ref o0), .val (.int p1), .val (.int p2), .val (.int g3_2)] [(.int (F g3_2.toNatClampNeg))])
          refine own_st (T' := T) (f' := (mkF m 20 #[.val (.ref o0), .val (.int p1), .val (.int p2), .val (.int g3_2)] [(.int (10 : Int32)), (.int (F g3_2.toNatClampNeg))])) ?_ (fun t q => XS.bipush X.here hx rfl (hb hby d3_18) q)
          refine own_ite (fun hc20 => ?_) (fun hc20 => ?_)
          · refine own_st (T' := T) (f' := (mkF m 23 #[.val (.ref o0), .val (.int p1), .val (.int p2), .val (.int g3_2)] [])) ?_ (fun t q => XS.icmpNo X.here hx rfl (hb hby d3_20) rfl (teq hc20).2 q)
            refine own_st (T' := T) (f' := (mkF m 26 #[.val (.ref o0), .val (.int p1), .val (.int p2), .val (.int (g3_2 + (1 : Int32)))] [])) ?_ (fun t q => XS.iinc X.here hx rfl (hb hby d3_23) rfl (l' := #[.val (.ref o0), .val (.int p1), .val (.int p2), .val (.int (g3_2 + (1 : Int32)))]) rfl q)
            refine own_st (T' := T) (f' := (mkF m 2 #[.val (.ref o0), .val (.int p1), .val (.int p2), .val (.int (g3_2 + (1 : Int32)))] [])) ?_ (fun t q => XS.goto X.here hx rfl (pc0 := 26) (pc' := 2) rfl (hb hby d3_26) (by decide) (by decide) q)
            exact ih T _ (g3_2 + (1 : Int32)) X N eh (own_back hc4 hk) (own_nn hc4 hi)
          · refine own_st (T' := T) (f' := (mkF m 29 #[.val (.ref o0), .val (.int p1), .val (.int p2), .val (.int g3_2)] [])) ?_ (fun t q => XS.icmpYes X.here hx rfl (pc0 := 20) (pc' := 29) rfl (hb hby d3_20) rfl (feq hc20).2 (by decide) (by decide) q)
            refine own_st (T' := T) (f' := (mkF m 30 #[.val (.ref o0), .val (.int p1), .val (.int p2), .val (.int g3_2)] [(.int g3_2)])) ?_ (fun t q => XS.iloadN X.here hx rfl (hb hby d3_29) rfl q)
            exact own_retI X hx hlk Bd.returns (hb hby d3_30) (by decide) (by decide) ⟨rfl, N, eh⟩
      · refine own_st (T' := T) (f' := (mkF m 29 #[.val (.ref o0), .val (.int p1), .val (.int p2), .val (.int g3_2)] [])) ?_ (fun t q => XS.icmpYes X.here hx rfl (pc0 := 4) (pc' := 29) rfl (hb hby d3_4) rfl (flt hc4).2.1 (by decide) (by decide) q)
        refine own_st (T' := T) (f' := (mkF m 30 #[.val (.ref o0), .val (.int p1), .val (.int p2), .val (.int g3_2)] [(.int g3_2)])) ?_ (fun t q => XS.iloadN X.here hx rfl (hb hby d3_29) rfl q)
        exact own_retI X hx hlk Bd.returns (hb hby d3_30) (by decide) (by decide) ⟨rfl, N, eh⟩
  show own_W p e below s 0 0 (own_GI n0 (fun h => h = h0) (f3 p1 p2 F)) s₁ (entryFrame m #[(.ref o0), (.int p1), (.int p2)] 4)
  refine own_to (ef_3 m o0 p1 p2) ?_
  unfold f3
  refine own_st (T' := s₁) (f' := (mkF m 1 #[.val (.ref o0), .val (.int p1), .val (.int p2), .unset] [(.int p1)])) ?_ (fun t q => XS.iloadN X0.here hx rfl (hb hby d3_0) rfl q)
  refine own_st (T' := s₁) (f' := (mkF m 2 #[.val (.ref o0), .val (.int p1), .val (.int p2), .val (.int p1)] [])) ?_ (fun t q => XS.istoreN X0.here hx rfl (hb hby d3_1) rfl (l' := #[.val (.ref o0), .val (.int p1), .val (.int p2), .val (.int p1)]) rfl q)
  exact B2 10 s₁ _ p1 X0 N0 e0 (hm) (hlo)
theorem pd_1 : parseMethodDescriptor "(I)B" = some ⟨[.int], some .byte⟩ := by decide +kernel
theorem pd_2 : parseMethodDescriptor "([BIIII)I" = some ⟨[(.array .byte), .int, .int, .int, .int], some .int⟩ := by decide +kernel
theorem pd_3 : parseMethodDescriptor "([BII)I" = some ⟨[(.array .byte), .int, .int], some .int⟩ := by decide +kernel
theorem pn_0 : plainFor x = true := by first | exact plainFor_of_name (by first | (simp [plainName, overriddenIn]; done) | decide +kernel) | decide +kernel
theorem ef_0 (m : MethodId) (x0 : Int32) (x1 : Int32) (x2 : Int32) (x3 : Int32) (x4 : Int32) (x5 : Int32) : entryFrame m #[(.int x0), (.int x1), (.int x2), (.int x3), (.int x4), (.int x5)] maxLocals = mkF m 0 #[.val (.int x0), .val (.int x1), .val (.int x2), .val (.int x3), .val (.int x4), .val (.int x5), .unset, .unset, .unset, .unset] [] := by first | (simp [entryFrame, mkF, argsToLocals, Value.category, maxLocals]; done) | rfl
def vF (p0 : Int32) (p1 : Int32) (p2 : Int32) (p3 : Int32) (p4 : Int32) (p5 : Int32) : Nat → Int32 := (own_up (own_up (own_up (own_up (own_up (fun _ => 0) 0 (nar .byte (f1 p0))) 1 (nar .byte (f1 p1))) 2 (nar .byte (f1 p2))) 3 (nar .byte (f1 p3))) 4 (nar .byte (f1 p4)))
def vf (p0 : Int32) (p1 : Int32) (p2 : Int32) (p3 : Int32) (p4 : Int32) (p5 : Int32) : Int32 := ((p5 &&& (2147483647 : Int32)) - ((p5 &&& (2147483647 : Int32)) / (6 : Int32)) * (6 : Int32))
def vt (p0 : Int32) (p1 : Int32) (p2 : Int32) (p3 : Int32) (p4 : Int32) (p5 : Int32) : Int32 := ((vf p0 p1 p2 p3 p4 p5) + (((p5.toUInt32 >>> ((8 : Int32) &&& 31).toUInt32).toInt32) - (((p5.toUInt32 >>> ((8 : Int32) &&& 31).toUInt32).toInt32) / ((6 : Int32) - (vf p0 p1 p2 p3 p4 p5))) * ((6 : Int32) - (vf p0 p1 p2 p3 p4 p5))))
def f0 (p0 : Int32) (p1 : Int32) (p2 : Int32) (p3 : Int32) (p4 : Int32) (p5 : Int32) : Int32 := (if (f3 (vf p0 p1 p2 p3 p4 p5) (vt p0 p1 p2 p3 p4 p5) (vF p0 p1 p2 p3 p4 p5)) = (f2 (0 : Int32) (vf p0 p1 p2 p3 p4 p5) (vt p0 p1 p2 p3 p4 p5) (f2 (1 : Int32) (vf p0 p1 p2 p3 p4 p5) (vt p0 p1 p2 p3 p4 p5) (f2 (2 : Int32) (vf p0 p1 p2 p3 p4 p5) (vt p0 p1 p2 p3 p4 p5) (f2 (3 : Int32) (vf p0 p1 p2 p3 p4 p5) (vt p0 p1 p2 p3 p4 p5) (f2 (4 : Int32) (vf p0 p1 p2 p3 p4 p5) (vt p0 p1 p2 p3 p4 p5) (vt p0 p1 p2 p3 p4 p5) (vF p0 p1 p2 p3 p4 p5)) (vF p0 p1 p2 p3 p4 p5)) (vF p0 p1 p2 p3 p4 p5)) (vF p0 p1 p2 p3 p4 p5)) (vF p0 p1 p2 p3 p4 p5)) then (1 : Int32) else (0 : Int32))
theorem own_u8 (x : Int32) : 0 ≤ ((x.toUInt32 >>> ((8 : Int32) &&& 31).toUInt32).toInt32).toInt := by
  have e : (((8 : Int32) &&& 31).toUInt32) = (8 : UInt32) := by decide
  rw [e]
  show 0 ≤ ((x.toUInt32 >>> 8).toBitVec).toInt
  have h : ((x.toUInt32 >>> 8).toBitVec).toNat < 16777216 := by
    show (x.toUInt32 >>> 8).toNat < _
    rw [UInt32.toNat_shiftRight]
    have := x.toUInt32.toNat_lt
    show x.toUInt32.toNat >>> (8 % 32) < _
    rw [Nat.shiftRight_eq_div_pow, show (2 : Nat) ^ (8 % 32) = 256 from rfl]
    omega
  rw [BitVec.toInt_eq_toNat_cond, if_pos (by omega)]
  omega
theorem own_s (p0 p1 p2 p3 p4 p5 : Int32) : 0 ≤ (vf p0 p1 p2 p3 p4 p5).toInt ∧ (vf p0 p1 p2 p3 p4 p5).toInt < 6 := own_rb p5 6 (by decide)
theorem own_6s (p0 p1 p2 p3 p4 p5 : Int32) : ((6 : Int32) - vf p0 p1 p2 p3 p4 p5).toInt = 6 - (vf p0 p1 p2 p3 p4 p5).toInt := by
  have h := own_s p0 p1 p2 p3 p4 p5
  have k : (6 : Int32).toInt = 6 := rfl
  rw [Jvm.Kit.i32_sub (by omega) (by omega), k]
theorem own_nz (p0 p1 p2 p3 p4 p5 : Int32) : ((6 : Int32) - vf p0 p1 p2 p3 p4 p5) ≠ 0 := by
  intro q
  have h := congrArg Int32.toInt q
  rw [own_6s, show (0 : Int32).toInt = 0 from rfl] at h
  have := own_s p0 p1 p2 p3 p4 p5
  omega
theorem own_e (p0 p1 p2 p3 p4 p5 : Int32) : (vf p0 p1 p2 p3 p4 p5).toInt ≤ (vt p0 p1 p2 p3 p4 p5).toInt ∧ (vt p0 p1 p2 p3 p4 p5).toInt < 6 := by
  have h := own_s p0 p1 p2 p3 p4 p5
  have h5 := own_6s p0 p1 p2 p3 p4 p5
  have hr := own_rem (x := (p5.toUInt32 >>> ((8 : Int32) &&& 31).toUInt32).toInt32) (y := (6 : Int32) - vf p0 p1 p2 p3 p4 p5) (own_u8 p5) (by omega)
  have h1 := Int.emod_nonneg ((p5.toUInt32 >>> ((8 : Int32) &&& 31).toUInt32).toInt32).toInt (b := ((6 : Int32) - vf p0 p1 p2 p3 p4 p5).toInt) (by omega)
  have h2 := Int.emod_lt_of_pos ((p5.toUInt32 >>> ((8 : Int32) &&& 31).toUInt32).toInt32).toInt (b := ((6 : Int32) - vf p0 p1 p2 p3 p4 p5).toInt) (by omega)
  have he : (vt p0 p1 p2 p3 p4 p5).toInt = (vf p0 p1 p2 p3 p4 p5).toInt + ((p5.toUInt32 >>> ((8 : Int32) &&& 31).toUInt32).toInt32 - (p5.toUInt32 >>> ((8 : Int32) &&& 31).toUInt32).toInt32 / ((6 : Int32) - vf p0 p1 p2 p3 p4 p5) * ((6 : Int32) - vf p0 p1 p2 p3 p4 p5)).toInt := by
    show (vf p0 p1 p2 p3 p4 p5 + ((p5.toUInt32 >>> ((8 : Int32) &&& 31).toUInt32).toInt32 - (p5.toUInt32 >>> ((8 : Int32) &&& 31).toUInt32).toInt32 / ((6 : Int32) - vf p0 p1 p2 p3 p4 p5) * ((6 : Int32) - vf p0 p1 p2 p3 p4 p5))).toInt = _
    exact Jvm.Kit.i32_add (by omega) (by omega)
  omega
theorem own_p1 (p0 p1 p2 p3 p4 p5 : Int32) : ¬ vf p0 p1 p2 p3 p4 p5 < 0 := by
  have h := own_s p0 p1 p2 p3 p4 p5
  rw [Int32.lt_iff_toInt_lt, show (0 : Int32).toInt = 0 from rfl]; omega
theorem own_p2 (p0 p1 p2 p3 p4 p5 : Int32) : (vt p0 p1 p2 p3 p4 p5).toNatClampNeg ≤ 5 := by
  have h := own_e p0 p1 p2 p3 p4 p5
  rw [Int32.toNatClampNeg]; omega
theorem own_p3 (p0 p1 p2 p3 p4 p5 : Int32) : ((vt p0 p1 p2 p3 p4 p5).toInt - (vf p0 p1 p2 p3 p4 p5).toInt).toNat < 10 := by
  have h := own_e p0 p1 p2 p3 p4 p5
  have h' := own_s p0 p1 p2 p3 p4 p5
  omega
set_option maxRecDepth 65536 in
set_option maxHeartbeats 40000000 in
theorem rm0 (l : Launch) (Z : State) (a0 : Array Value) (hw : ∀ d ∈ tables_1, d.before a0 Z = true) (ws : List Jvm.Cond) (p0 : Int32) (p1 : Int32) (p2 : Int32) (p3 : Int32) (p4 : Int32) (p5 : Int32) (h0 : Heap) (n0 : Nat) (Z0 : n0 ≤ h0.size) :
    MetFree l x (head1 (Jvm.Cond.code x code maxLocals ret :: ws) room_1) (fun a U => a = #[(.int p0), (.int p1), (.int p2), (.int p3), (.int p4), (.int p5)] ∧ Z.Warmed39 U.vm ∧ U.heap = h0) (fun _ _ _ _ _ => True) (fun _ U o U' => ∃ v L, o = .returned v ∧ own_GI n0 (fun _ => True) (f0 p0 p1 p2 p3 p4 p5) v U'.heap L ∧ FrameEnd U o U' L 1 5) := by
  refine MetFree.of_bodySF pn_0 hisR ?_
  intro p e s m args below meth c s₁ Bd hml0 hP hK
  obtain ⟨rfl, hZ, hh⟩ := hP
  have hx := Bd.exec
  have hby := Bd.bytes
  have hml : c.maxLocals = 10 := hml0
  have hown : s.vm.findClass "com/example/lease/lease/http/RequestHeadStartPinLaw" = some m.cls := findClass_of_methodNamed Bd.named
  have hlk : meth.locks = false := BodyLoose.notSynchronized Bd
  have X0 : Stand p l e room_1 s m #[(.int p0), (.int p1), (.int p2), (.int p3), (.int p4), (.int p5)] below meth c s₁ [] 0 0 := Stand.of_body Bd
  have e0 : s₁.heap = h0 := by rw [← hh, Bd.state]; rfl
  have N0 := Fr.nil n0
  have zs0 : n0 ≤ s₁.heap.size := by rw [e0]; exact Z0
  show own_W p e below s 1 5 (own_GI n0 (fun _ => True) (f0 p0 p1 p2 p3 p4 p5)) s₁ (entryFrame m #[(.int p0), (.int p1), (.int p2), (.int p3), (.int p4), (.int p5)] maxLocals)
  refine own_to (ef_0 m p0 p1 p2 p3 p4 p5) ?_
  unfold f0
  refine own_st (T' := s₁) (f' := (mkF m 1 #[.val (.int p0), .val (.int p1), .val (.int p2), .val (.int p3), .val (.int p4), .val (.int p5), .unset, .unset, .unset, .unset] [(.int (5 : Int32))])) ?_ (fun t q => XS.iconst X0.here hx rfl (hb hby at_0) q)
  refine own_newB X0 hx hZ (hw _ (List.mem_of_getElem? (i := 0) rfl)) (z := (5 : Int32)) (by decide) (cap := 5) (by decide) (by decide) (by decide) (by decide) (hb hby at_1) (fun T1 b1 X1 ge1 E1 A1_b1 => ?_)
  have G1 : n0 ≤ b1 := Nat.le_trans zs0 ge1
  have zs1 : n0 ≤ T1.heap.size := Nat.le_trans zs0 E1.1
  show own_W _ _ _ _ _ _ _ T1 (mkF m 3 #[.val (.int p0), .val (.int p1), .val (.int p2), .val (.int p3), .val (.int p4), .val (.int p5), .unset, .unset, .unset, .unset] [(.ref b1)])
  refine own_st (T' := T1) (f' := (mkF m 5 #[.val (.int p0), .val (.int p1), .val (.int p2), .val (.int p3), .val (.int p4), .val (.int p5), .val (.ref b1), .unset, .unset, .unset] [])) ?_ (fun t q => XS.astore X1.here hx rfl (hb hby at_3) rfl rfl (l' := #[.val (.int p0), .val (.int p1), .val (.int p2), .val (.int p3), .val (.int p4), .val (.int p5), .val (.ref b1), .unset, .unset, .unset]) rfl q)
  refine own_st (T' := T1) (f' := (mkF m 7 #[.val (.int p0), .val (.int p1), .val (.int p2), .val (.int p3), .val (.int p4), .val (.int p5), .val (.ref b1), .unset, .unset, .unset] [(.ref b1)])) ?_ (fun t q => XS.aload X1.here hx rfl (hb hby at_5) rfl rfl q)
  refine own_st (T' := T1) (f' := (mkF m 8 #[.val (.int p0), .val (.int p1), .val (.int p2), .val (.int p3), .val (.int p4), .val (.int p5), .val (.ref b1), .unset, .unset, .unset] [(.int (0 : Int32)), (.ref b1)])) ?_ (fun t q => XS.iconst X1.here hx rfl (hb hby at_7) q)
  refine own_st (T' := T1) (f' := (mkF m 9 #[.val (.int p0), .val (.int p1), .val (.int p2), .val (.int p3), .val (.int p4), .val (.int p5), .val (.ref b1), .unset, .unset, .unset] [(.int p0), (.int (0 : Int32)), (.ref b1)])) ?_ (fun t q => XS.iloadN X1.here hx rfl (hb hby at_8) rfl q)
  obtain ⟨_, _, ⟨T2, L2, k2, n2⟩, -, X2, ⟨Lc2, hQ2, l2, y2, z2⟩, st2⟩ := Jvm.LawKit.callS X1 hx (y := (⟨"com/example/lease/lease/http/RequestHeadStartPinLaw", "pick", "(I)B"⟩ : MethodName)) hown (mvT hZ (hw _ (List.mem_of_getElem? (i := 1) rfl))) (mvT hZ (hw _ (List.mem_of_getElem? (i := 2) rfl))) (mvT hZ (hw _ (List.mem_of_getElem? (i := 3) rfl))) (mvT hZ (hw _ (List.mem_of_getElem? (i := 4) rfl))) (by decide) (backOf (W := 2) (rm1 l Z a0 hw [] p0 T1.heap n0) hZ (hw _ (List.mem_of_getElem? (i := 4) rfl)) (hw _ (List.mem_of_getElem? (i := 3) rfl)) (by decide) (by decide)) (g := (mkF m 9 #[.val (.int p0), .val (.int p1), .val (.int p2), .val (.int p3), .val (.int p4), .val (.int p5), .val (.ref b1), .unset, .unset, .unset] [(.int p0), (.int (0 : Int32)), (.ref b1)])) rfl (by rw [hml]; rfl) (argsL := [(.int p0)]) (rest := [(.int (0 : Int32)), (.ref b1)]) (lenOf pd_1 rfl) rfl (by show 2 * 0 + _ ≤ _; exact Nat.le_of_eq rfl) (hb hby at_9) (fun _ _ => ⟨rfl, rfl, (Nat.le_of_ble_eq_true rfl), (Nat.le_of_ble_eq_true rfl)⟩)
  dsimp only [Pt.U, Pt.locs, Pt.cells, Pt.slots] at X2 l2 y2 z2 st2 hQ2
  subst l2 y2 z2
  obtain ⟨rfl, N2q, e2⟩ := hQ2
  have N2 := Fr.app N0 N2q
  have zs2 : n0 ≤ T2.heap.size := by rw [e2]; exact zs1
  have A2_b1 := own_A.eq A1_b1 e2
  refine own_st (T' := T2) (f' := (mkF m 12 #[.val (.int p0), .val (.int p1), .val (.int p2), .val (.int p3), .val (.int p4), .val (.int p5), .val (.ref b1), .unset, .unset, .unset] [(.int (f1 p0)), (.int (0 : Int32)), (.ref b1)])) ?_ (fun t q => st2 _ q)
  refine own_bast X2 hx hZ A2_b1 (j := (0 : Int32)) (x := (f1 p0)) ⟨by decide, by decide⟩ (hb hby at_12) N2 G1 (fun T3 lo3 X3 N3 K3 A3_b1 => ?_)
  have zs3 : n0 ≤ T3.heap.size := Nat.le_trans zs2 K3.1
  show own_W _ _ _ _ _ _ _ T3 (mkF m 13 #[.val (.int p0), .val (.int p1), .val (.int p2), .val (.int p3), .val (.int p4), .val (.int p5), .val (.ref b1), .unset, .unset, .unset] [])
  refine own_st (T' := T3) (f' := (mkF m 15 #[.val (.int p0), .val (.int p1), .val (.int p2), .val (.int p3), .val (.int p4), .val (.int p5), .val (.ref b1), .unset, .unset, .unset] [(.ref b1)])) ?_ (fun t q => XS.aload X3.here hx rfl (hb hby at_13) rfl rfl q)
  refine own_st (T' := T3) (f' := (mkF m 16 #[.val (.int p0), .val (.int p1), .val (.int p2), .val (.int p3), .val (.int p4), .val (.int p5), .val (.ref b1), .unset, .unset, .unset] [(.int (1 : Int32)), (.ref b1)])) ?_ (fun t q => XS.iconst X3.here hx rfl (hb hby at_15) q)
  refine own_st (T' := T3) (f' := (mkF m 17 #[.val (.int p0), .val (.int p1), .val (.int p2), .val (.int p3), .val (.int p4), .val (.int p5), .val (.ref b1), .unset, .unset, .unset] [(.int p1), (.int (1 : Int32)), (.ref b1)])) ?_ (fun t q => XS.iloadN X3.here hx rfl (hb hby at_16) rfl q)
  obtain ⟨_, _, ⟨T4, L4, k4, n4⟩, -, X4, ⟨Lc4, hQ4, l4, y4, z4⟩, st4⟩ := Jvm.LawKit.callS X3 hx (y := (⟨"com/example/lease/lease/http/RequestHeadStartPinLaw", "pick", "(I)B"⟩ : MethodName)) hown (mvT hZ (hw _ (List.mem_of_getElem? (i := 1) rfl))) (mvT hZ (hw _ (List.mem_of_getElem? (i := 2) rfl))) (mvT hZ (hw _ (List.mem_of_getElem? (i := 3) rfl))) (mvT hZ (hw _ (List.mem_of_getElem? (i := 4) rfl))) (by decide) (backOf (W := 2) (rm1 l Z a0 hw [] p1 T3.heap n0) hZ (hw _ (List.mem_of_getElem? (i := 4) rfl)) (hw _ (List.mem_of_getElem? (i := 3) rfl)) (by decide) (by decide)) (g := (mkF m 17 #[.val (.int p0), .val (.int p1), .val (.int p2), .val (.int p3), .val (.int p4), .val (.int p5), .val (.ref b1), .unset, .unset, .unset] [(.int p1), (.int (1 : Int32)), (.ref b1)])) rfl (by rw [hml]; rfl) (argsL := [(.int p1)]) (rest := [(.int (1 : Int32)), (.ref b1)]) (lenOf pd_1 rfl) rfl (by show 2 * 0 + _ ≤ _; exact Nat.le_of_eq rfl) (hb hby at_17) (fun _ _ => ⟨rfl, rfl, (Nat.le_of_ble_eq_true rfl), (Nat.le_of_ble_eq_true rfl)⟩)
  dsimp only [Pt.U, Pt.locs, Pt.cells, Pt.slots] at X4 l4 y4 z4 st4 hQ4
  subst l4 y4 z4
  obtain ⟨rfl, N4q, e4⟩ := hQ4
  have N4 := Fr.app N3 N4q
  have zs4 : n0 ≤ T4.heap.size := by rw [e4]; exact zs3
  have A4_b1 := own_A.eq A3_b1 e4
  refine own_st (T' := T4) (f' := (mkF m 20 #[.val (.int p0), .val (.int p1), .val (.int p2), .val (.int p3), .val (.int p4), .val (.int p5), .val (.ref b1), .unset, .unset, .unset] [(.int (f1 p1)), (.int (1 : Int32)), (.ref b1)])) ?_ (fun t q => st4 _ q)
  refine own_bast X4 hx hZ A4_b1 (j := (1 : Int32)) (x := (f1 p1)) ⟨by decide, by decide⟩ (hb hby at_20) N4 G1 (fun T5 lo5 X5 N5 K5 A5_b1 => ?_)
  have zs5 : n0 ≤ T5.heap.size := Nat.le_trans zs4 K5.1
  show own_W _ _ _ _ _ _ _ T5 (mkF m 21 #[.val (.int p0), .val (.int p1), .val (.int p2), .val (.int p3), .val (.int p4), .val (.int p5), .val (.ref b1), .unset, .unset, .unset] [])
  refine own_st (T' := T5) (f' := (mkF m 23 #[.val (.int p0), .val (.int p1), .val (.int p2), .val (.int p3), .val (.int p4), .val (.int p5), .val (.ref b1), .unset, .unset, .unset] [(.ref b1)])) ?_ (fun t q => XS.aload X5.here hx rfl (hb hby at_21) rfl rfl q)
  refine own_st (T' := T5) (f' := (mkF m 24 #[.val (.int p0), .val (.int p1), .val (.int p2), .val (.int p3), .val (.int p4), .val (.int p5), .val (.ref b1), .unset, .unset, .unset] [(.int (2 : Int32)), (.ref b1)])) ?_ (fun t q => XS.iconst X5.here hx rfl (hb hby at_23) q)
  refine own_st (T' := T5) (f' := (mkF m 25 #[.val (.int p0), .val (.int p1), .val (.int p2), .val (.int p3), .val (.int p4), .val (.int p5), .val (.ref b1), .unset, .unset, .unset] [(.int p2), (.int (2 : Int32)), (.ref b1)])) ?_ (fun t q => XS.iloadN X5.here hx rfl (hb hby at_24) rfl q)
  obtain ⟨_, _, ⟨T6, L6, k6, n6⟩, -, X6, ⟨Lc6, hQ6, l6, y6, z6⟩, st6⟩ := Jvm.LawKit.callS X5 hx (y := (⟨"com/example/lease/lease/http/RequestHeadStartPinLaw", "pick", "(I)B"⟩ : MethodName)) hown (mvT hZ (hw _ (List.mem_of_getElem? (i := 1) rfl))) (mvT hZ (hw _ (List.mem_of_getElem? (i := 2) rfl))) (mvT hZ (hw _ (List.mem_of_getElem? (i := 3) rfl))) (mvT hZ (hw _ (List.mem_of_getElem? (i := 4) rfl))) (by decide) (backOf (W := 2) (rm1 l Z a0 hw [] p2 T5.heap n0) hZ (hw _ (List.mem_of_getElem? (i := 4) rfl)) (hw _ (List.mem_of_getElem? (i := 3) rfl)) (by decide) (by decide)) (g := (mkF m 25 #[.val (.int p0), .val (.int p1), .val (.int p2), .val (.int p3), .val (.int p4), .val (.int p5), .val (.ref b1), .unset, .unset, .unset] [(.int p2), (.int (2 : Int32)), (.ref b1)])) rfl (by rw [hml]; rfl) (argsL := [(.int p2)]) (rest := [(.int (2 : Int32)), (.ref b1)]) (lenOf pd_1 rfl) rfl (by show 2 * 0 + _ ≤ _; exact Nat.le_of_eq rfl) (hb hby at_25) (fun _ _ => ⟨rfl, rfl, (Nat.le_of_ble_eq_true rfl), (Nat.le_of_ble_eq_true rfl)⟩)
  dsimp only [Pt.U, Pt.locs, Pt.cells, Pt.slots] at X6 l6 y6 z6 st6 hQ6
  subst l6 y6 z6
  obtain ⟨rfl, N6q, e6⟩ := hQ6
  have N6 := Fr.app N5 N6q
  have zs6 : n0 ≤ T6.heap.size := by rw [e6]; exact zs5
  have A6_b1 := own_A.eq A5_b1 e6
  refine own_st (T' := T6) (f' := (mkF m 28 #[.val (.int p0), .val (.int p1), .val (.int p2), .val (.int p3), .val (.int p4), .val (.int p5), .val (.ref b1), .unset, .unset, .unset] [(.int (f1 p2)), (.int (2 : Int32)), (.ref b1)])) ?_ (fun t q => st6 _ q)
  refine own_bast X6 hx hZ A6_b1 (j := (2 : Int32)) (x := (f1 p2)) ⟨by decide, by decide⟩ (hb hby at_28) N6 G1 (fun T7 lo7 X7 N7 K7 A7_b1 => ?_)
  have zs7 : n0 ≤ T7.heap.size := Nat.le_trans zs6 K7.1
  show own_W _ _ _ _ _ _ _ T7 (mkF m 29 #[.val (.int p0), .val (.int p1), .val (.int p2), .val (.int p3), .val (.int p4), .val (.int p5), .val (.ref b1), .unset, .unset, .unset] [])
  refine own_st (T' := T7) (f' := (mkF m 31 #[.val (.int p0), .val (.int p1), .val (.int p2), .val (.int p3), .val (.int p4), .val (.int p5), .val (.ref b1), .unset, .unset, .unset] [(.ref b1)])) ?_ (fun t q => XS.aload X7.here hx rfl (hb hby at_29) rfl rfl q)
  refine own_st (T' := T7) (f' := (mkF m 32 #[.val (.int p0), .val (.int p1), .val (.int p2), .val (.int p3), .val (.int p4), .val (.int p5), .val (.ref b1), .unset, .unset, .unset] [(.int (3 : Int32)), (.ref b1)])) ?_ (fun t q => XS.iconst X7.here hx rfl (hb hby at_31) q)
  refine own_st (T' := T7) (f' := (mkF m 33 #[.val (.int p0), .val (.int p1), .val (.int p2), .val (.int p3), .val (.int p4), .val (.int p5), .val (.ref b1), .unset, .unset, .unset] [(.int p3), (.int (3 : Int32)), (.ref b1)])) ?_ (fun t q => XS.iloadN X7.here hx rfl (hb hby at_32) rfl q)
  obtain ⟨_, _, ⟨T8, L8, k8, n8⟩, -, X8, ⟨Lc8, hQ8, l8, y8, z8⟩, st8⟩ := Jvm.LawKit.callS X7 hx (y := (⟨"com/example/lease/lease/http/RequestHeadStartPinLaw", "pick", "(I)B"⟩ : MethodName)) hown (mvT hZ (hw _ (List.mem_of_getElem? (i := 1) rfl))) (mvT hZ (hw _ (List.mem_of_getElem? (i := 2) rfl))) (mvT hZ (hw _ (List.mem_of_getElem? (i := 3) rfl))) (mvT hZ (hw _ (List.mem_of_getElem? (i := 4) rfl))) (by decide) (backOf (W := 2) (rm1 l Z a0 hw [] p3 T7.heap n0) hZ (hw _ (List.mem_of_getElem? (i := 4) rfl)) (hw _ (List.mem_of_getElem? (i := 3) rfl)) (by decide) (by decide)) (g := (mkF m 33 #[.val (.int p0), .val (.int p1), .val (.int p2), .val (.int p3), .val (.int p4), .val (.int p5), .val (.ref b1), .unset, .unset, .unset] [(.int p3), (.int (3 : Int32)), (.ref b1)])) rfl (by rw [hml]; rfl) (argsL := [(.int p3)]) (rest := [(.int (3 : Int32)), (.ref b1)]) (lenOf pd_1 rfl) rfl (by show 2 * 0 + _ ≤ _; exact Nat.le_of_eq rfl) (hb hby at_33) (fun _ _ => ⟨rfl, rfl, (Nat.le_of_ble_eq_true rfl), (Nat.le_of_ble_eq_true rfl)⟩)
  dsimp only [Pt.U, Pt.locs, Pt.cells, Pt.slots] at X8 l8 y8 z8 st8 hQ8
  subst l8 y8 z8
  obtain ⟨rfl, N8q, e8⟩ := hQ8
  have N8 := Fr.app N7 N8q
  have zs8 : n0 ≤ T8.heap.size := by rw [e8]; exact zs7
  have A8_b1 := own_A.eq A7_b1 e8
  refine own_st (T' := T8) (f' := (mkF m 36 #[.val (.int p0), .val (.int p1), .val (.int p2), .val (.int p3), .val (.int p4), .val (.int p5), .val (.ref b1), .unset, .unset, .unset] [(.int (f1 p3)), (.int (3 : Int32)), (.ref b1)])) ?_ (fun t q => st8 _ q)
  refine own_bast X8 hx hZ A8_b1 (j := (3 : Int32)) (x := (f1 p3)) ⟨by decide, by decide⟩ (hb hby at_36) N8 G1 (fun T9 lo9 X9 N9 K9 A9_b1 => ?_)
  have zs9 : n0 ≤ T9.heap.size := Nat.le_trans zs8 K9.1
  show own_W _ _ _ _ _ _ _ T9 (mkF m 37 #[.val (.int p0), .val (.int p1), .val (.int p2), .val (.int p3), .val (.int p4), .val (.int p5), .val (.ref b1), .unset, .unset, .unset] [])
  refine own_st (T' := T9) (f' := (mkF m 39 #[.val (.int p0), .val (.int p1), .val (.int p2), .val (.int p3), .val (.int p4), .val (.int p5), .val (.ref b1), .unset, .unset, .unset] [(.ref b1)])) ?_ (fun t q => XS.aload X9.here hx rfl (hb hby at_37) rfl rfl q)
  refine own_st (T' := T9) (f' := (mkF m 40 #[.val (.int p0), .val (.int p1), .val (.int p2), .val (.int p3), .val (.int p4), .val (.int p5), .val (.ref b1), .unset, .unset, .unset] [(.int (4 : Int32)), (.ref b1)])) ?_ (fun t q => XS.iconst X9.here hx rfl (hb hby at_39) q)
  refine own_st (T' := T9) (f' := (mkF m 42 #[.val (.int p0), .val (.int p1), .val (.int p2), .val (.int p3), .val (.int p4), .val (.int p5), .val (.ref b1), .unset, .unset, .unset] [(.int p4), (.int (4 : Int32)), (.ref b1)])) ?_ (fun t q => XS.iload X9.here hx rfl (hb hby at_40) rfl q)
  obtain ⟨_, _, ⟨T10, L10, k10, n10⟩, -, X10, ⟨Lc10, hQ10, l10, y10, z10⟩, st10⟩ := Jvm.LawKit.callS X9 hx (y := (⟨"com/example/lease/lease/http/RequestHeadStartPinLaw", "pick", "(I)B"⟩ : MethodName)) hown (mvT hZ (hw _ (List.mem_of_getElem? (i := 1) rfl))) (mvT hZ (hw _ (List.mem_of_getElem? (i := 2) rfl))) (mvT hZ (hw _ (List.mem_of_getElem? (i := 3) rfl))) (mvT hZ (hw _ (List.mem_of_getElem? (i := 4) rfl))) (by decide) (backOf (W := 2) (rm1 l Z a0 hw [] p4 T9.heap n0) hZ (hw _ (List.mem_of_getElem? (i := 4) rfl)) (hw _ (List.mem_of_getElem? (i := 3) rfl)) (by decide) (by decide)) (g := (mkF m 42 #[.val (.int p0), .val (.int p1), .val (.int p2), .val (.int p3), .val (.int p4), .val (.int p5), .val (.ref b1), .unset, .unset, .unset] [(.int p4), (.int (4 : Int32)), (.ref b1)])) rfl (by rw [hml]; rfl) (argsL := [(.int p4)]) (rest := [(.int (4 : Int32)), (.ref b1)]) (lenOf pd_1 rfl) rfl (by show 2 * 0 + _ ≤ _; exact Nat.le_of_eq rfl) (hb hby at_42) (fun _ _ => ⟨rfl, rfl, (Nat.le_of_ble_eq_true rfl), (Nat.le_of_ble_eq_true rfl)⟩)
  dsimp only [Pt.U, Pt.locs, Pt.cells, Pt.slots] at X10 l10 y10 z10 st10 hQ10
  subst l10 y10 z10
  obtain ⟨rfl, N10q, e10⟩ := hQ10
  have N10 := Fr.app N9 N10q
  have zs10 : n0 ≤ T10.heap.size := by rw [e10]; exact zs9
  have A10_b1 := own_A.eq A9_b1 e10
  refine own_st (T' := T10) (f' := (mkF m 45 #[.val (.int p0), .val (.int p1), .val (.int p2), .val (.int p3), .val (.int p4), .val (.int p5), .val (.ref b1), .unset, .unset, .unset] [(.int (f1 p4)), (.int (4 : Int32)), (.ref b1)])) ?_ (fun t q => st10 _ q)
  refine own_bast X10 hx hZ A10_b1 (j := (4 : Int32)) (x := (f1 p4)) ⟨by decide, by decide⟩ (hb hby at_45) N10 G1 (fun T11 lo11 X11 N11 K11 A11_b1 => ?_)
  have zs11 : n0 ≤ T11.heap.size := Nat.le_trans zs10 K11.1
  show own_W _ _ _ _ _ _ _ T11 (mkF m 46 #[.val (.int p0), .val (.int p1), .val (.int p2), .val (.int p3), .val (.int p4), .val (.int p5), .val (.ref b1), .unset, .unset, .unset] [])
  refine own_st (T' := T11) (f' := (mkF m 48 #[.val (.int p0), .val (.int p1), .val (.int p2), .val (.int p3), .val (.int p4), .val (.int p5), .val (.ref b1), .unset, .unset, .unset] [(.int p5)])) ?_ (fun t q => XS.iload X11.here hx rfl (hb hby at_46) rfl q)
  refine own_st (T' := T11) (f' := (mkF m 50 #[.val (.int p0), .val (.int p1), .val (.int p2), .val (.int p3), .val (.int p4), .val (.int p5), .val (.ref b1), .unset, .unset, .unset] [(.int (2147483647 : Int32)), (.int p5)])) ?_ (fun t q => X11.ldcInt hx hown (mvT hZ (hw _ (List.mem_of_getElem? (i := 5) rfl))) (g := (mkF m 48 #[.val (.int p0), .val (.int p1), .val (.int p2), .val (.int p3), .val (.int p4), .val (.int p5), .val (.ref b1), .unset, .unset, .unset] [(.int p5)])) rfl (hb hby at_48) _ q)
  refine own_st (T' := T11) (f' := (mkF m 51 #[.val (.int p0), .val (.int p1), .val (.int p2), .val (.int p3), .val (.int p4), .val (.int p5), .val (.ref b1), .unset, .unset, .unset] [(.int (p5 &&& (2147483647 : Int32)))])) ?_ (fun t q => XS.iand X11.here hx rfl (hb hby at_50) rfl q)
  refine own_st (T' := T11) (f' := (mkF m 53 #[.val (.int p0), .val (.int p1), .val (.int p2), .val (.int p3), .val (.int p4), .val (.int p5), .val (.ref b1), .unset, .unset, .unset] [(.int (6 : Int32)), (.int (p5 &&& (2147483647 : Int32)))])) ?_ (fun t q => XS.bipush X11.here hx rfl (hb hby at_51) q)
  refine own_st (T' := T11) (f' := (mkF m 54 #[.val (.int p0), .val (.int p1), .val (.int p2), .val (.int p3), .val (.int p4), .val (.int p5), .val (.ref b1), .unset, .unset, .unset] [(.int ((p5 &&& (2147483647 : Int32)) - ((p5 &&& (2147483647 : Int32)) / (6 : Int32)) * (6 : Int32)))])) ?_ (fun t q => XS.irem X11.here hx rfl (hb hby at_53) rfl (by decide) q)
  refine own_st (T' := T11) (f' := (mkF m 56 #[.val (.int p0), .val (.int p1), .val (.int p2), .val (.int p3), .val (.int p4), .val (.int p5), .val (.ref b1), .val (.int (vf p0 p1 p2 p3 p4 p5)), .unset, .unset] [])) ?_ (fun t q => XS.istore X11.here hx rfl (hb hby at_54) rfl (l' := #[.val (.int p0), .val (.int p1), .val (.int p2), .val (.int p3), .val (.int p4), .val (.int p5), .val (.ref b1), .val (.int (vf p0 p1 p2 p3 p4 p5)), .unset, .unset]) rfl q)
  refine own_st (T' := T11) (f' := (mkF m 58 #[.val (.int p0), .val (.int p1), .val (.int p2), .val (.int p3), .val (.int p4), .val (.int p5), .val (.ref b1), .val (.int (vf p0 p1 p2 p3 p4 p5)), .unset, .unset] [(.int (vf p0 p1 p2 p3 p4 p5))])) ?_ (fun t q => XS.iload X11.here hx rfl (hb hby at_56) rfl q)
  refine own_st (T' := T11) (f' := (mkF m 60 #[.val (.int p0), .val (.int p1), .val (.int p2), .val (.int p3), .val (.int p4), .val (.int p5), .val (.ref b1), .val (.int (vf p0 p1 p2 p3 p4 p5)), .unset, .unset] [(.int p5), (.int (vf p0 p1 p2 p3 p4 p5))])) ?_ (fun t q => XS.iload X11.here hx rfl (hb hby at_58) rfl q)
  refine own_st (T' := T11) (f' := (mkF m 62 #[.val (.int p0), .val (.int p1), .val (.int p2), .val (.int p3), .val (.int p4), .val (.int p5), .val (.ref b1), .val (.int (vf p0 p1 p2 p3 p4 p5)), .unset, .unset] [(.int (8 : Int32)), (.int p5), (.int (vf p0 p1 p2 p3 p4 p5))])) ?_ (fun t q => XS.bipush X11.here hx rfl (hb hby at_60) q)
  refine own_st (T' := T11) (f' := (mkF m 63 #[.val (.int p0), .val (.int p1), .val (.int p2), .val (.int p3), .val (.int p4), .val (.int p5), .val (.ref b1), .val (.int (vf p0 p1 p2 p3 p4 p5)), .unset, .unset] [(.int ((p5.toUInt32 >>> ((8 : Int32) &&& 31).toUInt32).toInt32)), (.int (vf p0 p1 p2 p3 p4 p5))])) ?_ (fun t q => XS.iushr X11.here hx rfl (hb hby at_62) rfl q)
  refine own_st (T' := T11) (f' := (mkF m 65 #[.val (.int p0), .val (.int p1), .val (.int p2), .val (.int p3), .val (.int p4), .val (.int p5), .val (.ref b1), .val (.int (vf p0 p1 p2 p3 p4 p5)), .unset, .unset] [(.int (6 : Int32)), (.int ((p5.toUInt32 >>> ((8 : Int32) &&& 31).toUInt32).toInt32)), (.int (vf p0 p1 p2 p3 p4 p5))])) ?_ (fun t q => XS.bipush X11.here hx rfl (hb hby at_63) q)
  refine own_st (T' := T11) (f' := (mkF m 67 #[.val (.int p0), .val (.int p1), .val (.int p2), .val (.int p3), .val (.int p4), .val (.int p5), .val (.ref b1), .val (.int (vf p0 p1 p2 p3 p4 p5)), .unset, .unset] [(.int (vf p0 p1 p2 p3 p4 p5)), (.int (6 : Int32)), (.int ((p5.toUInt32 >>> ((8 : Int32) &&& 31).toUInt32).toInt32)), (.int (vf p0 p1 p2 p3 p4 p5))])) ?_ (fun t q => XS.iload X11.here hx rfl (hb hby at_65) rfl q)
  refine own_st (T' := T11) (f' := (mkF m 68 #[.val (.int p0), .val (.int p1), .val (.int p2), .val (.int p3), .val (.int p4), .val (.int p5), .val (.ref b1), .val (.int (vf p0 p1 p2 p3 p4 p5)), .unset, .unset] [(.int ((6 : Int32) - (vf p0 p1 p2 p3 p4 p5))), (.int ((p5.toUInt32 >>> ((8 : Int32) &&& 31).toUInt32).toInt32)), (.int (vf p0 p1 p2 p3 p4 p5))])) ?_ (fun t q => XS.isub X11.here hx rfl (hb hby at_67) rfl q)
  refine own_st (T' := T11) (f' := (mkF m 69 #[.val (.int p0), .val (.int p1), .val (.int p2), .val (.int p3), .val (.int p4), .val (.int p5), .val (.ref b1), .val (.int (vf p0 p1 p2 p3 p4 p5)), .unset, .unset] [(.int (((p5.toUInt32 >>> ((8 : Int32) &&& 31).toUInt32).toInt32) - (((p5.toUInt32 >>> ((8 : Int32) &&& 31).toUInt32).toInt32) / ((6 : Int32) - (vf p0 p1 p2 p3 p4 p5))) * ((6 : Int32) - (vf p0 p1 p2 p3 p4 p5)))), (.int (vf p0 p1 p2 p3 p4 p5))])) ?_ (fun t q => XS.irem X11.here hx rfl (hb hby at_68) rfl (own_nz p0 p1 p2 p3 p4 p5) q)
  refine own_st (T' := T11) (f' := (mkF m 70 #[.val (.int p0), .val (.int p1), .val (.int p2), .val (.int p3), .val (.int p4), .val (.int p5), .val (.ref b1), .val (.int (vf p0 p1 p2 p3 p4 p5)), .unset, .unset] [(.int ((vf p0 p1 p2 p3 p4 p5) + (((p5.toUInt32 >>> ((8 : Int32) &&& 31).toUInt32).toInt32) - (((p5.toUInt32 >>> ((8 : Int32) &&& 31).toUInt32).toInt32) / ((6 : Int32) - (vf p0 p1 p2 p3 p4 p5))) * ((6 : Int32) - (vf p0 p1 p2 p3 p4 p5)))))])) ?_ (fun t q => XS.iadd X11.here hx rfl (hb hby at_69) rfl q)
  refine own_st (T' := T11) (f' := (mkF m 72 #[.val (.int p0), .val (.int p1), .val (.int p2), .val (.int p3), .val (.int p4), .val (.int p5), .val (.ref b1), .val (.int (vf p0 p1 p2 p3 p4 p5)), .val (.int (vt p0 p1 p2 p3 p4 p5)), .unset] [])) ?_ (fun t q => XS.istore X11.here hx rfl (hb hby at_70) rfl (l' := #[.val (.int p0), .val (.int p1), .val (.int p2), .val (.int p3), .val (.int p4), .val (.int p5), .val (.ref b1), .val (.int (vf p0 p1 p2 p3 p4 p5)), .val (.int (vt p0 p1 p2 p3 p4 p5)), .unset]) rfl q)
  refine own_st (T' := T11) (f' := (mkF m 74 #[.val (.int p0), .val (.int p1), .val (.int p2), .val (.int p3), .val (.int p4), .val (.int p5), .val (.ref b1), .val (.int (vf p0 p1 p2 p3 p4 p5)), .val (.int (vt p0 p1 p2 p3 p4 p5)), .unset] [(.int (vt p0 p1 p2 p3 p4 p5))])) ?_ (fun t q => XS.iload X11.here hx rfl (hb hby at_72) rfl q)
  refine own_st (T' := T11) (f' := (mkF m 76 #[.val (.int p0), .val (.int p1), .val (.int p2), .val (.int p3), .val (.int p4), .val (.int p5), .val (.ref b1), .val (.int (vf p0 p1 p2 p3 p4 p5)), .val (.int (vt p0 p1 p2 p3 p4 p5)), .val (.int (vt p0 p1 p2 p3 p4 p5))] [])) ?_ (fun t q => XS.istore X11.here hx rfl (hb hby at_74) rfl (l' := #[.val (.int p0), .val (.int p1), .val (.int p2), .val (.int p3), .val (.int p4), .val (.int p5), .val (.ref b1), .val (.int (vf p0 p1 p2 p3 p4 p5)), .val (.int (vt p0 p1 p2 p3 p4 p5)), .val (.int (vt p0 p1 p2 p3 p4 p5))]) rfl q)
  refine own_st (T' := T11) (f' := (mkF m 78 #[.val (.int p0), .val (.int p1), .val (.int p2), .val (.int p3), .val (.int p4), .val (.int p5), .val (.ref b1), .val (.int (vf p0 p1 p2 p3 p4 p5)), .val (.int (vt p0 p1 p2 p3 p4 p5)), .val (.int (vt p0 p1 p2 p3 p4 p5))] [(.ref b1)])) ?_ (fun t q => XS.aload X11.here hx rfl (hb hby at_76) rfl rfl q)
  refine own_st (T' := T11) (f' := (mkF m 79 #[.val (.int p0), .val (.int p1), .val (.int p2), .val (.int p3), .val (.int p4), .val (.int p5), .val (.ref b1), .val (.int (vf p0 p1 p2 p3 p4 p5)), .val (.int (vt p0 p1 p2 p3 p4 p5)), .val (.int (vt p0 p1 p2 p3 p4 p5))] [(.int (4 : Int32)), (.ref b1)])) ?_ (fun t q => XS.iconst X11.here hx rfl (hb hby at_78) q)
  refine own_st (T' := T11) (f' := (mkF m 81 #[.val (.int p0), .val (.int p1), .val (.int p2), .val (.int p3), .val (.int p4), .val (.int p5), .val (.ref b1), .val (.int (vf p0 p1 p2 p3 p4 p5)), .val (.int (vt p0 p1 p2 p3 p4 p5)), .val (.int (vt p0 p1 p2 p3 p4 p5))] [(.int (vf p0 p1 p2 p3 p4 p5)), (.int (4 : Int32)), (.ref b1)])) ?_ (fun t q => XS.iload X11.here hx rfl (hb hby at_79) rfl q)
  refine own_st (T' := T11) (f' := (mkF m 83 #[.val (.int p0), .val (.int p1), .val (.int p2), .val (.int p3), .val (.int p4), .val (.int p5), .val (.ref b1), .val (.int (vf p0 p1 p2 p3 p4 p5)), .val (.int (vt p0 p1 p2 p3 p4 p5)), .val (.int (vt p0 p1 p2 p3 p4 p5))] [(.int (vt p0 p1 p2 p3 p4 p5)), (.int (vf p0 p1 p2 p3 p4 p5)), (.int (4 : Int32)), (.ref b1)])) ?_ (fun t q => XS.iload X11.here hx rfl (hb hby at_81) rfl q)
  refine own_st (T' := T11) (f' := (mkF m 85 #[.val (.int p0), .val (.int p1), .val (.int p2), .val (.int p3), .val (.int p4), .val (.int p5), .val (.ref b1), .val (.int (vf p0 p1 p2 p3 p4 p5)), .val (.int (vt p0 p1 p2 p3 p4 p5)), .val (.int (vt p0 p1 p2 p3 p4 p5))] [(.int (vt p0 p1 p2 p3 p4 p5)), (.int (vt p0 p1 p2 p3 p4 p5)), (.int (vf p0 p1 p2 p3 p4 p5)), (.int (4 : Int32)), (.ref b1)])) ?_ (fun t q => XS.iload X11.here hx rfl (hb hby at_83) rfl q)
  obtain ⟨_, _, ⟨T12, L12, k12, n12⟩, -, X12, ⟨Lc12, hQ12, l12, y12, z12⟩, st12⟩ := Jvm.LawKit.callS X11 hx (y := (⟨"com/example/lease/lease/http/RequestHeadStartPinLaw", "cand", "([BIIII)I"⟩ : MethodName)) hown (mvT hZ (hw _ (List.mem_of_getElem? (i := 6) rfl))) (mvT hZ (hw _ (List.mem_of_getElem? (i := 7) rfl))) (mvT hZ (hw _ (List.mem_of_getElem? (i := 3) rfl))) (mvT hZ (hw _ (List.mem_of_getElem? (i := 8) rfl))) (by decide) (backOf (W := 0) (rm2 l Z a0 hw [] b1 (4 : Int32) (vf p0 p1 p2 p3 p4 p5) (vt p0 p1 p2 p3 p4 p5) (vt p0 p1 p2 p3 p4 p5) 5 (vF p0 p1 p2 p3 p4 p5) T11.heap n0 A11_b1 (by decide) (own_p2 p0 p1 p2 p3 p4 p5)) hZ (hw _ (List.mem_of_getElem? (i := 8) rfl)) (hw _ (List.mem_of_getElem? (i := 3) rfl)) (by decide) (by decide)) (g := (mkF m 85 #[.val (.int p0), .val (.int p1), .val (.int p2), .val (.int p3), .val (.int p4), .val (.int p5), .val (.ref b1), .val (.int (vf p0 p1 p2 p3 p4 p5)), .val (.int (vt p0 p1 p2 p3 p4 p5)), .val (.int (vt p0 p1 p2 p3 p4 p5))] [(.int (vt p0 p1 p2 p3 p4 p5)), (.int (vt p0 p1 p2 p3 p4 p5)), (.int (vf p0 p1 p2 p3 p4 p5)), (.int (4 : Int32)), (.ref b1)])) rfl (by rw [hml]; rfl) (argsL := [(.ref b1), (.int (4 : Int32)), (.int (vf p0 p1 p2 p3 p4 p5)), (.int (vt p0 p1 p2 p3 p4 p5)), (.int (vt p0 p1 p2 p3 p4 p5))]) (rest := []) (lenOf pd_2 rfl) rfl (by show 2 * 0 + _ ≤ _; exact Nat.le_of_eq rfl) (hb hby at_85) (fun _ _ => ⟨rfl, rfl, (Nat.le_of_ble_eq_true rfl), (Nat.le_of_ble_eq_true rfl)⟩)
  dsimp only [Pt.U, Pt.locs, Pt.cells, Pt.slots] at X12 l12 y12 z12 st12 hQ12
  subst l12 y12 z12
  obtain ⟨rfl, N12q, e12⟩ := hQ12
  have N12 := Fr.app N11 N12q
  have zs12 : n0 ≤ T12.heap.size := by rw [e12]; exact zs11
  have A12_b1 := own_A.eq A11_b1 e12
  refine own_st (T' := T12) (f' := (mkF m 88 #[.val (.int p0), .val (.int p1), .val (.int p2), .val (.int p3), .val (.int p4), .val (.int p5), .val (.ref b1), .val (.int (vf p0 p1 p2 p3 p4 p5)), .val (.int (vt p0 p1 p2 p3 p4 p5)), .val (.int (vt p0 p1 p2 p3 p4 p5))] [(.int (f2 (4 : Int32) (vf p0 p1 p2 p3 p4 p5) (vt p0 p1 p2 p3 p4 p5) (vt p0 p1 p2 p3 p4 p5) (vF p0 p1 p2 p3 p4 p5)))])) ?_ (fun t q => st12 _ q)
  refine own_st (T' := T12) (f' := (mkF m 90 #[.val (.int p0), .val (.int p1), .val (.int p2), .val (.int p3), .val (.int p4), .val (.int p5), .val (.ref b1), .val (.int (vf p0 p1 p2 p3 p4 p5)), .val (.int (vt p0 p1 p2 p3 p4 p5)), .val (.int (f2 (4 : Int32) (vf p0 p1 p2 p3 p4 p5) (vt p0 p1 p2 p3 p4 p5) (vt p0 p1 p2 p3 p4 p5) (vF p0 p1 p2 p3 p4 p5)))] [])) ?_ (fun t q => XS.istore X12.here hx rfl (hb hby at_88) rfl (l' := #[.val (.int p0), .val (.int p1), .val (.int p2), .val (.int p3), .val (.int p4), .val (.int p5), .val (.ref b1), .val (.int (vf p0 p1 p2 p3 p4 p5)), .val (.int (vt p0 p1 p2 p3 p4 p5)), .val (.int (f2 (4 : Int32) (vf p0 p1 p2 p3 p4 p5) (vt p0 p1 p2 p3 p4 p5) (vt p0 p1 p2 p3 p4 p5) (vF p0 p1 p2 p3 p4 p5)))]) rfl q)
  refine own_st (T' := T12) (f' := (mkF m 92 #[.val (.int p0), .val (.int p1), .val (.int p2), .val (.int p3), .val (.int p4), .val (.int p5), .val (.ref b1), .val (.int (vf p0 p1 p2 p3 p4 p5)), .val (.int (vt p0 p1 p2 p3 p4 p5)), .val (.int (f2 (4 : Int32) (vf p0 p1 p2 p3 p4 p5) (vt p0 p1 p2 p3 p4 p5) (vt p0 p1 p2 p3 p4 p5) (vF p0 p1 p2 p3 p4 p5)))] [(.ref b1)])) ?_ (fun t q => XS.aload X12.here hx rfl (hb hby at_90) rfl rfl q)
  refine own_st (T' := T12) (f' := (mkF m 93 #[.val (.int p0), .val (.int p1), .val (.int p2), .val (.int p3), .val (.int p4), .val (.int p5), .val (.ref b1), .val (.int (vf p0 p1 p2 p3 p4 p5)), .val (.int (vt p0 p1 p2 p3 p4 p5)), .val (.int (f2 (4 : Int32) (vf p0 p1 p2 p3 p4 p5) (vt p0 p1 p2 p3 p4 p5) (vt p0 p1 p2 p3 p4 p5) (vF p0 p1 p2 p3 p4 p5)))] [(.int (3 : Int32)), (.ref b1)])) ?_ (fun t q => XS.iconst X12.here hx rfl (hb hby at_92) q)
  refine own_st (T' := T12) (f' := (mkF m 95 #[.val (.int p0), .val (.int p1), .val (.int p2), .val (.int p3), .val (.int p4), .val (.int p5), .val (.ref b1), .val (.int (vf p0 p1 p2 p3 p4 p5)), .val (.int (vt p0 p1 p2 p3 p4 p5)), .val (.int (f2 (4 : Int32) (vf p0 p1 p2 p3 p4 p5) (vt p0 p1 p2 p3 p4 p5) (vt p0 p1 p2 p3 p4 p5) (vF p0 p1 p2 p3 p4 p5)))] [(.int (vf p0 p1 p2 p3 p4 p5)), (.int (3 : Int32)), (.ref b1)])) ?_ (fun t q => XS.iload X12.here hx rfl (hb hby at_93) rfl q)
  refine own_st (T' := T12) (f' := (mkF m 97 #[.val (.int p0), .val (.int p1), .val (.int p2), .val (.int p3), .val (.int p4), .val (.int p5), .val (.ref b1), .val (.int (vf p0 p1 p2 p3 p4 p5)), .val (.int (vt p0 p1 p2 p3 p4 p5)), .val (.int (f2 (4 : Int32) (vf p0 p1 p2 p3 p4 p5) (vt p0 p1 p2 p3 p4 p5) (vt p0 p1 p2 p3 p4 p5) (vF p0 p1 p2 p3 p4 p5)))] [(.int (vt p0 p1 p2 p3 p4 p5)), (.int (vf p0 p1 p2 p3 p4 p5)), (.int (3 : Int32)), (.ref b1)])) ?_ (fun t q => XS.iload X12.here hx rfl (hb hby at_95) rfl q)
  refine own_st (T' := T12) (f' := (mkF m 99 #[.val (.int p0), .val (.int p1), .val (.int p2), .val (.int p3), .val (.int p4), .val (.int p5), .val (.ref b1), .val (.int (vf p0 p1 p2 p3 p4 p5)), .val (.int (vt p0 p1 p2 p3 p4 p5)), .val (.int (f2 (4 : Int32) (vf p0 p1 p2 p3 p4 p5) (vt p0 p1 p2 p3 p4 p5) (vt p0 p1 p2 p3 p4 p5) (vF p0 p1 p2 p3 p4 p5)))] [(.int (f2 (4 : Int32) (vf p0 p1 p2 p3 p4 p5) (vt p0 p1 p2 p3 p4 p5) (vt p0 p1 p2 p3 p4 p5) (vF p0 p1 p2 p3 p4 p5))), (.int (vt p0 p1 p2 p3 p4 p5)), (.int (vf p0 p1 p2 p3 p4 p5)), (.int (3 : Int32)), (.ref b1)])) ?_ (fun t q => XS.iload X12.here hx rfl (hb hby at_97) rfl q)
  obtain ⟨_, _, ⟨T13, L13, k13, n13⟩, -, X13, ⟨Lc13, hQ13, l13, y13, z13⟩, st13⟩ := Jvm.LawKit.callS X12 hx (y := (⟨"com/example/lease/lease/http/RequestHeadStartPinLaw", "cand", "([BIIII)I"⟩ : MethodName)) hown (mvT hZ (hw _ (List.mem_of_getElem? (i := 6) rfl))) (mvT hZ (hw _ (List.mem_of_getElem? (i := 7) rfl))) (mvT hZ (hw _ (List.mem_of_getElem? (i := 3) rfl))) (mvT hZ (hw _ (List.mem_of_getElem? (i := 8) rfl))) (by decide) (backOf (W := 0) (rm2 l Z a0 hw [] b1 (3 : Int32) (vf p0 p1 p2 p3 p4 p5) (vt p0 p1 p2 p3 p4 p5) (f2 (4 : Int32) (vf p0 p1 p2 p3 p4 p5) (vt p0 p1 p2 p3 p4 p5) (vt p0 p1 p2 p3 p4 p5) (vF p0 p1 p2 p3 p4 p5)) 5 (vF p0 p1 p2 p3 p4 p5) T12.heap n0 A12_b1 (by decide) (own_p2 p0 p1 p2 p3 p4 p5)) hZ (hw _ (List.mem_of_getElem? (i := 8) rfl)) (hw _ (List.mem_of_getElem? (i := 3) rfl)) (by decide) (by decide)) (g := (mkF m 99 #[.val (.int p0), .val (.int p1), .val (.int p2), .val (.int p3), .val (.int p4), .val (.int p5), .val (.ref b1), .val (.int (vf p0 p1 p2 p3 p4 p5)), .val (.int (vt p0 p1 p2 p3 p4 p5)), .val (.int (f2 (4 : Int32) (vf p0 p1 p2 p3 p4 p5) (vt p0 p1 p2 p3 p4 p5) (vt p0 p1 p2 p3 p4 p5) (vF p0 p1 p2 p3 p4 p5)))] [(.int (f2 (4 : Int32) (vf p0 p1 p2 p3 p4 p5) (vt p0 p1 p2 p3 p4 p5) (vt p0 p1 p2 p3 p4 p5) (vF p0 p1 p2 p3 p4 p5))), (.int (vt p0 p1 p2 p3 p4 p5)), (.int (vf p0 p1 p2 p3 p4 p5)), (.int (3 : Int32)), (.ref b1)])) rfl (by rw [hml]; rfl) (argsL := [(.ref b1), (.int (3 : Int32)), (.int (vf p0 p1 p2 p3 p4 p5)), (.int (vt p0 p1 p2 p3 p4 p5)), (.int (f2 (4 : Int32) (vf p0 p1 p2 p3 p4 p5) (vt p0 p1 p2 p3 p4 p5) (vt p0 p1 p2 p3 p4 p5) (vF p0 p1 p2 p3 p4 p5)))]) (rest := []) (lenOf pd_2 rfl) rfl (by show 2 * 0 + _ ≤ _; exact Nat.le_of_eq rfl) (hb hby at_99) (fun _ _ => ⟨rfl, rfl, (Nat.le_of_ble_eq_true rfl), (Nat.le_of_ble_eq_true rfl)⟩)
  dsimp only [Pt.U, Pt.locs, Pt.cells, Pt.slots] at X13 l13 y13 z13 st13 hQ13
  subst l13 y13 z13
  obtain ⟨rfl, N13q, e13⟩ := hQ13
  have N13 := Fr.app N12 N13q
  have zs13 : n0 ≤ T13.heap.size := by rw [e13]; exact zs12
  have A13_b1 := own_A.eq A12_b1 e13
  refine own_st (T' := T13) (f' := (mkF m 102 #[.val (.int p0), .val (.int p1), .val (.int p2), .val (.int p3), .val (.int p4), .val (.int p5), .val (.ref b1), .val (.int (vf p0 p1 p2 p3 p4 p5)), .val (.int (vt p0 p1 p2 p3 p4 p5)), .val (.int (f2 (4 : Int32) (vf p0 p1 p2 p3 p4 p5) (vt p0 p1 p2 p3 p4 p5) (vt p0 p1 p2 p3 p4 p5) (vF p0 p1 p2 p3 p4 p5)))] [(.int (f2 (3 : Int32) (vf p0 p1 p2 p3 p4 p5) (vt p0 p1 p2 p3 p4 p5) (f2 (4 : Int32) (vf p0 p1 p2 p3 p4 p5) (vt p0 p1 p2 p3 p4 p5) (vt p0 p1 p2 p3 p4 p5) (vF p0 p1 p2 p3 p4 p5)) (vF p0 p1 p2 p3 p4 p5)))])) ?_ (fun t q => st13 _ q)
  refine own_st (T' := T13) (f' := (mkF m 104 #[.val (.int p0), .val (.int p1), .val (.int p2), .val (.int p3), .val (.int p4), .val (.int p5), .val (.ref b1), .val (.int (vf p0 p1 p2 p3 p4 p5)), .val (.int (vt p0 p1 p2 p3 p4 p5)), .val (.int (f2 (3 : Int32) (vf p0 p1 p2 p3 p4 p5) (vt p0 p1 p2 p3 p4 p5) (f2 (4 : Int32) (vf p0 p1 p2 p3 p4 p5) (vt p0 p1 p2 p3 p4 p5) (vt p0 p1 p2 p3 p4 p5) (vF p0 p1 p2 p3 p4 p5)) (vF p0 p1 p2 p3 p4 p5)))] [])) ?_ (fun t q => XS.istore X13.here hx rfl (hb hby at_102) rfl (l' := #[.val (.int p0), .val (.int p1), .val (.int p2), .val (.int p3), .val (.int p4), .val (.int p5), .val (.ref b1), .val (.int (vf p0 p1 p2 p3 p4 p5)), .val (.int (vt p0 p1 p2 p3 p4 p5)), .val (.int (f2 (3 : Int32) (vf p0 p1 p2 p3 p4 p5) (vt p0 p1 p2 p3 p4 p5) (f2 (4 : Int32) (vf p0 p1 p2 p3 p4 p5) (vt p0 p1 p2 p3 p4 p5) (vt p0 p1 p2 p3 p4 p5) (vF p0 p1 p2 p3 p4 p5)) (vF p0 p1 p2 p3 p4 p5)))]) rfl q)
  refine own_st (T' := T13) (f' := (mkF m 106 #[.val (.int p0), .val (.int p1), .val (.int p2), .val (.int p3), .val (.int p4), .val (.int p5), .val (.ref b1), .val (.int (vf p0 p1 p2 p3 p4 p5)), .val (.int (vt p0 p1 p2 p3 p4 p5)), .val (.int (f2 (3 : Int32) (vf p0 p1 p2 p3 p4 p5) (vt p0 p1 p2 p3 p4 p5) (f2 (4 : Int32) (vf p0 p1 p2 p3 p4 p5) (vt p0 p1 p2 p3 p4 p5) (vt p0 p1 p2 p3 p4 p5) (vF p0 p1 p2 p3 p4 p5)) (vF p0 p1 p2 p3 p4 p5)))] [(.ref b1)])) ?_ (fun t q => XS.aload X13.here hx rfl (hb hby at_104) rfl rfl q)
  refine own_st (T' := T13) (f' := (mkF m 107 #[.val (.int p0), .val (.int p1), .val (.int p2), .val (.int p3), .val (.int p4), .val (.int p5), .val (.ref b1), .val (.int (vf p0 p1 p2 p3 p4 p5)), .val (.int (vt p0 p1 p2 p3 p4 p5)), .val (.int (f2 (3 : Int32) (vf p0 p1 p2 p3 p4 p5) (vt p0 p1 p2 p3 p4 p5) (f2 (4 : Int32) (vf p0 p1 p2 p3 p4 p5) (vt p0 p1 p2 p3 p4 p5) (vt p0 p1 p2 p3 p4 p5) (vF p0 p1 p2 p3 p4 p5)) (vF p0 p1 p2 p3 p4 p5)))] [(.int (2 : Int32)), (.ref b1)])) ?_ (fun t q => XS.iconst X13.here hx rfl (hb hby at_106) q)
  refine own_st (T' := T13) (f' := (mkF m 109 #[.val (.int p0), .val (.int p1), .val (.int p2), .val (.int p3), .val (.int p4), .val (.int p5), .val (.ref b1), .val (.int (vf p0 p1 p2 p3 p4 p5)), .val (.int (vt p0 p1 p2 p3 p4 p5)), .val (.int (f2 (3 : Int32) (vf p0 p1 p2 p3 p4 p5) (vt p0 p1 p2 p3 p4 p5) (f2 (4 : Int32) (vf p0 p1 p2 p3 p4 p5) (vt p0 p1 p2 p3 p4 p5) (vt p0 p1 p2 p3 p4 p5) (vF p0 p1 p2 p3 p4 p5)) (vF p0 p1 p2 p3 p4 p5)))] [(.int (vf p0 p1 p2 p3 p4 p5)), (.int (2 : Int32)), (.ref b1)])) ?_ (fun t q => XS.iload X13.here hx rfl (hb hby at_107) rfl q)
  refine own_st (T' := T13) (f' := (mkF m 111 #[.val (.int p0), .val (.int p1), .val (.int p2), .val (.int p3), .val (.int p4), .val (.int p5), .val (.ref b1), .val (.int (vf p0 p1 p2 p3 p4 p5)), .val (.int (vt p0 p1 p2 p3 p4 p5)), .val (.int (f2 (3 : Int32) (vf p0 p1 p2 p3 p4 p5) (vt p0 p1 p2 p3 p4 p5) (f2 (4 : Int32) (vf p0 p1 p2 p3 p4 p5) (vt p0 p1 p2 p3 p4 p5) (vt p0 p1 p2 p3 p4 p5) (vF p0 p1 p2 p3 p4 p5)) (vF p0 p1 p2 p3 p4 p5)))] [(.int (vt p0 p1 p2 p3 p4 p5)), (.int (vf p0 p1 p2 p3 p4 p5)), (.int (2 : Int32)), (.ref b1)])) ?_ (fun t q => XS.iload X13.here hx rfl (hb hby at_109) rfl q)
  refine own_st (T' := T13) (f' := (mkF m 113 #[.val (.int p0), .val (.int p1), .val (.int p2), .val (.int p3), .val (.int p4), .val (.int p5), .val (.ref b1), .val (.int (vf p0 p1 p2 p3 p4 p5)), .val (.int (vt p0 p1 p2 p3 p4 p5)), .val (.int (f2 (3 : Int32) (vf p0 p1 p2 p3 p4 p5) (vt p0 p1 p2 p3 p4 p5) (f2 (4 : Int32) (vf p0 p1 p2 p3 p4 p5) (vt p0 p1 p2 p3 p4 p5) (vt p0 p1 p2 p3 p4 p5) (vF p0 p1 p2 p3 p4 p5)) (vF p0 p1 p2 p3 p4 p5)))] [(.int (f2 (3 : Int32) (vf p0 p1 p2 p3 p4 p5) (vt p0 p1 p2 p3 p4 p5) (f2 (4 : Int32) (vf p0 p1 p2 p3 p4 p5) (vt p0 p1 p2 p3 p4 p5) (vt p0 p1 p2 p3 p4 p5) (vF p0 p1 p2 p3 p4 p5)) (vF p0 p1 p2 p3 p4 p5))), (.int (vt p0 p1 p2 p3 p4 p5)), (.int (vf p0 p1 p2 p3 p4 p5)), (.int (2 : Int32)), (.ref b1)])) ?_ (fun t q => XS.iload X13.here hx rfl (hb hby at_111) rfl q)
  obtain ⟨_, _, ⟨T14, L14, k14, n14⟩, -, X14, ⟨Lc14, hQ14, l14, y14, z14⟩, st14⟩ := Jvm.LawKit.callS X13 hx (y := (⟨"com/example/lease/lease/http/RequestHeadStartPinLaw", "cand", "([BIIII)I"⟩ : MethodName)) hown (mvT hZ (hw _ (List.mem_of_getElem? (i := 6) rfl))) (mvT hZ (hw _ (List.mem_of_getElem? (i := 7) rfl))) (mvT hZ (hw _ (List.mem_of_getElem? (i := 3) rfl))) (mvT hZ (hw _ (List.mem_of_getElem? (i := 8) rfl))) (by decide) (backOf (W := 0) (rm2 l Z a0 hw [] b1 (2 : Int32) (vf p0 p1 p2 p3 p4 p5) (vt p0 p1 p2 p3 p4 p5) (f2 (3 : Int32) (vf p0 p1 p2 p3 p4 p5) (vt p0 p1 p2 p3 p4 p5) (f2 (4 : Int32) (vf p0 p1 p2 p3 p4 p5) (vt p0 p1 p2 p3 p4 p5) (vt p0 p1 p2 p3 p4 p5) (vF p0 p1 p2 p3 p4 p5)) (vF p0 p1 p2 p3 p4 p5)) 5 (vF p0 p1 p2 p3 p4 p5) T13.heap n0 A13_b1 (by decide) (own_p2 p0 p1 p2 p3 p4 p5)) hZ (hw _ (List.mem_of_getElem? (i := 8) rfl)) (hw _ (List.mem_of_getElem? (i := 3) rfl)) (by decide) (by decide)) (g := (mkF m 113 #[.val (.int p0), .val (.int p1), .val (.int p2), .val (.int p3), .val (.int p4), .val (.int p5), .val (.ref b1), .val (.int (vf p0 p1 p2 p3 p4 p5)), .val (.int (vt p0 p1 p2 p3 p4 p5)), .val (.int (f2 (3 : Int32) (vf p0 p1 p2 p3 p4 p5) (vt p0 p1 p2 p3 p4 p5) (f2 (4 : Int32) (vf p0 p1 p2 p3 p4 p5) (vt p0 p1 p2 p3 p4 p5) (vt p0 p1 p2 p3 p4 p5) (vF p0 p1 p2 p3 p4 p5)) (vF p0 p1 p2 p3 p4 p5)))] [(.int (f2 (3 : Int32) (vf p0 p1 p2 p3 p4 p5) (vt p0 p1 p2 p3 p4 p5) (f2 (4 : Int32) (vf p0 p1 p2 p3 p4 p5) (vt p0 p1 p2 p3 p4 p5) (vt p0 p1 p2 p3 p4 p5) (vF p0 p1 p2 p3 p4 p5)) (vF p0 p1 p2 p3 p4 p5))), (.int (vt p0 p1 p2 p3 p4 p5)), (.int (vf p0 p1 p2 p3 p4 p5)), (.int (2 : Int32)), (.ref b1)])) rfl (by rw [hml]; rfl) (argsL := [(.ref b1), (.int (2 : Int32)), (.int (vf p0 p1 p2 p3 p4 p5)), (.int (vt p0 p1 p2 p3 p4 p5)), (.int (f2 (3 : Int32) (vf p0 p1 p2 p3 p4 p5) (vt p0 p1 p2 p3 p4 p5) (f2 (4 : Int32) (vf p0 p1 p2 p3 p4 p5) (vt p0 p1 p2 p3 p4 p5) (vt p0 p1 p2 p3 p4 p5) (vF p0 p1 p2 p3 p4 p5)) (vF p0 p1 p2 p3 p4 p5)))]) (rest := []) (lenOf pd_2 rfl) rfl (by show 2 * 0 + _ ≤ _; exact Nat.le_of_eq rfl) (hb hby at_113) (fun _ _ => ⟨rfl, rfl, (Nat.le_of_ble_eq_true rfl), (Nat.le_of_ble_eq_true rfl)⟩)
  dsimp only [Pt.U, Pt.locs, Pt.cells, Pt.slots] at X14 l14 y14 z14 st14 hQ14
  subst l14 y14 z14
  obtain ⟨rfl, N14q, e14⟩ := hQ14
  have N14 := Fr.app N13 N14q
  have zs14 : n0 ≤ T14.heap.size := by rw [e14]; exact zs13
  have A14_b1 := own_A.eq A13_b1 e14
  refine own_st (T' := T14) (f' := (mkF m 116 #[.val (.int p0), .val (.int p1), .val (.int p2), .val (.int p3), .val (.int p4), .val (.int p5), .val (.ref b1), .val (.int (vf p0 p1 p2 p3 p4 p5)), .val (.int (vt p0 p1 p2 p3 p4 p5)), .val (.int (f2 (3 : Int32) (vf p0 p1 p2 p3 p4 p5) (vt p0 p1 p2 p3 p4 p5) (f2 (4 : Int32) (vf p0 p1 p2 p3 p4 p5) (vt p0 p1 p2 p3 p4 p5) (vt p0 p1 p2 p3 p4 p5) (vF p0 p1 p2 p3 p4 p5)) (vF p0 p1 p2 p3 p4 p5)))] [(.int (f2 (2 : Int32) (vf p0 p1 p2 p3 p4 p5) (vt p0 p1 p2 p3 p4 p5) (f2 (3 : Int32) (vf p0 p1 p2 p3 p4 p5) (vt p0 p1 p2 p3 p4 p5) (f2 (4 : Int32) (vf p0 p1 p2 p3 p4 p5) (vt p0 p1 p2 p3 p4 p5) (vt p0 p1 p2 p3 p4 p5) (vF p0 p1 p2 p3 p4 p5)) (vF p0 p1 p2 p3 p4 p5)) (vF p0 p1 p2 p3 p4 p5)))])) ?_ (fun t q => st14 _ q)
  refine own_st (T' := T14) (f' := (mkF m 118 #[.val (.int p0), .val (.int p1), .val (.int p2), .val (.int p3), .val (.int p4), .val (.int p5), .val (.ref b1), .val (.int (vf p0 p1 p2 p3 p4 p5)), .val (.int (vt p0 p1 p2 p3 p4 p5)), .val (.int (f2 (2 : Int32) (vf p0 p1 p2 p3 p4 p5) (vt p0 p1 p2 p3 p4 p5) (f2 (3 : Int32) (vf p0 p1 p2 p3 p4 p5) (vt p0 p1 p2 p3 p4 p5) (f2 (4 : Int32) (vf p0 p1 p2 p3 p4 p5) (vt p0 p1 p2 p3 p4 p5) (vt p0 p1 p2 p3 p4 p5) (vF p0 p1 p2 p3 p4 p5)) (vF p0 p1 p2 p3 p4 p5)) (vF p0 p1 p2 p3 p4 p5)))] [])) ?_ (fun t q => XS.istore X14.here hx rfl (hb hby at_116) rfl (l' := #[.val (.int p0), .val (.int p1), .val (.int p2), .val (.int p3), .val (.int p4), .val (.int p5), .val (.ref b1), .val (.int (vf p0 p1 p2 p3 p4 p5)), .val (.int (vt p0 p1 p2 p3 p4 p5)), .val (.int (f2 (2 : Int32) (vf p0 p1 p2 p3 p4 p5) (vt p0 p1 p2 p3 p4 p5) (f2 (3 : Int32) (vf p0 p1 p2 p3 p4 p5) (vt p0 p1 p2 p3 p4 p5) (f2 (4 : Int32) (vf p0 p1 p2 p3 p4 p5) (vt p0 p1 p2 p3 p4 p5) (vt p0 p1 p2 p3 p4 p5) (vF p0 p1 p2 p3 p4 p5)) (vF p0 p1 p2 p3 p4 p5)) (vF p0 p1 p2 p3 p4 p5)))]) rfl q)
  refine own_st (T' := T14) (f' := (mkF m 120 #[.val (.int p0), .val (.int p1), .val (.int p2), .val (.int p3), .val (.int p4), .val (.int p5), .val (.ref b1), .val (.int (vf p0 p1 p2 p3 p4 p5)), .val (.int (vt p0 p1 p2 p3 p4 p5)), .val (.int (f2 (2 : Int32) (vf p0 p1 p2 p3 p4 p5) (vt p0 p1 p2 p3 p4 p5) (f2 (3 : Int32) (vf p0 p1 p2 p3 p4 p5) (vt p0 p1 p2 p3 p4 p5) (f2 (4 : Int32) (vf p0 p1 p2 p3 p4 p5) (vt p0 p1 p2 p3 p4 p5) (vt p0 p1 p2 p3 p4 p5) (vF p0 p1 p2 p3 p4 p5)) (vF p0 p1 p2 p3 p4 p5)) (vF p0 p1 p2 p3 p4 p5)))] [(.ref b1)])) ?_ (fun t q => XS.aload X14.here hx rfl (hb hby at_118) rfl rfl q)
  refine own_st (T' := T14) (f' := (mkF m 121 #[.val (.int p0), .val (.int p1), .val (.int p2), .val (.int p3), .val (.int p4), .val (.int p5), .val (.ref b1), .val (.int (vf p0 p1 p2 p3 p4 p5)), .val (.int (vt p0 p1 p2 p3 p4 p5)), .val (.int (f2 (2 : Int32) (vf p0 p1 p2 p3 p4 p5) (vt p0 p1 p2 p3 p4 p5) (f2 (3 : Int32) (vf p0 p1 p2 p3 p4 p5) (vt p0 p1 p2 p3 p4 p5) (f2 (4 : Int32) (vf p0 p1 p2 p3 p4 p5) (vt p0 p1 p2 p3 p4 p5) (vt p0 p1 p2 p3 p4 p5) (vF p0 p1 p2 p3 p4 p5)) (vF p0 p1 p2 p3 p4 p5)) (vF p0 p1 p2 p3 p4 p5)))] [(.int (1 : Int32)), (.ref b1)])) ?_ (fun t q => XS.iconst X14.here hx rfl (hb hby at_120) q)
  refine own_st (T' := T14) (f' := (mkF m 123 #[.val (.int p0), .val (.int p1), .val (.int p2), .val (.int p3), .val (.int p4), .val (.int p5), .val (.ref b1), .val (.int (vf p0 p1 p2 p3 p4 p5)), .val (.int (vt p0 p1 p2 p3 p4 p5)), .val (.int (f2 (2 : Int32) (vf p0 p1 p2 p3 p4 p5) (vt p0 p1 p2 p3 p4 p5) (f2 (3 : Int32) (vf p0 p1 p2 p3 p4 p5) (vt p0 p1 p2 p3 p4 p5) (f2 (4 : Int32) (vf p0 p1 p2 p3 p4 p5) (vt p0 p1 p2 p3 p4 p5) (vt p0 p1 p2 p3 p4 p5) (vF p0 p1 p2 p3 p4 p5)) (vF p0 p1 p2 p3 p4 p5)) (vF p0 p1 p2 p3 p4 p5)))] [(.int (vf p0 p1 p2 p3 p4 p5)), (.int (1 : Int32)), (.ref b1)])) ?_ (fun t q => XS.iload X14.here hx rfl (hb hby at_121) rfl q)
  refine own_st (T' := T14) (f' := (mkF m 125 #[.val (.int p0), .val (.int p1), .val (.int p2), .val (.int p3), .val (.int p4), .val (.int p5), .val (.ref b1), .val (.int (vf p0 p1 p2 p3 p4 p5)), .val (.int (vt p0 p1 p2 p3 p4 p5)), .val (.int (f2 (2 : Int32) (vf p0 p1 p2 p3 p4 p5) (vt p0 p1 p2 p3 p4 p5) (f2 (3 : Int32) (vf p0 p1 p2 p3 p4 p5) (vt p0 p1 p2 p3 p4 p5) (f2 (4 : Int32) (vf p0 p1 p2 p3 p4 p5) (vt p0 p1 p2 p3 p4 p5) (vt p0 p1 p2 p3 p4 p5) (vF p0 p1 p2 p3 p4 p5)) (vF p0 p1 p2 p3 p4 p5)) (vF p0 p1 p2 p3 p4 p5)))] [(.int (vt p0 p1 p2 p3 p4 p5)), (.int (vf p0 p1 p2 p3 p4 p5)), (.int (1 : Int32)), (.ref b1)])) ?_ (fun t q => XS.iload X14.here hx rfl (hb hby at_123) rfl q)
  refine own_st (T' := T14) (f' := (mkF m 127 #[.val (.int p0), .val (.int p1), .val (.int p2), .val (.int p3), .val (.int p4), .val (.int p5), .val (.ref b1), .val (.int (vf p0 p1 p2 p3 p4 p5)), .val (.int (vt p0 p1 p2 p3 p4 p5)), .val (.int (f2 (2 : Int32) (vf p0 p1 p2 p3 p4 p5) (vt p0 p1 p2 p3 p4 p5) (f2 (3 : Int32) (vf p0 p1 p2 p3 p4 p5) (vt p0 p1 p2 p3 p4 p5) (f2 (4 : Int32) (vf p0 p1 p2 p3 p4 p5) (vt p0 p1 p2 p3 p4 p5) (vt p0 p1 p2 p3 p4 p5) (vF p0 p1 p2 p3 p4 p5)) (vF p0 p1 p2 p3 p4 p5)) (vF p0 p1 p2 p3 p4 p5)))] [(.int (f2 (2 : Int32) (vf p0 p1 p2 p3 p4 p5) (vt p0 p1 p2 p3 p4 p5) (f2 (3 : Int32) (vf p0 p1 p2 p3 p4 p5) (vt p0 p1 p2 p3 p4 p5) (f2 (4 : Int32) (vf p0 p1 p2 p3 p4 p5) (vt p0 p1 p2 p3 p4 p5) (vt p0 p1 p2 p3 p4 p5) (vF p0 p1 p2 p3 p4 p5)) (vF p0 p1 p2 p3 p4 p5)) (vF p0 p1 p2 p3 p4 p5))), (.int (vt p0 p1 p2 p3 p4 p5)), (.int (vf p0 p1 p2 p3 p4 p5)), (.int (1 : Int32)), (.ref b1)])) ?_ (fun t q => XS.iload X14.here hx rfl (hb hby at_125) rfl q)
  obtain ⟨_, _, ⟨T15, L15, k15, n15⟩, -, X15, ⟨Lc15, hQ15, l15, y15, z15⟩, st15⟩ := Jvm.LawKit.callS X14 hx (y := (⟨"com/example/lease/lease/http/RequestHeadStartPinLaw", "cand", "([BIIII)I"⟩ : MethodName)) hown (mvT hZ (hw _ (List.mem_of_getElem? (i := 6) rfl))) (mvT hZ (hw _ (List.mem_of_getElem? (i := 7) rfl))) (mvT hZ (hw _ (List.mem_of_getElem? (i := 3) rfl))) (mvT hZ (hw _ (List.mem_of_getElem? (i := 8) rfl))) (by decide) (backOf (W := 0) (rm2 l Z a0 hw [] b1 (1 : Int32) (vf p0 p1 p2 p3 p4 p5) (vt p0 p1 p2 p3 p4 p5) (f2 (2 : Int32) (vf p0 p1 p2 p3 p4 p5) (vt p0 p1 p2 p3 p4 p5) (f2 (3 : Int32) (vf p0 p1 p2 p3 p4 p5) (vt p0 p1 p2 p3 p4 p5) (f2 (4 : Int32) (vf p0 p1 p2 p3 p4 p5) (vt p0 p1 p2 p3 p4 p5) (vt p0 p1 p2 p3 p4 p5) (vF p0 p1 p2 p3 p4 p5)) (vF p0 p1 p2 p3 p4 p5)) (vF p0 p1 p2 p3 p4 p5)) 5 (vF p0 p1 p2 p3 p4 p5) T14.heap n0 A14_b1 (by decide) (own_p2 p0 p1 p2 p3 p4 p5)) hZ (hw _ (List.mem_of_getElem? (i := 8) rfl)) (hw _ (List.mem_of_getElem? (i := 3) rfl)) (by decide) (by decide)) (g := (mkF m 127 #[.val (.int p0), .val (.int p1), .val (.int p2), .val (.int p3), .val (.int p4), .val (.int p5), .val (.ref b1), .val (.int (vf p0 p1 p2 p3 p4 p5)), .val (.int (vt p0 p1 p2 p3 p4 p5)), .val (.int (f2 (2 : Int32) (vf p0 p1 p2 p3 p4 p5) (vt p0 p1 p2 p3 p4 p5) (f2 (3 : Int32) (vf p0 p1 p2 p3 p4 p5) (vt p0 p1 p2 p3 p4 p5) (f2 (4 : Int32) (vf p0 p1 p2 p3 p4 p5) (vt p0 p1 p2 p3 p4 p5) (vt p0 p1 p2 p3 p4 p5) (vF p0 p1 p2 p3 p4 p5)) (vF p0 p1 p2 p3 p4 p5)) (vF p0 p1 p2 p3 p4 p5)))] [(.int (f2 (2 : Int32) (vf p0 p1 p2 p3 p4 p5) (vt p0 p1 p2 p3 p4 p5) (f2 (3 : Int32) (vf p0 p1 p2 p3 p4 p5) (vt p0 p1 p2 p3 p4 p5) (f2 (4 : Int32) (vf p0 p1 p2 p3 p4 p5) (vt p0 p1 p2 p3 p4 p5) (vt p0 p1 p2 p3 p4 p5) (vF p0 p1 p2 p3 p4 p5)) (vF p0 p1 p2 p3 p4 p5)) (vF p0 p1 p2 p3 p4 p5))), (.int (vt p0 p1 p2 p3 p4 p5)), (.int (vf p0 p1 p2 p3 p4 p5)), (.int (1 : Int32)), (.ref b1)])) rfl (by rw [hml]; rfl) (argsL := [(.ref b1), (.int (1 : Int32)), (.int (vf p0 p1 p2 p3 p4 p5)), (.int (vt p0 p1 p2 p3 p4 p5)), (.int (f2 (2 : Int32) (vf p0 p1 p2 p3 p4 p5) (vt p0 p1 p2 p3 p4 p5) (f2 (3 : Int32) (vf p0 p1 p2 p3 p4 p5) (vt p0 p1 p2 p3 p4 p5) (f2 (4 : Int32) (vf p0 p1 p2 p3 p4 p5) (vt p0 p1 p2 p3 p4 p5) (vt p0 p1 p2 p3 p4 p5) (vF p0 p1 p2 p3 p4 p5)) (vF p0 p1 p2 p3 p4 p5)) (vF p0 p1 p2 p3 p4 p5)))]) (rest := []) (lenOf pd_2 rfl) rfl (by show 2 * 0 + _ ≤ _; exact Nat.le_of_eq rfl) (hb hby at_127) (fun _ _ => ⟨rfl, rfl, (Nat.le_of_ble_eq_true rfl), (Nat.le_of_ble_eq_true rfl)⟩)
  dsimp only [Pt.U, Pt.locs, Pt.cells, Pt.slots] at X15 l15 y15 z15 st15 hQ15
  subst l15 y15 z15
  obtain ⟨rfl, N15q, e15⟩ := hQ15
  have N15 := Fr.app N14 N15q
  have zs15 : n0 ≤ T15.heap.size := by rw [e15]; exact zs14
  have A15_b1 := own_A.eq A14_b1 e15
  refine own_st (T' := T15) (f' := (mkF m 130 #[.val (.int p0), .val (.int p1), .val (.int p2), .val (.int p3), .val (.int p4), .val (.int p5), .val (.ref b1), .val (.int (vf p0 p1 p2 p3 p4 p5)), .val (.int (vt p0 p1 p2 p3 p4 p5)), .val (.int (f2 (2 : Int32) (vf p0 p1 p2 p3 p4 p5) (vt p0 p1 p2 p3 p4 p5) (f2 (3 : Int32) (vf p0 p1 p2 p3 p4 p5) (vt p0 p1 p2 p3 p4 p5) (f2 (4 : Int32) (vf p0 p1 p2 p3 p4 p5) (vt p0 p1 p2 p3 p4 p5) (vt p0 p1 p2 p3 p4 p5) (vF p0 p1 p2 p3 p4 p5)) (vF p0 p1 p2 p3 p4 p5)) (vF p0 p1 p2 p3 p4 p5)))] [(.int (f2 (1 : Int32) (vf p0 p1 p2 p3 p4 p5) (vt p0 p1 p2 p3 p4 p5) (f2 (2 : Int32) (vf p0 p1 p2 p3 p4 p5) (vt p0 p1 p2 p3 p4 p5) (f2 (3 : Int32) (vf p0 p1 p2 p3 p4 p5) (vt p0 p1 p2 p3 p4 p5) (f2 (4 : Int32) (vf p0 p1 p2 p3 p4 p5) (vt p0 p1 p2 p3 p4 p5) (vt p0 p1 p2 p3 p4 p5) (vF p0 p1 p2 p3 p4 p5)) (vF p0 p1 p2 p3 p4 p5)) (vF p0 p1 p2 p3 p4 p5)) (vF p0 p1 p2 p3 p4 p5)))])) ?_ (fun t q => st15 _ q)
  refine own_st (T' := T15) (f' := (mkF m 132 #[.val (.int p0), .val (.int p1), .val (.int p2), .val (.int p3), .val (.int p4), .val (.int p5), .val (.ref b1), .val (.int (vf p0 p1 p2 p3 p4 p5)), .val (.int (vt p0 p1 p2 p3 p4 p5)), .val (.int (f2 (1 : Int32) (vf p0 p1 p2 p3 p4 p5) (vt p0 p1 p2 p3 p4 p5) (f2 (2 : Int32) (vf p0 p1 p2 p3 p4 p5) (vt p0 p1 p2 p3 p4 p5) (f2 (3 : Int32) (vf p0 p1 p2 p3 p4 p5) (vt p0 p1 p2 p3 p4 p5) (f2 (4 : Int32) (vf p0 p1 p2 p3 p4 p5) (vt p0 p1 p2 p3 p4 p5) (vt p0 p1 p2 p3 p4 p5) (vF p0 p1 p2 p3 p4 p5)) (vF p0 p1 p2 p3 p4 p5)) (vF p0 p1 p2 p3 p4 p5)) (vF p0 p1 p2 p3 p4 p5)))] [])) ?_ (fun t q => XS.istore X15.here hx rfl (hb hby at_130) rfl (l' := #[.val (.int p0), .val (.int p1), .val (.int p2), .val (.int p3), .val (.int p4), .val (.int p5), .val (.ref b1), .val (.int (vf p0 p1 p2 p3 p4 p5)), .val (.int (vt p0 p1 p2 p3 p4 p5)), .val (.int (f2 (1 : Int32) (vf p0 p1 p2 p3 p4 p5) (vt p0 p1 p2 p3 p4 p5) (f2 (2 : Int32) (vf p0 p1 p2 p3 p4 p5) (vt p0 p1 p2 p3 p4 p5) (f2 (3 : Int32) (vf p0 p1 p2 p3 p4 p5) (vt p0 p1 p2 p3 p4 p5) (f2 (4 : Int32) (vf p0 p1 p2 p3 p4 p5) (vt p0 p1 p2 p3 p4 p5) (vt p0 p1 p2 p3 p4 p5) (vF p0 p1 p2 p3 p4 p5)) (vF p0 p1 p2 p3 p4 p5)) (vF p0 p1 p2 p3 p4 p5)) (vF p0 p1 p2 p3 p4 p5)))]) rfl q)
  refine own_st (T' := T15) (f' := (mkF m 134 #[.val (.int p0), .val (.int p1), .val (.int p2), .val (.int p3), .val (.int p4), .val (.int p5), .val (.ref b1), .val (.int (vf p0 p1 p2 p3 p4 p5)), .val (.int (vt p0 p1 p2 p3 p4 p5)), .val (.int (f2 (1 : Int32) (vf p0 p1 p2 p3 p4 p5) (vt p0 p1 p2 p3 p4 p5) (f2 (2 : Int32) (vf p0 p1 p2 p3 p4 p5) (vt p0 p1 p2 p3 p4 p5) (f2 (3 : Int32) (vf p0 p1 p2 p3 p4 p5) (vt p0 p1 p2 p3 p4 p5) (f2 (4 : Int32) (vf p0 p1 p2 p3 p4 p5) (vt p0 p1 p2 p3 p4 p5) (vt p0 p1 p2 p3 p4 p5) (vF p0 p1 p2 p3 p4 p5)) (vF p0 p1 p2 p3 p4 p5)) (vF p0 p1 p2 p3 p4 p5)) (vF p0 p1 p2 p3 p4 p5)))] [(.ref b1)])) ?_ (fun t q => XS.aload X15.here hx rfl (hb hby at_132) rfl rfl q)
  refine own_st (T' := T15) (f' := (mkF m 135 #[.val (.int p0), .val (.int p1), .val (.int p2), .val (.int p3), .val (.int p4), .val (.int p5), .val (.ref b1), .val (.int (vf p0 p1 p2 p3 p4 p5)), .val (.int (vt p0 p1 p2 p3 p4 p5)), .val (.int (f2 (1 : Int32) (vf p0 p1 p2 p3 p4 p5) (vt p0 p1 p2 p3 p4 p5) (f2 (2 : Int32) (vf p0 p1 p2 p3 p4 p5) (vt p0 p1 p2 p3 p4 p5) (f2 (3 : Int32) (vf p0 p1 p2 p3 p4 p5) (vt p0 p1 p2 p3 p4 p5) (f2 (4 : Int32) (vf p0 p1 p2 p3 p4 p5) (vt p0 p1 p2 p3 p4 p5) (vt p0 p1 p2 p3 p4 p5) (vF p0 p1 p2 p3 p4 p5)) (vF p0 p1 p2 p3 p4 p5)) (vF p0 p1 p2 p3 p4 p5)) (vF p0 p1 p2 p3 p4 p5)))] [(.int (0 : Int32)), (.ref b1)])) ?_ (fun t q => XS.iconst X15.here hx rfl (hb hby at_134) q)
  refine own_st (T' := T15) (f' := (mkF m 137 #[.val (.int p0), .val (.int p1), .val (.int p2), .val (.int p3), .val (.int p4), .val (.int p5), .val (.ref b1), .val (.int (vf p0 p1 p2 p3 p4 p5)), .val (.int (vt p0 p1 p2 p3 p4 p5)), .val (.int (f2 (1 : Int32) (vf p0 p1 p2 p3 p4 p5) (vt p0 p1 p2 p3 p4 p5) (f2 (2 : Int32) (vf p0 p1 p2 p3 p4 p5) (vt p0 p1 p2 p3 p4 p5) (f2 (3 : Int32) (vf p0 p1 p2 p3 p4 p5) (vt p0 p1 p2 p3 p4 p5) (f2 (4 : Int32) (vf p0 p1 p2 p3 p4 p5) (vt p0 p1 p2 p3 p4 p5) (vt p0 p1 p2 p3 p4 p5) (vF p0 p1 p2 p3 p4 p5)) (vF p0 p1 p2 p3 p4 p5)) (vF p0 p1 p2 p3 p4 p5)) (vF p0 p1 p2 p3 p4 p5)))] [(.int (vf p0 p1 p2 p3 p4 p5)), (.int (0 : Int32)), (.ref b1)])) ?_ (fun t q => XS.iload X15.here hx rfl (hb hby at_135) rfl q)
  refine own_st (T' := T15) (f' := (mkF m 139 #[.val (.int p0), .val (.int p1), .val (.int p2), .val (.int p3), .val (.int p4), .val (.int p5), .val (.ref b1), .val (.int (vf p0 p1 p2 p3 p4 p5)), .val (.int (vt p0 p1 p2 p3 p4 p5)), .val (.int (f2 (1 : Int32) (vf p0 p1 p2 p3 p4 p5) (vt p0 p1 p2 p3 p4 p5) (f2 (2 : Int32) (vf p0 p1 p2 p3 p4 p5) (vt p0 p1 p2 p3 p4 p5) (f2 (3 : Int32) (vf p0 p1 p2 p3 p4 p5) (vt p0 p1 p2 p3 p4 p5) (f2 (4 : Int32) (vf p0 p1 p2 p3 p4 p5) (vt p0 p1 p2 p3 p4 p5) (vt p0 p1 p2 p3 p4 p5) (vF p0 p1 p2 p3 p4 p5)) (vF p0 p1 p2 p3 p4 p5)) (vF p0 p1 p2 p3 p4 p5)) (vF p0 p1 p2 p3 p4 p5)))] [(.int (vt p0 p1 p2 p3 p4 p5)), (.int (vf p0 p1 p2 p3 p4 p5)), (.int (0 : Int32)), (.ref b1)])) ?_ (fun t q => XS.iload X15.here hx rfl (hb hby at_137) rfl q)
  refine own_st (T' := T15) (f' := (mkF m 141 #[.val (.int p0), .val (.int p1), .val (.int p2), .val (.int p3), .val (.int p4), .val (.int p5), .val (.ref b1), .val (.int (vf p0 p1 p2 p3 p4 p5)), .val (.int (vt p0 p1 p2 p3 p4 p5)), .val (.int (f2 (1 : Int32) (vf p0 p1 p2 p3 p4 p5) (vt p0 p1 p2 p3 p4 p5) (f2 (2 : Int32) (vf p0 p1 p2 p3 p4 p5) (vt p0 p1 p2 p3 p4 p5) (f2 (3 : Int32) (vf p0 p1 p2 p3 p4 p5) (vt p0 p1 p2 p3 p4 p5) (f2 (4 : Int32) (vf p0 p1 p2 p3 p4 p5) (vt p0 p1 p2 p3 p4 p5) (vt p0 p1 p2 p3 p4 p5) (vF p0 p1 p2 p3 p4 p5)) (vF p0 p1 p2 p3 p4 p5)) (vF p0 p1 p2 p3 p4 p5)) (vF p0 p1 p2 p3 p4 p5)))] [(.int (f2 (1 : Int32) (vf p0 p1 p2 p3 p4 p5) (vt p0 p1 p2 p3 p4 p5) (f2 (2 : Int32) (vf p0 p1 p2 p3 p4 p5) (vt p0 p1 p2 p3 p4 p5) (f2 (3 : Int32) (vf p0 p1 p2 p3 p4 p5) (vt p0 p1 p2 p3 p4 p5) (f2 (4 : Int32) (vf p0 p1 p2 p3 p4 p5) (vt p0 p1 p2 p3 p4 p5) (vt p0 p1 p2 p3 p4 p5) (vF p0 p1 p2 p3 p4 p5)) (vF p0 p1 p2 p3 p4 p5)) (vF p0 p1 p2 p3 p4 p5)) (vF p0 p1 p2 p3 p4 p5))), (.int (vt p0 p1 p2 p3 p4 p5)), (.int (vf p0 p1 p2 p3 p4 p5)), (.int (0 : Int32)), (.ref b1)])) ?_ (fun t q => XS.iload X15.here hx rfl (hb hby at_139) rfl q)
  obtain ⟨_, _, ⟨T16, L16, k16, n16⟩, -, X16, ⟨Lc16, hQ16, l16, y16, z16⟩, st16⟩ := Jvm.LawKit.callS X15 hx (y := (⟨"com/example/lease/lease/http/RequestHeadStartPinLaw", "cand", "([BIIII)I"⟩ : MethodName)) hown (mvT hZ (hw _ (List.mem_of_getElem? (i := 6) rfl))) (mvT hZ (hw _ (List.mem_of_getElem? (i := 7) rfl))) (mvT hZ (hw _ (List.mem_of_getElem? (i := 3) rfl))) (mvT hZ (hw _ (List.mem_of_getElem? (i := 8) rfl))) (by decide) (backOf (W := 0) (rm2 l Z a0 hw [] b1 (0 : Int32) (vf p0 p1 p2 p3 p4 p5) (vt p0 p1 p2 p3 p4 p5) (f2 (1 : Int32) (vf p0 p1 p2 p3 p4 p5) (vt p0 p1 p2 p3 p4 p5) (f2 (2 : Int32) (vf p0 p1 p2 p3 p4 p5) (vt p0 p1 p2 p3 p4 p5) (f2 (3 : Int32) (vf p0 p1 p2 p3 p4 p5) (vt p0 p1 p2 p3 p4 p5) (f2 (4 : Int32) (vf p0 p1 p2 p3 p4 p5) (vt p0 p1 p2 p3 p4 p5) (vt p0 p1 p2 p3 p4 p5) (vF p0 p1 p2 p3 p4 p5)) (vF p0 p1 p2 p3 p4 p5)) (vF p0 p1 p2 p3 p4 p5)) (vF p0 p1 p2 p3 p4 p5)) 5 (vF p0 p1 p2 p3 p4 p5) T15.heap n0 A15_b1 (by decide) (own_p2 p0 p1 p2 p3 p4 p5)) hZ (hw _ (List.mem_of_getElem? (i := 8) rfl)) (hw _ (List.mem_of_getElem? (i := 3) rfl)) (by decide) (by decide)) (g := (mkF m 141 #[.val (.int p0), .val (.int p1), .val (.int p2), .val (.int p3), .val (.int p4), .val (.int p5), .val (.ref b1), .val (.int (vf p0 p1 p2 p3 p4 p5)), .val (.int (vt p0 p1 p2 p3 p4 p5)), .val (.int (f2 (1 : Int32) (vf p0 p1 p2 p3 p4 p5) (vt p0 p1 p2 p3 p4 p5) (f2 (2 : Int32) (vf p0 p1 p2 p3 p4 p5) (vt p0 p1 p2 p3 p4 p5) (f2 (3 : Int32) (vf p0 p1 p2 p3 p4 p5) (vt p0 p1 p2 p3 p4 p5) (f2 (4 : Int32) (vf p0 p1 p2 p3 p4 p5) (vt p0 p1 p2 p3 p4 p5) (vt p0 p1 p2 p3 p4 p5) (vF p0 p1 p2 p3 p4 p5)) (vF p0 p1 p2 p3 p4 p5)) (vF p0 p1 p2 p3 p4 p5)) (vF p0 p1 p2 p3 p4 p5)))] [(.int (f2 (1 : Int32) (vf p0 p1 p2 p3 p4 p5) (vt p0 p1 p2 p3 p4 p5) (f2 (2 : Int32) (vf p0 p1 p2 p3 p4 p5) (vt p0 p1 p2 p3 p4 p5) (f2 (3 : Int32) (vf p0 p1 p2 p3 p4 p5) (vt p0 p1 p2 p3 p4 p5) (f2 (4 : Int32) (vf p0 p1 p2 p3 p4 p5) (vt p0 p1 p2 p3 p4 p5) (vt p0 p1 p2 p3 p4 p5) (vF p0 p1 p2 p3 p4 p5)) (vF p0 p1 p2 p3 p4 p5)) (vF p0 p1 p2 p3 p4 p5)) (vF p0 p1 p2 p3 p4 p5))), (.int (vt p0 p1 p2 p3 p4 p5)), (.int (vf p0 p1 p2 p3 p4 p5)), (.int (0 : Int32)), (.ref b1)])) rfl (by rw [hml]; rfl) (argsL := [(.ref b1), (.int (0 : Int32)), (.int (vf p0 p1 p2 p3 p4 p5)), (.int (vt p0 p1 p2 p3 p4 p5)), (.int (f2 (1 : Int32) (vf p0 p1 p2 p3 p4 p5) (vt p0 p1 p2 p3 p4 p5) (f2 (2 : Int32) (vf p0 p1 p2 p3 p4 p5) (vt p0 p1 p2 p3 p4 p5) (f2 (3 : Int32) (vf p0 p1 p2 p3 p4 p5) (vt p0 p1 p2 p3 p4 p5) (f2 (4 : Int32) (vf p0 p1 p2 p3 p4 p5) (vt p0 p1 p2 p3 p4 p5) (vt p0 p1 p2 p3 p4 p5) (vF p0 p1 p2 p3 p4 p5)) (vF p0 p1 p2 p3 p4 p5)) (vF p0 p1 p2 p3 p4 p5)) (vF p0 p1 p2 p3 p4 p5)))]) (rest := []) (lenOf pd_2 rfl) rfl (by show 2 * 0 + _ ≤ _; exact Nat.le_of_eq rfl) (hb hby at_141) (fun _ _ => ⟨rfl, rfl, (Nat.le_of_ble_eq_true rfl), (Nat.le_of_ble_eq_true rfl)⟩)
  dsimp only [Pt.U, Pt.locs, Pt.cells, Pt.slots] at X16 l16 y16 z16 st16 hQ16
  subst l16 y16 z16
  obtain ⟨rfl, N16q, e16⟩ := hQ16
  have N16 := Fr.app N15 N16q
  have zs16 : n0 ≤ T16.heap.size := by rw [e16]; exact zs15
  have A16_b1 := own_A.eq A15_b1 e16
  refine own_st (T' := T16) (f' := (mkF m 144 #[.val (.int p0), .val (.int p1), .val (.int p2), .val (.int p3), .val (.int p4), .val (.int p5), .val (.ref b1), .val (.int (vf p0 p1 p2 p3 p4 p5)), .val (.int (vt p0 p1 p2 p3 p4 p5)), .val (.int (f2 (1 : Int32) (vf p0 p1 p2 p3 p4 p5) (vt p0 p1 p2 p3 p4 p5) (f2 (2 : Int32) (vf p0 p1 p2 p3 p4 p5) (vt p0 p1 p2 p3 p4 p5) (f2 (3 : Int32) (vf p0 p1 p2 p3 p4 p5) (vt p0 p1 p2 p3 p4 p5) (f2 (4 : Int32) (vf p0 p1 p2 p3 p4 p5) (vt p0 p1 p2 p3 p4 p5) (vt p0 p1 p2 p3 p4 p5) (vF p0 p1 p2 p3 p4 p5)) (vF p0 p1 p2 p3 p4 p5)) (vF p0 p1 p2 p3 p4 p5)) (vF p0 p1 p2 p3 p4 p5)))] [(.int (f2 (0 : Int32) (vf p0 p1 p2 p3 p4 p5) (vt p0 p1 p2 p3 p4 p5) (f2 (1 : Int32) (vf p0 p1 p2 p3 p4 p5) (vt p0 p1 p2 p3 p4 p5) (f2 (2 : Int32) (vf p0 p1 p2 p3 p4 p5) (vt p0 p1 p2 p3 p4 p5) (f2 (3 : Int32) (vf p0 p1 p2 p3 p4 p5) (vt p0 p1 p2 p3 p4 p5) (f2 (4 : Int32) (vf p0 p1 p2 p3 p4 p5) (vt p0 p1 p2 p3 p4 p5) (vt p0 p1 p2 p3 p4 p5) (vF p0 p1 p2 p3 p4 p5)) (vF p0 p1 p2 p3 p4 p5)) (vF p0 p1 p2 p3 p4 p5)) (vF p0 p1 p2 p3 p4 p5)) (vF p0 p1 p2 p3 p4 p5)))])) ?_ (fun t q => st16 _ q)
  refine own_st (T' := T16) (f' := (mkF m 146 #[.val (.int p0), .val (.int p1), .val (.int p2), .val (.int p3), .val (.int p4), .val (.int p5), .val (.ref b1), .val (.int (vf p0 p1 p2 p3 p4 p5)), .val (.int (vt p0 p1 p2 p3 p4 p5)), .val (.int (f2 (0 : Int32) (vf p0 p1 p2 p3 p4 p5) (vt p0 p1 p2 p3 p4 p5) (f2 (1 : Int32) (vf p0 p1 p2 p3 p4 p5) (vt p0 p1 p2 p3 p4 p5) (f2 (2 : Int32) (vf p0 p1 p2 p3 p4 p5) (vt p0 p1 p2 p3 p4 p5) (f2 (3 : Int32) (vf p0 p1 p2 p3 p4 p5) (vt p0 p1 p2 p3 p4 p5) (f2 (4 : Int32) (vf p0 p1 p2 p3 p4 p5) (vt p0 p1 p2 p3 p4 p5) (vt p0 p1 p2 p3 p4 p5) (vF p0 p1 p2 p3 p4 p5)) (vF p0 p1 p2 p3 p4 p5)) (vF p0 p1 p2 p3 p4 p5)) (vF p0 p1 p2 p3 p4 p5)) (vF p0 p1 p2 p3 p4 p5)))] [])) ?_ (fun t q => XS.istore X16.here hx rfl (hb hby at_144) rfl (l' := #[.val (.int p0), .val (.int p1), .val (.int p2), .val (.int p3), .val (.int p4), .val (.int p5), .val (.ref b1), .val (.int (vf p0 p1 p2 p3 p4 p5)), .val (.int (vt p0 p1 p2 p3 p4 p5)), .val (.int (f2 (0 : Int32) (vf p0 p1 p2 p3 p4 p5) (vt p0 p1 p2 p3 p4 p5) (f2 (1 : Int32) (vf p0 p1 p2 p3 p4 p5) (vt p0 p1 p2 p3 p4 p5) (f2 (2 : Int32) (vf p0 p1 p2 p3 p4 p5) (vt p0 p1 p2 p3 p4 p5) (f2 (3 : Int32) (vf p0 p1 p2 p3 p4 p5) (vt p0 p1 p2 p3 p4 p5) (f2 (4 : Int32) (vf p0 p1 p2 p3 p4 p5) (vt p0 p1 p2 p3 p4 p5) (vt p0 p1 p2 p3 p4 p5) (vF p0 p1 p2 p3 p4 p5)) (vF p0 p1 p2 p3 p4 p5)) (vF p0 p1 p2 p3 p4 p5)) (vF p0 p1 p2 p3 p4 p5)) (vF p0 p1 p2 p3 p4 p5)))]) rfl q)
  refine own_st (T' := T16) (f' := (mkF m 148 #[.val (.int p0), .val (.int p1), .val (.int p2), .val (.int p3), .val (.int p4), .val (.int p5), .val (.ref b1), .val (.int (vf p0 p1 p2 p3 p4 p5)), .val (.int (vt p0 p1 p2 p3 p4 p5)), .val (.int (f2 (0 : Int32) (vf p0 p1 p2 p3 p4 p5) (vt p0 p1 p2 p3 p4 p5) (f2 (1 : Int32) (vf p0 p1 p2 p3 p4 p5) (vt p0 p1 p2 p3 p4 p5) (f2 (2 : Int32) (vf p0 p1 p2 p3 p4 p5) (vt p0 p1 p2 p3 p4 p5) (f2 (3 : Int32) (vf p0 p1 p2 p3 p4 p5) (vt p0 p1 p2 p3 p4 p5) (f2 (4 : Int32) (vf p0 p1 p2 p3 p4 p5) (vt p0 p1 p2 p3 p4 p5) (vt p0 p1 p2 p3 p4 p5) (vF p0 p1 p2 p3 p4 p5)) (vF p0 p1 p2 p3 p4 p5)) (vF p0 p1 p2 p3 p4 p5)) (vF p0 p1 p2 p3 p4 p5)) (vF p0 p1 p2 p3 p4 p5)))] [(.ref b1)])) ?_ (fun t q => XS.aload X16.here hx rfl (hb hby at_146) rfl rfl q)
  refine own_st (T' := T16) (f' := (mkF m 150 #[.val (.int p0), .val (.int p1), .val (.int p2), .val (.int p3), .val (.int p4), .val (.int p5), .val (.ref b1), .val (.int (vf p0 p1 p2 p3 p4 p5)), .val (.int (vt p0 p1 p2 p3 p4 p5)), .val (.int (f2 (0 : Int32) (vf p0 p1 p2 p3 p4 p5) (vt p0 p1 p2 p3 p4 p5) (f2 (1 : Int32) (vf p0 p1 p2 p3 p4 p5) (vt p0 p1 p2 p3 p4 p5) (f2 (2 : Int32) (vf p0 p1 p2 p3 p4 p5) (vt p0 p1 p2 p3 p4 p5) (f2 (3 : Int32) (vf p0 p1 p2 p3 p4 p5) (vt p0 p1 p2 p3 p4 p5) (f2 (4 : Int32) (vf p0 p1 p2 p3 p4 p5) (vt p0 p1 p2 p3 p4 p5) (vt p0 p1 p2 p3 p4 p5) (vF p0 p1 p2 p3 p4 p5)) (vF p0 p1 p2 p3 p4 p5)) (vF p0 p1 p2 p3 p4 p5)) (vF p0 p1 p2 p3 p4 p5)) (vF p0 p1 p2 p3 p4 p5)))] [(.int (vf p0 p1 p2 p3 p4 p5)), (.ref b1)])) ?_ (fun t q => XS.iload X16.here hx rfl (hb hby at_148) rfl q)
  refine own_st (T' := T16) (f' := (mkF m 152 #[.val (.int p0), .val (.int p1), .val (.int p2), .val (.int p3), .val (.int p4), .val (.int p5), .val (.ref b1), .val (.int (vf p0 p1 p2 p3 p4 p5)), .val (.int (vt p0 p1 p2 p3 p4 p5)), .val (.int (f2 (0 : Int32) (vf p0 p1 p2 p3 p4 p5) (vt p0 p1 p2 p3 p4 p5) (f2 (1 : Int32) (vf p0 p1 p2 p3 p4 p5) (vt p0 p1 p2 p3 p4 p5) (f2 (2 : Int32) (vf p0 p1 p2 p3 p4 p5) (vt p0 p1 p2 p3 p4 p5) (f2 (3 : Int32) (vf p0 p1 p2 p3 p4 p5) (vt p0 p1 p2 p3 p4 p5) (f2 (4 : Int32) (vf p0 p1 p2 p3 p4 p5) (vt p0 p1 p2 p3 p4 p5) (vt p0 p1 p2 p3 p4 p5) (vF p0 p1 p2 p3 p4 p5)) (vF p0 p1 p2 p3 p4 p5)) (vF p0 p1 p2 p3 p4 p5)) (vF p0 p1 p2 p3 p4 p5)) (vF p0 p1 p2 p3 p4 p5)))] [(.int (vt p0 p1 p2 p3 p4 p5)), (.int (vf p0 p1 p2 p3 p4 p5)), (.ref b1)])) ?_ (fun t q => XS.iload X16.here hx rfl (hb hby at_150) rfl q)
  obtain ⟨_, _, ⟨T17, L17, k17, n17⟩, -, X17, ⟨Lc17, hQ17, l17, y17, z17⟩, st17⟩ := Jvm.LawKit.callS X16 hx (y := (⟨"com/example/lease/lease/http/RequestHead", "start", "([BII)I"⟩ : MethodName)) hown (mvT hZ (hw _ (List.mem_of_getElem? (i := 9) rfl))) (mvT hZ (hw _ (List.mem_of_getElem? (i := 10) rfl))) (mvT hZ (hw _ (List.mem_of_getElem? (i := 11) rfl))) (mvT hZ (hw _ (List.mem_of_getElem? (i := 12) rfl))) (by decide) (backOf (W := 0) (rm3 l Z a0 hw [] b1 (vf p0 p1 p2 p3 p4 p5) (vt p0 p1 p2 p3 p4 p5) 5 (vF p0 p1 p2 p3 p4 p5) T16.heap n0 A16_b1 (own_p1 p0 p1 p2 p3 p4 p5) (own_p2 p0 p1 p2 p3 p4 p5) (own_p3 p0 p1 p2 p3 p4 p5)) hZ (hw _ (List.mem_of_getElem? (i := 12) rfl)) (hw _ (List.mem_of_getElem? (i := 11) rfl)) (by decide) (by decide)) (g := (mkF m 152 #[.val (.int p0), .val (.int p1), .val (.int p2), .val (.int p3), .val (.int p4), .val (.int p5), .val (.ref b1), .val (.int (vf p0 p1 p2 p3 p4 p5)), .val (.int (vt p0 p1 p2 p3 p4 p5)), .val (.int (f2 (0 : Int32) (vf p0 p1 p2 p3 p4 p5) (vt p0 p1 p2 p3 p4 p5) (f2 (1 : Int32) (vf p0 p1 p2 p3 p4 p5) (vt p0 p1 p2 p3 p4 p5) (f2 (2 : Int32) (vf p0 p1 p2 p3 p4 p5) (vt p0 p1 p2 p3 p4 p5) (f2 (3 : Int32) (vf p0 p1 p2 p3 p4 p5) (vt p0 p1 p2 p3 p4 p5) (f2 (4 : Int32) (vf p0 p1 p2 p3 p4 p5) (vt p0 p1 p2 p3 p4 p5) (vt p0 p1 p2 p3 p4 p5) (vF p0 p1 p2 p3 p4 p5)) (vF p0 p1 p2 p3 p4 p5)) (vF p0 p1 p2 p3 p4 p5)) (vF p0 p1 p2 p3 p4 p5)) (vF p0 p1 p2 p3 p4 p5)))] [(.int (vt p0 p1 p2 p3 p4 p5)), (.int (vf p0 p1 p2 p3 p4 p5)), (.ref b1)])) rfl (by rw [hml]; rfl) (argsL := [(.ref b1), (.int (vf p0 p1 p2 p3 p4 p5)), (.int (vt p0 p1 p2 p3 p4 p5))]) (rest := []) (lenOf pd_3 rfl) rfl (by show 2 * 0 + _ ≤ _; exact Nat.le_of_eq rfl) (hb hby at_152) (fun _ _ => ⟨rfl, rfl, (Nat.le_of_ble_eq_true rfl), (Nat.le_of_ble_eq_true rfl)⟩)
  dsimp only [Pt.U, Pt.locs, Pt.cells, Pt.slots] at X17 l17 y17 z17 st17 hQ17
  subst l17 y17 z17
  obtain ⟨rfl, N17q, e17⟩ := hQ17
  have N17 := Fr.app N16 N17q
  have zs17 : n0 ≤ T17.heap.size := by rw [e17]; exact zs16
  have A17_b1 := own_A.eq A16_b1 e17
  refine own_st (T' := T17) (f' := (mkF m 155 #[.val (.int p0), .val (.int p1), .val (.int p2), .val (.int p3), .val (.int p4), .val (.int p5), .val (.ref b1), .val (.int (vf p0 p1 p2 p3 p4 p5)), .val (.int (vt p0 p1 p2 p3 p4 p5)), .val (.int (f2 (0 : Int32) (vf p0 p1 p2 p3 p4 p5) (vt p0 p1 p2 p3 p4 p5) (f2 (1 : Int32) (vf p0 p1 p2 p3 p4 p5) (vt p0 p1 p2 p3 p4 p5) (f2 (2 : Int32) (vf p0 p1 p2 p3 p4 p5) (vt p0 p1 p2 p3 p4 p5) (f2 (3 : Int32) (vf p0 p1 p2 p3 p4 p5) (vt p0 p1 p2 p3 p4 p5) (f2 (4 : Int32) (vf p0 p1 p2 p3 p4 p5) (vt p0 p1 p2 p3 p4 p5) (vt p0 p1 p2 p3 p4 p5) (vF p0 p1 p2 p3 p4 p5)) (vF p0 p1 p2 p3 p4 p5)) (vF p0 p1 p2 p3 p4 p5)) (vF p0 p1 p2 p3 p4 p5)) (vF p0 p1 p2 p3 p4 p5)))] [(.int (f3 (vf p0 p1 p2 p3 p4 p5) (vt p0 p1 p2 p3 p4 p5) (vF p0 p1 p2 p3 p4 p5)))])) ?_ (fun t q => st17 _ q)
  refine own_st (T' := T17) (f' := (mkF m 157 #[.val (.int p0), .val (.int p1), .val (.int p2), .val (.int p3), .val (.int p4), .val (.int p5), .val (.ref b1), .val (.int (vf p0 p1 p2 p3 p4 p5)), .val (.int (vt p0 p1 p2 p3 p4 p5)), .val (.int (f2 (0 : Int32) (vf p0 p1 p2 p3 p4 p5) (vt p0 p1 p2 p3 p4 p5) (f2 (1 : Int32) (vf p0 p1 p2 p3 p4 p5) (vt p0 p1 p2 p3 p4 p5) (f2 (2 : Int32) (vf p0 p1 p2 p3 p4 p5) (vt p0 p1 p2 p3 p4 p5) (f2 (3 : Int32) (vf p0 p1 p2 p3 p4 p5) (vt p0 p1 p2 p3 p4 p5) (f2 (4 : Int32) (vf p0 p1 p2 p3 p4 p5) (vt p0 p1 p2 p3 p4 p5) (vt p0 p1 p2 p3 p4 p5) (vF p0 p1 p2 p3 p4 p5)) (vF p0 p1 p2 p3 p4 p5)) (vF p0 p1 p2 p3 p4 p5)) (vF p0 p1 p2 p3 p4 p5)) (vF p0 p1 p2 p3 p4 p5)))] [(.int (f2 (0 : Int32) (vf p0 p1 p2 p3 p4 p5) (vt p0 p1 p2 p3 p4 p5) (f2 (1 : Int32) (vf p0 p1 p2 p3 p4 p5) (vt p0 p1 p2 p3 p4 p5) (f2 (2 : Int32) (vf p0 p1 p2 p3 p4 p5) (vt p0 p1 p2 p3 p4 p5) (f2 (3 : Int32) (vf p0 p1 p2 p3 p4 p5) (vt p0 p1 p2 p3 p4 p5) (f2 (4 : Int32) (vf p0 p1 p2 p3 p4 p5) (vt p0 p1 p2 p3 p4 p5) (vt p0 p1 p2 p3 p4 p5) (vF p0 p1 p2 p3 p4 p5)) (vF p0 p1 p2 p3 p4 p5)) (vF p0 p1 p2 p3 p4 p5)) (vF p0 p1 p2 p3 p4 p5)) (vF p0 p1 p2 p3 p4 p5))), (.int (f3 (vf p0 p1 p2 p3 p4 p5) (vt p0 p1 p2 p3 p4 p5) (vF p0 p1 p2 p3 p4 p5)))])) ?_ (fun t q => XS.iload X17.here hx rfl (hb hby at_155) rfl q)
  refine own_ite (fun hc157 => ?_) (fun hc157 => ?_)
  · refine own_st (T' := T17) (f' := (mkF m 160 #[.val (.int p0), .val (.int p1), .val (.int p2), .val (.int p3), .val (.int p4), .val (.int p5), .val (.ref b1), .val (.int (vf p0 p1 p2 p3 p4 p5)), .val (.int (vt p0 p1 p2 p3 p4 p5)), .val (.int (f2 (0 : Int32) (vf p0 p1 p2 p3 p4 p5) (vt p0 p1 p2 p3 p4 p5) (f2 (1 : Int32) (vf p0 p1 p2 p3 p4 p5) (vt p0 p1 p2 p3 p4 p5) (f2 (2 : Int32) (vf p0 p1 p2 p3 p4 p5) (vt p0 p1 p2 p3 p4 p5) (f2 (3 : Int32) (vf p0 p1 p2 p3 p4 p5) (vt p0 p1 p2 p3 p4 p5) (f2 (4 : Int32) (vf p0 p1 p2 p3 p4 p5) (vt p0 p1 p2 p3 p4 p5) (vt p0 p1 p2 p3 p4 p5) (vF p0 p1 p2 p3 p4 p5)) (vF p0 p1 p2 p3 p4 p5)) (vF p0 p1 p2 p3 p4 p5)) (vF p0 p1 p2 p3 p4 p5)) (vF p0 p1 p2 p3 p4 p5)))] [])) ?_ (fun t q => XS.icmpNo X17.here hx rfl (hb hby at_157) rfl (teq hc157).2 q)
    refine own_st (T' := T17) (f' := (mkF m 161 #[.val (.int p0), .val (.int p1), .val (.int p2), .val (.int p3), .val (.int p4), .val (.int p5), .val (.ref b1), .val (.int (vf p0 p1 p2 p3 p4 p5)), .val (.int (vt p0 p1 p2 p3 p4 p5)), .val (.int (f2 (0 : Int32) (vf p0 p1 p2 p3 p4 p5) (vt p0 p1 p2 p3 p4 p5) (f2 (1 : Int32) (vf p0 p1 p2 p3 p4 p5) (vt p0 p1 p2 p3 p4 p5) (f2 (2 : Int32) (vf p0 p1 p2 p3 p4 p5) (vt p0 p1 p2 p3 p4 p5) (f2 (3 : Int32) (vf p0 p1 p2 p3 p4 p5) (vt p0 p1 p2 p3 p4 p5) (f2 (4 : Int32) (vf p0 p1 p2 p3 p4 p5) (vt p0 p1 p2 p3 p4 p5) (vt p0 p1 p2 p3 p4 p5) (vF p0 p1 p2 p3 p4 p5)) (vF p0 p1 p2 p3 p4 p5)) (vF p0 p1 p2 p3 p4 p5)) (vF p0 p1 p2 p3 p4 p5)) (vF p0 p1 p2 p3 p4 p5)))] [(.int (1 : Int32))])) ?_ (fun t q => XS.iconst X17.here hx rfl (hb hby at_160) q)
    refine own_st (T' := T17) (f' := (mkF m 165 #[.val (.int p0), .val (.int p1), .val (.int p2), .val (.int p3), .val (.int p4), .val (.int p5), .val (.ref b1), .val (.int (vf p0 p1 p2 p3 p4 p5)), .val (.int (vt p0 p1 p2 p3 p4 p5)), .val (.int (f2 (0 : Int32) (vf p0 p1 p2 p3 p4 p5) (vt p0 p1 p2 p3 p4 p5) (f2 (1 : Int32) (vf p0 p1 p2 p3 p4 p5) (vt p0 p1 p2 p3 p4 p5) (f2 (2 : Int32) (vf p0 p1 p2 p3 p4 p5) (vt p0 p1 p2 p3 p4 p5) (f2 (3 : Int32) (vf p0 p1 p2 p3 p4 p5) (vt p0 p1 p2 p3 p4 p5) (f2 (4 : Int32) (vf p0 p1 p2 p3 p4 p5) (vt p0 p1 p2 p3 p4 p5) (vt p0 p1 p2 p3 p4 p5) (vF p0 p1 p2 p3 p4 p5)) (vF p0 p1 p2 p3 p4 p5)) (vF p0 p1 p2 p3 p4 p5)) (vF p0 p1 p2 p3 p4 p5)) (vF p0 p1 p2 p3 p4 p5)))] [(.int (1 : Int32))])) ?_ (fun t q => XS.goto X17.here hx rfl (pc0 := 161) (pc' := 165) rfl (hb hby at_161) (by decide) (by decide) q)
    exact own_retN X17 hx hlk (t := .boolean) Bd.returns (by simp) (hb hby at_165) (by decide) (by decide) ⟨rfl, N17, trivial⟩
  · refine own_st (T' := T17) (f' := (mkF m 164 #[.val (.int p0), .val (.int p1), .val (.int p2), .val (.int p3), .val (.int p4), .val (.int p5), .val (.ref b1), .val (.int (vf p0 p1 p2 p3 p4 p5)), .val (.int (vt p0 p1 p2 p3 p4 p5)), .val (.int (f2 (0 : Int32) (vf p0 p1 p2 p3 p4 p5) (vt p0 p1 p2 p3 p4 p5) (f2 (1 : Int32) (vf p0 p1 p2 p3 p4 p5) (vt p0 p1 p2 p3 p4 p5) (f2 (2 : Int32) (vf p0 p1 p2 p3 p4 p5) (vt p0 p1 p2 p3 p4 p5) (f2 (3 : Int32) (vf p0 p1 p2 p3 p4 p5) (vt p0 p1 p2 p3 p4 p5) (f2 (4 : Int32) (vf p0 p1 p2 p3 p4 p5) (vt p0 p1 p2 p3 p4 p5) (vt p0 p1 p2 p3 p4 p5) (vF p0 p1 p2 p3 p4 p5)) (vF p0 p1 p2 p3 p4 p5)) (vF p0 p1 p2 p3 p4 p5)) (vF p0 p1 p2 p3 p4 p5)) (vF p0 p1 p2 p3 p4 p5)))] [])) ?_ (fun t q => XS.icmpYes X17.here hx rfl (pc0 := 157) (pc' := 164) rfl (hb hby at_157) rfl (feq hc157).2 (by decide) (by decide) q)
    refine own_st (T' := T17) (f' := (mkF m 165 #[.val (.int p0), .val (.int p1), .val (.int p2), .val (.int p3), .val (.int p4), .val (.int p5), .val (.ref b1), .val (.int (vf p0 p1 p2 p3 p4 p5)), .val (.int (vt p0 p1 p2 p3 p4 p5)), .val (.int (f2 (0 : Int32) (vf p0 p1 p2 p3 p4 p5) (vt p0 p1 p2 p3 p4 p5) (f2 (1 : Int32) (vf p0 p1 p2 p3 p4 p5) (vt p0 p1 p2 p3 p4 p5) (f2 (2 : Int32) (vf p0 p1 p2 p3 p4 p5) (vt p0 p1 p2 p3 p4 p5) (f2 (3 : Int32) (vf p0 p1 p2 p3 p4 p5) (vt p0 p1 p2 p3 p4 p5) (f2 (4 : Int32) (vf p0 p1 p2 p3 p4 p5) (vt p0 p1 p2 p3 p4 p5) (vt p0 p1 p2 p3 p4 p5) (vF p0 p1 p2 p3 p4 p5)) (vF p0 p1 p2 p3 p4 p5)) (vF p0 p1 p2 p3 p4 p5)) (vF p0 p1 p2 p3 p4 p5)) (vF p0 p1 p2 p3 p4 p5)))] [(.int (0 : Int32))])) ?_ (fun t q => XS.iconst X17.here hx rfl (hb hby at_164) q)
    exact own_retN X17 hx hlk (t := .boolean) Bd.returns (by simp) (hb hby at_165) (by decide) (by decide) ⟨rfl, N17, trivial⟩

theorem own_dec (z : Int32) (h : 0 ≤ z.toInt ∧ z.toInt < 6) : z = 0 ∨ z = 1 ∨ z = 2 ∨ z = 3 ∨ z = 4 ∨ z = 5 := by
  simp only [← Int32.toInt_inj, Int32.reduceToInt]; omega
theorem own_step (p1 p2 : Int32) (F : Nat → Int32) (k : Nat) (i : Int32) : f3_2 p1 p2 F (k + 1) i = (if i < p2 then (if f4 (F i.toNatClampNeg) = 0 then i else f3_2 p1 p2 F k (i + 1)) else i) := by
  rw [f3_2]
  unfold f4
  by_cases h1 : F i.toNatClampNeg = 13
  · simp [h1]
  · by_cases h2 : F i.toNatClampNeg = 10
    · simp [h1, h2]
    · simp [h1, h2]
theorem own_last (p1 p2 : Int32) (F : Nat → Int32) (i : Int32) : f3_2 p1 p2 F 0 i = 0 := rfl
def own_chk (z w : Int32) (F : Nat → Int32) : Int32 := if f3 z w F = f2 0 z w (f2 1 z w (f2 2 z w (f2 3 z w (f2 4 z w w F) F) F) F) F then 1 else 0
theorem own_c_0_0 (F : Nat → Int32) : own_chk 0 0 F = 1 := by
  unfold own_chk
  simp [f2, f3, own_step, own_last]
theorem own_c_0_1 (F : Nat → Int32) : own_chk 0 1 F = 1 := by
  unfold own_chk
  by_cases q0 : f4 (F 0) = 0 <;> simp [f2, f3, own_step, own_last, q0]
theorem own_c_0_2 (F : Nat → Int32) : own_chk 0 2 F = 1 := by
  unfold own_chk
  by_cases q0 : f4 (F 0) = 0 <;> by_cases q1 : f4 (F 1) = 0 <;> simp [f2, f3, own_step, own_last, q0, q1]
theorem own_c_0_3 (F : Nat → Int32) : own_chk 0 3 F = 1 := by
  unfold own_chk
  by_cases q0 : f4 (F 0) = 0 <;> by_cases q1 : f4 (F 1) = 0 <;> by_cases q2 : f4 (F 2) = 0 <;> simp [f2, f3, own_step, own_last, q0, q1, q2]
theorem own_c_0_4 (F : Nat → Int32) : own_chk 0 4 F = 1 := by
  unfold own_chk
  by_cases q0 : f4 (F 0) = 0 <;> by_cases q1 : f4 (F 1) = 0 <;> by_cases q2 : f4 (F 2) = 0 <;> by_cases q3 : f4 (F 3) = 0 <;> simp [f2, f3, own_step, own_last, q0, q1, q2, q3]
theorem own_c_0_5 (F : Nat → Int32) : own_chk 0 5 F = 1 := by
  unfold own_chk
  by_cases q0 : f4 (F 0) = 0 <;> by_cases q1 : f4 (F 1) = 0 <;> by_cases q2 : f4 (F 2) = 0 <;> by_cases q3 : f4 (F 3) = 0 <;> by_cases q4 : f4 (F 4) = 0 <;> simp [f2, f3, own_step, own_last, q0, q1, q2, q3, q4]
theorem own_c_1_1 (F : Nat → Int32) : own_chk 1 1 F = 1 := by
  unfold own_chk
  simp [f2, f3, own_step, own_last]
theorem own_c_1_2 (F : Nat → Int32) : own_chk 1 2 F = 1 := by
  unfold own_chk
  by_cases q1 : f4 (F 1) = 0 <;> simp [f2, f3, own_step, own_last, q1]
theorem own_c_1_3 (F : Nat → Int32) : own_chk 1 3 F = 1 := by
  unfold own_chk
  by_cases q1 : f4 (F 1) = 0 <;> by_cases q2 : f4 (F 2) = 0 <;> simp [f2, f3, own_step, own_last, q1, q2]
theorem own_c_1_4 (F : Nat → Int32) : own_chk 1 4 F = 1 := by
  unfold own_chk
  by_cases q1 : f4 (F 1) = 0 <;> by_cases q2 : f4 (F 2) = 0 <;> by_cases q3 : f4 (F 3) = 0 <;> simp [f2, f3, own_step, own_last, q1, q2, q3]
theorem own_c_1_5 (F : Nat → Int32) : own_chk 1 5 F = 1 := by
  unfold own_chk
  by_cases q1 : f4 (F 1) = 0 <;> by_cases q2 : f4 (F 2) = 0 <;> by_cases q3 : f4 (F 3) = 0 <;> by_cases q4 : f4 (F 4) = 0 <;> simp [f2, f3, own_step, own_last, q1, q2, q3, q4]
theorem own_c_2_2 (F : Nat → Int32) : own_chk 2 2 F = 1 := by
  unfold own_chk
  simp [f2, f3, own_step, own_last]
theorem own_c_2_3 (F : Nat → Int32) : own_chk 2 3 F = 1 := by
  unfold own_chk
  by_cases q2 : f4 (F 2) = 0 <;> simp [f2, f3, own_step, own_last, q2]
theorem own_c_2_4 (F : Nat → Int32) : own_chk 2 4 F = 1 := by
  unfold own_chk
  by_cases q2 : f4 (F 2) = 0 <;> by_cases q3 : f4 (F 3) = 0 <;> simp [f2, f3, own_step, own_last, q2, q3]
theorem own_c_2_5 (F : Nat → Int32) : own_chk 2 5 F = 1 := by
  unfold own_chk
  by_cases q2 : f4 (F 2) = 0 <;> by_cases q3 : f4 (F 3) = 0 <;> by_cases q4 : f4 (F 4) = 0 <;> simp [f2, f3, own_step, own_last, q2, q3, q4]
theorem own_c_3_3 (F : Nat → Int32) : own_chk 3 3 F = 1 := by
  unfold own_chk
  simp [f2, f3, own_step, own_last]
theorem own_c_3_4 (F : Nat → Int32) : own_chk 3 4 F = 1 := by
  unfold own_chk
  by_cases q3 : f4 (F 3) = 0 <;> simp [f2, f3, own_step, own_last, q3]
theorem own_c_3_5 (F : Nat → Int32) : own_chk 3 5 F = 1 := by
  unfold own_chk
  by_cases q3 : f4 (F 3) = 0 <;> by_cases q4 : f4 (F 4) = 0 <;> simp [f2, f3, own_step, own_last, q3, q4]
theorem own_c_4_4 (F : Nat → Int32) : own_chk 4 4 F = 1 := by
  unfold own_chk
  simp [f2, f3, own_step, own_last]
theorem own_c_4_5 (F : Nat → Int32) : own_chk 4 5 F = 1 := by
  unfold own_chk
  by_cases q4 : f4 (F 4) = 0 <;> simp [f2, f3, own_step, own_last, q4]
theorem own_c_5_5 (F : Nat → Int32) : own_chk 5 5 F = 1 := by
  unfold own_chk
  simp [f2, f3, own_step, own_last]
theorem own_law (p0 p1 p2 p3 p4 p5 : Int32) : f0 p0 p1 p2 p3 p4 p5 = 1 := by
  have h1 := own_s p0 p1 p2 p3 p4 p5
  have h2 := own_e p0 p1 p2 p3 p4 p5
  have d1 := own_dec _ h1
  have d2 := own_dec _ (⟨by omega, h2.2⟩ : 0 ≤ (vt p0 p1 p2 p3 p4 p5).toInt ∧ (vt p0 p1 p2 p3 p4 p5).toInt < 6)
  show own_chk (vf p0 p1 p2 p3 p4 p5) (vt p0 p1 p2 p3 p4 p5) (vF p0 p1 p2 p3 p4 p5) = 1
  generalize vf p0 p1 p2 p3 p4 p5 = z at *
  generalize vt p0 p1 p2 p3 p4 p5 = w at *
  generalize vF p0 p1 p2 p3 p4 p5 = F
  rcases d1 with rfl | rfl | rfl | rfl | rfl | rfl
  · rcases d2 with rfl | rfl | rfl | rfl | rfl | rfl
    · exact own_c_0_0 F
    · exact own_c_0_1 F
    · exact own_c_0_2 F
    · exact own_c_0_3 F
    · exact own_c_0_4 F
    · exact own_c_0_5 F
  · rcases d2 with rfl | rfl | rfl | rfl | rfl | rfl
    · exact absurd h2.1 (by decide)
    · exact own_c_1_1 F
    · exact own_c_1_2 F
    · exact own_c_1_3 F
    · exact own_c_1_4 F
    · exact own_c_1_5 F
  · rcases d2 with rfl | rfl | rfl | rfl | rfl | rfl
    · exact absurd h2.1 (by decide)
    · exact absurd h2.1 (by decide)
    · exact own_c_2_2 F
    · exact own_c_2_3 F
    · exact own_c_2_4 F
    · exact own_c_2_5 F
  · rcases d2 with rfl | rfl | rfl | rfl | rfl | rfl
    · exact absurd h2.1 (by decide)
    · exact absurd h2.1 (by decide)
    · exact absurd h2.1 (by decide)
    · exact own_c_3_3 F
    · exact own_c_3_4 F
    · exact own_c_3_5 F
  · rcases d2 with rfl | rfl | rfl | rfl | rfl | rfl
    · exact absurd h2.1 (by decide)
    · exact absurd h2.1 (by decide)
    · exact absurd h2.1 (by decide)
    · exact absurd h2.1 (by decide)
    · exact own_c_4_4 F
    · exact own_c_4_5 F
  · rcases d2 with rfl | rfl | rfl | rfl | rfl | rfl
    · exact absurd h2.1 (by decide)
    · exact absurd h2.1 (by decide)
    · exact absurd h2.1 (by decide)
    · exact absurd h2.1 (by decide)
    · exact absurd h2.1 (by decide)
    · exact own_c_5_5 F
set_option maxRecDepth 65536 in
set_option maxHeartbeats 40000000 in
theorem comes_1 {Post : Tables → Env → Array Value → State → Outcome → State → Prop} (hpost : ∀ tb e args s v u, (limb_1_1.after args s (.returned v) u = true ∧ limb_1_2.after args s (.returned v) u = true ∧ True) → FrameEnd s (.returned v) u (Jvm.fieldLocs frame_1_writes args s ++ Jvm.arrayLocs frame_1_arrays args s ++ Jvm.staticLocs frame_1_statics s) 16 128 → Post tb e args s (.returned v) u) :
    ArmFor flags0 classFile x code maxLocals ret World_1 tables_1 room_1 Calls_1 rest_1 Pre_1 Post := by
  intro l hfl _ _ p e ha hc hk s m args below hf hA hF happ hP
  obtain ⟨hcalls, hrest, hpre⟩ := hP
  obtain ⟨-, -, -, hnamed, -, -, -, hat⟩ := (Spec.applies_iff hf).mp happ
  obtain ⟨hg, hn⟩ := and_e (Cond.before_iff.mp (show (Jvm.Cond.and given_1 narrow_1).before args s = true from hpre))
  obtain ⟨hcnt, g0⟩ := and_e hg
  obtain ⟨t0, g1⟩ := and_e g0
  obtain ⟨t1, g2⟩ := and_e g1
  obtain ⟨t2, g3⟩ := and_e g2
  obtain ⟨t3, g4⟩ := and_e g3
  obtain ⟨t4, g5⟩ := and_e g4
  have t5 := g5
  obtain ⟨w0, w1, w2, w3, w4, w5, rfl⟩ : ∃ w0 w1 w2 w3 w4 w5 : Value, args = #[w0, w1, w2, w3, w4, w5] := by
    have hs : args.size = 6 := by simpa [Cond.value, given_1] using hcnt
    obtain ⟨L⟩ := args
    match L, hs with
    | [w0, w1, w2, w3, w4, w5], _ => exact ⟨w0, w1, w2, w3, w4, w5, rfl⟩
  have hw := fun d (hd : d ∈ tables_1) => atoms_spec (ws := Jvm.Cond.code x code maxLocals ret :: tables_1) hat d (List.mem_cons_of_mem _ hd)
  obtain ⟨i0, ei0⟩ := is_v t0
  obtain rfl : w0 = (.int i0) := Option.some.inj ei0
  obtain ⟨i1, ei1⟩ := is_v t1
  obtain rfl : w1 = (.int i1) := Option.some.inj ei1
  obtain ⟨i2, ei2⟩ := is_v t2
  obtain rfl : w2 = (.int i2) := Option.some.inj ei2
  obtain ⟨i3, ei3⟩ := is_v t3
  obtain rfl : w3 = (.int i3) := Option.some.inj ei3
  obtain ⟨i4, ei4⟩ := is_v t4
  obtain rfl : w4 = (.int i4) := Option.some.inj ei4
  obtain ⟨i5, ei5⟩ := is_v t5
  obtain rfl : w5 = (.int i5) := Option.some.inj ei5
  obtain ⟨n, o, h1, h2, h3, v, L, rfl, ⟨hv, N, -⟩, hq⟩ := rm0 l s _ hw tables_1 i0 i1 i2 i3 i4 i5 s.heap s.heap.size (Nat.le_refl _) p e ha hc hk s m _ below hf ((Spec.applies_iff_loose hf).mp happ).1 ⟨rfl, State.Warmed39.refl s, rfl⟩ trivial
  obtain rfl : v = some (.int 1) := by rw [hv, own_law]
  refine ⟨n, _, h1, h2, h3, hpost _ _ _ _ _ _ ⟨Cond.after_iff.mpr rfl, Cond.after_iff.mpr (eq_i res_at (Term.int_eval (1)) rfl), trivial⟩ ⟨hq.1, hq.2.1, (hq.2.2.sift fun y hy => Or.inr (N y hy)).mono (by decide) (by decide)⟩⟩
theorem main_1_1 : Claimed_1_1 := comes_1 fun _ _ _ _ _ _ h hF => ⟨h.1, hF⟩
theorem main_1_2 : Claimed_1_2 := comes_1 fun _ _ _ _ _ _ h hF => ⟨h.2.1, hF⟩
end Jvm.Pilot.@@N@@
namespace Jvm.Pilot.@@N@@
open Jvm Jvm.ClassFile Sem Op Lib Jvm.Free Jvm.Stand Jvm.Pilot.@@N@@.Jvm.D
/-! MADE BY PROGRAM (witnessworld.py) out of the Statement's table words and the real class files: 9 classes; the members and pool entries that the words name. The judged class is class 1, her method 4. -/
namespace start1
open Jvm.ClassFile
def u (s : String) : CpInfo := .utf8 (stringToUtf16 s)
/-- a pool by its gaps: so many unusable entries, then the entry; so many at the end -/
def gap : Nat → List CpInfo → List CpInfo
  | 0, r => r
  | n + 1, r => .unusable :: gap n r
def poolList (es : List (Nat × CpInfo)) (last : Nat) : List CpInfo := es.foldr (fun e r => gap e.1 (e.2 :: r)) (gap last [])
def pool (es : List (Nat × CpInfo)) (last : Nat) : Array CpInfo := ⟨poolList es last⟩
def fileOf (pool : Array CpInfo) (this : Nat) (attrs : Array Attribute := #[]) (ms : Array MethodInfo := #[]) (fl : Nat := 33) (sup : Nat := 0) (ifs : Array Nat := #[]) (fds : Array FieldInfo := #[]) : ClassFile where
  minorVersion := 0
  majorVersion := 65
  constantPool := pool
  accessFlags := fl
  thisClass := this
  superClass := sup
  interfaces := ifs
  fields := fds
  methods := ms
  attributes := attrs
def plain (name : String) (sup : Option ClassId) : Class where
  name := name
  kind := .ordinary
  loader := none
  accessFlags := 33
  super := sup
  interfaces := #[]
  cf := none
  fields := #[]
  methods := #[]
  instanceTypes := #[]
  staticTypes := #[]
  resolved := #[]
  callSites := []
  init := .initialized
  statics := none
  mirror := none

def pool0 : Array CpInfo := pool [(5, u "<init>"), (0, u "()V"), (1, .class_ 10), (1, u "java/lang/Object")] 113

def k0m0 : Method := { name := "<init>", desc := "()V", sig := { parameters := [], returnType := none }, accessFlags := 1, code := none }
/-- java/lang/Object -/
def k0 : Class := { plain "java/lang/Object" none with
  accessFlags := 33
  interfaces := #[]
  cf := some (fileOf pool0 8 #[] #[{ accessFlags := 1, nameIndex := 5, descriptorIndex := 6, attributes := #[] }] 33 0 #[] #[])
  fields := #[]
  methods := #[k0m0]
  instanceTypes := #[]
  staticTypes := #[]
  resolved := Array.replicate 124 none
  statics := none }

def pool1 : Array CpInfo := pool [(2, .class_ 4), (1, u "java/lang/Object"), (0, u "<init>"), (0, u "()V"), (0, .methodref 8 9), (0, .class_ 10), (0, .nameAndType 11 12), (0, u "com/example/lease/lease/http/RequestHeadStartPinLaw"), (0, u "blank"), (0, u "(B)Z"), (0, .methodref 8 14), (0, .nameAndType 15 16), (0, u "pick"), (0, u "(I)B"), (0, .integer 2147483647), (0, .methodref 8 19), (0, .nameAndType 20 21), (0, u "cand"), (0, u "([BIIII)I"), (0, .methodref 23 24), (0, .class_ 25), (0, .nameAndType 26 27), (0, u "com/example/lease/lease/http/RequestHead"), (0, u "start"), (0, u "([BII)I"), (3, u "law"), (0, u "(IIIIII)Z")] 4

def k1m0 : Method := { name := "<init>", desc := "()V", sig := { parameters := [], returnType := none }, accessFlags := 1, code := none }
def k1c1 : Code := { maxStack := 2, maxLocals := 2, code := method_2_code, exceptionTable := #[], attributes := #[] }
def k1m1 : Method := { name := "pick", desc := "(I)B", sig := { parameters := [.int], returnType := some .byte }, accessFlags := 10, code := some k1c1 }
def k1c2 : Code := { maxStack := 2, maxLocals := 1, code := method_3_code, exceptionTable := #[], attributes := #[] }
def k1m2 : Method := { name := "blank", desc := "(B)Z", sig := { parameters := [.byte], returnType := some .boolean }, accessFlags := 10, code := some k1c2 }
def k1c3 : Code := { maxStack := 2, maxLocals := 5, code := method_4_code, exceptionTable := #[], attributes := #[] }
def k1m3 : Method := { name := "cand", desc := "([BIIII)I", sig := { parameters := [(.array .byte), .int, .int, .int, .int], returnType := some .int }, accessFlags := 10, code := some k1c3 }
def k1c4 : Code := { maxStack := 5, maxLocals := 10, code := code, exceptionTable := #[], attributes := #[] }
def k1m4 : Method := { name := "law", desc := "(IIIIII)Z", sig := { parameters := [.int, .int, .int, .int, .int, .int], returnType := some .boolean }, accessFlags := 9, code := some k1c4 }
/-- com/example/lease/lease/http/RequestHeadStartPinLaw -/
def k1 : Class := { plain "com/example/lease/lease/http/RequestHeadStartPinLaw" (some 0) with
  accessFlags := 49
  interfaces := #[]
  cf := some (fileOf pool1 8 #[] #[{ accessFlags := 1, nameIndex := 5, descriptorIndex := 6, attributes := #[] }, { accessFlags := 10, nameIndex := 15, descriptorIndex := 16, attributes := #[] }, { accessFlags := 10, nameIndex := 11, descriptorIndex := 12, attributes := #[] }, { accessFlags := 10, nameIndex := 20, descriptorIndex := 21, attributes := #[] }, { accessFlags := 9, nameIndex := 31, descriptorIndex := 32, attributes := #[] }] 49 2 #[] #[])
  fields := #[]
  methods := #[k1m0, k1m1, k1m2, k1m3, k1m4]
  instanceTypes := #[]
  staticTypes := #[]
  resolved := Array.replicate 37 none
  statics := none }

def pool2 : Array CpInfo := pool [(2, .class_ 4), (1, u "java/lang/Object"), (3, .class_ 10), (1, u "com/example/lease/lease/http/RequestHead"), (0, u "method"), (0, u "Ljava/lang/String;"), (2, u "rawPath"), (2, u "rawQuery"), (2, u "http10"), (0, u "Z"), (2, u "fields"), (0, u "Ljava/util/Map;"), (2, u "bodyLength"), (0, u "J"), (9, u "([BII)I"), (238, u "TOKEN"), (0, u "[Z"), (12, u "BAD_REQUEST"), (0, u "I"), (2, u "NOT_IMPLEMENTED"), (1, u "VERSION_NOT_SUPPORTED"), (6, u "start")] 59

def k2c0 : Code := { maxStack := 2, maxLocals := 4, code := prog_87_method_2_code, exceptionTable := #[], attributes := #[] }
def k2m0 : Method := { name := "start", desc := "([BII)I", sig := { parameters := [(.array .byte), .int, .int], returnType := some .int }, accessFlags := 8, code := some k2c0 }
/-- com/example/lease/lease/http/RequestHead -/
def k2 : Class := { plain "com/example/lease/lease/http/RequestHead" (some 0) with
  accessFlags := 48
  interfaces := #[]
  cf := some (fileOf pool2 8 #[] #[{ accessFlags := 8, nameIndex := 306, descriptorIndex := 40, attributes := #[] }] 48 2 #[] #[{ accessFlags := 26, nameIndex := 293, descriptorIndex := 294, attributes := #[] }, { accessFlags := 26, nameIndex := 297, descriptorIndex := 294, attributes := #[] }, { accessFlags := 26, nameIndex := 299, descriptorIndex := 294, attributes := #[] }, { accessFlags := 26, nameIndex := 279, descriptorIndex := 280, attributes := #[] }, { accessFlags := 18, nameIndex := 11, descriptorIndex := 12, attributes := #[] }, { accessFlags := 18, nameIndex := 15, descriptorIndex := 12, attributes := #[] }, { accessFlags := 18, nameIndex := 18, descriptorIndex := 12, attributes := #[] }, { accessFlags := 18, nameIndex := 21, descriptorIndex := 22, attributes := #[] }, { accessFlags := 18, nameIndex := 25, descriptorIndex := 26, attributes := #[] }, { accessFlags := 18, nameIndex := 29, descriptorIndex := 30, attributes := #[] }])
  fields := #[{ name := "BAD_REQUEST", type := .int, accessFlags := 26, slot := 0, constantValue := 0 }, { name := "NOT_IMPLEMENTED", type := .int, accessFlags := 26, slot := 1, constantValue := 0 }, { name := "VERSION_NOT_SUPPORTED", type := .int, accessFlags := 26, slot := 2, constantValue := 0 }, { name := "TOKEN", type := (.array .boolean), accessFlags := 26, slot := 3, constantValue := 0 }, { name := "method", type := (.object "java/lang/String"), accessFlags := 18, slot := 0, constantValue := 0 }, { name := "rawPath", type := (.object "java/lang/String"), accessFlags := 18, slot := 1, constantValue := 0 }, { name := "rawQuery", type := (.object "java/lang/String"), accessFlags := 18, slot := 2, constantValue := 0 }, { name := "http10", type := .boolean, accessFlags := 18, slot := 3, constantValue := 0 }, { name := "fields", type := (.object "java/util/Map"), accessFlags := 18, slot := 4, constantValue := 0 }, { name := "bodyLength", type := .long, accessFlags := 18, slot := 5, constantValue := 0 }]
  methods := #[k2m0]
  instanceTypes := #[(.object "java/lang/String"), (.object "java/lang/String"), (.object "java/lang/String"), .boolean, (.object "java/util/Map"), .long]
  staticTypes := #[.int, .int, .int, (.array .boolean)]
  resolved := Array.replicate 366 none
  statics := none }

def pool3 : Array CpInfo := pool [(1, u "java/lang/Cloneable"), (0, .class_ 1), (0, u "java/lang/Object"), (0, .class_ 3)] 3

/-- java/lang/Cloneable -/
def k3 : Class := { plain "java/lang/Cloneable" (some 0) with
  accessFlags := 1537
  interfaces := #[]
  cf := some (fileOf pool3 2 #[] #[] 1537 4 #[] #[])
  fields := #[]
  methods := #[]
  instanceTypes := #[]
  staticTypes := #[]
  resolved := Array.replicate 8 none
  statics := none }

def pool4 : Array CpInfo := pool [(1, u "java/io/Serializable"), (0, .class_ 1), (0, u "java/lang/Object"), (0, .class_ 3)] 3

/-- java/io/Serializable -/
def k4 : Class := { plain "java/io/Serializable" (some 0) with
  accessFlags := 1537
  interfaces := #[]
  cf := some (fileOf pool4 2 #[] #[] 1537 4 #[] #[])
  fields := #[]
  methods := #[]
  instanceTypes := #[]
  staticTypes := #[]
  resolved := Array.replicate 8 none
  statics := none }

/-- the primitive byte -/
def k5 : Class := { plain "byte" none with kind := .primitive 'B', accessFlags := 0x411 }
/-- [B -/
def k6 : Class := { plain "[B" (some 0) with kind := .array 5 .byte, interfaces := #[3, 4], accessFlags := 1041 }

/-- the primitive int -/
def k7 : Class := { plain "int" none with kind := .primitive 'I', accessFlags := 0x411 }
/-- [I -/
def k8 : Class := { plain "[I" (some 0) with kind := .array 7 .int, interfaces := #[3, 4], accessFlags := 1041 }

def heap : Heap := #[]
def classes : Array Class := #[k0, k1, k2, k3, k4, k5, k6, k7, k8]
def interned : List (Array UInt16 × Addr) := []
def slotsUsed : Nat := 0
def theMethod : MethodId := ⟨1, 4⟩
def args0 : Array Value := #[.int 5, .int 5, .int 5, .int 5, .int 5, .int 5]
def aboutOver (below : List Frame) : State where
  vm := { classes := classes, interned := interned.toArray }
  heap := heap
  slotsUsed := slotsUsed
  threads := #[{ frames := .invoking theMethod args0 :: below }]
def below0 : List Frame := [.native { method := ⟨0, 0⟩, args := #[] }]
def about1 : State := aboutOver below0
def p0 : Program := .bare "" "" ""
def e0 : Env := launch0.env 0 0 0
theorem w_frames : about1.frames = Frame.invoking theMethod args0 :: below0 := rfl
set_option maxRecDepth 65536 in
theorem w_args : argsFit about1.vm theMethod args0 = true := by decide +kernel
set_option maxRecDepth 65536 in
theorem w_heap : heapFits about1 = true := by decide +kernel
set_option maxRecDepth 65536 in
theorem w_runnable : about1.curStatus? = some .runnable := by decide +kernel
set_option maxRecDepth 65536 in
theorem w_alone : about1.alone = true := by decide +kernel
set_option maxRecDepth 65536 in
theorem w_named : about1.methodNamed? x = some theMethod := by decide +kernel
set_option maxRecDepth 65536 in
theorem w_hears : about1.hears theMethod below0 = true := by decide +kernel
set_option maxRecDepth 65536 in
theorem w_ripe : about1.ripe theMethod args0 below0 = true := by decide +kernel
theorem w_running : about1.status = .running := rfl
set_option maxRecDepth 65536 in
theorem w_room : about1.hasRoom e0.platform room_1 = true :=
  launch0.hasRoom_least _ room_1 (by decide +kernel) (by decide +kernel) (by decide +kernel) (by decide +kernel) (by decide +kernel) (by decide +kernel)
theorem allAtoms_all (ts : List Jvm.Cond) (a : Array Jvm.Value) (st : Jvm.State) : (allAtoms ts).before a st = ts.all (fun c => c.before a st) := by
  induction ts with
  | nil => rfl
  | cons c t ih =>
    show (Jvm.Cond.and c (allAtoms t)).before a st = _
    rw [Jvm.Cond.before_and, ih, List.all_cons]
def words1 : List Jvm.Cond := Jvm.Cond.code x code maxLocals ret :: tables_1
/-- a 'code' word, met by the world's own term for the bytes: nothing is compared byte by byte -/
theorem code_word {y : MethodName} {bytes : ByteArray} {mx : Nat} {rt : Option FieldType} {a : Array Value} {s : State} {m : MethodId} {meth : Method} {c : Code} (h1 : s.methodNamed? y = some m) (h2 : s.vm.method? m = some meth) (h3 : meth.code = some c) (h4 : c.code = bytes)
    (h5 : (c.maxLocals == mx && c.exceptionTable.isEmpty && decide (c.maxStack ≤ mostOperands) && decide (meth.sig.returnType = rt) && !meth.locks && decide (parseMethodDescriptor y.desc = some meth.sig)) = true) : (Jvm.Cond.code y bytes mx rt).before a s = true := by
  simp only [Bool.and_eq_true, beq_iff_eq, Bool.not_eq_true', decide_eq_true_eq] at h5
  obtain ⟨⟨⟨⟨⟨g1, g2⟩, g3⟩, g4⟩, g5⟩, g6⟩ := h5
  simp [Cond.before, Cond.holds, Cond.value, h1, h2, h3, h4, g1, g2, g3, g4, g5, g6]
def isCode : Jvm.Cond → Bool
  | .code _ _ _ _ => true
  | _ => false
theorem all_split {L : List Jvm.Cond} {P : Jvm.Cond → Bool} (h1 : L.all (fun c => isCode c || P c) = true) (h2 : ∀ c ∈ L.filter isCode, P c = true) : L.all P = true := by
  refine List.all_eq_true.mpr fun c hc => ?_
  have h := List.all_eq_true.mp h1 c hc
  rcases Bool.eq_false_or_eq_true (isCode c) with hi | hi
  · exact h2 c (List.mem_filter.mpr ⟨hc, hi⟩)
  · simpa [hi] using h
set_option maxRecDepth 65536 in
theorem w_c0 : (Jvm.Cond.code x code maxLocals ret).before args0 about1 = true := code_word (m := ⟨1, 4⟩) (meth := k1m4) (c := k1c4) (by decide +kernel) rfl rfl rfl (by decide +kernel)
set_option maxRecDepth 65536 in
theorem w_c1 : (Jvm.Cond.code ({ cls := "com/example/lease/lease/http/RequestHeadStartPinLaw", name := "pick", desc := "(I)B" } : Jvm.MethodName) method_2_code (2 : Nat) (Option.some Jvm.ClassFile.FieldType.byte)).before args0 about1 = true := code_word (m := ⟨1, 1⟩) (meth := k1m1) (c := k1c1) (by decide +kernel) rfl rfl rfl (by decide +kernel)
set_option maxRecDepth 65536 in
theorem w_c2 : (Jvm.Cond.code ({ cls := "com/example/lease/lease/http/RequestHeadStartPinLaw", name := "cand", desc := "([BIIII)I" } : Jvm.MethodName) method_4_code (5 : Nat) (Option.some Jvm.ClassFile.FieldType.int)).before args0 about1 = true := code_word (m := ⟨1, 3⟩) (meth := k1m3) (c := k1c3) (by decide +kernel) rfl rfl rfl (by decide +kernel)
set_option maxRecDepth 65536 in
theorem w_c3 : (Jvm.Cond.code ({ cls := "com/example/lease/lease/http/RequestHead", name := "start", desc := "([BII)I" } : Jvm.MethodName) prog_87_method_2_code (4 : Nat) (Option.some Jvm.ClassFile.FieldType.int)).before args0 about1 = true := code_word (m := ⟨2, 0⟩) (meth := k2m0) (c := k2c0) (by decide +kernel) rfl rfl rfl (by decide +kernel)
set_option maxRecDepth 65536 in
theorem w_c4 : (Jvm.Cond.code ({ cls := "com/example/lease/lease/http/RequestHeadStartPinLaw", name := "blank", desc := "(B)Z" } : Jvm.MethodName) method_3_code (1 : Nat) (Option.some Jvm.ClassFile.FieldType.boolean)).before args0 about1 = true := code_word (m := ⟨1, 2⟩) (meth := k1m2) (c := k1c2) (by decide +kernel) rfl rfl rfl (by decide +kernel)
def codes1 : List Jvm.Cond := [Jvm.Cond.code x code maxLocals ret, Jvm.Cond.code ({ cls := "com/example/lease/lease/http/RequestHeadStartPinLaw", name := "pick", desc := "(I)B" } : Jvm.MethodName) method_2_code (2 : Nat) (Option.some Jvm.ClassFile.FieldType.byte), Jvm.Cond.code ({ cls := "com/example/lease/lease/http/RequestHeadStartPinLaw", name := "cand", desc := "([BIIII)I" } : Jvm.MethodName) method_4_code (5 : Nat) (Option.some Jvm.ClassFile.FieldType.int), Jvm.Cond.code ({ cls := "com/example/lease/lease/http/RequestHead", name := "start", desc := "([BII)I" } : Jvm.MethodName) prog_87_method_2_code (4 : Nat) (Option.some Jvm.ClassFile.FieldType.int), Jvm.Cond.code ({ cls := "com/example/lease/lease/http/RequestHeadStartPinLaw", name := "blank", desc := "(B)Z" } : Jvm.MethodName) method_3_code (1 : Nat) (Option.some Jvm.ClassFile.FieldType.boolean)]
set_option maxRecDepth 65536 in
theorem codes_eq : words1.filter isCode = codes1 := rfl
theorem w_codes : ∀ c ∈ words1.filter isCode, c.before args0 about1 = true := by
  rw [codes_eq]
  intro c hc
  simp only [codes1, List.mem_cons, List.not_mem_nil, or_false] at hc
  rcases hc with rfl | rfl | rfl | rfl | rfl
  · exact w_c0
  · exact w_c1
  · exact w_c2
  · exact w_c3
  · exact w_c4
set_option maxRecDepth 65536 in
theorem w_t1 : words1.all (fun c => isCode c || c.before args0 about1) = true := by decide +kernel
theorem w_tables : (allAtoms (Jvm.Cond.code x code maxLocals ret :: tables_1)).before args0 about1 = true := by
  rw [allAtoms_all]
  show words1.all (fun c => c.before args0 about1) = true
  refine all_split ?_ w_codes
  rw [w_t1]
set_option maxRecDepth 65536 in
theorem w_case : (Jvm.Cond.and given_1 narrow_1).before args0 about1 = true := by decide +kernel
theorem w_applies : (headSpec (Jvm.Cond.code x code maxLocals ret :: tables_1) room_1).applies x e0.platform about1 = true :=
  (Spec.applies_iff w_frames).mpr ⟨w_running, w_runnable, w_alone, w_named, w_hears, w_ripe, w_room, w_tables⟩
theorem atStart : AtStart classFile x code maxLocals ret World_1 tables_1 room_1 Calls_1 rest_1 Pre_1 launch0 p0 e0 about1 theMethod args0 below0 :=
  ⟨lists_1, trivial, launch0.admits_env _ _ _, launch0.least_env, fairChoices_fair.cas, fairChoices_fair.clock, w_frames, w_args, w_heap, w_applies, trivial, trivial, w_case⟩
end start1
theorem witness_1 : WitnessClaimed_1 := ⟨start1.p0, start1.e0, start1.about1, start1.theMethod, start1.args0, start1.below0, start1.atStart⟩
end Jvm.Pilot.@@N@@
