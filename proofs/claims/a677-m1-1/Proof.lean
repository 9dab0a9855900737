import JvmDerived
import JvmDerived.Pilot.@@N@@Statement
import JvmDerived.Pilot.@@N@@Code
set_option linter.unusedVariables false
set_option linter.unusedSimpArgs false
@@BLOCK:NumsL.lean.txt@@
namespace Jvm.Pilot.@@N@@
open Jvm Jvm.ClassFile Sem Op Lib Jvm.Free Jvm.Stand Jvm.LawKit Jvm.RoadKit Bundle Jvm.Pilot.@@N@@.Jvm.D
section OwnKit
variable {p : Program} {l : Launch} {e : Env} {R : Room} {s : State} {m : MethodId} {args : Array Value} {below : List Frame} {meth : Method} {c : Code} {T T' : State} {locs : List Loc} {cells slots : Nat}
/-- from here the body comes to its end and leaves what Q says -/
def own_W (p : Program) (e : Env) (below : List Frame) (s : State) (k n : Nat) (Q : Option Value → Heap → List Loc → Prop) (T : State) (f : JFrame) : Prop :=
  ∃ s₂ o, Steps p.tables e below (T.setTop f) s₂ ∧ s₂.status = .running ∧ Ended s₂ below o ∧ ∃ v L, o = .returned v ∧ Q v s₂.heap L ∧ FrameEnd s o s₂ L k n
theorem own_st {k n : Nat} {Q : Option Value → Heap → List Loc → Prop} {f f' : JFrame} (w : own_W p e below s k n Q T' f') (h : ∀ t, Steps p.tables e below (T'.setTop f') t → Steps p.tables e below (T.setTop f) t) : own_W p e below s k n Q T f := by
  obtain ⟨s₂, o, h1, r⟩ := w
  exact ⟨s₂, o, h _ h1, r⟩
theorem own_to {k n : Nat} {Q : Option Value → Heap → List Loc → Prop} {f f' : JFrame} (q : f = f') (w : own_W p e below s k n Q T f') : own_W p e below s k n Q T f := q ▸ w
theorem own_ite {k n : Nat} {α : Type} {G : α → Option Value → Heap → List Loc → Prop} {f : JFrame} {A : Prop} [Decidable A] {x y : α} (h1 : A → own_W p e below s k n (G x) T f) (h2 : ¬ A → own_W p e below s k n (G y) T f) : own_W p e below s k n (G (if A then x else y)) T f := by
  by_cases q : A
  · rw [if_pos q]; exact h1 q
  · rw [if_neg q]; exact h2 q
/-- an int is returned, nothing old is written, the heap is as P says -/
def own_GI (n0 : Nat) (P : Heap → Prop) (r : Int32) (v : Option Value) (h : Heap) (L : List Loc) : Prop := v = some (.int r) ∧ Fr n0 L ∧ P h
def own_GJ (n0 : Nat) (P : Heap → Prop) (r : Int64) (v : Option Value) (h : Heap) (L : List Loc) : Prop := v = some (.long r) ∧ Fr n0 L ∧ P h
theorem own_retI {k n : Nat} {Q : Option Value → Heap → List Loc → Prop} (X : Stand p l e R s m args below meth c T locs cells slots) (hx : p.tables.exec = Jvm.exec) (hlk : meth.locks = false) (hret : meth.sig.returnType = some .int) {pc : Nat} {Ls : Array Slot} {z : Int32} {rest : List Value} (hd : decode c.code pc = .ok (.ireturn, 1)) (hk : cells ≤ k) (hn : slots ≤ n) (q : Q (some (.int z)) T.heap locs) : own_W p e below s k n Q T (mkF m pc Ls (.int z :: rest)) := by
  obtain ⟨fs, hr, hrun, hended, hW, hsame⟩ := X.leave (v := some (.int z)) (fun h => by rw [hret] at h; cases h) hlk
  exact ⟨_, _, retOut X hx hret rfl (Or.inl ⟨rfl, Or.inl rfl, z, rfl⟩) hd hr, hrun, hended, _, _, rfl, q, ⟨_, rfl⟩, hW, hsame.mono hk hn⟩
theorem own_retN {k n : Nat} {Q : Option Value → Heap → List Loc → Prop} (X : Stand p l e R s m args below meth c T locs cells slots) (hx : p.tables.exec = Jvm.exec) (hlk : meth.locks = false) {t : FieldType} (hret : meth.sig.returnType = some t) (ht : t = .boolean ∨ t = .byte ∨ t = .char ∨ t = .short) {pc : Nat} {Ls : Array Slot} {z : Int32} {rest : List Value} (hd : decode c.code pc = .ok (.ireturn, 1)) (hk : cells ≤ k) (hn : slots ≤ n) (q : Q (some (.int (nar t z))) T.heap locs) : own_W p e below s k n Q T (mkF m pc Ls (.int z :: rest)) := by
  obtain ⟨fs, hr, hrun, hended, hW, hsame⟩ := X.leave (v := some (.int (nar t z))) (fun h => by rw [hret] at h; cases h) hlk
  exact ⟨_, _, retN X hx hret ht hd hr, hrun, hended, _, _, rfl, q, ⟨_, rfl⟩, hW, hsame.mono hk hn⟩
theorem own_retJ {k n : Nat} {Q : Option Value → Heap → List Loc → Prop} (X : Stand p l e R s m args below meth c T locs cells slots) (hx : p.tables.exec = Jvm.exec) (hlk : meth.locks = false) (hret : meth.sig.returnType = some .long) {pc : Nat} {Ls : Array Slot} {z : Int64} {rest : List Value} (hd : decode c.code pc = .ok (.lreturn, 1)) (hk : cells ≤ k) (hn : slots ≤ n) (q : Q (some (.long z)) T.heap locs) : own_W p e below s k n Q T (mkF m pc Ls (.long z :: rest)) := by
  obtain ⟨fs, hr, hrun, hended, hW, hsame⟩ := X.leave (v := some (.long z)) (fun h => by rw [hret] at h; cases h) hlk
  exact ⟨_, _, retOut X hx hret rfl (Or.inr (Or.inl ⟨rfl, rfl, z, rfl⟩)) hd hr, hrun, hended, _, _, rfl, q, ⟨_, rfl⟩, hW, hsame.mono hk hn⟩
theorem own_retA {k n : Nat} {Q : Option Value → Heap → List Loc → Prop} (X : Stand p l e R s m args below meth c T locs cells slots) (hx : p.tables.exec = Jvm.exec) (hlk : meth.locks = false) {t : FieldType} (hret : meth.sig.returnType = some t) (ht : t.isReference = true) {pc : Nat} {Ls : Array Slot} {z : Addr} {rest : List Value} (hn' : narrow t (.ref z) = .ref z) (hd : decode c.code pc = .ok (.areturn, 1)) (hk : cells ≤ k) (hn : slots ≤ n) (q : Q (some (.ref z)) T.heap locs) : own_W p e below s k n Q T (mkF m pc Ls (.ref z :: rest)) := by
  obtain ⟨fs, hr, hrun, hended, hW, hsame⟩ := X.leave (v := some (.ref z)) (fun h => by rw [hret] at h; cases h) hlk
  exact ⟨_, _, retOut X hx hret hn' (Or.inr (Or.inr (Or.inr (Or.inr ⟨rfl, ht, rfl⟩)))) hd hr, hrun, hended, _, _, rfl, q, ⟨_, rfl⟩, hW, hsame.mono hk hn⟩
theorem own_retV {k n : Nat} {Q : Option Value → Heap → List Loc → Prop} (X : Stand p l e R s m args below meth c T locs cells slots) (hx : p.tables.exec = Jvm.exec) (hlk : meth.locks = false) (hret : meth.sig.returnType = none) {pc : Nat} {Ls : Array Slot} (hd : decode c.code pc = .ok (.return_, 1)) (hk : cells ≤ k) (hn : slots ≤ n) (q : Q none T.heap locs) : own_W p e below s k n Q T (mkF m pc Ls []) := by
  obtain ⟨fs, hr, hrun, hended, hW, hsame⟩ := X.leave (v := none) (fun _ => rfl) hlk
  exact ⟨_, _, X.returnOut hx hret hd hr, hrun, hended, _, _, rfl, q, ⟨_, rfl⟩, hW, hsame.mono hk hn⟩
end OwnKit
section OwnNums
theorem own_rem {x y : Int32} (hx : 0 ≤ x.toInt) (hy : 0 < y.toInt) : (x - (x / y) * y).toInt = x.toInt % y.toInt := by
  have hd : (x / y).toInt = x.toInt.tdiv y.toInt := Jvm.Kit.i32_div (by omega)
  rw [Int.tdiv_eq_ediv_of_nonneg hx] at hd
  have hxl := Int32.toInt_lt x
  have h1 : y.toInt * (x.toInt / y.toInt) + x.toInt % y.toInt = x.toInt := Int.mul_ediv_add_emod x.toInt y.toInt
  have h2 := Int.emod_nonneg x.toInt (by omega : y.toInt ≠ 0)
  have h3 := Int.emod_lt_of_pos x.toInt hy
  have h4 : (x / y).toInt * y.toInt = x.toInt - x.toInt % y.toInt := by rw [hd, Int.mul_comm]; omega
  have h6 := Int.mul_nonneg (Int.le_of_lt hy) (Int.ediv_nonneg hx (Int.le_of_lt hy))
  have h5 : x.toInt % y.toInt ≤ x.toInt := by omega
  have hm : ((x / y) * y).toInt = x.toInt - x.toInt % y.toInt := by
    rw [Jvm.Kit.i32_mul (by omega) (by omega), h4]
  rw [Jvm.Kit.i32_sub (by omega) (by omega), hm]; omega
theorem own_and31 (x : Int32) : (x &&& (2147483647 : Int32)).toInt = x.toInt % 2147483648 := Jvm.Kit.i32_mask x 2147483647 (k := 31) (by decide) (by decide)
theorem own_i8 (x : Int32) : -128 ≤ (x.toInt8.toInt32).toInt ∧ (x.toInt8.toInt32).toInt < 128 := by
  rw [Int8.toInt_toInt32]
  have h1 := Int8.le_toInt x.toInt8
  have h2 := Int8.toInt_lt x.toInt8
  omega
end OwnNums
section OwnArr
variable {p : Program} {l : Launch} {e : Env} {R : Room} {s : State} {m : MethodId} {args : Array Value} {below : List Frame} {meth : Method} {c : Code} {T T' : State} {locs : List Loc} {cells slots : Nat} {Z : State} {h h' : Heap} {a b : Addr} {n : Nat} {f : Nat → Int32} {ty : FieldType}
/-- an array of n places whose i-th holds f i -/
def own_A (Z : State) (h : Heap) (a : Addr) (ty : FieldType) (n : Nat) (f : Nat → Int32) : Prop := ∃ c : Cell, Arr Z h a c ty ∧ c.slots.size = n ∧ ∀ i, i < n → c.slots[i]? = some (.int (f i))
def own_up (f : Nat → Int32) (j : Nat) (x : Int32) : Nat → Int32 := fun i => if i = j then x else f i
def own_in (j : Int32) (n : Nat) : Prop := ¬ j < 0 ∧ j.toNatClampNeg < n
theorem own_A.lt (A : own_A Z h a ty n f) : a < h.size := by obtain ⟨c, A, -⟩ := A; exact A.lt
theorem own_A.ext (A : own_A Z h a ty n f) (E : Ext h h') : own_A Z h' a ty n f := by obtain ⟨c, A, r⟩ := A; exact ⟨c, A.ext E, r⟩
theorem own_A.keep {ws : List Addr} (A : own_A Z h a ty n f) (K : Keep h h' ws) (q : a ∉ ws) : own_A Z h' a ty n f := by obtain ⟨c, A, r⟩ := A; exact ⟨c, ⟨K.2.1 a c A.1 q, A.2⟩, r⟩
theorem own_A.eq (A : own_A Z h a ty n f) (q : h' = h) : own_A Z h' a ty n f := q ▸ A
theorem own_A.set {j : Nat} {x : Int32} (A : own_A Z h a ty n f) (W : Wr h h' a j (.int x)) : own_A Z h' a ty n (own_up f j x) := by
  obtain ⟨cl, Ar, S, H⟩ := A
  refine ⟨_, Ar.same W, by rw [sz_set]; exact S, fun i hi => ?_⟩
  show (cl.slots.setIfInBounds j (.int x))[i]? = _
  unfold own_up
  by_cases q : i = j
  · subst q
    rw [if_pos rfl, Array.getElem?_setIfInBounds_self_of_lt (by omega)]
  · rw [if_neg q, Array.getElem?_setIfInBounds_ne (fun z => q z.symm)]; exact H i hi
theorem own_bald {k n' : Nat} {Q : Option Value → Heap → List Loc → Prop} (X : Stand p l e R s m args below meth c T locs cells slots) (hx : p.tables.exec = Jvm.exec) (hZ : Z.Warmed39 s.vm) (A : own_A Z T.heap a .byte n f) {j : Int32} (hj : own_in j n) {pc : Nat} {Ls : Array Slot} {rest : List Value} (hd : decode c.code pc = .ok (.baload, 1)) (w : own_W p e below s k n' Q T (mkF m (pc + 1) Ls (.int (f j.toNatClampNeg) :: rest))) : own_W p e below s k n' Q T (mkF m pc Ls (.int j :: .ref a :: rest)) := by
  obtain ⟨cl, Ar, S, H⟩ := A
  refine own_st w (fun t q => X.baloadBytes hx (j := j) (v := .int (f j.toNatClampNeg)) Ar.1 (State.isArrayOf_alike hZ.alike Ar.2.1) Ar.2.2 (fun u => u.elim hj.1 (fun u => absurd hj.2 (by omega))) (H _ hj.2) (g := mkF m pc Ls (.int j :: .ref a :: rest)) rfl rfl hd _ q)
theorem own_iald {k n' : Nat} {Q : Option Value → Heap → List Loc → Prop} (X : Stand p l e R s m args below meth c T locs cells slots) (hx : p.tables.exec = Jvm.exec) (hZ : Z.Warmed39 s.vm) (A : own_A Z T.heap a .int n f) {j : Int32} (hj : own_in j n) {pc : Nat} {Ls : Array Slot} {rest : List Value} (hd : decode c.code pc = .ok (.iaload, 1)) (w : own_W p e below s k n' Q T (mkF m (pc + 1) Ls (.int (f j.toNatClampNeg) :: rest))) : own_W p e below s k n' Q T (mkF m pc Ls (.int j :: .ref a :: rest)) := by
  obtain ⟨cl, Ar, S, H⟩ := A
  refine own_st w (fun t q => X.iaload hx (j := j) (v := .int (f j.toNatClampNeg)) Ar.1 (State.isArrayOf_alike hZ.alike Ar.2.1) Ar.2.2 (fun u => u.elim hj.1 (fun u => absurd hj.2 (by omega))) (H _ hj.2) (g := mkF m pc Ls (.int j :: .ref a :: rest)) rfl rfl hd _ q)
theorem own_alen {k n' : Nat} {Q : Option Value → Heap → List Loc → Prop} (X : Stand p l e R s m args below meth c T locs cells slots) (hx : p.tables.exec = Jvm.exec) (hZ : Z.Warmed39 s.vm) (A : own_A Z T.heap a ty n f) {pc : Nat} {Ls : Array Slot} {rest : List Value} (hd : decode c.code pc = .ok (.arraylength, 1)) (w : own_W p e below s k n' Q T (mkF m (pc + 1) Ls (.int (Int32.ofNat n) :: rest))) : own_W p e below s k n' Q T (mkF m pc Ls (.ref a :: rest)) := by
  obtain ⟨cl, Ar, S, H⟩ := A
  subst S
  exact own_st w (fun t q => X.arraylength hx (cell := cl) Ar.1 (State.isArrayOf_alike hZ.alike Ar.2.1) (g := mkF m pc Ls (.ref a :: rest)) rfl (rest := rest) rfl hd _ q)
theorem own_bast {k n' : Nat} {Q : Option Value → Heap → List Loc → Prop} (X : Stand p l e R s m args below meth c T locs cells slots) (hx : p.tables.exec = Jvm.exec) (hZ : Z.Warmed39 s.vm) (A : own_A Z T.heap a .byte n f) {j x : Int32} (hj : own_in j n) {pc : Nat} {Ls : Array Slot} {rest : List Value} (hd : decode c.code pc = .ok (.bastore, 1)) {n0 : Nat} (N : Fr n0 locs) (g : n0 ≤ a)
    (w : ∀ (T' : State) (locs' : List Loc), Stand p l e R s m args below meth c T' locs' cells slots → Fr n0 locs' → Keep T.heap T'.heap [a] → own_A Z T'.heap a .byte n (own_up f j.toNatClampNeg (nar .byte x)) → own_W p e below s k n' Q T' (mkF m (pc + 1) Ls rest)) : own_W p e below s k n' Q T (mkF m pc Ls (.int x :: .int j :: .ref a :: rest)) := by
  obtain ⟨cl, Ar, S, H⟩ := A
  obtain ⟨T', h', X', e', W', st⟩ := stB X hx hZ rfl Ar (j := j) (x := x) (fun u => u.elim hj.1 (fun u => absurd hj.2 (by omega))) (g := mkF m pc Ls (.int x :: .int j :: .ref a :: rest)) rfl rfl hd
  subst e'
  exact own_st (w T' _ X' (Fr.snoc X' N g) (Keep.of_wr W') (own_A.set ⟨cl, Ar, S, H⟩ W')) (fun t q => st _ q)
theorem own_iast {k n' : Nat} {Q : Option Value → Heap → List Loc → Prop} (X : Stand p l e R s m args below meth c T locs cells slots) (hx : p.tables.exec = Jvm.exec) (hZ : Z.Warmed39 s.vm) (A : own_A Z T.heap a .int n f) {j x : Int32} (hj : own_in j n) {pc : Nat} {Ls : Array Slot} {rest : List Value} (hd : decode c.code pc = .ok (.iastore, 1)) {n0 : Nat} (N : Fr n0 locs) (g : n0 ≤ a)
    (w : ∀ (T' : State) (locs' : List Loc), Stand p l e R s m args below meth c T' locs' cells slots → Fr n0 locs' → Keep T.heap T'.heap [a] → own_A Z T'.heap a .int n (own_up f j.toNatClampNeg x) → own_W p e below s k n' Q T' (mkF m (pc + 1) Ls rest)) : own_W p e below s k n' Q T (mkF m pc Ls (.int x :: .int j :: .ref a :: rest)) := by
  obtain ⟨cl, Ar, S, H⟩ := A
  obtain ⟨T', h', X', e', W', st⟩ := stI X hx hZ rfl Ar (j := j) (x := x) (fun u => u.elim hj.1 (fun u => absurd hj.2 (by omega))) (g := mkF m pc Ls (.int x :: .int j :: .ref a :: rest)) rfl rfl hd
  subst e'
  exact own_st (w T' _ X' (Fr.snoc X' N g) (Keep.of_wr W') (own_A.set ⟨cl, Ar, S, H⟩ W')) (fun t q => st _ q)
theorem own_newB {k n' : Nat} {Q : Option Value → Heap → List Loc → Prop} {a0 : Array Value} (X : Stand p l e R s m args below meth c T locs cells slots) (hx : p.tables.exec = Jvm.exec) (hZ : Z.Warmed39 s.vm) (wd : (Jvm.Cond.arrayClass .byte).before a0 Z = true) {z : Int32} (hz : ¬ z < 0) {cap : Nat} (hcap : z.toNatClampNeg ≤ cap) (hb8 : cap * 8 ≤ 536870912) (hc : cells + 1 ≤ R.cells) (hl : slots + cap ≤ R.slots) {pc : Nat} {Ls : Array Slot} {rest : List Value} (hd : decode c.code pc = .ok (.newarray .byte, 2))
    (w : ∀ (T' : State) (b : Addr), Stand p l e R s m args below meth c T' locs (cells + 1) (slots + cap) → T.heap.size ≤ b → Ext T.heap T'.heap → own_A Z T'.heap b .byte z.toNatClampNeg (fun _ => 0) → own_W p e below s k n' Q T' (mkF m (pc + 2) Ls (.ref b :: rest))) : own_W p e below s k n' Q T (mkF m pc Ls (.int z :: rest)) := by
  obtain ⟨T', h', cA, X', e', E', A', st⟩ := newP X hx hZ (aty := .byte) wd rfl (g := mkF m pc Ls (.int z :: rest)) rfl hd rfl hz hcap hb8 hc hl
  subst e'
  refine own_st (w T' _ X' (Nat.le_refl _) E' ⟨_, A', sz_new _ _ _, fun i hi => ?_⟩) (fun t q => st _ q)
  show (Array.replicate z.toNatClampNeg (defaultValue .byte))[i]? = _
  simp [hi]; rfl
theorem own_newI {k n' : Nat} {Q : Option Value → Heap → List Loc → Prop} {a0 : Array Value} (X : Stand p l e R s m args below meth c T locs cells slots) (hx : p.tables.exec = Jvm.exec) (hZ : Z.Warmed39 s.vm) (wd : (Jvm.Cond.arrayClass .int).before a0 Z = true) {z : Int32} (hz : ¬ z < 0) {cap : Nat} (hcap : z.toNatClampNeg ≤ cap) (hb8 : cap * 8 ≤ 536870912) (hc : cells + 1 ≤ R.cells) (hl : slots + cap ≤ R.slots) {pc : Nat} {Ls : Array Slot} {rest : List Value} (hd : decode c.code pc = .ok (.newarray .int, 2))
    (w : ∀ (T' : State) (b : Addr), Stand p l e R s m args below meth c T' locs (cells + 1) (slots + cap) → T.heap.size ≤ b → Ext T.heap T'.heap → own_A Z T'.heap b .int z.toNatClampNeg (fun _ => 0) → own_W p e below s k n' Q T' (mkF m (pc + 2) Ls (.ref b :: rest))) : own_W p e below s k n' Q T (mkF m pc Ls (.int z :: rest)) := by
  obtain ⟨T', h', cA, X', e', E', A', st⟩ := newP X hx hZ (aty := .int) wd rfl (g := mkF m pc Ls (.int z :: rest)) rfl hd rfl hz hcap hb8 hc hl
  subst e'
  refine own_st (w T' _ X' (Nat.le_refl _) E' ⟨_, A', sz_new _ _ _, fun i hi => ?_⟩) (fun t q => st _ q)
  show (Array.replicate z.toNatClampNeg (defaultValue .int))[i]? = _
  simp [hi]; rfl
end OwnArr
section OwnIdx
theorem own_idx {j e : Int32} {n : Nat} (h0 : ¬ j < 0) (h : j < e) (he : e.toNatClampNeg ≤ n) : own_in j n := by
  refine ⟨h0, ?_⟩
  simp only [Int32.lt_iff_toInt_lt, Int32.toNatClampNeg, Int32.reduceToInt] at *
  omega
theorem own_inc {i e : Int32} (h : i < e) : (i + 1).toInt = i.toInt + 1 := by
  have h1 := Int32.toInt_lt e
  have h2 := Int32.le_toInt i
  have k : (1 : Int32).toInt = 1 := rfl
  rw [Int32.lt_iff_toInt_lt] at h
  rw [Jvm.Kit.i32_add (by omega) (by omega), k]
theorem own_back {i e : Int32} {k : Nat} (h : i < e) (hk : (e.toInt - i.toInt).toNat < k + 1) : (e.toInt - (i + 1).toInt).toNat < k := by
  rw [own_inc h]
  rw [Int32.lt_iff_toInt_lt] at h
  omega
theorem own_nn {i e : Int32} (h : i < e) (h0 : ¬ i < 0) : ¬ (i + 1) < 0 := by
  have k : (0 : Int32).toInt = 0 := rfl
  rw [Int32.lt_iff_toInt_lt, k] at h0 ⊢
  rw [own_inc h]
  omega
end OwnIdx
section OwnIdx2
theorem own_ge {z k : Int32} {j : Nat} (h : ¬ z < k) (hk : k.toInt = j + 1) : j < z.toNatClampNeg := by
  rw [Int32.lt_iff_toInt_lt] at h
  rw [Int32.toNatClampNeg]; omega
theorem own_ofN {n : Nat} (h : n < 2147483648) : (Int32.ofNat n).toInt = n := Int32.toInt_ofNat_of_lt (by omega)
theorem own_ofC {n : Nat} (h : n < 2147483648) : (Int32.ofNat n).toNatClampNeg = n := by rw [Int32.toNatClampNeg, own_ofN h]; omega
theorem own_cof {z : Int32} (h : 0 ≤ z.toInt) : Int32.ofNat z.toNatClampNeg = z := by
  have h2 := Int32.toInt_lt z
  apply Int32.toInt_inj.mp
  rw [Int32.toNatClampNeg, own_ofN (by omega)]; omega
abbrev own_r (p d : Int32) : Int32 := (p &&& (2147483647 : Int32)) - ((p &&& (2147483647 : Int32)) / d) * d
theorem own_rb (p d : Int32) (hd : 0 < d.toInt) : 0 ≤ (own_r p d).toInt ∧ (own_r p d).toInt < d.toInt := by
  have h : (own_r p d).toInt = (p.toInt % 2147483648) % d.toInt := by
    rw [own_rem (by rw [own_and31]; omega) hd, own_and31]
  rw [h]
  exact ⟨Int.emod_nonneg _ (by omega), Int.emod_lt_of_pos _ hd⟩
end OwnIdx2
section OwnLong
variable {p : Program} {l : Launch} {e : Env} {R : Room} {s : State} {m : MethodId} {args : Array Value} {below : List Frame} {meth : Method} {c : Code} {T T' : State} {locs : List Loc} {cells slots : Nat} {Z : State} {h h' : Heap} {a b : Addr} {n : Nat} {ty : FieldType}
/-- an array of n places -/
def own_L (Z : State) (h : Heap) (a : Addr) (ty : FieldType) (n : Nat) : Prop := ∃ c : Cell, Arr Z h a c ty ∧ c.slots.size = n
theorem own_L.lt (A : own_L Z h a ty n) : a < h.size := by obtain ⟨c, A, -⟩ := A; exact A.lt
theorem own_L.ext (A : own_L Z h a ty n) (E : Ext h h') : own_L Z h' a ty n := by obtain ⟨c, A, r⟩ := A; exact ⟨c, A.ext E, r⟩
theorem own_L.keep {ws : List Addr} (A : own_L Z h a ty n) (K : Keep h h' ws) (q : a ∉ ws) : own_L Z h' a ty n := by obtain ⟨c, A, r⟩ := A; exact ⟨c, ⟨K.2.1 a c A.1 q, A.2⟩, r⟩
theorem own_L.eq (A : own_L Z h a ty n) (q : h' = h) : own_L Z h' a ty n := q ▸ A
theorem own_alenL {k n' : Nat} {Q : Option Value → Heap → List Loc → Prop} (X : Stand p l e R s m args below meth c T locs cells slots) (hx : p.tables.exec = Jvm.exec) (hZ : Z.Warmed39 s.vm) (A : own_L Z T.heap a ty n) {pc : Nat} {Ls : Array Slot} {rest : List Value} (hd : decode c.code pc = .ok (.arraylength, 1)) (w : own_W p e below s k n' Q T (mkF m (pc + 1) Ls (.int (Int32.ofNat n) :: rest))) : own_W p e below s k n' Q T (mkF m pc Ls (.ref a :: rest)) := by
  obtain ⟨cl, Ar, S⟩ := A
  subst S
  exact own_st w (fun t q => X.arraylength hx (cell := cl) Ar.1 (State.isArrayOf_alike hZ.alike Ar.2.1) (g := mkF m pc Ls (.ref a :: rest)) rfl (rest := rest) rfl hd _ q)
theorem own_last {k n' : Nat} {Q : Option Value → Heap → List Loc → Prop} (X : Stand p l e R s m args below meth c T locs cells slots) (hx : p.tables.exec = Jvm.exec) (hZ : Z.Warmed39 s.vm) (A : own_L Z T.heap a .long n) {j : Int32} {x : Int64} (hj : own_in j n) {pc : Nat} {Ls : Array Slot} {rest : List Value} (hd : decode c.code pc = .ok (.lastore, 1)) {n0 : Nat} (N : Fr n0 locs) (g : n0 ≤ a)
    (w : ∀ (T' : State) (locs' : List Loc), Stand p l e R s m args below meth c T' locs' cells slots → Fr n0 locs' → Keep T.heap T'.heap [a] → own_L Z T'.heap a .long n → own_W p e below s k n' Q T' (mkF m (pc + 1) Ls rest)) : own_W p e below s k n' Q T (mkF m pc Ls (.long x :: .int j :: .ref a :: rest)) := by
  obtain ⟨cl, Ar, S⟩ := A
  obtain ⟨T', h', X', e', W', st⟩ := stJ X hx hZ rfl Ar (j := j) (x := x) (fun u => u.elim hj.1 (fun u => absurd hj.2 (by omega))) (g := mkF m pc Ls (.long x :: .int j :: .ref a :: rest)) rfl rfl hd
  subst e'
  exact own_st (w T' _ X' (Fr.snoc X' N g) (Keep.of_wr W') ⟨_, Ar.same W', by rw [sz_set]; exact S⟩) (fun t q => st _ q)
theorem own_newJ {k n' : Nat} {Q : Option Value → Heap → List Loc → Prop} {a0 : Array Value} (X : Stand p l e R s m args below meth c T locs cells slots) (hx : p.tables.exec = Jvm.exec) (hZ : Z.Warmed39 s.vm) (wd : (Jvm.Cond.arrayClass .long).before a0 Z = true) {z : Int32} (hz : ¬ z < 0) {cap : Nat} (hcap : z.toNatClampNeg ≤ cap) (hb8 : cap * 8 ≤ 536870912) (hc : cells + 1 ≤ R.cells) (hl : slots + cap ≤ R.slots) {pc : Nat} {Ls : Array Slot} {rest : List Value} (hd : decode c.code pc = .ok (.newarray .long, 2))
    (w : ∀ (T' : State) (b : Addr), Stand p l e R s m args below meth c T' locs (cells + 1) (slots + cap) → T.heap.size ≤ b → Ext T.heap T'.heap → own_L Z T'.heap b .long z.toNatClampNeg → own_W p e below s k n' Q T' (mkF m (pc + 2) Ls (.ref b :: rest))) : own_W p e below s k n' Q T (mkF m pc Ls (.int z :: rest)) := by
  obtain ⟨T', h', cA, X', e', E', A', st⟩ := newP X hx hZ (aty := .long) wd rfl (g := mkF m pc Ls (.int z :: rest)) rfl hd rfl hz hcap hb8 hc hl
  subst e'
  exact own_st (w T' _ X' (Nat.le_refl _) E' ⟨_, A', sz_new _ _ _⟩) (fun t q => st _ q)
end OwnLong
theorem d1_0 : decode method_2_code 0 = .ok (.iload_n 0, 1) := by decide +kernel
theorem d1_1 : decode method_2_code 1 = .ok (.ifCond .ne 5, 3) := by decide +kernel
theorem d1_4 : decode method_2_code 4 = .ok (.lload_n 1, 1) := by decide +kernel
theorem d1_5 : decode method_2_code 5 = .ok (.lreturn, 1) := by decide +kernel
theorem d1_6 : decode method_2_code 6 = .ok (.iload_n 0, 1) := by decide +kernel
theorem d1_7 : decode method_2_code 7 = .ok (.iconst 1, 1) := by decide +kernel
theorem d1_8 : decode method_2_code 8 = .ok (.if_icmp .ne 7, 3) := by decide +kernel
theorem d1_11 : decode method_2_code 11 = .ok (.ldc2_w 7, 3) := by decide +kernel
theorem d1_14 : decode method_2_code 14 = .ok (.lreturn, 1) := by decide +kernel
theorem d1_15 : decode method_2_code 15 = .ok (.iload_n 0, 1) := by decide +kernel
theorem d1_16 : decode method_2_code 16 = .ok (.iconst 2, 1) := by decide +kernel
theorem d1_17 : decode method_2_code 17 = .ok (.if_icmp .ne 5, 3) := by decide +kernel
theorem d1_20 : decode method_2_code 20 = .ok (.lconst 0, 1) := by decide +kernel
theorem d1_21 : decode method_2_code 21 = .ok (.lreturn, 1) := by decide +kernel
theorem d1_22 : decode method_2_code 22 = .ok (.iload_n 0, 1) := by decide +kernel
theorem d1_23 : decode method_2_code 23 = .ok (.iconst 3, 1) := by decide +kernel
theorem d1_24 : decode method_2_code 24 = .ok (.if_icmp .ne 5, 3) := by decide +kernel
theorem d1_27 : decode method_2_code 27 = .ok (.lconst 1, 1) := by decide +kernel
theorem d1_28 : decode method_2_code 28 = .ok (.lreturn, 1) := by decide +kernel
theorem d1_29 : decode method_2_code 29 = .ok (.iload_n 0, 1) := by decide +kernel
theorem d1_30 : decode method_2_code 30 = .ok (.iconst 4, 1) := by decide +kernel
theorem d1_31 : decode method_2_code 31 = .ok (.if_icmp .ne 7, 3) := by decide +kernel
theorem d1_34 : decode method_2_code 34 = .ok (.lload_n 3, 1) := by decide +kernel
theorem d1_35 : decode method_2_code 35 = .ok (.lconst 1, 1) := by decide +kernel
theorem d1_36 : decode method_2_code 36 = .ok (.lsub, 1) := by decide +kernel
theorem d1_37 : decode method_2_code 37 = .ok (.lreturn, 1) := by decide +kernel
theorem d1_38 : decode method_2_code 38 = .ok (.iload_n 0, 1) := by decide +kernel
theorem d1_39 : decode method_2_code 39 = .ok (.iconst 5, 1) := by decide +kernel
theorem d1_40 : decode method_2_code 40 = .ok (.if_icmp .ne 5, 3) := by decide +kernel
theorem d1_43 : decode method_2_code 43 = .ok (.lload_n 3, 1) := by decide +kernel
theorem d1_44 : decode method_2_code 44 = .ok (.lreturn, 1) := by decide +kernel
theorem d1_45 : decode method_2_code 45 = .ok (.iload_n 0, 1) := by decide +kernel
theorem d1_46 : decode method_2_code 46 = .ok (.bipush 6, 2) := by decide +kernel
theorem d1_48 : decode method_2_code 48 = .ok (.if_icmp .ne 7, 3) := by decide +kernel
theorem d1_51 : decode method_2_code 51 = .ok (.lload_n 3, 1) := by decide +kernel
theorem d1_52 : decode method_2_code 52 = .ok (.lconst 1, 1) := by decide +kernel
theorem d1_53 : decode method_2_code 53 = .ok (.ladd, 1) := by decide +kernel
theorem d1_54 : decode method_2_code 54 = .ok (.lreturn, 1) := by decide +kernel
theorem d1_55 : decode method_2_code 55 = .ok (.ldc2_w 11, 3) := by decide +kernel
theorem d1_58 : decode method_2_code 58 = .ok (.lreturn, 1) := by decide +kernel
theorem pn_1 : plainFor (⟨"com/example/bitfold/bitfold/array/RunsIsRangePinLaw", "pickFrom", "(IJJ)J"⟩ : MethodName) = true := by first | exact plainFor_of_name (by first | (simp [plainName, overriddenIn]; done) | decide +kernel) | decide +kernel
theorem ef_1 (m : MethodId) (x0 : Int32) (x1 : Int64) (x2 : Int64) : entryFrame m #[(.int x0), (.long x1), (.long x2)] 5 = mkF m 0 #[.val (.int x0), .val (.long x1), .second, .val (.long x2), .second] [] := by first | (simp [entryFrame, mkF, argsToLocals, Value.category, maxLocals]; done) | rfl
def f1 (p0 : Int32) (w1 : Int64) (w2 : Int64) : Int64 := (if p0 = (0 : Int32) then w1 else (if p0 = (1 : Int32) then (-1 : Int64) else (if p0 = (2 : Int32) then (0 : Int64) else (if p0 = (3 : Int32) then (1 : Int64) else (if p0 = (4 : Int32) then (w2 - (1 : Int64)) else (if p0 = (5 : Int32) then w2 else (if p0 = (6 : Int32) then (w2 + (1 : Int64)) else (-9223372036854775808 : Int64))))))))
set_option maxRecDepth 65536 in
set_option maxHeartbeats 40000000 in
theorem rm1 (l : Launch) (Z : State) (a0 : Array Value) (hw : ∀ d ∈ tables_1, d.before a0 Z = true) (ws : List Jvm.Cond) (p0 : Int32) (w1 : Int64) (w2 : Int64) (h0 : Heap) (n0 : Nat) :
    MetFree l (⟨"com/example/bitfold/bitfold/array/RunsIsRangePinLaw", "pickFrom", "(IJJ)J"⟩ : MethodName) (head1 (Jvm.Cond.code (⟨"com/example/bitfold/bitfold/array/RunsIsRangePinLaw", "pickFrom", "(IJJ)J"⟩ : MethodName) method_2_code 5 (some .long) :: ws) ({ frames := 0, cells := 0, slots := 0, locals := 0 } : Room)) (fun a U => a = #[(.int p0), (.long w1), (.long w2)] ∧ Z.Warmed39 U.vm ∧ U.heap = h0) (fun _ _ _ _ _ => True) (fun _ U o U' => ∃ v L, o = .returned v ∧ own_GJ n0 (fun h => h = h0) (f1 p0 w1 w2) v U'.heap L ∧ FrameEnd U o U' L ({ frames := 0, cells := 0, slots := 0, locals := 0 } : Room).cells ({ frames := 0, cells := 0, slots := 0, locals := 0 } : Room).slots) := by
  refine MetFree.of_bodySF pn_1 hisR ?_
  intro p e s m args below meth c s₁ Bd hml0 hP hK
  obtain ⟨rfl, hZ, hh⟩ := hP
  have hx := Bd.exec
  have hby := Bd.bytes
  have hml : c.maxLocals = 5 := hml0
  have hown : s.vm.findClass "com/example/bitfold/bitfold/array/RunsIsRangePinLaw" = some m.cls := findClass_of_methodNamed Bd.named
  have hlk : meth.locks = false := BodyLoose.notSynchronized Bd
  have X0 : Stand p l e ({ frames := 0, cells := 0, slots := 0, locals := 0 } : Room) s m #[(.int p0), (.long w1), (.long w2)] below meth c s₁ [] 0 0 := Stand.of_body Bd
  have e0 : s₁.heap = h0 := by rw [← hh, Bd.state]; rfl
  have N0 := Fr.nil n0
  show own_W p e below s 0 0 (own_GJ n0 (fun h => h = h0) (f1 p0 w1 w2)) s₁ (entryFrame m #[(.int p0), (.long w1), (.long w2)] 5)
  refine own_to (ef_1 m p0 w1 w2) ?_
  unfold f1
  refine own_st (T' := s₁) (f' := (mkF m 1 #[.val (.int p0), .val (.long w1), .second, .val (.long w2), .second] [(.int p0)])) ?_ (fun t q => XS.iloadN X0.here hx rfl (hb hby d1_0) rfl q)
  refine own_ite (fun hc1 => ?_) (fun hc1 => ?_)
  · refine own_st (T' := s₁) (f' := (mkF m 4 #[.val (.int p0), .val (.long w1), .second, .val (.long w2), .second] [])) ?_ (fun t q => XS.ifNo X0.here hx rfl (hb hby d1_1) rfl ((if0 _ _).trans (teq hc1).2) q)
    refine own_st (T' := s₁) (f' := (mkF m 5 #[.val (.int p0), .val (.long w1), .second, .val (.long w2), .second] [(.long w1)])) ?_ (fun t q => XS.lloadN X0.here hx rfl (hb hby d1_4) rfl q)
    exact own_retJ X0 hx hlk Bd.returns (hb hby d1_5) (by decide) (by decide) ⟨rfl, N0, e0⟩
  · refine own_st (T' := s₁) (f' := (mkF m 6 #[.val (.int p0), .val (.long w1), .second, .val (.long w2), .second] [])) ?_ (fun t q => XS.ifYes X0.here hx rfl (pc0 := 1) (pc' := 6) rfl (hb hby d1_1) rfl ((if0 _ _).trans (feq hc1).2) (by decide) (by decide) q)
    refine own_st (T' := s₁) (f' := (mkF m 7 #[.val (.int p0), .val (.long w1), .second, .val (.long w2), .second] [(.int p0)])) ?_ (fun t q => XS.iloadN X0.here hx rfl (hb hby d1_6) rfl q)
    refine own_st (T' := s₁) (f' := (mkF m 8 #[.val (.int p0), .val (.long w1), .second, .val (.long w2), .second] [(.int (1 : Int32)), (.int p0)])) ?_ (fun t q => XS.iconst X0.here hx rfl (hb hby d1_7) q)
    refine own_ite (fun hc8 => ?_) (fun hc8 => ?_)
    · refine own_st (T' := s₁) (f' := (mkF m 11 #[.val (.int p0), .val (.long w1), .second, .val (.long w2), .second] [])) ?_ (fun t q => XS.icmpNo X0.here hx rfl (hb hby d1_8) rfl (teq hc8).2 q)
      refine own_st (T' := s₁) (f' := (mkF m 14 #[.val (.int p0), .val (.long w1), .second, .val (.long w2), .second] [(.long (-1 : Int64))])) ?_ (fun t q => X0.ldc2Long hx hown (mvT hZ (hw _ (List.mem_of_getElem? (i := 13) rfl))) (g := (mkF m 11 #[.val (.int p0), .val (.long w1), .second, .val (.long w2), .second] [])) rfl (hb hby d1_11) _ q)
      exact own_retJ X0 hx hlk Bd.returns (hb hby d1_14) (by decide) (by decide) ⟨rfl, N0, e0⟩
    · refine own_st (T' := s₁) (f' := (mkF m 15 #[.val (.int p0), .val (.long w1), .second, .val (.long w2), .second] [])) ?_ (fun t q => XS.icmpYes X0.here hx rfl (pc0 := 8) (pc' := 15) rfl (hb hby d1_8) rfl (feq hc8).2 (by decide) (by decide) q)
      refine own_st (T' := s₁) (f' := (mkF m 16 #[.val (.int p0), .val (.long w1), .second, .val (.long w2), .second] [(.int p0)])) ?_ (fun t q => XS.iloadN X0.here hx rfl (hb hby d1_15) rfl q)
      refine own_st (T' := s₁) (f' := (mkF m 17 #[.val (.int p0), .val (.long w1), .second, .val (.long w2), .second] [(.int (2 : Int32)), (.int p0)])) ?_ (fun t q => XS.iconst X0.here hx rfl (hb hby d1_16) q)
      refine own_ite (fun hc17 => ?_) (fun hc17 => ?_)
      · refine own_st (T' := s₁) (f' := (mkF m 20 #[.val (.int p0), .val (.long w1), .second, .val (.long w2), .second] [])) ?_ (fun t q => XS.icmpNo X0.here hx rfl (hb hby d1_17) rfl (teq hc17).2 q)
        refine own_st (T' := s₁) (f' := (mkF m 21 #[.val (.int p0), .val (.long w1), .second, .val (.long w2), .second] [(.long (0 : Int64))])) ?_ (fun t q => XS.lconst X0.here hx rfl (hb hby d1_20) q)
        exact own_retJ X0 hx hlk Bd.returns (hb hby d1_21) (by decide) (by decide) ⟨rfl, N0, e0⟩
      · refine own_st (T' := s₁) (f' := (mkF m 22 #[.val (.int p0), .val (.long w1), .second, .val (.long w2), .second] [])) ?_ (fun t q => XS.icmpYes X0.here hx rfl (pc0 := 17) (pc' := 22) rfl (hb hby d1_17) rfl (feq hc17).2 (by decide) (by decide) q)
        refine own_st (T' := s₁) (f' := (mkF m 23 #[.val (.int p0), .val (.long w1), .second, .val (.long w2), .second] [(.int p0)])) ?_ (fun t q => XS.iloadN X0.here hx rfl (hb hby d1_22) rfl q)
        refine own_st (T' := s₁) (f' := (mkF m 24 #[.val (.int p0), .val (.long w1), .second, .val (.long w2), .second] [(.int (3 : Int32)), (.int p0)])) ?_ (fun t q => XS.iconst X0.here hx rfl (hb hby d1_23) q)
        refine own_ite (fun hc24 => ?_) (fun hc24 => ?_)
        · refine own_st (T' := s₁) (f' := (mkF m 27 #[.val (.int p0), .val (.long w1), .second, .val (.long w2), .second] [])) ?_ (fun t q => XS.icmpNo X0.here hx rfl (hb hby d1_24) rfl (teq hc24).2 q)
          refine own_st (T' := s₁) (f' := (mkF m 28 #[.val (.int p0), .val (.long w1), .second, .val (.long w2), .second] [(.long (1 : Int64))])) ?_ (fun t q => XS.lconst X0.here hx rfl (hb hby d1_27) q)
          exact own_retJ X0 hx hlk Bd.returns (hb hby d1_28) (by decide) (by decide) ⟨rfl, N0, e0⟩
        · refine own_st (T' := s₁) (f' := (mkF m 29 #[.val (.int p0), .val (.long w1), .second, .val (.long w2), .second] [])) ?_ (fun t q => XS.icmpYes X0.here hx rfl (pc0 := 24) (pc' := 29) rfl (hb hby d1_24) rfl (feq hc24).2 (by decide) (by decide) q)
          refine own_st (T' := s₁) (f' := (mkF m 30 #[.val (.int p0), .val (.long w1), .second, .val (.long w2), .second] [(.int p0)])) ?_ (fun t q => XS.iloadN X0.here hx rfl (hb hby d1_29) rfl q)
          refine own_st (T' := s₁) (f' := (mkF m 31 #[.val (.int p0), .val (.long w1), .second, .val (.long w2), .second] [(.int (4 : Int32)), (.int p0)])) ?_ (fun t q => XS.iconst X0.here hx rfl (hb hby d1_30) q)
          refine own_ite (fun hc31 => ?_) (fun hc31 => ?_)
          · refine own_st (T' := s₁) (f' := (mkF m 34 #[.val (.int p0), .val (.long w1), .second, .val (.long w2), .second] [])) ?_ (fun t q => XS.icmpNo X0.here hx rfl (hb hby d1_31) rfl (teq hc31).2 q)
            refine own_st (T' := s₁) (f' := (mkF m 35 #[.val (.int p0), .val (.long w1), .second, .val (.long w2), .second] [(.long w2)])) ?_ (fun t q => XS.lloadN X0.here hx rfl (hb hby d1_34) rfl q)
            refine own_st (T' := s₁) (f' := (mkF m 36 #[.val (.int p0), .val (.long w1), .second, .val (.long w2), .second] [(.long (1 : Int64)), (.long w2)])) ?_ (fun t q => XS.lconst X0.here hx rfl (hb hby d1_35) q)
            refine own_st (T' := s₁) (f' := (mkF m 37 #[.val (.int p0), .val (.long w1), .second, .val (.long w2), .second] [(.long (w2 - (1 : Int64)))])) ?_ (fun t q => XS.lsub X0.here hx rfl (hb hby d1_36) rfl q)
            exact own_retJ X0 hx hlk Bd.returns (hb hby d1_37) (by decide) (by decide) ⟨rfl, N0, e0⟩
          · refine own_st (T' := s₁) (f' := (mkF m 38 #[.val (.int p0), .val (.long w1), .second, .val (.long w2), .second] [])) ?_ (fun t q => XS.icmpYes X0.here hx rfl (pc0 := 31) (pc' := 38) rfl (hb hby d1_31) rfl (feq hc31).2 (by decide) (by decide) q)
            refine own_st (T' := s₁) (f' := (mkF m 39 #[.val (.int p0), .val (.long w1), .second, .val (.long w2), .second] [(.int p0)])) ?_ (fun t q => XS.iloadN X0.here hx rfl (hb hby d1_38) rfl q)
            refine own_st (T' := s₁) (f' := (mkF m 40 #[.val (.int p0), .val (.long w1), .second, .val (.long w2), .second] [(.int (5 : Int32)), (.int p0)])) ?_ (fun t q => XS.iconst X0.here hx rfl (hb hby d1_39) q)
            refine own_ite (fun hc40 => ?_) (fun hc40 => ?_)
            · refine own_st (T' := s₁) (f' := (mkF m 43 #[.val (.int p0), .val (.long w1), .second, .val (.long w2), .second] [])) ?_ (fun t q => XS.icmpNo X0.here hx rfl (hb hby d1_40) rfl (teq hc40).2 q)
              refine own_st (T' := s₁) (f' := (mkF m 44 #[.val (.int p0), .val (.long w1), .second, .val (.long w2), .second] [(.long w2)])) ?_ (fun t q => XS.lloadN X0.here hx rfl (hb hby d1_43) rfl q)
              exact own_retJ X0 hx hlk Bd.returns (hb hby d1_44) (by decide) (by decide) ⟨rfl, N0, e0⟩
            · refine own_st (T' := s₁) (f' := (mkF m 45 #[.val (.int p0), .val (.long w1), .second, .val (.long w2), .second] [])) ?_ (fun t q => XS.icmpYes X0.here hx rfl (pc0 := 40) (pc' := 45) rfl (hb hby d1_40) rfl (feq hc40).2 (by decide) (by decide) q)
              refine own_st (T' := s₁) (f' := (mkF m 46 #[.val (.int p0), .val (.long w1), .second, .val (.long w2), .second] [(.int p0)])) ?_ (fun t q => XS.iloadN X0.here hx rfl (hb hby d1_45) rfl q)
              refine own_st (T' := s₁) (f' := (mkF m 48 #[.val (.int p0), .val (.long w1), .second, .val (.long w2), .second] [(.int (6 : Int32)), (.int p0)])) ?_ (fun t q => XS.bipush X0.here hx rfl (hb hby d1_46) q)
              refine own_ite (fun hc48 => ?_) (fun hc48 => ?_)
              · refine own_st (T' := s₁) (f' := (mkF m 51 #[.val (.int p0), .val (.long w1), .second, .val (.long w2), .second] [])) ?_ (fun t q => XS.icmpNo X0.here hx rfl (hb hby d1_48) rfl (teq hc48).2 q)
                refine own_st (T' := s₁) (f' := (mkF m 52 #[.val (.int p0), .val (.long w1), .second, .val (.long w2), .second] [(.long w2)])) ?_ (fun t q => XS.lloadN X0.here hx rfl (hb hby d1_51) rfl q)
                refine own_st (T' := s₁) (f' := (mkF m 53 #[.val (.int p0), .val (.long w1), .second, .val (.long w2), .second] [(.long (1 : Int64)), (.long w2)])) ?_ (fun t q => XS.lconst X0.here hx rfl (hb hby d1_52) q)
                refine own_st (T' := s₁) (f' := (mkF m 54 #[.val (.int p0), .val (.long w1), .second, .val (.long w2), .second] [(.long (w2 + (1 : Int64)))])) ?_ (fun t q => XS.ladd X0.here hx rfl (hb hby d1_53) rfl q)
                exact own_retJ X0 hx hlk Bd.returns (hb hby d1_54) (by decide) (by decide) ⟨rfl, N0, e0⟩
              · refine own_st (T' := s₁) (f' := (mkF m 55 #[.val (.int p0), .val (.long w1), .second, .val (.long w2), .second] [])) ?_ (fun t q => XS.icmpYes X0.here hx rfl (pc0 := 48) (pc' := 55) rfl (hb hby d1_48) rfl (feq hc48).2 (by decide) (by decide) q)
                refine own_st (T' := s₁) (f' := (mkF m 58 #[.val (.int p0), .val (.long w1), .second, .val (.long w2), .second] [(.long (-9223372036854775808 : Int64))])) ?_ (fun t q => X0.ldc2Long hx hown (mvT hZ (hw _ (List.mem_of_getElem? (i := 16) rfl))) (g := (mkF m 55 #[.val (.int p0), .val (.long w1), .second, .val (.long w2), .second] [])) rfl (hb hby d1_55) _ q)
                exact own_retJ X0 hx hlk Bd.returns (hb hby d1_58) (by decide) (by decide) ⟨rfl, N0, e0⟩
theorem d2_0 : decode method_3_code 0 = .ok (.iload_n 0, 1) := by decide +kernel
theorem d2_1 : decode method_3_code 1 = .ok (.ifCond .ne 5, 3) := by decide +kernel
theorem d2_4 : decode method_3_code 4 = .ok (.lload_n 1, 1) := by decide +kernel
theorem d2_5 : decode method_3_code 5 = .ok (.lreturn, 1) := by decide +kernel
theorem d2_6 : decode method_3_code 6 = .ok (.iload_n 0, 1) := by decide +kernel
theorem d2_7 : decode method_3_code 7 = .ok (.iconst 1, 1) := by decide +kernel
theorem d2_8 : decode method_3_code 8 = .ok (.if_icmp .ne 7, 3) := by decide +kernel
theorem d2_11 : decode method_3_code 11 = .ok (.lload_n 3, 1) := by decide +kernel
theorem d2_12 : decode method_3_code 12 = .ok (.lconst 1, 1) := by decide +kernel
theorem d2_13 : decode method_3_code 13 = .ok (.lsub, 1) := by decide +kernel
theorem d2_14 : decode method_3_code 14 = .ok (.lreturn, 1) := by decide +kernel
theorem d2_15 : decode method_3_code 15 = .ok (.iload_n 0, 1) := by decide +kernel
theorem d2_16 : decode method_3_code 16 = .ok (.iconst 2, 1) := by decide +kernel
theorem d2_17 : decode method_3_code 17 = .ok (.if_icmp .ne 5, 3) := by decide +kernel
theorem d2_20 : decode method_3_code 20 = .ok (.lload_n 3, 1) := by decide +kernel
theorem d2_21 : decode method_3_code 21 = .ok (.lreturn, 1) := by decide +kernel
theorem d2_22 : decode method_3_code 22 = .ok (.iload_n 0, 1) := by decide +kernel
theorem d2_23 : decode method_3_code 23 = .ok (.iconst 3, 1) := by decide +kernel
theorem d2_24 : decode method_3_code 24 = .ok (.if_icmp .ne 7, 3) := by decide +kernel
theorem d2_27 : decode method_3_code 27 = .ok (.lload_n 3, 1) := by decide +kernel
theorem d2_28 : decode method_3_code 28 = .ok (.lconst 1, 1) := by decide +kernel
theorem d2_29 : decode method_3_code 29 = .ok (.ladd, 1) := by decide +kernel
theorem d2_30 : decode method_3_code 30 = .ok (.lreturn, 1) := by decide +kernel
theorem d2_31 : decode method_3_code 31 = .ok (.iload_n 0, 1) := by decide +kernel
theorem d2_32 : decode method_3_code 32 = .ok (.iconst 4, 1) := by decide +kernel
theorem d2_33 : decode method_3_code 33 = .ok (.if_icmp .ne 8, 3) := by decide +kernel
theorem d2_36 : decode method_3_code 36 = .ok (.lload 5, 2) := by decide +kernel
theorem d2_38 : decode method_3_code 38 = .ok (.lconst 1, 1) := by decide +kernel
theorem d2_39 : decode method_3_code 39 = .ok (.lsub, 1) := by decide +kernel
theorem d2_40 : decode method_3_code 40 = .ok (.lreturn, 1) := by decide +kernel
theorem d2_41 : decode method_3_code 41 = .ok (.iload_n 0, 1) := by decide +kernel
theorem d2_42 : decode method_3_code 42 = .ok (.iconst 5, 1) := by decide +kernel
theorem d2_43 : decode method_3_code 43 = .ok (.if_icmp .ne 6, 3) := by decide +kernel
theorem d2_46 : decode method_3_code 46 = .ok (.lload 5, 2) := by decide +kernel
theorem d2_48 : decode method_3_code 48 = .ok (.lreturn, 1) := by decide +kernel
theorem d2_49 : decode method_3_code 49 = .ok (.iload_n 0, 1) := by decide +kernel
theorem d2_50 : decode method_3_code 50 = .ok (.bipush 6, 2) := by decide +kernel
theorem d2_52 : decode method_3_code 52 = .ok (.if_icmp .ne 8, 3) := by decide +kernel
theorem d2_55 : decode method_3_code 55 = .ok (.lload 5, 2) := by decide +kernel
theorem d2_57 : decode method_3_code 57 = .ok (.lconst 1, 1) := by decide +kernel
theorem d2_58 : decode method_3_code 58 = .ok (.ladd, 1) := by decide +kernel
theorem d2_59 : decode method_3_code 59 = .ok (.lreturn, 1) := by decide +kernel
theorem d2_60 : decode method_3_code 60 = .ok (.ldc2_w 13, 3) := by decide +kernel
theorem d2_63 : decode method_3_code 63 = .ok (.lreturn, 1) := by decide +kernel
theorem pn_2 : plainFor (⟨"com/example/bitfold/bitfold/array/RunsIsRangePinLaw", "pickTo", "(IJJJ)J"⟩ : MethodName) = true := by first | exact plainFor_of_name (by first | (simp [plainName, overriddenIn]; done) | decide +kernel) | decide +kernel
theorem ef_2 (m : MethodId) (x0 : Int32) (x1 : Int64) (x2 : Int64) (x3 : Int64) : entryFrame m #[(.int x0), (.long x1), (.long x2), (.long x3)] 7 = mkF m 0 #[.val (.int x0), .val (.long x1), .second, .val (.long x2), .second, .val (.long x3), .second] [] := by first | (simp [entryFrame, mkF, argsToLocals, Value.category, maxLocals]; done) | rfl
def f2 (p0 : Int32) (w1 : Int64) (w2 : Int64) (w3 : Int64) : Int64 := (if p0 = (0 : Int32) then w1 else (if p0 = (1 : Int32) then (w2 - (1 : Int64)) else (if p0 = (2 : Int32) then w2 else (if p0 = (3 : Int32) then (w2 + (1 : Int64)) else (if p0 = (4 : Int32) then (w3 - (1 : Int64)) else (if p0 = (5 : Int32) then w3 else (if p0 = (6 : Int32) then (w3 + (1 : Int64)) else (9223372036854775807 : Int64))))))))
set_option maxRecDepth 65536 in
set_option maxHeartbeats 40000000 in
theorem rm2 (l : Launch) (Z : State) (a0 : Array Value) (hw : ∀ d ∈ tables_1, d.before a0 Z = true) (ws : List Jvm.Cond) (p0 : Int32) (w1 : Int64) (w2 : Int64) (w3 : Int64) (h0 : Heap) (n0 : Nat) :
    MetFree l (⟨"com/example/bitfold/bitfold/array/RunsIsRangePinLaw", "pickTo", "(IJJJ)J"⟩ : MethodName) (head1 (Jvm.Cond.code (⟨"com/example/bitfold/bitfold/array/RunsIsRangePinLaw", "pickTo", "(IJJJ)J"⟩ : MethodName) method_3_code 7 (some .long) :: ws) ({ frames := 0, cells := 0, slots := 0, locals := 0 } : Room)) (fun a U => a = #[(.int p0), (.long w1), (.long w2), (.long w3)] ∧ Z.Warmed39 U.vm ∧ U.heap = h0) (fun _ _ _ _ _ => True) (fun _ U o U' => ∃ v L, o = .returned v ∧ own_GJ n0 (fun h => h = h0) (f2 p0 w1 w2 w3) v U'.heap L ∧ FrameEnd U o U' L ({ frames := 0, cells := 0, slots := 0, locals := 0 } : Room).cells ({ frames := 0, cells := 0, slots := 0, locals := 0 } : Room).slots) := by
  refine MetFree.of_bodySF pn_2 hisR ?_
  intro p e s m args below meth c s₁ Bd hml0 hP hK
  obtain ⟨rfl, hZ, hh⟩ := hP
  have hx := Bd.exec
  have hby := Bd.bytes
  have hml : c.maxLocals = 7 := hml0
  have hown : s.vm.findClass "com/example/bitfold/bitfold/array/RunsIsRangePinLaw" = some m.cls := findClass_of_methodNamed Bd.named
  have hlk : meth.locks = false := BodyLoose.notSynchronized Bd
  have X0 : Stand p l e ({ frames := 0, cells := 0, slots := 0, locals := 0 } : Room) s m #[(.int p0), (.long w1), (.long w2), (.long w3)] below meth c s₁ [] 0 0 := Stand.of_body Bd
  have e0 : s₁.heap = h0 := by rw [← hh, Bd.state]; rfl
  have N0 := Fr.nil n0
  show own_W p e below s 0 0 (own_GJ n0 (fun h => h = h0) (f2 p0 w1 w2 w3)) s₁ (entryFrame m #[(.int p0), (.long w1), (.long w2), (.long w3)] 7)
  refine own_to (ef_2 m p0 w1 w2 w3) ?_
  unfold f2
  refine own_st (T' := s₁) (f' := (mkF m 1 #[.val (.int p0), .val (.long w1), .second, .val (.long w2), .second, .val (.long w3), .second] [(.int p0)])) ?_ (fun t q => XS.iloadN X0.here hx rfl (hb hby d2_0) rfl q)
  refine own_ite (fun hc1 => ?_) (fun hc1 => ?_)
  · refine own_st (T' := s₁) (f' := (mkF m 4 #[.val (.int p0), .val (.long w1), .second, .val (.long w2), .second, .val (.long w3), .second] [])) ?_ (fun t q => XS.ifNo X0.here hx rfl (hb hby d2_1) rfl ((if0 _ _).trans (teq hc1).2) q)
    refine own_st (T' := s₁) (f' := (mkF m 5 #[.val (.int p0), .val (.long w1), .second, .val (.long w2), .second, .val (.long w3), .second] [(.long w1)])) ?_ (fun t q => XS.lloadN X0.here hx rfl (hb hby d2_4) rfl q)
    exact own_retJ X0 hx hlk Bd.returns (hb hby d2_5) (by decide) (by decide) ⟨rfl, N0, e0⟩
  · refine own_st (T' := s₁) (f' := (mkF m 6 #[.val (.int p0), .val (.long w1), .second, .val (.long w2), .second, .val (.long w3), .second] [])) ?_ (fun t q => XS.ifYes X0.here hx rfl (pc0 := 1) (pc' := 6) rfl (hb hby d2_1) rfl ((if0 _ _).trans (feq hc1).2) (by decide) (by decide) q)
    refine own_st (T' := s₁) (f' := (mkF m 7 #[.val (.int p0), .val (.long w1), .second, .val (.long w2), .second, .val (.long w3), .second] [(.int p0)])) ?_ (fun t q => XS.iloadN X0.here hx rfl (hb hby d2_6) rfl q)
    refine own_st (T' := s₁) (f' := (mkF m 8 #[.val (.int p0), .val (.long w1), .second, .val (.long w2), .second, .val (.long w3), .second] [(.int (1 : Int32)), (.int p0)])) ?_ (fun t q => XS.iconst X0.here hx rfl (hb hby d2_7) q)
    refine own_ite (fun hc8 => ?_) (fun hc8 => ?_)
    · refine own_st (T' := s₁) (f' := (mkF m 11 #[.val (.int p0), .val (.long w1), .second, .val (.long w2), .second, .val (.long w3), .second] [])) ?_ (fun t q => XS.icmpNo X0.here hx rfl (hb hby d2_8) rfl (teq hc8).2 q)
      refine own_st (T' := s₁) (f' := (mkF m 12 #[.val (.int p0), .val (.long w1), .second, .val (.long w2), .second, .val (.long w3), .second] [(.long w2)])) ?_ (fun t q => XS.lloadN X0.here hx rfl (hb hby d2_11) rfl q)
      refine own_st (T' := s₁) (f' := (mkF m 13 #[.val (.int p0), .val (.long w1), .second, .val (.long w2), .second, .val (.long w3), .second] [(.long (1 : Int64)), (.long w2)])) ?_ (fun t q => XS.lconst X0.here hx rfl (hb hby d2_12) q)
      refine own_st (T' := s₁) (f' := (mkF m 14 #[.val (.int p0), .val (.long w1), .second, .val (.long w2), .second, .val (.long w3), .second] [(.long (w2 - (1 : Int64)))])) ?_ (fun t q => XS.lsub X0.here hx rfl (hb hby d2_13) rfl q)
      exact own_retJ X0 hx hlk Bd.returns (hb hby d2_14) (by decide) (by decide) ⟨rfl, N0, e0⟩
    · refine own_st (T' := s₁) (f' := (mkF m 15 #[.val (.int p0), .val (.long w1), .second, .val (.long w2), .second, .val (.long w3), .second] [])) ?_ (fun t q => XS.icmpYes X0.here hx rfl (pc0 := 8) (pc' := 15) rfl (hb hby d2_8) rfl (feq hc8).2 (by decide) (by decide) q)
      refine own_st (T' := s₁) (f' := (mkF m 16 #[.val (.int p0), .val (.long w1), .second, .val (.long w2), .second, .val (.long w3), .second] [(.int p0)])) ?_ (fun t q => XS.iloadN X0.here hx rfl (hb hby d2_15) rfl q)
      refine own_st (T' := s₁) (f' := (mkF m 17 #[.val (.int p0), .val (.long w1), .second, .val (.long w2), .second, .val (.long w3), .second] [(.int (2 : Int32)), (.int p0)])) ?_ (fun t q => XS.iconst X0.here hx rfl (hb hby d2_16) q)
      refine own_ite (fun hc17 => ?_) (fun hc17 => ?_)
      · refine own_st (T' := s₁) (f' := (mkF m 20 #[.val (.int p0), .val (.long w1), .second, .val (.long w2), .second, .val (.long w3), .second] [])) ?_ (fun t q => XS.icmpNo X0.here hx rfl (hb hby d2_17) rfl (teq hc17).2 q)
        refine own_st (T' := s₁) (f' := (mkF m 21 #[.val (.int p0), .val (.long w1), .second, .val (.long w2), .second, .val (.long w3), .second] [(.long w2)])) ?_ (fun t q => XS.lloadN X0.here hx rfl (hb hby d2_20) rfl q)
        exact own_retJ X0 hx hlk Bd.returns (hb hby d2_21) (by decide) (by decide) ⟨rfl, N0, e0⟩
      · refine own_st (T' := s₁) (f' := (mkF m 22 #[.val (.int p0), .val (.long w1), .second, .val (.long w2), .second, .val (.long w3), .second] [])) ?_ (fun t q => XS.icmpYes X0.here hx rfl (pc0 := 17) (pc' := 22) rfl (hb hby d2_17) rfl (feq hc17).2 (by decide) (by decide) q)
        refine own_st (T' := s₁) (f' := (mkF m 23 #[.val (.int p0), .val (.long w1), .second, .val (.long w2), .second, .val (.long w3), .second] [(.int p0)])) ?_ (fun t q => XS.iloadN X0.here hx rfl (hb hby d2_22) rfl q)
        refine own_st (T' := s₁) (f' := (mkF m 24 #[.val (.int p0), .val (.long w1), .second, .val (.long w2), .second, .val (.long w3), .second] [(.int (3 : Int32)), (.int p0)])) ?_ (fun t q => XS.iconst X0.here hx rfl (hb hby d2_23) q)
        refine own_ite (fun hc24 => ?_) (fun hc24 => ?_)
        · refine own_st (T' := s₁) (f' := (mkF m 27 #[.val (.int p0), .val (.long w1), .second, .val (.long w2), .second, .val (.long w3), .second] [])) ?_ (fun t q => XS.icmpNo X0.here hx rfl (hb hby d2_24) rfl (teq hc24).2 q)
          refine own_st (T' := s₁) (f' := (mkF m 28 #[.val (.int p0), .val (.long w1), .second, .val (.long w2), .second, .val (.long w3), .second] [(.long w2)])) ?_ (fun t q => XS.lloadN X0.here hx rfl (hb hby d2_27) rfl q)
          refine own_st (T' := s₁) (f' := (mkF m 29 #[.val (.int p0), .val (.long w1), .second, .val (.long w2), .second, .val (.long w3), .second] [(.long (1 : Int64)), (.long w2)])) ?_ (fun t q => XS.lconst X0.here hx rfl (hb hby d2_28) q)
          refine own_st (T' := s₁) (f' := (mkF m 30 #[.val (.int p0), .val (.long w1), .second, .val (.long w2), .second, .val (.long w3), .second] [(.long (w2 + (1 : Int64)))])) ?_ (fun t q => XS.ladd X0.here hx rfl (hb hby d2_29) rfl q)
          exact own_retJ X0 hx hlk Bd.returns (hb hby d2_30) (by decide) (by decide) ⟨rfl, N0, e0⟩
        · refine own_st (T' := s₁) (f' := (mkF m 31 #[.val (.int p0), .val (.long w1), .second, .val (.long w2), .second, .val (.long w3), .second] [])) ?_ (fun t q => XS.icmpYes X0.here hx rfl (pc0 := 24) (pc' := 31) rfl (hb hby d2_24) rfl (feq hc24).2 (by decide) (by decide) q)
          refine own_st (T' := s₁) (f' := (mkF m 32 #[.val (.int p0), .val (.long w1), .second, .val (.long w2), .second, .val (.long w3), .second] [(.int p0)])) ?_ (fun t q => XS.iloadN X0.here hx rfl (hb hby d2_31) rfl q)
          refine own_st (T' := s₁) (f' := (mkF m 33 #[.val (.int p0), .val (.long w1), .second, .val (.long w2), .second, .val (.long w3), .second] [(.int (4 : Int32)), (.int p0)])) ?_ (fun t q => XS.iconst X0.here hx rfl (hb hby d2_32) q)
          refine own_ite (fun hc33 => ?_) (fun hc33 => ?_)
          · refine own_st (T' := s₁) (f' := (mkF m 36 #[.val (.int p0), .val (.long w1), .second, .val (.long w2), .second, .val (.long w3), .second] [])) ?_ (fun t q => XS.icmpNo X0.here hx rfl (hb hby d2_33) rfl (teq hc33).2 q)
            refine own_st (T' := s₁) (f' := (mkF m 38 #[.val (.int p0), .val (.long w1), .second, .val (.long w2), .second, .val (.long w3), .second] [(.long w3)])) ?_ (fun t q => XS.lload X0.here hx rfl (hb hby d2_36) rfl q)
            refine own_st (T' := s₁) (f' := (mkF m 39 #[.val (.int p0), .val (.long w1), .second, .val (.long w2), .second, .val (.long w3), .second] [(.long (1 : Int64)), (.long w3)])) ?_ (fun t q => XS.lconst X0.here hx rfl (hb hby d2_38) q)
            refine own_st (T' := s₁) (f' := (mkF m 40 #[.val (.int p0), .val (.long w1), .second, .val (.long w2), .second, .val (.long w3), .second] [(.long (w3 - (1 : Int64)))])) ?_ (fun t q => XS.lsub X0.here hx rfl (hb hby d2_39) rfl q)
            exact own_retJ X0 hx hlk Bd.returns (hb hby d2_40) (by decide) (by decide) ⟨rfl, N0, e0⟩
          · refine own_st (T' := s₁) (f' := (mkF m 41 #[.val (.int p0), .val (.long w1), .second, .val (.long w2), .second, .val (.long w3), .second] [])) ?_ (fun t q => XS.icmpYes X0.here hx rfl (pc0 := 33) (pc' := 41) rfl (hb hby d2_33) rfl (feq hc33).2 (by decide) (by decide) q)
            refine own_st (T' := s₁) (f' := (mkF m 42 #[.val (.int p0), .val (.long w1), .second, .val (.long w2), .second, .val (.long w3), .second] [(.int p0)])) ?_ (fun t q => XS.iloadN X0.here hx rfl (hb hby d2_41) rfl q)
            refine own_st (T' := s₁) (f' := (mkF m 43 #[.val (.int p0), .val (.long w1), .second, .val (.long w2), .second, .val (.long w3), .second] [(.int (5 : Int32)), (.int p0)])) ?_ (fun t q => XS.iconst X0.here hx rfl (hb hby d2_42) q)
            refine own_ite (fun hc43 => ?_) (fun hc43 => ?_)
            · refine own_st (T' := s₁) (f' := (mkF m 46 #[.val (.int p0), .val (.long w1), .second, .val (.long w2), .second, .val (.long w3), .second] [])) ?_ (fun t q => XS.icmpNo X0.here hx rfl (hb hby d2_43) rfl (teq hc43).2 q)
              refine own_st (T' := s₁) (f' := (mkF m 48 #[.val (.int p0), .val (.long w1), .second, .val (.long w2), .second, .val (.long w3), .second] [(.long w3)])) ?_ (fun t q => XS.lload X0.here hx rfl (hb hby d2_46) rfl q)
              exact own_retJ X0 hx hlk Bd.returns (hb hby d2_48) (by decide) (by decide) ⟨rfl, N0, e0⟩
            · refine own_st (T' := s₁) (f' := (mkF m 49 #[.val (.int p0), .val (.long w1), .second, .val (.long w2), .second, .val (.long w3), .second] [])) ?_ (fun t q => XS.icmpYes X0.here hx rfl (pc0 := 43) (pc' := 49) rfl (hb hby d2_43) rfl (feq hc43).2 (by decide) (by decide) q)
              refine own_st (T' := s₁) (f' := (mkF m 50 #[.val (.int p0), .val (.long w1), .second, .val (.long w2), .second, .val (.long w3), .second] [(.int p0)])) ?_ (fun t q => XS.iloadN X0.here hx rfl (hb hby d2_49) rfl q)
              refine own_st (T' := s₁) (f' := (mkF m 52 #[.val (.int p0), .val (.long w1), .second, .val (.long w2), .second, .val (.long w3), .second] [(.int (6 : Int32)), (.int p0)])) ?_ (fun t q => XS.bipush X0.here hx rfl (hb hby d2_50) q)
              refine own_ite (fun hc52 => ?_) (fun hc52 => ?_)
              · refine own_st (T' := s₁) (f' := (mkF m 55 #[.val (.int p0), .val (.long w1), .second, .val (.long w2), .second, .val (.long w3), .second] [])) ?_ (fun t q => XS.icmpNo X0.here hx rfl (hb hby d2_52) rfl (teq hc52).2 q)
                refine own_st (T' := s₁) (f' := (mkF m 57 #[.val (.int p0), .val (.long w1), .second, .val (.long w2), .second, .val (.long w3), .second] [(.long w3)])) ?_ (fun t q => XS.lload X0.here hx rfl (hb hby d2_55) rfl q)
                refine own_st (T' := s₁) (f' := (mkF m 58 #[.val (.int p0), .val (.long w1), .second, .val (.long w2), .second, .val (.long w3), .second] [(.long (1 : Int64)), (.long w3)])) ?_ (fun t q => XS.lconst X0.here hx rfl (hb hby d2_57) q)
                refine own_st (T' := s₁) (f' := (mkF m 59 #[.val (.int p0), .val (.long w1), .second, .val (.long w2), .second, .val (.long w3), .second] [(.long (w3 + (1 : Int64)))])) ?_ (fun t q => XS.ladd X0.here hx rfl (hb hby d2_58) rfl q)
                exact own_retJ X0 hx hlk Bd.returns (hb hby d2_59) (by decide) (by decide) ⟨rfl, N0, e0⟩
              · refine own_st (T' := s₁) (f' := (mkF m 60 #[.val (.int p0), .val (.long w1), .second, .val (.long w2), .second, .val (.long w3), .second] [])) ?_ (fun t q => XS.icmpYes X0.here hx rfl (pc0 := 52) (pc' := 60) rfl (hb hby d2_52) rfl (feq hc52).2 (by decide) (by decide) q)
                refine own_st (T' := s₁) (f' := (mkF m 63 #[.val (.int p0), .val (.long w1), .second, .val (.long w2), .second, .val (.long w3), .second] [(.long (9223372036854775807 : Int64))])) ?_ (fun t q => X0.ldc2Long hx hown (mvT hZ (hw _ (List.mem_of_getElem? (i := 14) rfl))) (g := (mkF m 60 #[.val (.int p0), .val (.long w1), .second, .val (.long w2), .second, .val (.long w3), .second] [])) rfl (hb hby d2_60) _ q)
                exact own_retJ X0 hx hlk Bd.returns (hb hby d2_63) (by decide) (by decide) ⟨rfl, N0, e0⟩
theorem d3_0 : decode prog_10_method_2_code 0 = .ok (.lload_n 1, 1) := by decide +kernel
theorem d3_1 : decode prog_10_method_2_code 1 = .ok (.lconst 0, 1) := by decide +kernel
theorem d3_2 : decode prog_10_method_2_code 2 = .ok (.lcmp, 1) := by decide +kernel
theorem d3_3 : decode prog_10_method_2_code 3 = .ok (.ifCond .lt 25, 3) := by decide +kernel
theorem d3_6 : decode prog_10_method_2_code 6 = .ok (.lload_n 1, 1) := by decide +kernel
theorem d3_7 : decode prog_10_method_2_code 7 = .ok (.lload_n 3, 1) := by decide +kernel
theorem d3_8 : decode prog_10_method_2_code 8 = .ok (.lcmp, 1) := by decide +kernel
theorem d3_9 : decode prog_10_method_2_code 9 = .ok (.ifCond .gt 19, 3) := by decide +kernel
theorem d3_12 : decode prog_10_method_2_code 12 = .ok (.lload_n 3, 1) := by decide +kernel
theorem d3_13 : decode prog_10_method_2_code 13 = .ok (.aload_n 0, 1) := by decide +kernel
theorem d3_14 : decode prog_10_method_2_code 14 = .ok (.arraylength, 1) := by decide +kernel
theorem d3_15 : decode prog_10_method_2_code 15 = .ok (.i2l, 1) := by decide +kernel
theorem d3_16 : decode prog_10_method_2_code 16 = .ok (.ldc2_w 13, 3) := by decide +kernel
theorem d3_19 : decode prog_10_method_2_code 19 = .ok (.lmul, 1) := by decide +kernel
theorem d3_20 : decode prog_10_method_2_code 20 = .ok (.lcmp, 1) := by decide +kernel
theorem d3_21 : decode prog_10_method_2_code 21 = .ok (.ifCond .gt 7, 3) := by decide +kernel
theorem d3_24 : decode prog_10_method_2_code 24 = .ok (.iconst 1, 1) := by decide +kernel
theorem d3_25 : decode prog_10_method_2_code 25 = .ok (.goto 4, 3) := by decide +kernel
theorem d3_28 : decode prog_10_method_2_code 28 = .ok (.iconst 0, 1) := by decide +kernel
theorem d3_29 : decode prog_10_method_2_code 29 = .ok (.ireturn, 1) := by decide +kernel
theorem pn_3 : plainFor (⟨"com/example/bitfold/bitfold/array/Runs", "isRange", "([JJJ)Z"⟩ : MethodName) = true := by first | exact plainFor_of_name (by first | (simp [plainName, overriddenIn]; done) | decide +kernel) | decide +kernel
theorem ef_3 (m : MethodId) (x0 : Addr) (x1 : Int64) (x2 : Int64) : entryFrame m #[(.ref x0), (.long x1), (.long x2)] 5 = mkF m 0 #[.val (.ref x0), .val (.long x1), .second, .val (.long x2), .second] [] := by first | (simp [entryFrame, mkF, argsToLocals, Value.category, maxLocals]; done) | rfl
def f3 (w1 : Int64) (w2 : Int64) (n : Nat) (F : Nat → Int32) : Int32 := (if w1 < (0 : Int64) then (0 : Int32) else (if w2 < w1 then (0 : Int32) else (if (((Int32.ofNat n).toInt64) * (64 : Int64)) < w2 then (0 : Int32) else (1 : Int32))))
set_option maxRecDepth 65536 in
set_option maxHeartbeats 40000000 in
theorem rm3 (l : Launch) (Z : State) (a0 : Array Value) (hw : ∀ d ∈ tables_1, d.before a0 Z = true) (ws : List Jvm.Cond) (o0 : Addr) (w1 : Int64) (w2 : Int64) (n : Nat) (F : Nat → Int32) (h0 : Heap) (n0 : Nat) (A_o0 : own_L Z h0 o0 .long n) :
    MetFree l (⟨"com/example/bitfold/bitfold/array/Runs", "isRange", "([JJJ)Z"⟩ : MethodName) (head1 (Jvm.Cond.code (⟨"com/example/bitfold/bitfold/array/Runs", "isRange", "([JJJ)Z"⟩ : MethodName) prog_10_method_2_code 5 (some .boolean) :: ws) ({ frames := 0, cells := 0, slots := 0, locals := 0 } : Room)) (fun a U => a = #[(.ref o0), (.long w1), (.long w2)] ∧ Z.Warmed39 U.vm ∧ U.heap = h0) (fun _ _ _ _ _ => True) (fun _ U o U' => ∃ v L, o = .returned v ∧ own_GI n0 (fun h => h = h0) (f3 w1 w2 n F) v U'.heap L ∧ FrameEnd U o U' L ({ frames := 0, cells := 0, slots := 0, locals := 0 } : Room).cells ({ frames := 0, cells := 0, slots := 0, locals := 0 } : Room).slots) := by
  refine MetFree.of_bodySF pn_3 hisR ?_
  intro p e s m args below meth c s₁ Bd hml0 hP hK
  obtain ⟨rfl, hZ, hh⟩ := hP
  have hx := Bd.exec
  have hby := Bd.bytes
  have hml : c.maxLocals = 5 := hml0
  have hown : s.vm.findClass "com/example/bitfold/bitfold/array/Runs" = some m.cls := findClass_of_methodNamed Bd.named
  have hlk : meth.locks = false := BodyLoose.notSynchronized Bd
  have X0 : Stand p l e ({ frames := 0, cells := 0, slots := 0, locals := 0 } : Room) s m #[(.ref o0), (.long w1), (.long w2)] below meth c s₁ [] 0 0 := Stand.of_body Bd
  have e0 : s₁.heap = h0 := by rw [← hh, Bd.state]; rfl
  have N0 := Fr.nil n0
  show own_W p e below s 0 0 (own_GI n0 (fun h => h = h0) (f3 w1 w2 n F)) s₁ (entryFrame m #[(.ref o0), (.long w1), (.long w2)] 5)
  refine own_to (ef_3 m o0 w1 w2) ?_
  unfold f3
  refine own_st (T' := s₁) (f' := (mkF m 1 #[.val (.ref o0), .val (.long w1), .second, .val (.long w2), .second] [(.long w1)])) ?_ (fun t q => XS.lloadN X0.here hx rfl (hb hby d3_0) rfl q)
  refine own_st (T' := s₁) (f' := (mkF m 2 #[.val (.ref o0), .val (.long w1), .second, .val (.long w2), .second] [(.long (0 : Int64)), (.long w1)])) ?_ (fun t q => XS.lconst X0.here hx rfl (hb hby d3_1) q)
  refine own_st (T' := s₁) (f' := (mkF m 3 #[.val (.ref o0), .val (.long w1), .second, .val (.long w2), .second] [(.int (lcmpW w1 (0 : Int64)))])) ?_ (fun t q => XS.lcmp X0.here hx rfl (hb hby d3_2) rfl q)
  refine own_ite (fun hc3 => ?_) (fun hc3 => ?_)
  · refine own_st (T' := s₁) (f' := (mkF m 28 #[.val (.ref o0), .val (.long w1), .second, .val (.long w2), .second] [])) ?_ (fun t q => XS.ifYes X0.here hx rfl (pc0 := 3) (pc' := 28) rfl (hb hby d3_3) rfl ((if0 _ _).trans (tlt ((lw_lt _ _).mpr hc3)).1) (by decide) (by decide) q)
    refine own_st (T' := s₁) (f' := (mkF m 29 #[.val (.ref o0), .val (.long w1), .second, .val (.long w2), .second] [(.int (0 : Int32))])) ?_ (fun t q => XS.iconst X0.here hx rfl (hb hby d3_28) q)
    exact own_retN X0 hx hlk (t := .boolean) Bd.returns (by simp) (hb hby d3_29) (by decide) (by decide) ⟨rfl, N0, e0⟩
  · refine own_st (T' := s₁) (f' := (mkF m 6 #[.val (.ref o0), .val (.long w1), .second, .val (.long w2), .second] [])) ?_ (fun t q => XS.ifNo X0.here hx rfl (hb hby d3_3) rfl ((if0 _ _).trans (flt (fun z => hc3 ((lw_lt _ _).mp z))).1) q)
    refine own_st (T' := s₁) (f' := (mkF m 7 #[.val (.ref o0), .val (.long w1), .second, .val (.long w2), .second] [(.long w1)])) ?_ (fun t q => XS.lloadN X0.here hx rfl (hb hby d3_6) rfl q)
    refine own_st (T' := s₁) (f' := (mkF m 8 #[.val (.ref o0), .val (.long w1), .second, .val (.long w2), .second] [(.long w2), (.long w1)])) ?_ (fun t q => XS.lloadN X0.here hx rfl (hb hby d3_7) rfl q)
    refine own_st (T' := s₁) (f' := (mkF m 9 #[.val (.ref o0), .val (.long w1), .second, .val (.long w2), .second] [(.int (lcmpW w1 w2))])) ?_ (fun t q => XS.lcmp X0.here hx rfl (hb hby d3_8) rfl q)
    refine own_ite (fun hc9 => ?_) (fun hc9 => ?_)
    · refine own_st (T' := s₁) (f' := (mkF m 28 #[.val (.ref o0), .val (.long w1), .second, .val (.long w2), .second] [])) ?_ (fun t q => XS.ifYes X0.here hx rfl (pc0 := 9) (pc' := 28) rfl (hb hby d3_9) rfl ((if0 _ _).trans (tlt ((lw_gt _ _).mpr hc9)).2.2.1) (by decide) (by decide) q)
      refine own_st (T' := s₁) (f' := (mkF m 29 #[.val (.ref o0), .val (.long w1), .second, .val (.long w2), .second] [(.int (0 : Int32))])) ?_ (fun t q => XS.iconst X0.here hx rfl (hb hby d3_28) q)
      exact own_retN X0 hx hlk (t := .boolean) Bd.returns (by simp) (hb hby d3_29) (by decide) (by decide) ⟨rfl, N0, e0⟩
    · refine own_st (T' := s₁) (f' := (mkF m 12 #[.val (.ref o0), .val (.long w1), .second, .val (.long w2), .second] [])) ?_ (fun t q => XS.ifNo X0.here hx rfl (hb hby d3_9) rfl ((if0 _ _).trans (flt (fun z => hc9 ((lw_gt _ _).mp z))).2.2.1) q)
      refine own_st (T' := s₁) (f' := (mkF m 13 #[.val (.ref o0), .val (.long w1), .second, .val (.long w2), .second] [(.long w2)])) ?_ (fun t q => XS.lloadN X0.here hx rfl (hb hby d3_12) rfl q)
      refine own_st (T' := s₁) (f' := (mkF m 14 #[.val (.ref o0), .val (.long w1), .second, .val (.long w2), .second] [(.ref o0), (.long w2)])) ?_ (fun t q => XS.aloadN X0.here hx rfl (hb hby d3_13) rfl rfl q)
      refine own_alenL X0 hx hZ (own_L.eq A_o0 e0) (hb hby d3_14) ?_
      show own_W _ _ _ _ _ _ _ s₁ (mkF m 15 #[.val (.ref o0), .val (.long w1), .second, .val (.long w2), .second] [(.int (Int32.ofNat n)), (.long w2)])
      refine own_st (T' := s₁) (f' := (mkF m 16 #[.val (.ref o0), .val (.long w1), .second, .val (.long w2), .second] [(.long ((Int32.ofNat n).toInt64)), (.long w2)])) ?_ (fun t q => XS.i2l X0.here hx rfl (hb hby d3_15) rfl q)
      refine own_st (T' := s₁) (f' := (mkF m 19 #[.val (.ref o0), .val (.long w1), .second, .val (.long w2), .second] [(.long (64 : Int64)), (.long ((Int32.ofNat n).toInt64)), (.long w2)])) ?_ (fun t q => X0.ldc2Long hx hown (mvT hZ (hw _ (List.mem_of_getElem? (i := 15) rfl))) (g := (mkF m 16 #[.val (.ref o0), .val (.long w1), .second, .val (.long w2), .second] [(.long ((Int32.ofNat n).toInt64)), (.long w2)])) rfl (hb hby d3_16) _ q)
      refine own_st (T' := s₁) (f' := (mkF m 20 #[.val (.ref o0), .val (.long w1), .second, .val (.long w2), .second] [(.long (((Int32.ofNat n).toInt64) * (64 : Int64))), (.long w2)])) ?_ (fun t q => XS.lmul X0.here hx rfl (hb hby d3_19) rfl q)
      refine own_st (T' := s₁) (f' := (mkF m 21 #[.val (.ref o0), .val (.long w1), .second, .val (.long w2), .second] [(.int (lcmpW w2 (((Int32.ofNat n).toInt64) * (64 : Int64))))])) ?_ (fun t q => XS.lcmp X0.here hx rfl (hb hby d3_20) rfl q)
      refine own_ite (fun hc21 => ?_) (fun hc21 => ?_)
      · refine own_st (T' := s₁) (f' := (mkF m 28 #[.val (.ref o0), .val (.long w1), .second, .val (.long w2), .second] [])) ?_ (fun t q => XS.ifYes X0.here hx rfl (pc0 := 21) (pc' := 28) rfl (hb hby d3_21) rfl ((if0 _ _).trans (tlt ((lw_gt _ _).mpr hc21)).2.2.1) (by decide) (by decide) q)
        refine own_st (T' := s₁) (f' := (mkF m 29 #[.val (.ref o0), .val (.long w1), .second, .val (.long w2), .second] [(.int (0 : Int32))])) ?_ (fun t q => XS.iconst X0.here hx rfl (hb hby d3_28) q)
        exact own_retN X0 hx hlk (t := .boolean) Bd.returns (by simp) (hb hby d3_29) (by decide) (by decide) ⟨rfl, N0, e0⟩
      · refine own_st (T' := s₁) (f' := (mkF m 24 #[.val (.ref o0), .val (.long w1), .second, .val (.long w2), .second] [])) ?_ (fun t q => XS.ifNo X0.here hx rfl (hb hby d3_21) rfl ((if0 _ _).trans (flt (fun z => hc21 ((lw_gt _ _).mp z))).2.2.1) q)
        refine own_st (T' := s₁) (f' := (mkF m 25 #[.val (.ref o0), .val (.long w1), .second, .val (.long w2), .second] [(.int (1 : Int32))])) ?_ (fun t q => XS.iconst X0.here hx rfl (hb hby d3_24) q)
        refine own_st (T' := s₁) (f' := (mkF m 29 #[.val (.ref o0), .val (.long w1), .second, .val (.long w2), .second] [(.int (1 : Int32))])) ?_ (fun t q => XS.goto X0.here hx rfl (pc0 := 25) (pc' := 29) rfl (hb hby d3_25) (by decide) (by decide) q)
        exact own_retN X0 hx hlk (t := .boolean) Bd.returns (by simp) (hb hby d3_29) (by decide) (by decide) ⟨rfl, N0, e0⟩
theorem pd_0 : parseMethodDescriptor "(IJJ)J" = some ⟨[.int, .long, .long], some .long⟩ := by decide +kernel
theorem pd_1 : parseMethodDescriptor "(IJJJ)J" = some ⟨[.int, .long, .long, .long], some .long⟩ := by decide +kernel
theorem pd_2 : parseMethodDescriptor "([JJJ)Z" = some ⟨[(.array .long), .long, .long], some .boolean⟩ := by decide +kernel
theorem pn_0 : plainFor x = true := by first | exact plainFor_of_name (by first | (simp [plainName, overriddenIn]; done) | decide +kernel) | decide +kernel
theorem ef_0 (m : MethodId) (x0 : Int32) (x1 : Int64) (x2 : Int64) (x3 : Int32) (x4 : Int64) : entryFrame m #[(.int x0), (.long x1), (.long x2), (.int x3), (.long x4)] maxLocals = mkF m 0 #[.val (.int x0), .val (.long x1), .second, .val (.long x2), .second, .val (.int x3), .val (.long x4), .second, .unset, .unset, .unset, .unset, .unset, .unset, .unset, .unset, .unset] [] := by first | (simp [entryFrame, mkF, argsToLocals, Value.category, maxLocals]; done) | rfl
def vn (p0 : Int32) (w1 : Int64) (w2 : Int64) (p3 : Int32) (w4 : Int64) : Int32 := (p0 &&& (7 : Int32))
def vfr (p0 : Int32) (w1 : Int64) (w2 : Int64) (p3 : Int32) (w4 : Int64) : Int64 := (f1 (p3 &&& (7 : Int32)) w1 ((64 : Int64) * ((vn p0 w1 w2 p3 w4).toInt64)))
def vto (p0 : Int32) (w1 : Int64) (w2 : Int64) (p3 : Int32) (w4 : Int64) : Int64 := (f2 (((p3.toUInt32 >>> ((3 : Int32) &&& 31).toUInt32).toInt32) &&& (7 : Int32)) w2 (vfr p0 w1 w2 p3 w4) ((64 : Int64) * ((vn p0 w1 w2 p3 w4).toInt64)))
def f0_125 (p0 : Int32) (w1 : Int64) (w2 : Int64) (p3 : Int32) (w4 : Int64) (g16_125 : Int32) (F9_125 : Nat → Int32) : Int32 := (if (f3 (vfr p0 w1 w2 p3 w4) (vto p0 w1 w2 p3 w4) (vn p0 w1 w2 p3 w4).toNatClampNeg F9_125) = g16_125 then (1 : Int32) else (0 : Int32))
def f0_42 (p0 : Int32) (w1 : Int64) (w2 : Int64) (p3 : Int32) (w4 : Int64) (F9_42 : Nat → Int32) : Int32 := (if (vfr p0 w1 w2 p3 w4) < (0 : Int64) then (f0_125 p0 w1 w2 p3 w4 (0 : Int32) F9_42) else (if (vto p0 w1 w2 p3 w4) < (vfr p0 w1 w2 p3 w4) then (f0_125 p0 w1 w2 p3 w4 (0 : Int32) F9_42) else (if ((64 : Int64) * ((vn p0 w1 w2 p3 w4).toInt64)) < (vto p0 w1 w2 p3 w4) then (f0_125 p0 w1 w2 p3 w4 (0 : Int32) F9_42) else (f0_125 p0 w1 w2 p3 w4 (1 : Int32) F9_42))))
def f0_23 (p0 : Int32) (w1 : Int64) (w2 : Int64) (p3 : Int32) (w4 : Int64) (F9_23 : Nat → Int32) : Int32 := (if (1 : Int32) < (vn p0 w1 w2 p3 w4) then (f0_42 p0 w1 w2 p3 w4 F9_23) else (f0_42 p0 w1 w2 p3 w4 F9_23))
def f0 (p0 : Int32) (w1 : Int64) (w2 : Int64) (p3 : Int32) (w4 : Int64) : Int32 := (if (0 : Int32) < (vn p0 w1 w2 p3 w4) then (f0_23 p0 w1 w2 p3 w4 (fun _ => 0)) else (f0_23 p0 w1 w2 p3 w4 (fun _ => 0)))
theorem own_n (p0 : Int32) (w1 w2 : Int64) (p3 : Int32) (w4 : Int64) : (vn p0 w1 w2 p3 w4).toInt = p0.toInt % 8 := Jvm.Kit.i32_mask p0 7 (k := 3) (by decide) (by decide)
theorem own_n1 (p0 : Int32) (w1 w2 : Int64) (p3 : Int32) (w4 : Int64) : ¬ vn p0 w1 w2 p3 w4 < 0 := by
  have h := own_n p0 w1 w2 p3 w4
  rw [Int32.lt_iff_toInt_lt, show (0 : Int32).toInt = 0 from rfl]; omega
theorem own_n2 (p0 : Int32) (w1 w2 : Int64) (p3 : Int32) (w4 : Int64) : (vn p0 w1 w2 p3 w4).toNatClampNeg ≤ 7 := by
  have h := own_n p0 w1 w2 p3 w4
  rw [Int32.toNatClampNeg]; omega
theorem own_last1 {z : Int32} (h : 1 < z) : own_in (z - 1) z.toNatClampNeg := by
  have k : (1 : Int32).toInt = 1 := rfl
  have k0 : (0 : Int32).toInt = 0 := rfl
  have hl := Int32.toInt_lt z
  rw [Int32.lt_iff_toInt_lt, k] at h
  have e : (z - 1).toInt = z.toInt - 1 := by rw [Jvm.Kit.i32_sub (by omega) (by omega), k]
  refine ⟨by rw [Int32.lt_iff_toInt_lt, k0]; omega, ?_⟩
  rw [Int32.toNatClampNeg, Int32.toNatClampNeg]; omega
set_option maxRecDepth 65536 in
set_option maxHeartbeats 40000000 in
theorem rm0 (l : Launch) (Z : State) (a0 : Array Value) (hw : ∀ d ∈ tables_1, d.before a0 Z = true) (ws : List Jvm.Cond) (p0 : Int32) (w1 : Int64) (w2 : Int64) (p3 : Int32) (w4 : Int64) (h0 : Heap) (n0 : Nat) (Z0 : n0 ≤ h0.size) :
    MetFree l x (head1 (Jvm.Cond.code x code maxLocals ret :: ws) room_1) (fun a U => a = #[(.int p0), (.long w1), (.long w2), (.int p3), (.long w4)] ∧ Z.Warmed39 U.vm ∧ U.heap = h0) (fun _ _ _ _ _ => True) (fun _ U o U' => ∃ v L, o = .returned v ∧ own_GI n0 (fun _ => True) (f0 p0 w1 w2 p3 w4) v U'.heap L ∧ FrameEnd U o U' L 1 7) := by
  refine MetFree.of_bodySF pn_0 hisR ?_
  intro p e s m args below meth c s₁ Bd hml0 hP hK
  obtain ⟨rfl, hZ, hh⟩ := hP
  have hx := Bd.exec
  have hby := Bd.bytes
  have hml : c.maxLocals = 17 := hml0
  have hown : s.vm.findClass "com/example/bitfold/bitfold/array/RunsIsRangePinLaw" = some m.cls := findClass_of_methodNamed Bd.named
  have hlk : meth.locks = false := BodyLoose.notSynchronized Bd
  have X0 : Stand p l e room_1 s m #[(.int p0), (.long w1), (.long w2), (.int p3), (.long w4)] below meth c s₁ [] 0 0 := Stand.of_body Bd
  have e0 : s₁.heap = h0 := by rw [← hh, Bd.state]; rfl
  have N0 := Fr.nil n0
  have zs0 : n0 ≤ s₁.heap.size := by rw [e0]; exact Z0
  have B125 : ∀ (T : State) (locs : List Loc) (r9_125 : Addr) (g16_125 : Int32) (F9_125 : Nat → Int32) (X : Stand p l e room_1 s m #[(.int p0), (.long w1), (.long w2), (.int p3), (.long w4)] below meth c T locs 1 7) (N : Fr n0 locs) (zs : n0 ≤ T.heap.size) (G_r9_125 : n0 ≤ r9_125) (A_r9_125 : own_L Z T.heap r9_125 .long (vn p0 w1 w2 p3 w4).toNatClampNeg), own_W p e below s 1 7 (own_GI n0 (fun _ => True) (f0_125 p0 w1 w2 p3 w4 g16_125 F9_125)) T (mkF m 125 #[.val (.int p0), .val (.long w1), .second, .val (.long w2), .second, .val (.int p3), .val (.long w4), .second, .val (.int (vn p0 w1 w2 p3 w4)), .val (.ref r9_125), .val (.long ((64 : Int64) * ((vn p0 w1 w2 p3 w4).toInt64))), .second, .val (.long (vfr p0 w1 w2 p3 w4)), .second, .val (.long (vto p0 w1 w2 p3 w4)), .second, .val (.int g16_125)] []) := by
    intro T locs r9_125 g16_125 F9_125 X N zs G_r9_125 A_r9_125
    unfold f0_125
    refine own_st (T' := T) (f' := (mkF m 127 #[.val (.int p0), .val (.long w1), .second, .val (.long w2), .second, .val (.int p3), .val (.long w4), .second, .val (.int (vn p0 w1 w2 p3 w4)), .val (.ref r9_125), .val (.long ((64 : Int64) * ((vn p0 w1 w2 p3 w4).toInt64))), .second, .val (.long (vfr p0 w1 w2 p3 w4)), .second, .val (.long (vto p0 w1 w2 p3 w4)), .second, .val (.int g16_125)] [(.ref r9_125)])) ?_ (fun t q => XS.aload X.here hx rfl (hb hby at_125) rfl rfl q)
    refine own_st (T' := T) (f' := (mkF m 129 #[.val (.int p0), .val (.long w1), .second, .val (.long w2), .second, .val (.int p3), .val (.long w4), .second, .val (.int (vn p0 w1 w2 p3 w4)), .val (.ref r9_125), .val (.long ((64 : Int64) * ((vn p0 w1 w2 p3 w4).toInt64))), .second, .val (.long (vfr p0 w1 w2 p3 w4)), .second, .val (.long (vto p0 w1 w2 p3 w4)), .second, .val (.int g16_125)] [(.long (vfr p0 w1 w2 p3 w4)), (.ref r9_125)])) ?_ (fun t q => XS.lload X.here hx rfl (hb hby at_127) rfl q)
    refine own_st (T' := T) (f' := (mkF m 131 #[.val (.int p0), .val (.long w1), .second, .val (.long w2), .second, .val (.int p3), .val (.long w4), .second, .val (.int (vn p0 w1 w2 p3 w4)), .val (.ref r9_125), .val (.long ((64 : Int64) * ((vn p0 w1 w2 p3 w4).toInt64))), .second, .val (.long (vfr p0 w1 w2 p3 w4)), .second, .val (.long (vto p0 w1 w2 p3 w4)), .second, .val (.int g16_125)] [(.long (vto p0 w1 w2 p3 w4)), (.long (vfr p0 w1 w2 p3 w4)), (.ref r9_125)])) ?_ (fun t q => XS.lload X.here hx rfl (hb hby at_129) rfl q)
    obtain ⟨_, _, ⟨T1, L1, k1, n1⟩, -, X1, ⟨Lc1, hQ1, l1, y1, z1⟩, st1⟩ := Jvm.LawKit.callS X hx (y := (⟨"com/example/bitfold/bitfold/array/Runs", "isRange", "([JJJ)Z"⟩ : MethodName)) hown (mvT hZ (hw _ (List.mem_of_getElem? (i := 9) rfl))) (mvT hZ (hw _ (List.mem_of_getElem? (i := 10) rfl))) (mvT hZ (hw _ (List.mem_of_getElem? (i := 11) rfl))) (mvT hZ (hw _ (List.mem_of_getElem? (i := 12) rfl))) (by decide) (backOf (W := 0) (rm3 l Z a0 hw [] r9_125 (vfr p0 w1 w2 p3 w4) (vto p0 w1 w2 p3 w4) (vn p0 w1 w2 p3 w4).toNatClampNeg F9_125 T.heap n0 A_r9_125) hZ (hw _ (List.mem_of_getElem? (i := 12) rfl)) (hw _ (List.mem_of_getElem? (i := 11) rfl)) (by decide) (by decide)) (g := (mkF m 131 #[.val (.int p0), .val (.long w1), .second, .val (.long w2), .second, .val (.int p3), .val (.long w4), .second, .val (.int (vn p0 w1 w2 p3 w4)), .val (.ref r9_125), .val (.long ((64 : Int64) * ((vn p0 w1 w2 p3 w4).toInt64))), .second, .val (.long (vfr p0 w1 w2 p3 w4)), .second, .val (.long (vto p0 w1 w2 p3 w4)), .second, .val (.int g16_125)] [(.long (vto p0 w1 w2 p3 w4)), (.long (vfr p0 w1 w2 p3 w4)), (.ref r9_125)])) rfl (by rw [hml]; rfl) (argsL := [(.ref r9_125), (.long (vfr p0 w1 w2 p3 w4)), (.long (vto p0 w1 w2 p3 w4))]) (rest := []) (lenOf pd_2 rfl) rfl (by show 2 * 0 + _ ≤ _; exact Nat.le_of_eq rfl) (hb hby at_131) (fun _ _ => ⟨rfl, rfl, (Nat.le_of_ble_eq_true rfl), (Nat.le_of_ble_eq_true rfl)⟩)
    dsimp only [Pt.U, Pt.locs, Pt.cells, Pt.slots] at X1 l1 y1 z1 st1 hQ1
    subst l1 y1 z1
    obtain ⟨rfl, N1q, e1⟩ := hQ1
    have N1 := Fr.app N N1q
    have zs1 : n0 ≤ T1.heap.size := by rw [e1]; exact zs
    have A1_r9_125 := own_L.eq A_r9_125 e1
    refine own_st (T' := T1) (f' := (mkF m 134 #[.val (.int p0), .val (.long w1), .second, .val (.long w2), .second, .val (.int p3), .val (.long w4), .second, .val (.int (vn p0 w1 w2 p3 w4)), .val (.ref r9_125), .val (.long ((64 : Int64) * ((vn p0 w1 w2 p3 w4).toInt64))), .second, .val (.long (vfr p0 w1 w2 p3 w4)), .second, .val (.long (vto p0 w1 w2 p3 w4)), .second, .val (.int g16_125)] [(.int (f3 (vfr p0 w1 w2 p3 w4) (vto p0 w1 w2 p3 w4) (vn p0 w1 w2 p3 w4).toNatClampNeg F9_125))])) ?_ (fun t q => st1 _ q)
    refine own_st (T' := T1) (f' := (mkF m 136 #[.val (.int p0), .val (.long w1), .second, .val (.long w2), .second, .val (.int p3), .val (.long w4), .second, .val (.int (vn p0 w1 w2 p3 w4)), .val (.ref r9_125), .val (.long ((64 : Int64) * ((vn p0 w1 w2 p3 w4).toInt64))), .second, .val (.long (vfr p0 w1 w2 p3 w4)), .second, .val (.long (vto p0 w1 w2 p3 w4)), .second, .val (.int g16_125)] [(.int g16_125), (.int (f3 (vfr p0 w1 w2 p3 w4) (vto p0 w1 w2 p3 w4) (vn p0 w1 w2 p3 w4).toNatClampNeg F9_125))])) ?_ (fun t q => XS.iload X1.here hx rfl (hb hby at_134) rfl q)
    refine own_ite (fun hc136 => ?_) (fun hc136 => ?_)
    · refine own_st (T' := T1) (f' := (mkF m 139 #[.val (.int p0), .val (.long w1), .second, .val (.long w2), .second, .val (.int p3), .val (.long w4), .second, .val (.int (vn p0 w1 w2 p3 w4)), .val (.ref r9_125), .val (.long ((64 : Int64) * ((vn p0 w1 w2 p3 w4).toInt64))), .second, .val (.long (vfr p0 w1 w2 p3 w4)), .second, .val (.long (vto p0 w1 w2 p3 w4)), .second, .val (.int g16_125)] [])) ?_ (fun t q => XS.icmpNo X1.here hx rfl (hb hby at_136) rfl (teq hc136).2 q)
      refine own_st (T' := T1) (f' := (mkF m 140 #[.val (.int p0), .val (.long w1), .second, .val (.long w2), .second, .val (.int p3), .val (.long w4), .second, .val (.int (vn p0 w1 w2 p3 w4)), .val (.ref r9_125), .val (.long ((64 : Int64) * ((vn p0 w1 w2 p3 w4).toInt64))), .second, .val (.long (vfr p0 w1 w2 p3 w4)), .second, .val (.long (vto p0 w1 w2 p3 w4)), .second, .val (.int g16_125)] [(.int (1 : Int32))])) ?_ (fun t q => XS.iconst X1.here hx rfl (hb hby at_139) q)
      refine own_st (T' := T1) (f' := (mkF m 144 #[.val (.int p0), .val (.long w1), .second, .val (.long w2), .second, .val (.int p3), .val (.long w4), .second, .val (.int (vn p0 w1 w2 p3 w4)), .val (.ref r9_125), .val (.long ((64 : Int64) * ((vn p0 w1 w2 p3 w4).toInt64))), .second, .val (.long (vfr p0 w1 w2 p3 w4)), .second, .val (.long (vto p0 w1 w2 p3 w4)), .second, .val (.int g16_125)] [(.int (1 : Int32))])) ?_ (fun t q => XS.goto X1.here hx rfl (pc0 := 140) (pc' := 144) rfl (hb hby at_140) (by decide) (by decide) q)
      exact own_retN X1 hx hlk (t := .boolean) Bd.returns (by simp) (hb hby at_144) (by decide) (by decide) ⟨rfl, N1, trivial⟩
    · refine own_st (T' := T1) (f' := (mkF m 143 #[.val (.int p0), .val (.long w1), .second, .val (.long w2), .second, .val (.int p3), .val (.long w4), .second, .val (.int (vn p0 w1 w2 p3 w4)), .val (.ref r9_125), .val (.long ((64 : Int64) * ((vn p0 w1 w2 p3 w4).toInt64))), .second, .val (.long (vfr p0 w1 w2 p3 w4)), .second, .val (.long (vto p0 w1 w2 p3 w4)), .second, .val (.int g16_125)] [])) ?_ (fun t q => XS.icmpYes X1.here hx rfl (pc0 := 136) (pc' := 143) rfl (hb hby at_136) rfl (feq hc136).2 (by decide) (by decide) q)
      refine own_st (T' := T1) (f' := (mkF m 144 #[.val (.int p0), .val (.long w1), .second, .val (.long w2), .second, .val (.int p3), .val (.long w4), .second, .val (.int (vn p0 w1 w2 p3 w4)), .val (.ref r9_125), .val (.long ((64 : Int64) * ((vn p0 w1 w2 p3 w4).toInt64))), .second, .val (.long (vfr p0 w1 w2 p3 w4)), .second, .val (.long (vto p0 w1 w2 p3 w4)), .second, .val (.int g16_125)] [(.int (0 : Int32))])) ?_ (fun t q => XS.iconst X1.here hx rfl (hb hby at_143) q)
      exact own_retN X1 hx hlk (t := .boolean) Bd.returns (by simp) (hb hby at_144) (by decide) (by decide) ⟨rfl, N1, trivial⟩
  have B42 : ∀ (T : State) (locs : List Loc) (r9_42 : Addr) (F9_42 : Nat → Int32) (X : Stand p l e room_1 s m #[(.int p0), (.long w1), (.long w2), (.int p3), (.long w4)] below meth c T locs 1 7) (N : Fr n0 locs) (zs : n0 ≤ T.heap.size) (G_r9_42 : n0 ≤ r9_42) (A_r9_42 : own_L Z T.heap r9_42 .long (vn p0 w1 w2 p3 w4).toNatClampNeg), own_W p e below s 1 7 (own_GI n0 (fun _ => True) (f0_42 p0 w1 w2 p3 w4 F9_42)) T (mkF m 42 #[.val (.int p0), .val (.long w1), .second, .val (.long w2), .second, .val (.int p3), .val (.long w4), .second, .val (.int (vn p0 w1 w2 p3 w4)), .val (.ref r9_42), .unset, .unset, .unset, .unset, .unset, .unset, .unset] []) := by
    intro T locs r9_42 F9_42 X N zs G_r9_42 A_r9_42
    unfold f0_42
    refine own_st (T' := T) (f' := (mkF m 45 #[.val (.int p0), .val (.long w1), .second, .val (.long w2), .second, .val (.int p3), .val (.long w4), .second, .val (.int (vn p0 w1 w2 p3 w4)), .val (.ref r9_42), .unset, .unset, .unset, .unset, .unset, .unset, .unset] [(.long (64 : Int64))])) ?_ (fun t q => X.ldc2Long hx hown (mvT hZ (hw _ (List.mem_of_getElem? (i := 1) rfl))) (g := (mkF m 42 #[.val (.int p0), .val (.long w1), .second, .val (.long w2), .second, .val (.int p3), .val (.long w4), .second, .val (.int (vn p0 w1 w2 p3 w4)), .val (.ref r9_42), .unset, .unset, .unset, .unset, .unset, .unset, .unset] [])) rfl (hb hby at_42) _ q)
    refine own_st (T' := T) (f' := (mkF m 47 #[.val (.int p0), .val (.long w1), .second, .val (.long w2), .second, .val (.int p3), .val (.long w4), .second, .val (.int (vn p0 w1 w2 p3 w4)), .val (.ref r9_42), .unset, .unset, .unset, .unset, .unset, .unset, .unset] [(.int (vn p0 w1 w2 p3 w4)), (.long (64 : Int64))])) ?_ (fun t q => XS.iload X.here hx rfl (hb hby at_45) rfl q)
    refine own_st (T' := T) (f' := (mkF m 48 #[.val (.int p0), .val (.long w1), .second, .val (.long w2), .second, .val (.int p3), .val (.long w4), .second, .val (.int (vn p0 w1 w2 p3 w4)), .val (.ref r9_42), .unset, .unset, .unset, .unset, .unset, .unset, .unset] [(.long ((vn p0 w1 w2 p3 w4).toInt64)), (.long (64 : Int64))])) ?_ (fun t q => XS.i2l X.here hx rfl (hb hby at_47) rfl q)
    refine own_st (T' := T) (f' := (mkF m 49 #[.val (.int p0), .val (.long w1), .second, .val (.long w2), .second, .val (.int p3), .val (.long w4), .second, .val (.int (vn p0 w1 w2 p3 w4)), .val (.ref r9_42), .unset, .unset, .unset, .unset, .unset, .unset, .unset] [(.long ((64 : Int64) * ((vn p0 w1 w2 p3 w4).toInt64)))])) ?_ (fun t q => XS.lmul X.here hx rfl (hb hby at_48) rfl q)
    refine own_st (T' := T) (f' := (mkF m 51 #[.val (.int p0), .val (.long w1), .second, .val (.long w2), .second, .val (.int p3), .val (.long w4), .second, .val (.int (vn p0 w1 w2 p3 w4)), .val (.ref r9_42), .val (.long ((64 : Int64) * ((vn p0 w1 w2 p3 w4).toInt64))), .second, .unset, .unset, .unset, .unset, .unset] [])) ?_ (fun t q => XS.lstore X.here hx rfl (hb hby at_49) rfl (l' := #[.val (.int p0), .val (.long w1), .second, .val (.long w2), .second, .val (.int p3), .val (.long w4), .second, .val (.int (vn p0 w1 w2 p3 w4)), .val (.ref r9_42), .val (.long ((64 : Int64) * ((vn p0 w1 w2 p3 w4).toInt64))), .second, .unset, .unset, .unset, .unset, .unset]) rfl q)
    refine own_st (T' := T) (f' := (mkF m 53 #[.val (.int p0), .val (.long w1), .second, .val (.long w2), .second, .val (.int p3), .val (.long w4), .second, .val (.int (vn p0 w1 w2 p3 w4)), .val (.ref r9_42), .val (.long ((64 : Int64) * ((vn p0 w1 w2 p3 w4).toInt64))), .second, .unset, .unset, .unset, .unset, .unset] [(.int p3)])) ?_ (fun t q => XS.iload X.here hx rfl (hb hby at_51) rfl q)
    refine own_st (T' := T) (f' := (mkF m 55 #[.val (.int p0), .val (.long w1), .second, .val (.long w2), .second, .val (.int p3), .val (.long w4), .second, .val (.int (vn p0 w1 w2 p3 w4)), .val (.ref r9_42), .val (.long ((64 : Int64) * ((vn p0 w1 w2 p3 w4).toInt64))), .second, .unset, .unset, .unset, .unset, .unset] [(.int (7 : Int32)), (.int p3)])) ?_ (fun t q => XS.bipush X.here hx rfl (hb hby at_53) q)
    refine own_st (T' := T) (f' := (mkF m 56 #[.val (.int p0), .val (.long w1), .second, .val (.long w2), .second, .val (.int p3), .val (.long w4), .second, .val (.int (vn p0 w1 w2 p3 w4)), .val (.ref r9_42), .val (.long ((64 : Int64) * ((vn p0 w1 w2 p3 w4).toInt64))), .second, .unset, .unset, .unset, .unset, .unset] [(.int (p3 &&& (7 : Int32)))])) ?_ (fun t q => XS.iand X.here hx rfl (hb hby at_55) rfl q)
    refine own_st (T' := T) (f' := (mkF m 57 #[.val (.int p0), .val (.long w1), .second, .val (.long w2), .second, .val (.int p3), .val (.long w4), .second, .val (.int (vn p0 w1 w2 p3 w4)), .val (.ref r9_42), .val (.long ((64 : Int64) * ((vn p0 w1 w2 p3 w4).toInt64))), .second, .unset, .unset, .unset, .unset, .unset] [(.long w1), (.int (p3 &&& (7 : Int32)))])) ?_ (fun t q => XS.lloadN X.here hx rfl (hb hby at_56) rfl q)
    refine own_st (T' := T) (f' := (mkF m 59 #[.val (.int p0), .val (.long w1), .second, .val (.long w2), .second, .val (.int p3), .val (.long w4), .second, .val (.int (vn p0 w1 w2 p3 w4)), .val (.ref r9_42), .val (.long ((64 : Int64) * ((vn p0 w1 w2 p3 w4).toInt64))), .second, .unset, .unset, .unset, .unset, .unset] [(.long ((64 : Int64) * ((vn p0 w1 w2 p3 w4).toInt64))), (.long w1), (.int (p3 &&& (7 : Int32)))])) ?_ (fun t q => XS.lload X.here hx rfl (hb hby at_57) rfl q)
    obtain ⟨_, _, ⟨T2, L2, k2, n2⟩, -, X2, ⟨Lc2, hQ2, l2, y2, z2⟩, st2⟩ := Jvm.LawKit.callS X hx (y := (⟨"com/example/bitfold/bitfold/array/RunsIsRangePinLaw", "pickFrom", "(IJJ)J"⟩ : MethodName)) hown (mvT hZ (hw _ (List.mem_of_getElem? (i := 2) rfl))) (mvT hZ (hw _ (List.mem_of_getElem? (i := 3) rfl))) (mvT hZ (hw _ (List.mem_of_getElem? (i := 4) rfl))) (mvT hZ (hw _ (List.mem_of_getElem? (i := 5) rfl))) (by decide) (backOf (W := 0) (rm1 l Z a0 hw [] (p3 &&& (7 : Int32)) w1 ((64 : Int64) * ((vn p0 w1 w2 p3 w4).toInt64)) T.heap n0) hZ (hw _ (List.mem_of_getElem? (i := 5) rfl)) (hw _ (List.mem_of_getElem? (i := 4) rfl)) (by decide) (by decide)) (g := (mkF m 59 #[.val (.int p0), .val (.long w1), .second, .val (.long w2), .second, .val (.int p3), .val (.long w4), .second, .val (.int (vn p0 w1 w2 p3 w4)), .val (.ref r9_42), .val (.long ((64 : Int64) * ((vn p0 w1 w2 p3 w4).toInt64))), .second, .unset, .unset, .unset, .unset, .unset] [(.long ((64 : Int64) * ((vn p0 w1 w2 p3 w4).toInt64))), (.long w1), (.int (p3 &&& (7 : Int32)))])) rfl (by rw [hml]; rfl) (argsL := [(.int (p3 &&& (7 : Int32))), (.long w1), (.long ((64 : Int64) * ((vn p0 w1 w2 p3 w4).toInt64)))]) (rest := []) (lenOf pd_0 rfl) rfl (by show 2 * 0 + _ ≤ _; exact Nat.le_of_eq rfl) (hb hby at_59) (fun _ _ => ⟨rfl, rfl, (Nat.le_of_ble_eq_true rfl), (Nat.le_of_ble_eq_true rfl)⟩)
    dsimp only [Pt.U, Pt.locs, Pt.cells, Pt.slots] at X2 l2 y2 z2 st2 hQ2
    subst l2 y2 z2
    obtain ⟨rfl, N2q, e2⟩ := hQ2
    have N2 := Fr.app N N2q
    have zs2 : n0 ≤ T2.heap.size := by rw [e2]; exact zs
    have A2_r9_42 := own_L.eq A_r9_42 e2
    refine own_st (T' := T2) (f' := (mkF m 62 #[.val (.int p0), .val (.long w1), .second, .val (.long w2), .second, .val (.int p3), .val (.long w4), .second, .val (.int (vn p0 w1 w2 p3 w4)), .val (.ref r9_42), .val (.long ((64 : Int64) * ((vn p0 w1 w2 p3 w4).toInt64))), .second, .unset, .unset, .unset, .unset, .unset] [(.long (f1 (p3 &&& (7 : Int32)) w1 ((64 : Int64) * ((vn p0 w1 w2 p3 w4).toInt64))))])) ?_ (fun t q => st2 _ q)
    refine own_st (T' := T2) (f' := (mkF m 64 #[.val (.int p0), .val (.long w1), .second, .val (.long w2), .second, .val (.int p3), .val (.long w4), .second, .val (.int (vn p0 w1 w2 p3 w4)), .val (.ref r9_42), .val (.long ((64 : Int64) * ((vn p0 w1 w2 p3 w4).toInt64))), .second, .val (.long (vfr p0 w1 w2 p3 w4)), .second, .unset, .unset, .unset] [])) ?_ (fun t q => XS.lstore X2.here hx rfl (hb hby at_62) rfl (l' := #[.val (.int p0), .val (.long w1), .second, .val (.long w2), .second, .val (.int p3), .val (.long w4), .second, .val (.int (vn p0 w1 w2 p3 w4)), .val (.ref r9_42), .val (.long ((64 : Int64) * ((vn p0 w1 w2 p3 w4).toInt64))), .second, .val (.long (vfr p0 w1 w2 p3 w4)), .second, .unset, .unset, .unset]) rfl q)
    refine own_st (T' := T2) (f' := (mkF m 66 #[.val (.int p0), .val (.long w1), .second, .val (.long w2), .second, .val (.int p3), .val (.long w4), .second, .val (.int (vn p0 w1 w2 p3 w4)), .val (.ref r9_42), .val (.long ((64 : Int64) * ((vn p0 w1 w2 p3 w4).toInt64))), .second, .val (.long (vfr p0 w1 w2 p3 w4)), .second, .unset, .unset, .unset] [(.int p3)])) ?_ (fun t q => XS.iload X2.here hx rfl (hb hby at_64) rfl q)
    refine own_st (T' := T2) (f' := (mkF m 67 #[.val (.int p0), .val (.long w1), .second, .val (.long w2), .second, .val (.int p3), .val (.long w4), .second, .val (.int (vn p0 w1 w2 p3 w4)), .val (.ref r9_42), .val (.long ((64 : Int64) * ((vn p0 w1 w2 p3 w4).toInt64))), .second, .val (.long (vfr p0 w1 w2 p3 w4)), .second, .unset, .unset, .unset] [(.int (3 : Int32)), (.int p3)])) ?_ (fun t q => XS.iconst X2.here hx rfl (hb hby at_66) q)
    refine own_st (T' := T2) (f' := (mkF m 68 #[.val (.int p0), .val (.long w1), .second, .val (.long w2), .second, .val (.int p3), .val (.long w4), .second, .val (.int (vn p0 w1 w2 p3 w4)), .val (.ref r9_42), .val (.long ((64 : Int64) * ((vn p0 w1 w2 p3 w4).toInt64))), .second, .val (.long (vfr p0 w1 w2 p3 w4)), .second, .unset, .unset, .unset] [(.int ((p3.toUInt32 >>> ((3 : Int32) &&& 31).toUInt32).toInt32))])) ?_ (fun t q => XS.iushr X2.here hx rfl (hb hby at_67) rfl q)
    refine own_st (T' := T2) (f' := (mkF m 70 #[.val (.int p0), .val (.long w1), .second, .val (.long w2), .second, .val (.int p3), .val (.long w4), .second, .val (.int (vn p0 w1 w2 p3 w4)), .val (.ref r9_42), .val (.long ((64 : Int64) * ((vn p0 w1 w2 p3 w4).toInt64))), .second, .val (.long (vfr p0 w1 w2 p3 w4)), .second, .unset, .unset, .unset] [(.int (7 : Int32)), (.int ((p3.toUInt32 >>> ((3 : Int32) &&& 31).toUInt32).toInt32))])) ?_ (fun t q => XS.bipush X2.here hx rfl (hb hby at_68) q)
    refine own_st (T' := T2) (f' := (mkF m 71 #[.val (.int p0), .val (.long w1), .second, .val (.long w2), .second, .val (.int p3), .val (.long w4), .second, .val (.int (vn p0 w1 w2 p3 w4)), .val (.ref r9_42), .val (.long ((64 : Int64) * ((vn p0 w1 w2 p3 w4).toInt64))), .second, .val (.long (vfr p0 w1 w2 p3 w4)), .second, .unset, .unset, .unset] [(.int (((p3.toUInt32 >>> ((3 : Int32) &&& 31).toUInt32).toInt32) &&& (7 : Int32)))])) ?_ (fun t q => XS.iand X2.here hx rfl (hb hby at_70) rfl q)
    refine own_st (T' := T2) (f' := (mkF m 72 #[.val (.int p0), .val (.long w1), .second, .val (.long w2), .second, .val (.int p3), .val (.long w4), .second, .val (.int (vn p0 w1 w2 p3 w4)), .val (.ref r9_42), .val (.long ((64 : Int64) * ((vn p0 w1 w2 p3 w4).toInt64))), .second, .val (.long (vfr p0 w1 w2 p3 w4)), .second, .unset, .unset, .unset] [(.long w2), (.int (((p3.toUInt32 >>> ((3 : Int32) &&& 31).toUInt32).toInt32) &&& (7 : Int32)))])) ?_ (fun t q => XS.lloadN X2.here hx rfl (hb hby at_71) rfl q)
    refine own_st (T' := T2) (f' := (mkF m 74 #[.val (.int p0), .val (.long w1), .second, .val (.long w2), .second, .val (.int p3), .val (.long w4), .second, .val (.int (vn p0 w1 w2 p3 w4)), .val (.ref r9_42), .val (.long ((64 : Int64) * ((vn p0 w1 w2 p3 w4).toInt64))), .second, .val (.long (vfr p0 w1 w2 p3 w4)), .second, .unset, .unset, .unset] [(.long (vfr p0 w1 w2 p3 w4)), (.long w2), (.int (((p3.toUInt32 >>> ((3 : Int32) &&& 31).toUInt32).toInt32) &&& (7 : Int32)))])) ?_ (fun t q => XS.lload X2.here hx rfl (hb hby at_72) rfl q)
    refine own_st (T' := T2) (f' := (mkF m 76 #[.val (.int p0), .val (.long w1), .second, .val (.long w2), .second, .val (.int p3), .val (.long w4), .second, .val (.int (vn p0 w1 w2 p3 w4)), .val (.ref r9_42), .val (.long ((64 : Int64) * ((vn p0 w1 w2 p3 w4).toInt64))), .second, .val (.long (vfr p0 w1 w2 p3 w4)), .second, .unset, .unset, .unset] [(.long ((64 : Int64) * ((vn p0 w1 w2 p3 w4).toInt64))), (.long (vfr p0 w1 w2 p3 w4)), (.long w2), (.int (((p3.toUInt32 >>> ((3 : Int32) &&& 31).toUInt32).toInt32) &&& (7 : Int32)))])) ?_ (fun t q => XS.lload X2.here hx rfl (hb hby at_74) rfl q)
    obtain ⟨_, _, ⟨T3, L3, k3, n3⟩, -, X3, ⟨Lc3, hQ3, l3, y3, z3⟩, st3⟩ := Jvm.LawKit.callS X2 hx (y := (⟨"com/example/bitfold/bitfold/array/RunsIsRangePinLaw", "pickTo", "(IJJJ)J"⟩ : MethodName)) hown (mvT hZ (hw _ (List.mem_of_getElem? (i := 6) rfl))) (mvT hZ (hw _ (List.mem_of_getElem? (i := 7) rfl))) (mvT hZ (hw _ (List.mem_of_getElem? (i := 4) rfl))) (mvT hZ (hw _ (List.mem_of_getElem? (i := 8) rfl))) (by decide) (backOf (W := 0) (rm2 l Z a0 hw [] (((p3.toUInt32 >>> ((3 : Int32) &&& 31).toUInt32).toInt32) &&& (7 : Int32)) w2 (vfr p0 w1 w2 p3 w4) ((64 : Int64) * ((vn p0 w1 w2 p3 w4).toInt64)) T2.heap n0) hZ (hw _ (List.mem_of_getElem? (i := 8) rfl)) (hw _ (List.mem_of_getElem? (i := 4) rfl)) (by decide) (by decide)) (g := (mkF m 76 #[.val (.int p0), .val (.long w1), .second, .val (.long w2), .second, .val (.int p3), .val (.long w4), .second, .val (.int (vn p0 w1 w2 p3 w4)), .val (.ref r9_42), .val (.long ((64 : Int64) * ((vn p0 w1 w2 p3 w4).toInt64))), .second, .val (.long (vfr p0 w1 w2 p3 w4)), .second, .unset, .unset, .unset] [(.long ((64 : Int64) * ((vn p0 w1 w2 p3 w4).toInt64))), (.long (vfr p0 w1 w2 p3 w4)), (.long w2), (.int (((p3.toUInt32 >>> ((3 : Int32) &&& 31).toUInt32).toInt32) &&& (7 : Int32)))])) rfl (by rw [hml]; rfl) (argsL := [(.int (((p3.toUInt32 >>> ((3 : Int32) &&& 31).toUInt32).toInt32) &&& (7 : Int32))), (.long w2), (.long (vfr p0 w1 w2 p3 w4)), (.long ((64 : Int64) * ((vn p0 w1 w2 p3 w4).toInt64)))]) (rest := []) (lenOf pd_1 rfl) rfl (by show 2 * 0 + _ ≤ _; exact Nat.le_of_eq rfl) (hb hby at_76) (fun _ _ => ⟨rfl, rfl, (Nat.le_of_ble_eq_true rfl), (Nat.le_of_ble_eq_true rfl)⟩)
    dsimp only [Pt.U, Pt.locs, Pt.cells, Pt.slots] at X3 l3 y3 z3 st3 hQ3
    subst l3 y3 z3
    obtain ⟨rfl, N3q, e3⟩ := hQ3
    have N3 := Fr.app N2 N3q
    have zs3 : n0 ≤ T3.heap.size := by rw [e3]; exact zs2
    have A3_r9_42 := own_L.eq A2_r9_42 e3
    refine own_st (T' := T3) (f' := (mkF m 79 #[.val (.int p0), .val (.long w1), .second, .val (.long w2), .second, .val (.int p3), .val (.long w4), .second, .val (.int (vn p0 w1 w2 p3 w4)), .val (.ref r9_42), .val (.long ((64 : Int64) * ((vn p0 w1 w2 p3 w4).toInt64))), .second, .val (.long (vfr p0 w1 w2 p3 w4)), .second, .unset, .unset, .unset] [(.long (f2 (((p3.toUInt32 >>> ((3 : Int32) &&& 31).toUInt32).toInt32) &&& (7 : Int32)) w2 (vfr p0 w1 w2 p3 w4) ((64 : Int64) * ((vn p0 w1 w2 p3 w4).toInt64))))])) ?_ (fun t q => st3 _ q)
    refine own_st (T' := T3) (f' := (mkF m 81 #[.val (.int p0), .val (.long w1), .second, .val (.long w2), .second, .val (.int p3), .val (.long w4), .second, .val (.int (vn p0 w1 w2 p3 w4)), .val (.ref r9_42), .val (.long ((64 : Int64) * ((vn p0 w1 w2 p3 w4).toInt64))), .second, .val (.long (vfr p0 w1 w2 p3 w4)), .second, .val (.long (vto p0 w1 w2 p3 w4)), .second, .unset] [])) ?_ (fun t q => XS.lstore X3.here hx rfl (hb hby at_79) rfl (l' := #[.val (.int p0), .val (.long w1), .second, .val (.long w2), .second, .val (.int p3), .val (.long w4), .second, .val (.int (vn p0 w1 w2 p3 w4)), .val (.ref r9_42), .val (.long ((64 : Int64) * ((vn p0 w1 w2 p3 w4).toInt64))), .second, .val (.long (vfr p0 w1 w2 p3 w4)), .second, .val (.long (vto p0 w1 w2 p3 w4)), .second, .unset]) rfl q)
    refine own_st (T' := T3) (f' := (mkF m 83 #[.val (.int p0), .val (.long w1), .second, .val (.long w2), .second, .val (.int p3), .val (.long w4), .second, .val (.int (vn p0 w1 w2 p3 w4)), .val (.ref r9_42), .val (.long ((64 : Int64) * ((vn p0 w1 w2 p3 w4).toInt64))), .second, .val (.long (vfr p0 w1 w2 p3 w4)), .second, .val (.long (vto p0 w1 w2 p3 w4)), .second, .unset] [(.long (vfr p0 w1 w2 p3 w4))])) ?_ (fun t q => XS.lload X3.here hx rfl (hb hby at_81) rfl q)
    refine own_st (T' := T3) (f' := (mkF m 84 #[.val (.int p0), .val (.long w1), .second, .val (.long w2), .second, .val (.int p3), .val (.long w4), .second, .val (.int (vn p0 w1 w2 p3 w4)), .val (.ref r9_42), .val (.long ((64 : Int64) * ((vn p0 w1 w2 p3 w4).toInt64))), .second, .val (.long (vfr p0 w1 w2 p3 w4)), .second, .val (.long (vto p0 w1 w2 p3 w4)), .second, .unset] [(.long (0 : Int64)), (.long (vfr p0 w1 w2 p3 w4))])) ?_ (fun t q => XS.lconst X3.here hx rfl (hb hby at_83) q)
    refine own_st (T' := T3) (f' := (mkF m 85 #[.val (.int p0), .val (.long w1), .second, .val (.long w2), .second, .val (.int p3), .val (.long w4), .second, .val (.int (vn p0 w1 w2 p3 w4)), .val (.ref r9_42), .val (.long ((64 : Int64) * ((vn p0 w1 w2 p3 w4).toInt64))), .second, .val (.long (vfr p0 w1 w2 p3 w4)), .second, .val (.long (vto p0 w1 w2 p3 w4)), .second, .unset] [(.int (lcmpW (vfr p0 w1 w2 p3 w4) (0 : Int64)))])) ?_ (fun t q => XS.lcmp X3.here hx rfl (hb hby at_84) rfl q)
    refine own_ite (fun hc85 => ?_) (fun hc85 => ?_)
    · refine own_st (T' := T3) (f' := (mkF m 88 #[.val (.int p0), .val (.long w1), .second, .val (.long w2), .second, .val (.int p3), .val (.long w4), .second, .val (.int (vn p0 w1 w2 p3 w4)), .val (.ref r9_42), .val (.long ((64 : Int64) * ((vn p0 w1 w2 p3 w4).toInt64))), .second, .val (.long (vfr p0 w1 w2 p3 w4)), .second, .val (.long (vto p0 w1 w2 p3 w4)), .second, .unset] [])) ?_ (fun t q => XS.ifNo X3.here hx rfl (hb hby at_85) rfl ((if0 _ _).trans (tlt ((lw_lt _ _).mpr hc85)).2.1) q)
      refine own_st (T' := T3) (f' := (mkF m 89 #[.val (.int p0), .val (.long w1), .second, .val (.long w2), .second, .val (.int p3), .val (.long w4), .second, .val (.int (vn p0 w1 w2 p3 w4)), .val (.ref r9_42), .val (.long ((64 : Int64) * ((vn p0 w1 w2 p3 w4).toInt64))), .second, .val (.long (vfr p0 w1 w2 p3 w4)), .second, .val (.long (vto p0 w1 w2 p3 w4)), .second, .unset] [(.int (0 : Int32))])) ?_ (fun t q => XS.iconst X3.here hx rfl (hb hby at_88) q)
      refine own_st (T' := T3) (f' := (mkF m 91 #[.val (.int p0), .val (.long w1), .second, .val (.long w2), .second, .val (.int p3), .val (.long w4), .second, .val (.int (vn p0 w1 w2 p3 w4)), .val (.ref r9_42), .val (.long ((64 : Int64) * ((vn p0 w1 w2 p3 w4).toInt64))), .second, .val (.long (vfr p0 w1 w2 p3 w4)), .second, .val (.long (vto p0 w1 w2 p3 w4)), .second, .val (.int (0 : Int32))] [])) ?_ (fun t q => XS.istore X3.here hx rfl (hb hby at_89) rfl (l' := #[.val (.int p0), .val (.long w1), .second, .val (.long w2), .second, .val (.int p3), .val (.long w4), .second, .val (.int (vn p0 w1 w2 p3 w4)), .val (.ref r9_42), .val (.long ((64 : Int64) * ((vn p0 w1 w2 p3 w4).toInt64))), .second, .val (.long (vfr p0 w1 w2 p3 w4)), .second, .val (.long (vto p0 w1 w2 p3 w4)), .second, .val (.int (0 : Int32))]) rfl q)
      refine own_st (T' := T3) (f' := (mkF m 125 #[.val (.int p0), .val (.long w1), .second, .val (.long w2), .second, .val (.int p3), .val (.long w4), .second, .val (.int (vn p0 w1 w2 p3 w4)), .val (.ref r9_42), .val (.long ((64 : Int64) * ((vn p0 w1 w2 p3 w4).toInt64))), .second, .val (.long (vfr p0 w1 w2 p3 w4)), .second, .val (.long (vto p0 w1 w2 p3 w4)), .second, .val (.int (0 : Int32))] [])) ?_ (fun t q => XS.goto X3.here hx rfl (pc0 := 91) (pc' := 125) rfl (hb hby at_91) (by decide) (by decide) q)
      exact B125 T3 _ r9_42 (0 : Int32) F9_42 X3 N3 zs3 G_r9_42 A3_r9_42
    · refine own_st (T' := T3) (f' := (mkF m 94 #[.val (.int p0), .val (.long w1), .second, .val (.long w2), .second, .val (.int p3), .val (.long w4), .second, .val (.int (vn p0 w1 w2 p3 w4)), .val (.ref r9_42), .val (.long ((64 : Int64) * ((vn p0 w1 w2 p3 w4).toInt64))), .second, .val (.long (vfr p0 w1 w2 p3 w4)), .second, .val (.long (vto p0 w1 w2 p3 w4)), .second, .unset] [])) ?_ (fun t q => XS.ifYes X3.here hx rfl (pc0 := 85) (pc' := 94) rfl (hb hby at_85) rfl ((if0 _ _).trans (flt (fun z => hc85 ((lw_lt _ _).mp z))).2.1) (by decide) (by decide) q)
      refine own_st (T' := T3) (f' := (mkF m 96 #[.val (.int p0), .val (.long w1), .second, .val (.long w2), .second, .val (.int p3), .val (.long w4), .second, .val (.int (vn p0 w1 w2 p3 w4)), .val (.ref r9_42), .val (.long ((64 : Int64) * ((vn p0 w1 w2 p3 w4).toInt64))), .second, .val (.long (vfr p0 w1 w2 p3 w4)), .second, .val (.long (vto p0 w1 w2 p3 w4)), .second, .unset] [(.long (vto p0 w1 w2 p3 w4))])) ?_ (fun t q => XS.lload X3.here hx rfl (hb hby at_94) rfl q)
      refine own_st (T' := T3) (f' := (mkF m 98 #[.val (.int p0), .val (.long w1), .second, .val (.long w2), .second, .val (.int p3), .val (.long w4), .second, .val (.int (vn p0 w1 w2 p3 w4)), .val (.ref r9_42), .val (.long ((64 : Int64) * ((vn p0 w1 w2 p3 w4).toInt64))), .second, .val (.long (vfr p0 w1 w2 p3 w4)), .second, .val (.long (vto p0 w1 w2 p3 w4)), .second, .unset] [(.long (vfr p0 w1 w2 p3 w4)), (.long (vto p0 w1 w2 p3 w4))])) ?_ (fun t q => XS.lload X3.here hx rfl (hb hby at_96) rfl q)
      refine own_st (T' := T3) (f' := (mkF m 99 #[.val (.int p0), .val (.long w1), .second, .val (.long w2), .second, .val (.int p3), .val (.long w4), .second, .val (.int (vn p0 w1 w2 p3 w4)), .val (.ref r9_42), .val (.long ((64 : Int64) * ((vn p0 w1 w2 p3 w4).toInt64))), .second, .val (.long (vfr p0 w1 w2 p3 w4)), .second, .val (.long (vto p0 w1 w2 p3 w4)), .second, .unset] [(.int (lcmpW (vto p0 w1 w2 p3 w4) (vfr p0 w1 w2 p3 w4)))])) ?_ (fun t q => XS.lcmp X3.here hx rfl (hb hby at_98) rfl q)
      refine own_ite (fun hc99 => ?_) (fun hc99 => ?_)
      · refine own_st (T' := T3) (f' := (mkF m 102 #[.val (.int p0), .val (.long w1), .second, .val (.long w2), .second, .val (.int p3), .val (.long w4), .second, .val (.int (vn p0 w1 w2 p3 w4)), .val (.ref r9_42), .val (.long ((64 : Int64) * ((vn p0 w1 w2 p3 w4).toInt64))), .second, .val (.long (vfr p0 w1 w2 p3 w4)), .second, .val (.long (vto p0 w1 w2 p3 w4)), .second, .unset] [])) ?_ (fun t q => XS.ifNo X3.here hx rfl (hb hby at_99) rfl ((if0 _ _).trans (tlt ((lw_lt _ _).mpr hc99)).2.1) q)
        refine own_st (T' := T3) (f' := (mkF m 103 #[.val (.int p0), .val (.long w1), .second, .val (.long w2), .second, .val (.int p3), .val (.long w4), .second, .val (.int (vn p0 w1 w2 p3 w4)), .val (.ref r9_42), .val (.long ((64 : Int64) * ((vn p0 w1 w2 p3 w4).toInt64))), .second, .val (.long (vfr p0 w1 w2 p3 w4)), .second, .val (.long (vto p0 w1 w2 p3 w4)), .second, .unset] [(.int (0 : Int32))])) ?_ (fun t q => XS.iconst X3.here hx rfl (hb hby at_102) q)
        refine own_st (T' := T3) (f' := (mkF m 105 #[.val (.int p0), .val (.long w1), .second, .val (.long w2), .second, .val (.int p3), .val (.long w4), .second, .val (.int (vn p0 w1 w2 p3 w4)), .val (.ref r9_42), .val (.long ((64 : Int64) * ((vn p0 w1 w2 p3 w4).toInt64))), .second, .val (.long (vfr p0 w1 w2 p3 w4)), .second, .val (.long (vto p0 w1 w2 p3 w4)), .second, .val (.int (0 : Int32))] [])) ?_ (fun t q => XS.istore X3.here hx rfl (hb hby at_103) rfl (l' := #[.val (.int p0), .val (.long w1), .second, .val (.long w2), .second, .val (.int p3), .val (.long w4), .second, .val (.int (vn p0 w1 w2 p3 w4)), .val (.ref r9_42), .val (.long ((64 : Int64) * ((vn p0 w1 w2 p3 w4).toInt64))), .second, .val (.long (vfr p0 w1 w2 p3 w4)), .second, .val (.long (vto p0 w1 w2 p3 w4)), .second, .val (.int (0 : Int32))]) rfl q)
        refine own_st (T' := T3) (f' := (mkF m 125 #[.val (.int p0), .val (.long w1), .second, .val (.long w2), .second, .val (.int p3), .val (.long w4), .second, .val (.int (vn p0 w1 w2 p3 w4)), .val (.ref r9_42), .val (.long ((64 : Int64) * ((vn p0 w1 w2 p3 w4).toInt64))), .second, .val (.long (vfr p0 w1 w2 p3 w4)), .second, .val (.long (vto p0 w1 w2 p3 w4)), .second, .val (.int (0 : Int32))] [])) ?_ (fun t q => XS.goto X3.here hx rfl (pc0 := 105) (pc' := 125) rfl (hb hby at_105) (by decide) (by decide) q)
        exact B125 T3 _ r9_42 (0 : Int32) F9_42 X3 N3 zs3 G_r9_42 A3_r9_42
      · refine own_st (T' := T3) (f' := (mkF m 108 #[.val (.int p0), .val (.long w1), .second, .val (.long w2), .second, .val (.int p3), .val (.long w4), .second, .val (.int (vn p0 w1 w2 p3 w4)), .val (.ref r9_42), .val (.long ((64 : Int64) * ((vn p0 w1 w2 p3 w4).toInt64))), .second, .val (.long (vfr p0 w1 w2 p3 w4)), .second, .val (.long (vto p0 w1 w2 p3 w4)), .second, .unset] [])) ?_ (fun t q => XS.ifYes X3.here hx rfl (pc0 := 99) (pc' := 108) rfl (hb hby at_99) rfl ((if0 _ _).trans (flt (fun z => hc99 ((lw_lt _ _).mp z))).2.1) (by decide) (by decide) q)
        refine own_st (T' := T3) (f' := (mkF m 110 #[.val (.int p0), .val (.long w1), .second, .val (.long w2), .second, .val (.int p3), .val (.long w4), .second, .val (.int (vn p0 w1 w2 p3 w4)), .val (.ref r9_42), .val (.long ((64 : Int64) * ((vn p0 w1 w2 p3 w4).toInt64))), .second, .val (.long (vfr p0 w1 w2 p3 w4)), .second, .val (.long (vto p0 w1 w2 p3 w4)), .second, .unset] [(.long (vto p0 w1 w2 p3 w4))])) ?_ (fun t q => XS.lload X3.here hx rfl (hb hby at_108) rfl q)
        refine own_st (T' := T3) (f' := (mkF m 112 #[.val (.int p0), .val (.long w1), .second, .val (.long w2), .second, .val (.int p3), .val (.long w4), .second, .val (.int (vn p0 w1 w2 p3 w4)), .val (.ref r9_42), .val (.long ((64 : Int64) * ((vn p0 w1 w2 p3 w4).toInt64))), .second, .val (.long (vfr p0 w1 w2 p3 w4)), .second, .val (.long (vto p0 w1 w2 p3 w4)), .second, .unset] [(.long ((64 : Int64) * ((vn p0 w1 w2 p3 w4).toInt64))), (.long (vto p0 w1 w2 p3 w4))])) ?_ (fun t q => XS.lload X3.here hx rfl (hb hby at_110) rfl q)
        refine own_st (T' := T3) (f' := (mkF m 113 #[.val (.int p0), .val (.long w1), .second, .val (.long w2), .second, .val (.int p3), .val (.long w4), .second, .val (.int (vn p0 w1 w2 p3 w4)), .val (.ref r9_42), .val (.long ((64 : Int64) * ((vn p0 w1 w2 p3 w4).toInt64))), .second, .val (.long (vfr p0 w1 w2 p3 w4)), .second, .val (.long (vto p0 w1 w2 p3 w4)), .second, .unset] [(.int (lcmpW (vto p0 w1 w2 p3 w4) ((64 : Int64) * ((vn p0 w1 w2 p3 w4).toInt64))))])) ?_ (fun t q => XS.lcmp X3.here hx rfl (hb hby at_112) rfl q)
        refine own_ite (fun hc113 => ?_) (fun hc113 => ?_)
        · refine own_st (T' := T3) (f' := (mkF m 116 #[.val (.int p0), .val (.long w1), .second, .val (.long w2), .second, .val (.int p3), .val (.long w4), .second, .val (.int (vn p0 w1 w2 p3 w4)), .val (.ref r9_42), .val (.long ((64 : Int64) * ((vn p0 w1 w2 p3 w4).toInt64))), .second, .val (.long (vfr p0 w1 w2 p3 w4)), .second, .val (.long (vto p0 w1 w2 p3 w4)), .second, .unset] [])) ?_ (fun t q => XS.ifNo X3.here hx rfl (hb hby at_113) rfl ((if0 _ _).trans (tlt ((lw_gt _ _).mpr hc113)).2.2.2) q)
          refine own_st (T' := T3) (f' := (mkF m 117 #[.val (.int p0), .val (.long w1), .second, .val (.long w2), .second, .val (.int p3), .val (.long w4), .second, .val (.int (vn p0 w1 w2 p3 w4)), .val (.ref r9_42), .val (.long ((64 : Int64) * ((vn p0 w1 w2 p3 w4).toInt64))), .second, .val (.long (vfr p0 w1 w2 p3 w4)), .second, .val (.long (vto p0 w1 w2 p3 w4)), .second, .unset] [(.int (0 : Int32))])) ?_ (fun t q => XS.iconst X3.here hx rfl (hb hby at_116) q)
          refine own_st (T' := T3) (f' := (mkF m 119 #[.val (.int p0), .val (.long w1), .second, .val (.long w2), .second, .val (.int p3), .val (.long w4), .second, .val (.int (vn p0 w1 w2 p3 w4)), .val (.ref r9_42), .val (.long ((64 : Int64) * ((vn p0 w1 w2 p3 w4).toInt64))), .second, .val (.long (vfr p0 w1 w2 p3 w4)), .second, .val (.long (vto p0 w1 w2 p3 w4)), .second, .val (.int (0 : Int32))] [])) ?_ (fun t q => XS.istore X3.here hx rfl (hb hby at_117) rfl (l' := #[.val (.int p0), .val (.long w1), .second, .val (.long w2), .second, .val (.int p3), .val (.long w4), .second, .val (.int (vn p0 w1 w2 p3 w4)), .val (.ref r9_42), .val (.long ((64 : Int64) * ((vn p0 w1 w2 p3 w4).toInt64))), .second, .val (.long (vfr p0 w1 w2 p3 w4)), .second, .val (.long (vto p0 w1 w2 p3 w4)), .second, .val (.int (0 : Int32))]) rfl q)
          refine own_st (T' := T3) (f' := (mkF m 125 #[.val (.int p0), .val (.long w1), .second, .val (.long w2), .second, .val (.int p3), .val (.long w4), .second, .val (.int (vn p0 w1 w2 p3 w4)), .val (.ref r9_42), .val (.long ((64 : Int64) * ((vn p0 w1 w2 p3 w4).toInt64))), .second, .val (.long (vfr p0 w1 w2 p3 w4)), .second, .val (.long (vto p0 w1 w2 p3 w4)), .second, .val (.int (0 : Int32))] [])) ?_ (fun t q => XS.goto X3.here hx rfl (pc0 := 119) (pc' := 125) rfl (hb hby at_119) (by decide) (by decide) q)
          exact B125 T3 _ r9_42 (0 : Int32) F9_42 X3 N3 zs3 G_r9_42 A3_r9_42
        · refine own_st (T' := T3) (f' := (mkF m 122 #[.val (.int p0), .val (.long w1), .second, .val (.long w2), .second, .val (.int p3), .val (.long w4), .second, .val (.int (vn p0 w1 w2 p3 w4)), .val (.ref r9_42), .val (.long ((64 : Int64) * ((vn p0 w1 w2 p3 w4).toInt64))), .second, .val (.long (vfr p0 w1 w2 p3 w4)), .second, .val (.long (vto p0 w1 w2 p3 w4)), .second, .unset] [])) ?_ (fun t q => XS.ifYes X3.here hx rfl (pc0 := 113) (pc' := 122) rfl (hb hby at_113) rfl ((if0 _ _).trans (flt (fun z => hc113 ((lw_gt _ _).mp z))).2.2.2) (by decide) (by decide) q)
          refine own_st (T' := T3) (f' := (mkF m 123 #[.val (.int p0), .val (.long w1), .second, .val (.long w2), .second, .val (.int p3), .val (.long w4), .second, .val (.int (vn p0 w1 w2 p3 w4)), .val (.ref r9_42), .val (.long ((64 : Int64) * ((vn p0 w1 w2 p3 w4).toInt64))), .second, .val (.long (vfr p0 w1 w2 p3 w4)), .second, .val (.long (vto p0 w1 w2 p3 w4)), .second, .unset] [(.int (1 : Int32))])) ?_ (fun t q => XS.iconst X3.here hx rfl (hb hby at_122) q)
          refine own_st (T' := T3) (f' := (mkF m 125 #[.val (.int p0), .val (.long w1), .second, .val (.long w2), .second, .val (.int p3), .val (.long w4), .second, .val (.int (vn p0 w1 w2 p3 w4)), .val (.ref r9_42), .val (.long ((64 : Int64) * ((vn p0 w1 w2 p3 w4).toInt64))), .second, .val (.long (vfr p0 w1 w2 p3 w4)), .second, .val (.long (vto p0 w1 w2 p3 w4)), .second, .val (.int (1 : Int32))] [])) ?_ (fun t q => XS.istore X3.here hx rfl (hb hby at_123) rfl (l' := #[.val (.int p0), .val (.long w1), .second, .val (.long w2), .second, .val (.int p3), .val (.long w4), .second, .val (.int (vn p0 w1 w2 p3 w4)), .val (.ref r9_42), .val (.long ((64 : Int64) * ((vn p0 w1 w2 p3 w4).toInt64))), .second, .val (.long (vfr p0 w1 w2 p3 w4)), .second, .val (.long (vto p0 w1 w2 p3 w4)), .second, .val (.int (1 : Int32))]) rfl q)
          exact B125 T3 _ r9_42 (1 : Int32) F9_42 X3 N3 zs3 G_r9_42 A3_r9_42
  have B23 : ∀ (T : State) (locs : List Loc) (r9_23 : Addr) (F9_23 : Nat → Int32) (X : Stand p l e room_1 s m #[(.int p0), (.long w1), (.long w2), (.int p3), (.long w4)] below meth c T locs 1 7) (N : Fr n0 locs) (zs : n0 ≤ T.heap.size) (G_r9_23 : n0 ≤ r9_23) (A_r9_23 : own_L Z T.heap r9_23 .long (vn p0 w1 w2 p3 w4).toNatClampNeg), own_W p e below s 1 7 (own_GI n0 (fun _ => True) (f0_23 p0 w1 w2 p3 w4 F9_23)) T (mkF m 23 #[.val (.int p0), .val (.long w1), .second, .val (.long w2), .second, .val (.int p3), .val (.long w4), .second, .val (.int (vn p0 w1 w2 p3 w4)), .val (.ref r9_23), .unset, .unset, .unset, .unset, .unset, .unset, .unset] []) := by
    intro T locs r9_23 F9_23 X N zs G_r9_23 A_r9_23
    unfold f0_23
    refine own_st (T' := T) (f' := (mkF m 25 #[.val (.int p0), .val (.long w1), .second, .val (.long w2), .second, .val (.int p3), .val (.long w4), .second, .val (.int (vn p0 w1 w2 p3 w4)), .val (.ref r9_23), .unset, .unset, .unset, .unset, .unset, .unset, .unset] [(.int (vn p0 w1 w2 p3 w4))])) ?_ (fun t q => XS.iload X.here hx rfl (hb hby at_23) rfl q)
    refine own_st (T' := T) (f' := (mkF m 26 #[.val (.int p0), .val (.long w1), .second, .val (.long w2), .second, .val (.int p3), .val (.long w4), .second, .val (.int (vn p0 w1 w2 p3 w4)), .val (.ref r9_23), .unset, .unset, .unset, .unset, .unset, .unset, .unset] [(.int (1 : Int32)), (.int (vn p0 w1 w2 p3 w4))])) ?_ (fun t q => XS.iconst X.here hx rfl (hb hby at_25) q)
    refine own_ite (fun hc26 => ?_) (fun hc26 => ?_)
    · refine own_st (T' := T) (f' := (mkF m 29 #[.val (.int p0), .val (.long w1), .second, .val (.long w2), .second, .val (.int p3), .val (.long w4), .second, .val (.int (vn p0 w1 w2 p3 w4)), .val (.ref r9_23), .unset, .unset, .unset, .unset, .unset, .unset, .unset] [])) ?_ (fun t q => XS.icmpNo X.here hx rfl (hb hby at_26) rfl (tlt hc26).2.2.2 q)
      refine own_st (T' := T) (f' := (mkF m 31 #[.val (.int p0), .val (.long w1), .second, .val (.long w2), .second, .val (.int p3), .val (.long w4), .second, .val (.int (vn p0 w1 w2 p3 w4)), .val (.ref r9_23), .unset, .unset, .unset, .unset, .unset, .unset, .unset] [(.ref r9_23)])) ?_ (fun t q => XS.aload X.here hx rfl (hb hby at_29) rfl rfl q)
      refine own_st (T' := T) (f' := (mkF m 33 #[.val (.int p0), .val (.long w1), .second, .val (.long w2), .second, .val (.int p3), .val (.long w4), .second, .val (.int (vn p0 w1 w2 p3 w4)), .val (.ref r9_23), .unset, .unset, .unset, .unset, .unset, .unset, .unset] [(.int (vn p0 w1 w2 p3 w4)), (.ref r9_23)])) ?_ (fun t q => XS.iload X.here hx rfl (hb hby at_31) rfl q)
      refine own_st (T' := T) (f' := (mkF m 34 #[.val (.int p0), .val (.long w1), .second, .val (.long w2), .second, .val (.int p3), .val (.long w4), .second, .val (.int (vn p0 w1 w2 p3 w4)), .val (.ref r9_23), .unset, .unset, .unset, .unset, .unset, .unset, .unset] [(.int (1 : Int32)), (.int (vn p0 w1 w2 p3 w4)), (.ref r9_23)])) ?_ (fun t q => XS.iconst X.here hx rfl (hb hby at_33) q)
      refine own_st (T' := T) (f' := (mkF m 35 #[.val (.int p0), .val (.long w1), .second, .val (.long w2), .second, .val (.int p3), .val (.long w4), .second, .val (.int (vn p0 w1 w2 p3 w4)), .val (.ref r9_23), .unset, .unset, .unset, .unset, .unset, .unset, .unset] [(.int ((vn p0 w1 w2 p3 w4) - (1 : Int32))), (.ref r9_23)])) ?_ (fun t q => XS.isub X.here hx rfl (hb hby at_34) rfl q)
      refine own_st (T' := T) (f' := (mkF m 37 #[.val (.int p0), .val (.long w1), .second, .val (.long w2), .second, .val (.int p3), .val (.long w4), .second, .val (.int (vn p0 w1 w2 p3 w4)), .val (.ref r9_23), .unset, .unset, .unset, .unset, .unset, .unset, .unset] [(.long w4), (.int ((vn p0 w1 w2 p3 w4) - (1 : Int32))), (.ref r9_23)])) ?_ (fun t q => XS.lload X.here hx rfl (hb hby at_35) rfl q)
      refine own_st (T' := T) (f' := (mkF m 40 #[.val (.int p0), .val (.long w1), .second, .val (.long w2), .second, .val (.int p3), .val (.long w4), .second, .val (.int (vn p0 w1 w2 p3 w4)), .val (.ref r9_23), .unset, .unset, .unset, .unset, .unset, .unset, .unset] [(.long (-1 : Int64)), (.long w4), (.int ((vn p0 w1 w2 p3 w4) - (1 : Int32))), (.ref r9_23)])) ?_ (fun t q => X.ldc2Long hx hown (mvT hZ (hw _ (List.mem_of_getElem? (i := 13) rfl))) (g := (mkF m 37 #[.val (.int p0), .val (.long w1), .second, .val (.long w2), .second, .val (.int p3), .val (.long w4), .second, .val (.int (vn p0 w1 w2 p3 w4)), .val (.ref r9_23), .unset, .unset, .unset, .unset, .unset, .unset, .unset] [(.long w4), (.int ((vn p0 w1 w2 p3 w4) - (1 : Int32))), (.ref r9_23)])) rfl (hb hby at_37) _ q)
      refine own_st (T' := T) (f' := (mkF m 41 #[.val (.int p0), .val (.long w1), .second, .val (.long w2), .second, .val (.int p3), .val (.long w4), .second, .val (.int (vn p0 w1 w2 p3 w4)), .val (.ref r9_23), .unset, .unset, .unset, .unset, .unset, .unset, .unset] [(.long (w4 ^^^ (-1 : Int64))), (.int ((vn p0 w1 w2 p3 w4) - (1 : Int32))), (.ref r9_23)])) ?_ (fun t q => XS.lxor X.here hx rfl (hb hby at_40) rfl q)
      refine own_last X hx hZ A_r9_23 (j := ((vn p0 w1 w2 p3 w4) - (1 : Int32))) (x := (w4 ^^^ (-1 : Int64))) (own_last1 hc26) (hb hby at_41) N G_r9_23 (fun T4 lo4 X4 N4 K4 A4_r9_23 => ?_)
      have zs4 : n0 ≤ T4.heap.size := Nat.le_trans zs K4.1
      show own_W _ _ _ _ _ _ _ T4 (mkF m 42 #[.val (.int p0), .val (.long w1), .second, .val (.long w2), .second, .val (.int p3), .val (.long w4), .second, .val (.int (vn p0 w1 w2 p3 w4)), .val (.ref r9_23), .unset, .unset, .unset, .unset, .unset, .unset, .unset] [])
      exact B42 T4 _ r9_23 F9_23 X4 N4 zs4 G_r9_23 A4_r9_23
    · refine own_st (T' := T) (f' := (mkF m 42 #[.val (.int p0), .val (.long w1), .second, .val (.long w2), .second, .val (.int p3), .val (.long w4), .second, .val (.int (vn p0 w1 w2 p3 w4)), .val (.ref r9_23), .unset, .unset, .unset, .unset, .unset, .unset, .unset] [])) ?_ (fun t q => XS.icmpYes X.here hx rfl (pc0 := 26) (pc' := 42) rfl (hb hby at_26) rfl (flt hc26).2.2.2 (by decide) (by decide) q)
      exact B42 T _ r9_23 F9_23 X N zs G_r9_23 A_r9_23
  show own_W p e below s 1 7 (own_GI n0 (fun _ => True) (f0 p0 w1 w2 p3 w4)) s₁ (entryFrame m #[(.int p0), (.long w1), (.long w2), (.int p3), (.long w4)] maxLocals)
  refine own_to (ef_0 m p0 w1 w2 p3 w4) ?_
  unfold f0
  refine own_st (T' := s₁) (f' := (mkF m 1 #[.val (.int p0), .val (.long w1), .second, .val (.long w2), .second, .val (.int p3), .val (.long w4), .second, .unset, .unset, .unset, .unset, .unset, .unset, .unset, .unset, .unset] [(.int p0)])) ?_ (fun t q => XS.iloadN X0.here hx rfl (hb hby at_0) rfl q)
  refine own_st (T' := s₁) (f' := (mkF m 3 #[.val (.int p0), .val (.long w1), .second, .val (.long w2), .second, .val (.int p3), .val (.long w4), .second, .unset, .unset, .unset, .unset, .unset, .unset, .unset, .unset, .unset] [(.int (7 : Int32)), (.int p0)])) ?_ (fun t q => XS.bipush X0.here hx rfl (hb hby at_1) q)
  refine own_st (T' := s₁) (f' := (mkF m 4 #[.val (.int p0), .val (.long w1), .second, .val (.long w2), .second, .val (.int p3), .val (.long w4), .second, .unset, .unset, .unset, .unset, .unset, .unset, .unset, .unset, .unset] [(.int (p0 &&& (7 : Int32)))])) ?_ (fun t q => XS.iand X0.here hx rfl (hb hby at_3) rfl q)
  refine own_st (T' := s₁) (f' := (mkF m 6 #[.val (.int p0), .val (.long w1), .second, .val (.long w2), .second, .val (.int p3), .val (.long w4), .second, .val (.int (vn p0 w1 w2 p3 w4)), .unset, .unset, .unset, .unset, .unset, .unset, .unset, .unset] [])) ?_ (fun t q => XS.istore X0.here hx rfl (hb hby at_4) rfl (l' := #[.val (.int p0), .val (.long w1), .second, .val (.long w2), .second, .val (.int p3), .val (.long w4), .second, .val (.int (vn p0 w1 w2 p3 w4)), .unset, .unset, .unset, .unset, .unset, .unset, .unset, .unset]) rfl q)
  refine own_st (T' := s₁) (f' := (mkF m 8 #[.val (.int p0), .val (.long w1), .second, .val (.long w2), .second, .val (.int p3), .val (.long w4), .second, .val (.int (vn p0 w1 w2 p3 w4)), .unset, .unset, .unset, .unset, .unset, .unset, .unset, .unset] [(.int (vn p0 w1 w2 p3 w4))])) ?_ (fun t q => XS.iload X0.here hx rfl (hb hby at_6) rfl q)
  refine own_newJ X0 hx hZ (hw _ (List.mem_of_getElem? (i := 0) rfl)) (z := (vn p0 w1 w2 p3 w4)) (own_n1 p0 w1 w2 p3 w4) (cap := 7) (own_n2 p0 w1 w2 p3 w4) (by decide) (by decide) (by decide) (hb hby at_8) (fun T5 b5 X5 ge5 E5 A5_b5 => ?_)
  have G5 : n0 ≤ b5 := Nat.le_trans zs0 ge5
  have zs5 : n0 ≤ T5.heap.size := Nat.le_trans zs0 E5.1
  show own_W _ _ _ _ _ _ _ T5 (mkF m 10 #[.val (.int p0), .val (.long w1), .second, .val (.long w2), .second, .val (.int p3), .val (.long w4), .second, .val (.int (vn p0 w1 w2 p3 w4)), .unset, .unset, .unset, .unset, .unset, .unset, .unset, .unset] [(.ref b5)])
  refine own_st (T' := T5) (f' := (mkF m 12 #[.val (.int p0), .val (.long w1), .second, .val (.long w2), .second, .val (.int p3), .val (.long w4), .second, .val (.int (vn p0 w1 w2 p3 w4)), .val (.ref b5), .unset, .unset, .unset, .unset, .unset, .unset, .unset] [])) ?_ (fun t q => XS.astore X5.here hx rfl (hb hby at_10) rfl rfl (l' := #[.val (.int p0), .val (.long w1), .second, .val (.long w2), .second, .val (.int p3), .val (.long w4), .second, .val (.int (vn p0 w1 w2 p3 w4)), .val (.ref b5), .unset, .unset, .unset, .unset, .unset, .unset, .unset]) rfl q)
  refine own_st (T' := T5) (f' := (mkF m 14 #[.val (.int p0), .val (.long w1), .second, .val (.long w2), .second, .val (.int p3), .val (.long w4), .second, .val (.int (vn p0 w1 w2 p3 w4)), .val (.ref b5), .unset, .unset, .unset, .unset, .unset, .unset, .unset] [(.int (vn p0 w1 w2 p3 w4))])) ?_ (fun t q => XS.iload X5.here hx rfl (hb hby at_12) rfl q)
  refine own_ite (fun hc14 => ?_) (fun hc14 => ?_)
  · refine own_st (T' := T5) (f' := (mkF m 17 #[.val (.int p0), .val (.long w1), .second, .val (.long w2), .second, .val (.int p3), .val (.long w4), .second, .val (.int (vn p0 w1 w2 p3 w4)), .val (.ref b5), .unset, .unset, .unset, .unset, .unset, .unset, .unset] [])) ?_ (fun t q => XS.ifNo X5.here hx rfl (hb hby at_14) rfl ((if0 _ _).trans (tlt hc14).2.2.2) q)
    refine own_st (T' := T5) (f' := (mkF m 19 #[.val (.int p0), .val (.long w1), .second, .val (.long w2), .second, .val (.int p3), .val (.long w4), .second, .val (.int (vn p0 w1 w2 p3 w4)), .val (.ref b5), .unset, .unset, .unset, .unset, .unset, .unset, .unset] [(.ref b5)])) ?_ (fun t q => XS.aload X5.here hx rfl (hb hby at_17) rfl rfl q)
    refine own_st (T' := T5) (f' := (mkF m 20 #[.val (.int p0), .val (.long w1), .second, .val (.long w2), .second, .val (.int p3), .val (.long w4), .second, .val (.int (vn p0 w1 w2 p3 w4)), .val (.ref b5), .unset, .unset, .unset, .unset, .unset, .unset, .unset] [(.int (0 : Int32)), (.ref b5)])) ?_ (fun t q => XS.iconst X5.here hx rfl (hb hby at_19) q)
    refine own_st (T' := T5) (f' := (mkF m 22 #[.val (.int p0), .val (.long w1), .second, .val (.long w2), .second, .val (.int p3), .val (.long w4), .second, .val (.int (vn p0 w1 w2 p3 w4)), .val (.ref b5), .unset, .unset, .unset, .unset, .unset, .unset, .unset] [(.long w4), (.int (0 : Int32)), (.ref b5)])) ?_ (fun t q => XS.lload X5.here hx rfl (hb hby at_20) rfl q)
    refine own_last X5 hx hZ A5_b5 (j := (0 : Int32)) (x := w4) (own_idx (by decide) hc14 (Nat.le_refl _)) (hb hby at_22) N0 G5 (fun T6 lo6 X6 N6 K6 A6_b5 => ?_)
    have zs6 : n0 ≤ T6.heap.size := Nat.le_trans zs5 K6.1
    show own_W _ _ _ _ _ _ _ T6 (mkF m 23 #[.val (.int p0), .val (.long w1), .second, .val (.long w2), .second, .val (.int p3), .val (.long w4), .second, .val (.int (vn p0 w1 w2 p3 w4)), .val (.ref b5), .unset, .unset, .unset, .unset, .unset, .unset, .unset] [])
    exact B23 T6 _ b5 (fun _ => 0) X6 N6 zs6 G5 A6_b5
  · refine own_st (T' := T5) (f' := (mkF m 23 #[.val (.int p0), .val (.long w1), .second, .val (.long w2), .second, .val (.int p3), .val (.long w4), .second, .val (.int (vn p0 w1 w2 p3 w4)), .val (.ref b5), .unset, .unset, .unset, .unset, .unset, .unset, .unset] [])) ?_ (fun t q => XS.ifYes X5.here hx rfl (pc0 := 14) (pc' := 23) rfl (hb hby at_14) rfl ((if0 _ _).trans (flt hc14).2.2.2) (by decide) (by decide) q)
    exact B23 T5 _ b5 (fun _ => 0) X5 N0 zs5 G5 A5_b5

theorem own_law (p0 : Int32) (w1 w2 : Int64) (p3 : Int32) (w4 : Int64) : f0 p0 w1 w2 p3 w4 = 1 := by
  have hn := own_n p0 w1 w2 p3 w4
  have hb : (Int32.ofNat (vn p0 w1 w2 p3 w4).toNatClampNeg).toInt64 * 64 = 64 * (vn p0 w1 w2 p3 w4).toInt64 := by
    rw [own_cof (by omega), Int64.mul_comm]
  have h42 : ∀ F, f0_42 p0 w1 w2 p3 w4 F = 1 := by
    intro F
    simp only [f0_42, f0_125, f3, hb]
    generalize vfr p0 w1 w2 p3 w4 = a
    generalize vto p0 w1 w2 p3 w4 = b
    by_cases q1 : a < 0
    · simp [q1]
    · by_cases q2 : b < a
      · simp [q1, q2]
      · by_cases q3 : 64 * (vn p0 w1 w2 p3 w4).toInt64 < b
        · simp [q1, q2, q3]
        · simp [q1, q2, q3]
  simp only [f0, f0_23, h42, ite_self]
set_option maxRecDepth 65536 in
set_option maxHeartbeats 40000000 in
theorem comes_1 {Post : Tables → Env → Array Value → State → Outcome → State → Prop} (hpost : ∀ tb e args s v u, (limb_1_1.after args s (.returned v) u = true ∧ limb_1_2.after args s (.returned v) u = true ∧ True) → FrameEnd s (.returned v) u (Jvm.fieldLocs frame_1_writes args s ++ Jvm.arrayLocs frame_1_arrays args s ++ Jvm.staticLocs frame_1_statics s) 16 128 → Post tb e args s (.returned v) u) :
    ArmFor flags0 classFile x code maxLocals ret World_1 tables_1 room_1 Calls_1 rest_1 Pre_1 Post := by
  intro l hfl _ _ p e ha hc hk s m args below hf hA hF happ hP
  obtain ⟨hcalls, hrest, hpre⟩ := hP
  obtain ⟨-, -, -, hnamed, -, -, -, hat⟩ := (Spec.applies_iff hf).mp happ
  obtain ⟨hg, hn⟩ := and_e (Cond.before_iff.mp (show (Jvm.Cond.and given_1 narrow_1).before args s = true from hpre))
  obtain ⟨hcnt, g0⟩ := and_e hg
  obtain ⟨t0, g1⟩ := and_e g0
  obtain ⟨t1, g2⟩ := and_e g1
  obtain ⟨t2, g3⟩ := and_e g2
  obtain ⟨t3, g4⟩ := and_e g3
  have t4 := g4
  obtain ⟨w0, w1, w2, w3, w4, rfl⟩ : ∃ w0 w1 w2 w3 w4 : Value, args = #[w0, w1, w2, w3, w4] := by
    have hs : args.size = 5 := by simpa [Cond.value, given_1] using hcnt
    obtain ⟨L⟩ := args
    match L, hs with
    | [w0, w1, w2, w3, w4], _ => exact ⟨w0, w1, w2, w3, w4, rfl⟩
  have hw := fun d (hd : d ∈ tables_1) => atoms_spec (ws := Jvm.Cond.code x code maxLocals ret :: tables_1) hat d (List.mem_cons_of_mem _ hd)
  obtain ⟨i0, ei0⟩ := is_v t0
  obtain rfl : w0 = (.int i0) := Option.some.inj ei0
  obtain ⟨i1, ei1⟩ := isL_v t1
  obtain rfl : w1 = (.long i1) := Option.some.inj ei1
  obtain ⟨i2, ei2⟩ := isL_v t2
  obtain rfl : w2 = (.long i2) := Option.some.inj ei2
  obtain ⟨i3, ei3⟩ := is_v t3
  obtain rfl : w3 = (.int i3) := Option.some.inj ei3
  obtain ⟨i4, ei4⟩ := isL_v t4
  obtain rfl : w4 = (.long i4) := Option.some.inj ei4
  obtain ⟨n, o, h1, h2, h3, v, L, rfl, ⟨hv, N, -⟩, hq⟩ := rm0 l s _ hw tables_1 i0 i1 i2 i3 i4 s.heap s.heap.size (Nat.le_refl _) p e ha hc hk s m _ below hf ((Spec.applies_iff_loose hf).mp happ).1 ⟨rfl, State.Warmed39.refl s, rfl⟩ trivial
  obtain rfl : v = some (.int 1) := by rw [hv, own_law]
  refine ⟨n, _, h1, h2, h3, hpost _ _ _ _ _ _ ⟨Cond.after_iff.mpr rfl, Cond.after_iff.mpr (eq_i res_at (Term.int_eval (1)) rfl), trivial⟩ ⟨hq.1, hq.2.1, (hq.2.2.sift fun y hy => Or.inr (N y hy)).mono (by decide) (by decide)⟩⟩
theorem main_1_1 : Claimed_1_1 := comes_1 fun _ _ _ _ _ _ h hF => ⟨h.1, hF⟩
theorem main_1_2 : Claimed_1_2 := comes_1 fun _ _ _ _ _ _ h hF => ⟨h.2.1, hF⟩
end Jvm.Pilot.@@N@@
namespace Jvm.Pilot.@@N@@
open Jvm Jvm.ClassFile Sem Op Lib Jvm.Free Jvm.Stand Jvm.Pilot.@@N@@.Jvm.D
/-! MADE BY PROGRAM (witnessworld.py) out of the Statement's table words and the real class files: 11 classes; the members and pool entries that the words name. The judged class is class 1, her method 3. -/
namespace start1
open Jvm.ClassFile
def u (s : String) : CpInfo := .utf8 (stringToUtf16 s)
/-- a pool by its gaps: so many unusable entries, then the entry; so many at the end -/
def gap : Nat → List CpInfo → List CpInfo
  | 0, r => r
  | n + 1, r => .unusable :: gap n r
def poolList (es : List (Nat × CpInfo)) (last : Nat) : List CpInfo := es.foldr (fun e r => gap e.1 (e.2 :: r)) (gap last [])
def pool (es : List (Nat × CpInfo)) (last : Nat) : Array CpInfo := ⟨poolList es last⟩
def fileOf (pool : Array CpInfo) (this : Nat) (attrs : Array Attribute := #[]) (ms : Array MethodInfo := #[]) (fl : Nat := 33) (sup : Nat := 0) (ifs : Array Nat := #[]) (fds : Array FieldInfo := #[]) : ClassFile where
  minorVersion := 0
  majorVersion := 65
  constantPool := pool
  accessFlags := fl
  thisClass := this
  superClass := sup
  interfaces := ifs
  fields := fds
  methods := ms
  attributes := attrs
def plain (name : String) (sup : Option ClassId) : Class where
  name := name
  kind := .ordinary
  loader := none
  accessFlags := 33
  super := sup
  interfaces := #[]
  cf := none
  fields := #[]
  methods := #[]
  instanceTypes := #[]
  staticTypes := #[]
  resolved := #[]
  callSites := []
  init := .initialized
  statics := none
  mirror := none

def pool0 : Array CpInfo := pool [(5, u "<init>"), (0, u "()V"), (1, .class_ 10), (1, u "java/lang/Object")] 113

def k0m0 : Method := { name := "<init>", desc := "()V", sig := { parameters := [], returnType := none }, accessFlags := 1, code := none }
/-- java/lang/Object -/
def k0 : Class := { plain "java/lang/Object" none with
  accessFlags := 33
  interfaces := #[]
  cf := some (fileOf pool0 8 #[] #[{ accessFlags := 1, nameIndex := 5, descriptorIndex := 6, attributes := #[] }] 33 0 #[] #[])
  fields := #[]
  methods := #[k0m0]
  instanceTypes := #[]
  staticTypes := #[]
  resolved := Array.replicate 124 none
  statics := none }

def pool1 : Array CpInfo := pool [(2, .class_ 4), (1, u "java/lang/Object"), (0, u "<init>"), (0, u "()V"), (0, .long 18446744073709551615), (3, .long 9223372036854775808), (1, .long 9223372036854775807), (1, .long 64), (1, .methodref 18 19), (0, .class_ 20), (0, .nameAndType 21 22), (0, u "com/example/bitfold/bitfold/array/RunsIsRangePinLaw"), (0, u "pickFrom"), (0, u "(IJJ)J"), (0, .methodref 18 24), (0, .nameAndType 25 26), (0, u "pickTo"), (0, u "(IJJJ)J"), (0, .methodref 28 29), (0, .class_ 30), (0, .nameAndType 31 32), (0, u "com/example/bitfold/bitfold/array/Runs"), (0, u "isRange"), (0, u "([JJJ)Z"), (3, u "law"), (0, u "(IJJIJ)Z")] 4

def k1m0 : Method := { name := "<init>", desc := "()V", sig := { parameters := [], returnType := none }, accessFlags := 2, code := none }
def k1c1 : Code := { maxStack := 4, maxLocals := 5, code := method_2_code, exceptionTable := #[], attributes := #[] }
def k1m1 : Method := { name := "pickFrom", desc := "(IJJ)J", sig := { parameters := [.int, .long, .long], returnType := some .long }, accessFlags := 10, code := some k1c1 }
def k1c2 : Code := { maxStack := 4, maxLocals := 7, code := method_3_code, exceptionTable := #[], attributes := #[] }
def k1m2 : Method := { name := "pickTo", desc := "(IJJJ)J", sig := { parameters := [.int, .long, .long, .long], returnType := some .long }, accessFlags := 10, code := some k1c2 }
def k1c3 : Code := { maxStack := 7, maxLocals := 17, code := code, exceptionTable := #[], attributes := #[] }
def k1m3 : Method := { name := "law", desc := "(IJJIJ)Z", sig := { parameters := [.int, .long, .long, .int, .long], returnType := some .boolean }, accessFlags := 9, code := some k1c3 }
/-- com/example/bitfold/bitfold/array/RunsIsRangePinLaw -/
def k1 : Class := { plain "com/example/bitfold/bitfold/array/RunsIsRangePinLaw" (some 0) with
  accessFlags := 49
  interfaces := #[]
  cf := some (fileOf pool1 18 #[] #[{ accessFlags := 2, nameIndex := 5, descriptorIndex := 6, attributes := #[] }, { accessFlags := 10, nameIndex := 21, descriptorIndex := 22, attributes := #[] }, { accessFlags := 10, nameIndex := 25, descriptorIndex := 26, attributes := #[] }, { accessFlags := 9, nameIndex := 36, descriptorIndex := 37, attributes := #[] }] 49 2 #[] #[])
  fields := #[]
  methods := #[k1m0, k1m1, k1m2, k1m3]
  instanceTypes := #[]
  staticTypes := #[]
  resolved := Array.replicate 42 none
  statics := none }

def pool2 : Array CpInfo := pool [(5, .class_ 6), (0, u "com/example/bitfold/bitfold/array/Runs"), (1, .class_ 10), (1, u "java/lang/Object"), (0, u "<init>"), (0, u "()V"), (0, .long 64), (57, u "VECTOR_BIT_COUNT"), (0, u "Z"), (2, u "VECTOR_OR_REDUCTION"), (0, u "INT_RUN_WORDS"), (0, u "I"), (1, u "INT_RUN_BYTES"), (0, u "BOUNDED_RUN_WORDS"), (1, u "BOUNDED_RUN_BYTES"), (1, u "SHORT_RUN_WORDS"), (1, u "SHORT_RUN_BYTES"), (1, u "LONGEST_BOUNDED_RUN_WORDS"), (2, u "isRange"), (0, u "([JJJ)Z")] 43

def k2m0 : Method := { name := "<init>", desc := "()V", sig := { parameters := [], returnType := none }, accessFlags := 2, code := none }
def k2c1 : Code := { maxStack := 6, maxLocals := 5, code := prog_10_method_2_code, exceptionTable := #[], attributes := #[] }
def k2m1 : Method := { name := "isRange", desc := "([JJJ)Z", sig := { parameters := [(.array .long), .long, .long], returnType := some .boolean }, accessFlags := 8, code := some k2c1 }
/-- com/example/bitfold/bitfold/array/Runs -/
def k2 : Class := { plain "com/example/bitfold/bitfold/array/Runs" (some 0) with
  accessFlags := 48
  interfaces := #[]
  cf := some (fileOf pool2 5 #[] #[{ accessFlags := 2, nameIndex := 11, descriptorIndex := 12, attributes := #[] }, { accessFlags := 8, nameIndex := 91, descriptorIndex := 92, attributes := #[] }] 48 8 #[] #[{ accessFlags := 24, nameIndex := 76, descriptorIndex := 77, attributes := #[] }, { accessFlags := 24, nameIndex := 79, descriptorIndex := 77, attributes := #[] }, { accessFlags := 24, nameIndex := 80, descriptorIndex := 77, attributes := #[] }, { accessFlags := 24, nameIndex := 82, descriptorIndex := 77, attributes := #[] }, { accessFlags := 24, nameIndex := 84, descriptorIndex := 77, attributes := #[] }, { accessFlags := 24, nameIndex := 86, descriptorIndex := 77, attributes := #[] }, { accessFlags := 26, nameIndex := 88, descriptorIndex := 77, attributes := #[] }, { accessFlags := 24, nameIndex := 71, descriptorIndex := 72, attributes := #[] }, { accessFlags := 24, nameIndex := 75, descriptorIndex := 72, attributes := #[] }])
  fields := #[{ name := "INT_RUN_WORDS", type := .int, accessFlags := 24, slot := 0, constantValue := 0 }, { name := "INT_RUN_BYTES", type := .int, accessFlags := 24, slot := 1, constantValue := 0 }, { name := "BOUNDED_RUN_WORDS", type := .int, accessFlags := 24, slot := 2, constantValue := 0 }, { name := "BOUNDED_RUN_BYTES", type := .int, accessFlags := 24, slot := 3, constantValue := 0 }, { name := "SHORT_RUN_WORDS", type := .int, accessFlags := 24, slot := 4, constantValue := 0 }, { name := "SHORT_RUN_BYTES", type := .int, accessFlags := 24, slot := 5, constantValue := 0 }, { name := "LONGEST_BOUNDED_RUN_WORDS", type := .int, accessFlags := 26, slot := 6, constantValue := 0 }, { name := "VECTOR_BIT_COUNT", type := .boolean, accessFlags := 24, slot := 7, constantValue := 0 }, { name := "VECTOR_OR_REDUCTION", type := .boolean, accessFlags := 24, slot := 8, constantValue := 0 }]
  methods := #[k2m0, k2m1]
  instanceTypes := #[]
  staticTypes := #[.int, .int, .int, .int, .int, .int, .int, .boolean, .boolean]
  resolved := Array.replicate 136 none
  statics := none }

def pool3 : Array CpInfo := pool [(1, u "java/lang/Cloneable"), (0, .class_ 1), (0, u "java/lang/Object"), (0, .class_ 3)] 3

/-- java/lang/Cloneable -/
def k3 : Class := { plain "java/lang/Cloneable" (some 0) with
  accessFlags := 1537
  interfaces := #[]
  cf := some (fileOf pool3 2 #[] #[] 1537 4 #[] #[])
  fields := #[]
  methods := #[]
  instanceTypes := #[]
  staticTypes := #[]
  resolved := Array.replicate 8 none
  statics := none }

def pool4 : Array CpInfo := pool [(1, u "java/io/Serializable"), (0, .class_ 1), (0, u "java/lang/Object"), (0, .class_ 3)] 3

/-- java/io/Serializable -/
def k4 : Class := { plain "java/io/Serializable" (some 0) with
  accessFlags := 1537
  interfaces := #[]
  cf := some (fileOf pool4 2 #[] #[] 1537 4 #[] #[])
  fields := #[]
  methods := #[]
  instanceTypes := #[]
  staticTypes := #[]
  resolved := Array.replicate 8 none
  statics := none }

/-- the primitive byte -/
def k5 : Class := { plain "byte" none with kind := .primitive 'B', accessFlags := 0x411 }
/-- [B -/
def k6 : Class := { plain "[B" (some 0) with kind := .array 5 .byte, interfaces := #[3, 4], accessFlags := 1041 }

/-- the primitive int -/
def k7 : Class := { plain "int" none with kind := .primitive 'I', accessFlags := 0x411 }
/-- [I -/
def k8 : Class := { plain "[I" (some 0) with kind := .array 7 .int, interfaces := #[3, 4], accessFlags := 1041 }

/-- the primitive long -/
def k9 : Class := { plain "long" none with kind := .primitive 'J', accessFlags := 0x411 }
/-- [J -/
def k10 : Class := { plain "[J" (some 0) with kind := .array 9 .long, interfaces := #[3, 4], accessFlags := 1041 }

def heap : Heap := #[]
def classes : Array Class := #[k0, k1, k2, k3, k4, k5, k6, k7, k8, k9, k10]
def interned : List (Array UInt16 × Addr) := []
def slotsUsed : Nat := 0
def theMethod : MethodId := ⟨1, 3⟩
def args0 : Array Value := #[.int 5, .long 5, .long 5, .int 5, .long 5]
def aboutOver (below : List Frame) : State where
  vm := { classes := classes, interned := interned.toArray }
  heap := heap
  slotsUsed := slotsUsed
  threads := #[{ frames := .invoking theMethod args0 :: below }]
def below0 : List Frame := [.native { method := ⟨0, 0⟩, args := #[] }]
def about1 : State := aboutOver below0
def p0 : Program := .bare "" "" ""
def e0 : Env := launch0.env 0 0 0
theorem w_frames : about1.frames = Frame.invoking theMethod args0 :: below0 := rfl
set_option maxRecDepth 65536 in
theorem w_args : argsFit about1.vm theMethod args0 = true := by decide +kernel
set_option maxRecDepth 65536 in
theorem w_heap : heapFits about1 = true := by decide +kernel
set_option maxRecDepth 65536 in
theorem w_runnable : about1.curStatus? = some .runnable := by decide +kernel
set_option maxRecDepth 65536 in
theorem w_alone : about1.alone = true := by decide +kernel
set_option maxRecDepth 65536 in
theorem w_named : about1.methodNamed? x = some theMethod := by decide +kernel
set_option maxRecDepth 65536 in
theorem w_hears : about1.hears theMethod below0 = true := by decide +kernel
set_option maxRecDepth 65536 in
theorem w_ripe : about1.ripe theMethod args0 below0 = true := by decide +kernel
theorem w_running : about1.status = .running := rfl
set_option maxRecDepth 65536 in
theorem w_room : about1.hasRoom e0.platform room_1 = true :=
  launch0.hasRoom_least _ room_1 (by decide +kernel) (by decide +kernel) (by decide +kernel) (by decide +kernel) (by decide +kernel) (by decide +kernel)
theorem allAtoms_all (ts : List Jvm.Cond) (a : Array Jvm.Value) (st : Jvm.State) : (allAtoms ts).before a st = ts.all (fun c => c.before a st) := by
  induction ts with
  | nil => rfl
  | cons c t ih =>
    show (Jvm.Cond.and c (allAtoms t)).before a st = _
    rw [Jvm.Cond.before_and, ih, List.all_cons]
def words1 : List Jvm.Cond := Jvm.Cond.code x code maxLocals ret :: tables_1
/-- a 'code' word, met by the world's own term for the bytes: nothing is compared byte by byte -/
theorem code_word {y : MethodName} {bytes : ByteArray} {mx : Nat} {rt : Option FieldType} {a : Array Value} {s : State} {m : MethodId} {meth : Method} {c : Code} (h1 : s.methodNamed? y = some m) (h2 : s.vm.method? m = some meth) (h3 : meth.code = some c) (h4 : c.code = bytes)
    (h5 : (c.maxLocals == mx && c.exceptionTable.isEmpty && decide (c.maxStack ≤ mostOperands) && decide (meth.sig.returnType = rt) && !meth.locks && decide (parseMethodDescriptor y.desc = some meth.sig)) = true) : (Jvm.Cond.code y bytes mx rt).before a s = true := by
  simp only [Bool.and_eq_true, beq_iff_eq, Bool.not_eq_true', decide_eq_true_eq] at h5
  obtain ⟨⟨⟨⟨⟨g1, g2⟩, g3⟩, g4⟩, g5⟩, g6⟩ := h5
  simp [Cond.before, Cond.holds, Cond.value, h1, h2, h3, h4, g1, g2, g3, g4, g5, g6]
def isCode : Jvm.Cond → Bool
  | .code _ _ _ _ => true
  | _ => false
theorem all_split {L : List Jvm.Cond} {P : Jvm.Cond → Bool} (h1 : L.all (fun c => isCode c || P c) = true) (h2 : ∀ c ∈ L.filter isCode, P c = true) : L.all P = true := by
  refine List.all_eq_true.mpr fun c hc => ?_
  have h := List.all_eq_true.mp h1 c hc
  rcases Bool.eq_false_or_eq_true (isCode c) with hi | hi
  · exact h2 c (List.mem_filter.mpr ⟨hc, hi⟩)
  · simpa [hi] using h
set_option maxRecDepth 65536 in
theorem w_c0 : (Jvm.Cond.code x code maxLocals ret).before args0 about1 = true := code_word (m := ⟨1, 3⟩) (meth := k1m3) (c := k1c3) (by decide +kernel) rfl rfl rfl (by decide +kernel)
set_option maxRecDepth 65536 in
theorem w_c1 : (Jvm.Cond.code ({ cls := "com/example/bitfold/bitfold/array/RunsIsRangePinLaw", name := "pickFrom", desc := "(IJJ)J" } : Jvm.MethodName) method_2_code (5 : Nat) (Option.some Jvm.ClassFile.FieldType.long)).before args0 about1 = true := code_word (m := ⟨1, 1⟩) (meth := k1m1) (c := k1c1) (by decide +kernel) rfl rfl rfl (by decide +kernel)
set_option maxRecDepth 65536 in
theorem w_c2 : (Jvm.Cond.code ({ cls := "com/example/bitfold/bitfold/array/RunsIsRangePinLaw", name := "pickTo", desc := "(IJJJ)J" } : Jvm.MethodName) method_3_code (7 : Nat) (Option.some Jvm.ClassFile.FieldType.long)).before args0 about1 = true := code_word (m := ⟨1, 2⟩) (meth := k1m2) (c := k1c2) (by decide +kernel) rfl rfl rfl (by decide +kernel)
set_option maxRecDepth 65536 in
theorem w_c3 : (Jvm.Cond.code ({ cls := "com/example/bitfold/bitfold/array/Runs", name := "isRange", desc := "([JJJ)Z" } : Jvm.MethodName) prog_10_method_2_code (5 : Nat) (Option.some Jvm.ClassFile.FieldType.boolean)).before args0 about1 = true := code_word (m := ⟨2, 1⟩) (meth := k2m1) (c := k2c1) (by decide +kernel) rfl rfl rfl (by decide +kernel)
def codes1 : List Jvm.Cond := [Jvm.Cond.code x code maxLocals ret, Jvm.Cond.code ({ cls := "com/example/bitfold/bitfold/array/RunsIsRangePinLaw", name := "pickFrom", desc := "(IJJ)J" } : Jvm.MethodName) method_2_code (5 : Nat) (Option.some Jvm.ClassFile.FieldType.long), Jvm.Cond.code ({ cls := "com/example/bitfold/bitfold/array/RunsIsRangePinLaw", name := "pickTo", desc := "(IJJJ)J" } : Jvm.MethodName) method_3_code (7 : Nat) (Option.some Jvm.ClassFile.FieldType.long), Jvm.Cond.code ({ cls := "com/example/bitfold/bitfold/array/Runs", name := "isRange", desc := "([JJJ)Z" } : Jvm.MethodName) prog_10_method_2_code (5 : Nat) (Option.some Jvm.ClassFile.FieldType.boolean)]
set_option maxRecDepth 65536 in
theorem codes_eq : words1.filter isCode = codes1 := rfl
theorem w_codes : ∀ c ∈ words1.filter isCode, c.before args0 about1 = true := by
  rw [codes_eq]
  intro c hc
  simp only [codes1, List.mem_cons, List.not_mem_nil, or_false] at hc
  rcases hc with rfl | rfl | rfl | rfl
  · exact w_c0
  · exact w_c1
  · exact w_c2
  · exact w_c3
set_option maxRecDepth 65536 in
theorem w_t1 : words1.all (fun c => isCode c || c.before args0 about1) = true := by decide +kernel
theorem w_tables : (allAtoms (Jvm.Cond.code x code maxLocals ret :: tables_1)).before args0 about1 = true := by
  rw [allAtoms_all]
  show words1.all (fun c => c.before args0 about1) = true
  refine all_split ?_ w_codes
  rw [w_t1]
set_option maxRecDepth 65536 in
theorem w_case : (Jvm.Cond.and given_1 narrow_1).before args0 about1 = true := by decide +kernel
theorem w_applies : (headSpec (Jvm.Cond.code x code maxLocals ret :: tables_1) room_1).applies x e0.platform about1 = true :=
  (Spec.applies_iff w_frames).mpr ⟨w_running, w_runnable, w_alone, w_named, w_hears, w_ripe, w_room, w_tables⟩
theorem atStart : AtStart classFile x code maxLocals ret World_1 tables_1 room_1 Calls_1 rest_1 Pre_1 launch0 p0 e0 about1 theMethod args0 below0 :=
  ⟨lists_1, trivial, launch0.admits_env _ _ _, launch0.least_env, fairChoices_fair.cas, fairChoices_fair.clock, w_frames, w_args, w_heap, w_applies, trivial, trivial, w_case⟩
end start1
theorem witness_1 : WitnessClaimed_1 := ⟨start1.p0, start1.e0, start1.about1, start1.theMethod, start1.args0, start1.below0, start1.atStart⟩
end Jvm.Pilot.@@N@@
