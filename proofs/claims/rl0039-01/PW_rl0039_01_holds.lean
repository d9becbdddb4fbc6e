import PyProof.Rows.All
import Wide.All
import OpenK.AllK
import Wide.FinOn
import PyProof.StrLawsReplace
import PyProof.Rows.SeqMore3
import PyProof.Rows.StrStrike
import Lean
import PySem.Challenge.RW_rl0039_01
section
namespace Mine

/-! the DP of the distance, as an invariant -/

/-- the prices' sum over the first i places -/
noncomputable def psum (c : Nat → Int) : Nat → Int
  | 0 => 0
  | n + 1 => psum c n + c n

noncomputable def Dok (P : Nat → Int) (i j : Nat) (v : Int) : Prop :=
  2 * (i : Int) - 2 * (j : Int) ≤ v ∧ 2 * (j : Int) - 2 * (i : Int) ≤ v ∧ (i = j → (P i ≤ v ∨ 4 ≤ v) ∧ v ≤ P i)

noncomputable def RowOk (P : Nat → Int) (n i : Nat) (row : List Int) : Prop :=
  row.length = n ∧ ∀ k (v : Int), row[k]? = some v → Dok P i (k + 1) v

structure InOk (P : Nat → Int) (n i j : Nat) (row : List Int) (dist res mn : Int) : Prop where
  len : row.length = n
  lo : ∀ k (v : Int), row[k]? = some v → k < j → Dok P (i + 1) (k + 1) v
  hi : ∀ k (v : Int), row[k]? = some v → j ≤ k → Dok P i (k + 1) v
  d : Dok P i j dist
  r0 : j = 0 → res = 2 * (i : Int)
  r : 0 < j → Dok P (i + 1) j res
  m : i < j → mn ≤ P (i + 1)

theorem row0 (P : Nat → Int) (n : Nat) (row : List Int) (hl : row.length = n) (h : ∀ (k : Nat) (v : Int), row[k]? = some v → v = 2 * ((k : Int) + 1)) : RowOk P n 0 row := by
  refine ⟨hl, fun k v hv => ?_⟩
  have := h k v hv
  refine ⟨by omega, by omega, fun e => by omega⟩

theorem inStart {P : Nat → Int} {n i : Nat} {row : List Int} (h : RowOk P n i row) (hi0 : i = 0 → P 0 = 0) : InOk P n i 0 row (2 * (i : Int)) (2 * (i : Int)) 9223372036854775807 := by
  refine ⟨h.1, fun _ _ _ hk => absurd hk (Nat.not_lt_zero _), fun k v hv _ => h.2 k v hv, ⟨by omega, by omega, ?_⟩, fun _ => rfl, fun h => absurd h (Nat.lt_irrefl _), fun h => absurd h (Nat.not_lt_zero _)⟩
  intro e
  subst e
  rw [hi0 rfl]
  omega

theorem inStep {P c : Nat → Int} {n i j : Nat} {row : List Int} {dist res mn up s d' r' : Int} (h : InOk P n i j row dist res mn) (hi : i < n) (hj : j < n) (hup : row[j]? = some up)
    (hP0 : P 0 = 0) (hc0 : 0 ≤ s) (hc2 : s ≤ 2) (hP : i = j → P (i + 1) = P i + s) (hd : d' = up) (hr : r' = min (min res up + 2) (dist + s)) :
    InOk P n i (j + 1) (row.set j r') d' r' (if r' < mn then r' else mn) := by
  have hu := h.hi j up hup (Nat.le_refl _)
  have hr' : Dok P (i + 1) (j + 1) r' := by
    rcases h.d with ⟨a1, a2, a3⟩
    rcases hu with ⟨b1, b2, b3⟩
    by_cases hj0 : j = 0
    · have e := h.r0 hj0
      refine ⟨by omega, by omega, fun q => ?_⟩
      have q' : i = j := by omega
      have := hP q'
      have := a3 q'
      subst q'
      subst hj0
      rw [hP0] at *
      omega
    · rcases h.r (by omega) with ⟨e1, e2, e3⟩
      refine ⟨by omega, by omega, fun q => ?_⟩
      have q' : i = j := by omega
      have := hP q'
      have := a3 q'
      subst q'
      omega
  subst hd
  refine ⟨by simp [h.len], ?_, ?_, hu, fun e => by omega, fun _ => hr', ?_⟩
  · intro k v hv hk
    by_cases e : k = j
    · subst e
      rw [List.getElem?_set_self (by rw [h.len]; exact hj)] at hv
      cases hv
      exact hr'
    · rw [List.getElem?_set_ne (by omega)] at hv
      exact h.lo k v hv (by omega)
  · intro k v hv hk
    rw [List.getElem?_set_ne (by omega)] at hv
    exact h.hi k v hv (by omega)
  · intro hij
    have h3 := hr'.2.2
    by_cases e : i < j
    · have := h.m e
      split <;> omega
    · have e' : i = j := by omega
      have := h3 (by omega)
      split <;> omega

theorem inEnd {P : Nat → Int} {n i : Nat} {row : List Int} {dist res mn : Int} (h : InOk P n i n row dist res mn) (hi : i < n) : RowOk P n (i + 1) row ∧ mn ≤ P (i + 1) ∧ (i + 1 = n → (P n ≤ res ∨ 4 ≤ res) ∧ res ≤ P n) := by
  refine ⟨⟨h.len, fun k v hv => h.lo k v hv ?_⟩, h.m hi, fun e => ?_⟩
  · have := List.getElem?_eq_some_iff.mp hv
    obtain ⟨q, _⟩ := this
    rw [h.len] at q
    exact q
  · have := (h.r (by omega)).2.2 e
    subst e
    exact this

end Mine
end
section
open PySem PyProof.Rows
namespace Mine
/-- the 67 signs that a word leaves as they are -/
noncomputable def safeI : List Int := [65, 66, 67, 68, 69, 70, 71, 72, 73, 74, 75, 76, 77, 78, 79, 80, 81, 82, 83, 84, 85, 86, 87, 88, 89, 90, 97, 98, 99, 100, 101, 102, 103, 104, 105, 106, 107, 108, 109, 110, 111, 112, 113, 114, 115, 116, 117, 118, 119, 120, 121, 122, 48, 49, 50, 51, 52, 53, 54, 55, 56, 57, 45, 33, 42, 43, 47]
noncomputable def octI (x : Int) : Int := if x.fmod 3 = 0 then (x.fdiv 3).fmod 256 else if x.fmod 3 = 1 then safeI.getD ((x.fdiv 3).fmod 67).toNat 0 else 192 + (x.fdiv 3).fmod 64
noncomputable abbrev s67 : Str := Str.ofString "ABCDEFGHIJKLMNOPQRSTUVWXYZabcdefghijklmnopqrstuvwxyz0123456789-!*+/"
noncomputable abbrev sHex : Str := Str.ofString "0123456789ABCDEF"
/-- what _law_written gives, in the walk's own words -/
noncomputable def wrS (o : Int) : Str := if o = 32 then Str.ofString "_" else if (Builtin.Str.occurrences s67 ⟨#[o.toNat]⟩ 0 s67.length 1).isEmpty = false then ⟨#[o.toNat]⟩ else Str.ofString "=" ++ Txt.item sHex (o.fdiv 16) ++ Txt.item sHex (o.fmod 16)
/-- _substitution_cost -/
noncomputable def subF (x y : Str) : Int := if (x == y) = true then 0 else if (Txt.lower x == Txt.lower y) = true then 1 else 2
theorem strT {x y : Str} {t : Tok} (h : x = y) : ∃ t', Value.str x t = Value.str y t' := ⟨t, h ▸ rfl⟩
/-- a text's k-th sign -/
noncomputable def cpN (x : Str) (k : Nat) : Nat := x.cps.getD k 0
theorem ord_item {x : Str} {i : Int} {n : Nat} (h0 : i = 0 + (n : Int)) (h1 : n < x.length) : (Txt.item x i).cps.getD 0 0 = cpN x n := by
  have e := eq_of_beq (PyProof.Rows.item_closes (x := x) (i := i) (by omega))
  rw [e, show i.toNat = n by omega]
  rfl
/-- the law's price of one sign for another -/
noncomputable def pr1 (a b : Nat) : Int := if max a b - min a b = 32 ∧ ((64 < min a b ∧ min a b < 91) ∨ (191 < min a b ∧ min a b < 223 ∧ min a b ≠ 215)) then 1 else if min a b < max a b then 2 else 0
noncomputable def pr1Z (hi lo : Int) : Int := if hi - lo = 32 ∧ ((64 < lo ∧ lo < 91) ∨ (191 < lo ∧ lo < 223 ∧ lo ≠ 215)) then 1 else if lo < hi then 2 else 0
theorem pr1Z_eq (a b : Nat) : pr1Z (if (b : Int) > (a : Int) then (b : Int) else (a : Int)) (if (b : Int) < (a : Int) then (b : Int) else (a : Int)) = pr1 a b := by
  unfold pr1Z pr1
  rw [show (if (b : Int) > (a : Int) then (b : Int) else (a : Int)) = ((max a b : Nat) : Int) by split <;> omega, show (if (b : Int) < (a : Int) then (b : Int) else (a : Int)) = ((min a b : Nat) : Int) by split <;> omega]
  have h : ∀ (A B : Prop) [Decidable A] [Decidable B] (C D : Prop) [Decidable C] [Decidable D], (A ↔ B) → (C ↔ D) → (if A then (1 : Int) else if C then 2 else 0) = if B then 1 else if D then 2 else 0 := by
    intro A B _ _ C D _ _ h1 h2
    simp only [h1, h2]
  refine h _ _ _ _ ?_ ?_ <;> omega
noncomputable def priceF (x y : Str) (n : Nat) : Int := psum (fun k => pr1 (cpN x k) (cpN y k)) n
theorem price_turn {x y : Str} {p d k : Int} {pre : List Int} (hy : y.length = x.length) (kInv : p = priceF x y pre.length) (kEq : k = 0 + (pre.length : Int)) (kLt : pre.length < ((x.length : Int) - 0).toNat)
    (hd : d = pr1Z (if ((Txt.item y k).cps.getD 0 0 : Int) > ((Txt.item x k).cps.getD 0 0 : Int) then ((Txt.item y k).cps.getD 0 0 : Int) else ((Txt.item x k).cps.getD 0 0 : Int)) (if ((Txt.item y k).cps.getD 0 0 : Int) < ((Txt.item x k).cps.getD 0 0 : Int) then ((Txt.item y k).cps.getD 0 0 : Int) else ((Txt.item x k).cps.getD 0 0 : Int))) :
    p + d = priceF x y (pre ++ [k]).length := by
  rw [hd, ord_item (x := x) kEq (by omega), ord_item (x := y) kEq (by omega), pr1Z_eq, kInv]
  simp [priceF, psum]
theorem price_turn0 {x y : Str} {p k : Int} {pre : List Int} (hy : y.length = x.length) (kInv : p = priceF x y pre.length) (kEq : k = 0 + (pre.length : Int)) (kLt : pre.length < ((x.length : Int) - 0).toNat)
    (hd : 0 = pr1Z (if ((Txt.item y k).cps.getD 0 0 : Int) > ((Txt.item x k).cps.getD 0 0 : Int) then ((Txt.item y k).cps.getD 0 0 : Int) else ((Txt.item x k).cps.getD 0 0 : Int)) (if ((Txt.item y k).cps.getD 0 0 : Int) < ((Txt.item x k).cps.getD 0 0 : Int) then ((Txt.item y k).cps.getD 0 0 : Int) else ((Txt.item x k).cps.getD 0 0 : Int))) :
    p = priceF x y (pre ++ [k]).length := by
  have := price_turn hy kInv kEq kLt hd
  omega
theorem pr1Z_1a {hi lo : Int} (a : hi - lo = 32) (b : 64 < lo) (c : lo < 91) : 1 = pr1Z hi lo := by unfold pr1Z; rw [if_pos ⟨a, .inl ⟨b, c⟩⟩]
theorem pr1Z_1b {hi lo : Int} (a : hi - lo = 32) (b : 191 < lo) (c : lo < 223) (d : lo ≠ 215) : 1 = pr1Z hi lo := by unfold pr1Z; rw [if_pos ⟨a, .inr ⟨b, c, d⟩⟩]
theorem pr1Z_2a {hi lo : Int} (a : hi - lo = 32) (b : ¬ lo < 91) (c : ¬ 191 < lo) : 2 = pr1Z hi lo := by unfold pr1Z; rw [if_neg (by omega), if_pos (by omega)]
theorem pr1Z_2b {hi lo : Int} (a : hi - lo = 32) (b : ¬ lo < 91) (c : ¬ lo < 223) : 2 = pr1Z hi lo := by unfold pr1Z; rw [if_neg (by omega), if_pos (by omega)]
theorem pr1Z_2c {hi lo : Int} (a : hi - lo = 32) (b : ¬ 64 < lo) : 2 = pr1Z hi lo := by unfold pr1Z; rw [if_neg (by omega), if_pos (by omega)]
theorem pr1Z_2d {hi lo : Int} (a : hi - lo = 32) (b : ¬ lo < 91) (c : lo = 215) : 2 = pr1Z hi lo := by unfold pr1Z; rw [if_neg (by omega), if_pos (by omega)]
theorem pr1Z_2e {hi lo : Int} (a : ¬ hi - lo = 32) (b : lo < hi) : 2 = pr1Z hi lo := by unfold pr1Z; rw [if_neg (by omega), if_pos b]
theorem pr1Z_0 {hi lo : Int} (a : ¬ hi - lo = 32) (b : ¬ lo < hi) : 0 = pr1Z hi lo := by unfold pr1Z; rw [if_neg (by omega), if_neg b]
/-! the distance: the two runs ahead of the table -/
theorem item_eq {x y : Str} {p : Int} (hy : y.length = x.length) (h0 : 0 ≤ p) (h1 : p < x.length) (he : (Txt.item x p == Txt.item y p) = true) : cpN x p.toNat = cpN y p.toNat := by
  have e1 := eq_of_beq (PyProof.Rows.item_closes (x := x) (i := p) ⟨h0, h1⟩)
  have e2 := eq_of_beq (PyProof.Rows.item_closes (x := y) (i := p) ⟨h0, by omega⟩)
  have := eq_of_beq he
  rw [e1, e2] at this
  injection this with q
  injection q with q
  injection q with q _
theorem pre_step {x y : Str} {p : Int} (hy : y.length = x.length) (h0 : 0 ≤ p) (h1 : p < x.length) (hk : ∀ k, k < p.toNat → cpN x k = cpN y k) (he : (Txt.item x p == Txt.item y p) = true) :
    0 ≤ p + 1 ∧ p + 1 ≤ x.length ∧ ∀ k, k < (p + 1).toNat → cpN x k = cpN y k := by
  refine ⟨by omega, by omega, fun k hlt => ?_⟩
  by_cases e : k < p.toNat
  · exact hk k e
  · have : k = p.toNat := by omega
    rw [this]
    exact item_eq hy h0 h1 he
theorem pre_start {x y : Str} : 0 ≤ (0 : Int) ∧ (0 : Int) ≤ x.length ∧ ∀ k, k < (0 : Int).toNat → cpN x k = cpN y k := ⟨by omega, by omega, fun _ h => absurd h (Nat.not_lt_zero _)⟩
theorem cpN_mk (l : List Nat) (k : Nat) : cpN ⟨l.toArray⟩ k = l.getD k 0 := by
  simp only [cpN, Array.getD, List.getD, List.size_toArray]
  split <;> rename_i h
  · rw [List.getElem?_eq_getElem h]; rfl
  · rw [List.getElem?_eq_none (by omega)]; rfl
theorem cpN_list (x : Str) (k : Nat) : cpN x k = x.cps.toList.getD k 0 := cpN_mk x.cps.toList k
theorem slice_from {x : Str} {p : Int} (h0 : 0 ≤ p) (h1 : p ≤ x.length) : (Txt.slice x (some p) none).length = x.length - p.toNat ∧ ∀ k, cpN (Txt.slice x (some p) none) k = cpN x (p.toNat + k) := by
  have e := eq_of_beq (PyProof.Rows.slice_closes_fromL (x := x) (i := p) h0 h1 rfl)
  have hl : x.cps.toList.length = x.length := by simp [Str.length]
  have e2 : (x.cps.toList.drop p.toNat).take ((x.length : Int) - p).toNat = x.cps.toList.drop p.toNat := List.take_of_length_le (by rw [List.length_drop, hl]; omega)
  rw [e2] at e
  rw [e]
  refine ⟨?_, fun k => ?_⟩
  · show (List.toArray _).size = _
    rw [List.size_toArray, List.length_drop, hl]
  · rw [cpN_mk, cpN_list]
    simp [List.getD, List.getElem?_drop]
theorem slice_upto_neg {x : Str} {q : Int} (h0 : q < 0) (h1 : -(x.length : Int) ≤ q) : (Txt.slice x none (some q)).length = x.length - (-q).toNat ∧ ∀ k, k < x.length - (-q).toNat → cpN (Txt.slice x none (some q)) k = cpN x k := by
  have e := eq_of_beq (PyProof.Rows.slice_closes_to_neg (x := x) (j := q) h0 h1 rfl)
  have hl : x.cps.toList.length = x.length := by simp [Str.length]
  rw [e]
  refine ⟨?_, fun k hk => ?_⟩
  · show (List.toArray _).size = _
    rw [List.size_toArray, List.length_take, List.length_drop, hl]
    omega
  · rw [cpN_mk, cpN_list]
    simp only [List.getD, Int.toNat_zero, List.drop_zero]
    rw [List.getElem?_take_of_lt (by omega)]
theorem slice_all (x : Str) : Txt.slice x none none = x := by
  unfold Txt.slice
  rw [if_pos]
  simp [Builtin.Str.strSliceIndices, PySem.sliceRange]
  split <;> omega
/-- the price of a sign for another, by _substitution_cost -/
noncomputable def sub1 (a b : Nat) : Int := subF ⟨#[a]⟩ ⟨#[b]⟩
theorem sub1_self (a : Nat) : sub1 a a = 0 := by simp [sub1, subF]
theorem sub1_lo (a b : Nat) : 0 ≤ sub1 a b := by unfold sub1 subF; split <;> (try split) <;> omega
theorem sub1_hi (a b : Nat) : sub1 a b ≤ 2 := by unfold sub1 subF; split <;> (try split) <;> omega
/-- place by place -/
noncomputable def byPlace (x y : Str) (n : Nat) : Int := psum (fun k => sub1 (cpN y k) (cpN x k)) n
theorem psum_zero {c : Nat → Int} : ∀ {n : Nat}, (∀ k, k < n → c k = 0) → psum c n = 0
  | 0, _ => rfl
  | n + 1, h => by
    show psum c n + c n = 0
    rw [psum_zero fun k hk => h k (by omega), h n (by omega)]
    rfl
theorem psum_congr {c d : Nat → Int} : ∀ {n : Nat}, (∀ k, k < n → c k = d k) → psum c n = psum d n
  | 0, _ => rfl
  | n + 1, h => by
    show psum c n + c n = psum d n + d n
    rw [psum_congr fun k hk => h k (by omega), h n (by omega)]
theorem psum_add (c : Nat → Int) (p : Nat) : ∀ n : Nat, psum c (p + n) = psum c p + psum (fun k => c (p + k)) n
  | 0 => by simp [psum]
  | n + 1 => by
    show psum c (p + n) + c (p + n) = psum c p + (psum (fun k => c (p + k)) n + c (p + n))
    rw [psum_add c p n]
    omega
theorem byPlace_from {x y : Str} {p : Int} (hy : y.length = x.length) (h0 : 0 ≤ p) (h1 : p ≤ x.length) (hk : ∀ k, k < p.toNat → cpN x k = cpN y k) :
    (Txt.slice x (some p) none).length ≤ x.length ∧ (Txt.slice y (some p) none).length = (Txt.slice x (some p) none).length ∧
    byPlace x y x.length = byPlace (Txt.slice x (some p) none) (Txt.slice y (some p) none) (Txt.slice x (some p) none).length := by
  obtain ⟨e1, e2⟩ := slice_from h0 h1
  obtain ⟨e3, e4⟩ := slice_from (x := y) h0 (by omega)
  refine ⟨by omega, by omega, ?_⟩
  unfold byPlace
  rw [e1, show x.length = p.toNat + (x.length - p.toNat) by omega, psum_add, psum_zero (fun k hlt => by rw [hk k hlt, sub1_self]), Int.zero_add, show p.toNat + (x.length - p.toNat) - p.toNat = x.length - p.toNat by omega]
  exact psum_congr fun k _ => by rw [e2, e4]
theorem byPlace_to {x y : Str} {q : Int} (hy : y.length = x.length) (h0 : q < 0) (h1 : -(x.length : Int) ≤ q) (hk : ∀ k, k < x.length → (x.length : Int) + q ≤ k → cpN x k = cpN y k) :
    (Txt.slice x none (some q)).length ≤ x.length ∧ (Txt.slice y none (some q)).length = (Txt.slice x none (some q)).length ∧
    byPlace x y x.length = byPlace (Txt.slice x none (some q)) (Txt.slice y none (some q)) (Txt.slice x none (some q)).length := by
  obtain ⟨e1, e2⟩ := slice_upto_neg h0 h1
  obtain ⟨e3, e4⟩ := slice_upto_neg (x := y) h0 (by omega)
  refine ⟨by omega, by omega, ?_⟩
  unfold byPlace
  rw [e1]
  have e : x.length = (x.length - (-q).toNat) + (-q).toNat := by omega
  have s : psum (fun k => sub1 (cpN y k) (cpN x k)) x.length = psum (fun k => sub1 (cpN y k) (cpN x k)) (x.length - (-q).toNat) + psum (fun k => sub1 (cpN y (x.length - (-q).toNat + k)) (cpN x (x.length - (-q).toNat + k))) (-q).toNat := by
    conv => lhs; rw [e]
    exact psum_add _ _ _
  rw [s, psum_zero (c := fun k => sub1 (cpN y (x.length - (-q).toNat + k)) (cpN x (x.length - (-q).toNat + k))) (fun k hlt => by rw [hk _ (by omega) (by omega), sub1_self]), Int.add_zero]
  exact psum_congr fun k hlt => by rw [e2 k hlt, e4 k (by omega)]
/-- x[:q or None] -/
noncomputable def cutTo (x : Str) (q : Int) : Str := if q = 0 then x else Txt.slice x none (some q)
theorem cutTo_zero (x : Str) : cutTo x 0 = x := if_pos rfl
theorem cutTo_neg (x : Str) {q : Int} (h : q < 0) : cutTo x q = Txt.slice x none (some q) := if_neg (by omega)
theorem byPlace_cut {x y : Str} {q : Int} (hy : y.length = x.length) (h0 : q ≤ 0) (h1 : -(x.length : Int) ≤ q) (hk : ∀ k, k < x.length → (x.length : Int) + q ≤ k → cpN x k = cpN y k) :
    (cutTo x q).length ≤ x.length ∧ (cutTo y q).length = (cutTo x q).length ∧ byPlace x y x.length = byPlace (cutTo x q) (cutTo y q) (cutTo x q).length := by
  rcases Int.lt_or_eq_of_le h0 with h | h
  · rw [cutTo_neg x h, cutTo_neg y h]
    exact byPlace_to hy h h1 hk
  · subst h
    rw [cutTo_zero, cutTo_zero]
    exact ⟨Nat.le_refl _, hy, rfl⟩
theorem item_eq_neg {x y : Str} {p : Int} (hy : y.length = x.length) (h0 : p < 0) (h1 : -(x.length : Int) ≤ p) (he : (Txt.item x p == Txt.item y p) = true) : cpN x (p + x.length).toNat = cpN y (p + x.length).toNat := by
  have e1 := eq_of_beq (PyProof.Rows.item_closes_neg (x := x) (i := p) h0 h1 rfl)
  have e2 := eq_of_beq (PyProof.Rows.item_closes_neg (x := y) (i := p) h0 (by omega) rfl)
  have := eq_of_beq he
  rw [e1, e2, hy] at this
  injection this with q
  injection q with q
  injection q with q _
theorem post_step {x y : Str} {q : Int} (hy : y.length = x.length) (h0 : q ≤ 0) (h1 : -(x.length : Int) ≤ q - 1) (hk : ∀ k, k < x.length → (x.length : Int) + q ≤ k → cpN x k = cpN y k) (he : (Txt.item x (q - 1) == Txt.item y (q - 1)) = true) :
    q - 1 ≤ 0 ∧ -(x.length : Int) ≤ q - 1 ∧ ∀ k, k < x.length → (x.length : Int) + (q - 1) ≤ k → cpN x k = cpN y k := by
  refine ⟨by omega, h1, fun k hlt hle => ?_⟩
  by_cases e : (x.length : Int) + q ≤ k
  · exact hk k hlt e
  · have := item_eq_neg hy (by omega) h1 he
    rw [show (q - 1 + x.length).toNat = k by omega] at this
    exact this
theorem post_start {x y : Str} : (0 : Int) ≤ 0 ∧ -(x.length : Int) ≤ 0 ∧ ∀ k, k < x.length → (x.length : Int) + 0 ≤ k → cpN x k = cpN y k := ⟨by omega, by omega, fun _ h h2 => by omega⟩
theorem byPlace_mono (x y : Str) (i : Nat) : ∀ j : Nat, byPlace x y i ≤ byPlace x y (i + j)
  | 0 => Int.le_refl _
  | j + 1 => by
    have h1 := byPlace_mono x y i j
    have h2 : byPlace x y (i + (j + 1)) = byPlace x y (i + j) + sub1 (cpN y (i + j)) (cpN x (i + j)) := rfl
    have h3 := sub1_lo (cpN y (i + j)) (cpN x (i + j))
    omega
theorem byPlace_zero (x y : Str) : byPlace x y 0 = 0 := rfl
theorem byPlace_eq (x : Str) (n : Nat) : byPlace x x n = 0 := psum_zero fun k _ => sub1_self _
theorem item_at {x : Str} {i : Int} {n : Nat} (h0 : i = 0 + (n : Int)) (h1 : n < x.length) : Txt.item x i = ⟨#[cpN x n]⟩ := by
  have e := eq_of_beq (PyProof.Rows.item_closes (x := x) (i := i) (by omega))
  rw [e, show i.toNat = n by omega]
  rfl
theorem subF_items {a b : Str} {p q : Int} {i j : Nat} (hb : b.length = a.length) (hi : p = 0 + (i : Int)) (hj : q = 0 + (j : Int)) (li : i < a.length) (lj : j < a.length) : subF (Txt.item b p) (Txt.item a q) = sub1 (cpN b i) (cpN a j) := by
  rw [item_at hi (by omega), item_at hj lj]
  rfl
/-- the table's first row as the walk has it -/
noncomputable def rowKs (n : Nat) : List Int := (List.range n).map fun (i : Nat) => 2 + (i : Int) * 2
theorem rowKs_length (n : Nat) : (rowKs n).length = n := by simp [rowKs]
theorem rowKs_at {n k : Nat} {v : Int} (h : (rowKs n)[k]? = some v) : v = 2 * ((k : Int) + 1) := by
  unfold rowKs at h
  rw [List.getElem?_map] at h
  by_cases hk : k < n
  · rw [List.getElem?_range hk] at h
    simp only [Option.map_some, Option.some.injEq] at h
    omega
  · rw [List.getElem?_eq_none (by rw [List.length_range]; omega)] at h
    cases h
theorem rows_start {P : Nat → Int} {n : Nat} {res : Int} (h0 : n ≠ 0) : (rowKs n).length = n ∧ RowOk P n ([] : List Int).length (rowKs n) ∧ (([] : List Int).length = n → (P n ≤ res ∨ 4 ≤ res) ∧ res ≤ P n) :=
  ⟨rowKs_length n, row0 P n _ (rowKs_length n) fun _ _ h => rowKs_at h, fun e => absurd e.symm h0⟩
theorem in_begin {a b : Str} {n : Nat} {row : List Int} {pre : List Int} {k : Int} (h : RowOk (byPlace a b) n pre.length row) (hk : k = 0 + (pre.length : Int)) (hl : row.length = n) :
    row.length = n ∧ InOk (byPlace a b) n pre.length ([] : List Int).length row (k * 2) (k * 2) 9223372036854775807 := by
  have e : k * 2 = 2 * (pre.length : Int) := by omega
  rw [e]
  exact ⟨hl, inStart h fun _ => rfl⟩
theorem in_turn {a b : Str} {oPre kPre row : List Int} {kO kN d res mn : Int} (hb : b.length = a.length) (oEq : kO = 0 + (oPre.length : Int)) (oLt : oPre.length < ((b.length : Int) - 0).toNat) (kEq : kN = 0 + (kPre.length : Int)) (kLt : kPre.length < ((a.length : Int) - 0).toNat)
    (hI : InOk (byPlace a b) a.length oPre.length kPre.length row d res mn) {r : Int} (hr : r = if d + subF (Txt.item b kO) (Txt.item a kN) < (if row.getD kN.toNat 0 < res then row.getD kN.toNat 0 else res) + 2 then d + subF (Txt.item b kO) (Txt.item a kN) else (if row.getD kN.toNat 0 < res then row.getD kN.toNat 0 else res) + 2) :
    (row.set kN.toNat r).length = a.length ∧ InOk (byPlace a b) a.length oPre.length (kPre ++ [kN]).length (row.set kN.toNat r) (row.getD kN.toNat 0) r (if r < mn then r else mn) := by
  have hk : kN.toNat = kPre.length := by omega
  rw [hk] at hr ⊢
  have e := subF_items hb oEq kEq (by omega) (by omega)
  rw [e] at hr
  have hlen : row.length = a.length := hI.len
  refine ⟨by rw [List.length_set]; exact hlen, ?_⟩
  rw [List.length_append]
  have hup : row[kPre.length]? = some (row.getD kPre.length 0) := by
    rw [List.getD_eq_getElem?_getD, List.getElem?_eq_getElem (by omega)]
    rfl
  refine inStep (c := fun _ => 0) (s := sub1 (cpN b oPre.length) (cpN a kPre.length)) hI (by omega) (by omega) hup rfl (sub1_lo _ _) (sub1_hi _ _) (fun e => ?_) rfl ?_
  · rw [← e]
    rfl
  · have hm : (if row.getD kPre.length 0 < res then row.getD kPre.length 0 else res) = min res (row.getD kPre.length 0) := by
      rw [Int.min_def]
      split <;> split <;> omega
    rw [hr, hm]
    split <;> omega
theorem in_turnA {a b : Str} {oPre kPre row : List Int} {kN mn r : Int} (h : (row.set kN.toNat r).length = a.length ∧ InOk (byPlace a b) a.length oPre.length (kPre ++ [kN]).length (row.set kN.toNat r) (row.getD kN.toNat 0) r (if r < mn then r else mn)) (hl : r < mn) :
    (row.set kN.toNat r).length = a.length ∧ InOk (byPlace a b) a.length oPre.length (kPre ++ [kN]).length (row.set kN.toNat r) (row.getD kN.toNat 0) r r := by
  rw [if_pos hl] at h
  exact h
theorem in_turnB {a b : Str} {oPre kPre row : List Int} {kN mn r : Int} (h : (row.set kN.toNat r).length = a.length ∧ InOk (byPlace a b) a.length oPre.length (kPre ++ [kN]).length (row.set kN.toNat r) (row.getD kN.toNat 0) r (if r < mn then r else mn)) (hl : ¬ r < mn) :
    (row.set kN.toNat r).length = a.length ∧ InOk (byPlace a b) a.length oPre.length (kPre ++ [kN]).length (row.set kN.toNat r) (row.getD kN.toNat 0) r mn := by
  rw [if_neg hl] at h
  exact h
theorem in_done {a b : Str} {oPre row : List Int} {kO d res mn : Int} (hb : b.length = a.length) (h4 : byPlace a b a.length ≤ 4) (oLt : oPre.length < ((b.length : Int) - 0).toNat) {n : Nat} (hn : n = ((a.length : Int) - 0).toNat) (hl : row.length = a.length) (hI : InOk (byPlace a b) a.length oPre.length n row d res mn) :
    mn ≤ 4 ∧ (row.length = a.length ∧ RowOk (byPlace a b) a.length (oPre ++ [kO]).length row ∧ ((oPre ++ [kO]).length = a.length → (byPlace a b a.length ≤ res ∨ 4 ≤ res) ∧ res ≤ byPlace a b a.length)) := by
  have e : n = a.length := by omega
  rw [e] at hI
  obtain ⟨h1, h2, h3⟩ := inEnd hI (by omega)
  have h5 := byPlace_mono a b (oPre.length + 1) (a.length - (oPre.length + 1))
  rw [show oPre.length + 1 + (a.length - (oPre.length + 1)) = a.length by omega] at h5
  refine ⟨by omega, hl, ?_⟩
  rw [List.length_append]
  exact ⟨h1, h3⟩
theorem lev_end {x y a' b' a b : Str} {res : Int} {n : Nat} (hA3 : byPlace x y x.length = byPlace a' b' a'.length) (hC3 : byPlace a' b' a'.length = byPlace a b a.length) (h4 : byPlace x y x.length ≤ 4) (hb : b.length = a.length) (hn : n = ((b.length : Int) - 0).toNat)
    (h : n = a.length → (byPlace a b a.length ≤ res ∨ 4 ≤ res) ∧ res ≤ byPlace a b a.length) : res = byPlace x y x.length := by
  have := h (by omega)
  omega
theorem lev_same {x y : Str} (h : (x == y) = true) : 0 = byPlace x y x.length := by
  rw [eq_of_beq h, byPlace_eq]
end Mine
end
section
open PySem PySem.W PyProof.Rows
set_option Elab.async false
set_option maxRecDepth 100000
set_option maxHeartbeats 0
noncomputable section
namespace Mine
noncomputable abbrev pg : Program := PySem.Challenge.rw_rl0039_01.row.toRowW.1
noncomputable def bE : List Stmt := behindTheImports pg
noncomputable def fP (i : Nat) : Arguments := match bE[i]? with | some (.FunctionDef _ a _ _ _ _ _ _ _ _) => a | _ => default
noncomputable def fB (i : Nat) : FuncBody := match bE[i]? with | some (.FunctionDef _ _ b _ _ _ _ _ _ _) => .stmts b | _ => default
noncomputable def fS (i : Nat) : Scope := match bE[i]? with | some (.FunctionDef _ _ _ _ _ _ s _ _ _) => s | _ => default
noncomputable def E (P : Params) (k : Array Nat) (t : Nat) (v : Value) : DictEntry := ⟨PyData.keyHash P ⟨k⟩, .str ⟨k⟩ t, v⟩
noncomputable abbrev N : Obj → BT → BT → BT := BT.node
noncomputable abbrev Z : BT := BT.nil
noncomputable def hx (d : Nat) : Nat := if d < 10 then 48 + d else 55 + d
noncomputable def qv (c : Nat) : Value := .str ⟨#[61, hx (c / 16), hx (c % 16)]⟩ (323 + 4 * c)
noncomputable def qs : Nat → Nat → List Value
  | 0, _ => []
  | n + 1, c => qv c :: qs n (c + 1)
noncomputable def setAll (l : List Value) : List Nat → Nat → List Value
  | [], _ => l
  | c :: r, t => setAll (l.set c (.str ⟨#[c]⟩ t)) r (t + 3)
noncomputable def upTo : Nat → Nat → List Nat
  | 0, _ => []
  | n + 1, c => c :: upTo n (c + 1)
noncomputable def hdrBytes : List Nat := [45, 33, 42, 43, 47] ++ upTo 26 97 ++ upTo 26 65 ++ upTo 10 48
noncomputable def bodyBytes : List Nat := upTo 29 32 ++ upTo 65 62 ++ [9]
noncomputable def L39_312 : List Value := qs 256 0
noncomputable abbrev L44_312 : List Value := L39_312
noncomputable abbrev L46_312 : List Value := L39_312
noncomputable def L44_655 : List Value := setAll L39_312 hdrBytes 1366
noncomputable def L44_287 : List Value := L44_655.set 32 (.str ⟨#[95]⟩ 1565)
noncomputable def L46_381 : List Value := setAll L39_312 bodyBytes 1571
noncomputable def L69_509 : List Value := setAll L46_381 [13, 10] 1875
noncomputable def o0 (P : Params) : Obj := { cls := .type "dict", dict := none, data := .dict #[E P #[95, 95, 110, 97, 109, 101, 95, 95] 1 (.str ⟨#[98, 117, 105, 108, 116, 105, 110, 115]⟩ 160), E P #[95, 95, 100, 111, 99, 95, 95] 2 (.builtin "builtins.__doc__:str#opaque"), E P #[95, 95, 112, 97, 99, 107, 97, 103, 101, 95, 95] 3 (.builtin "builtins.__package__:str#opaque"), E P #[95, 95, 108, 111, 97, 100, 101, 114, 95, 95] 4 (.builtin "builtins.__loader__:shared#opaque"), E P #[95, 95, 115, 112, 101, 99, 95, 95] 5 (.builtin "builtins.__spec__#opaque"), E P #[95, 95, 98, 117, 105, 108, 100, 95, 99, 108, 97, 115, 115, 95, 95] 6 (.builtin "__build_class__"), E P #[95, 95, 105, 109, 112, 111, 114, 116, 95, 95] 7 (.builtin "__import__"), E P #[97, 98, 115] 8 (.builtin "abs"), E P #[97, 108, 108] 9 (.builtin "all"), E P #[97, 110, 121] 10 (.builtin "any"), E P #[97, 115, 99, 105, 105] 11 (.builtin "ascii"), E P #[98, 105, 110] 12 (.builtin "bin"), E P #[98, 114, 101, 97, 107, 112, 111, 105, 110, 116] 13 (.builtin "breakpoint"), E P #[99, 97, 108, 108, 97, 98, 108, 101] 14 (.builtin "callable"), E P #[99, 104, 114] 15 (.builtin "chr"), E P #[99, 111, 109, 112, 105, 108, 101] 16 (.builtin "compile"), E P #[100, 101, 108, 97, 116, 116, 114] 17 (.builtin "delattr"), E P #[100, 105, 114] 18 (.builtin "dir"), E P #[100, 105, 118, 109, 111, 100] 19 (.builtin "divmod"), E P #[101, 118, 97, 108] 20 (.builtin "eval"), E P #[101, 120, 101, 99] 21 (.builtin "exec"), E P #[102, 111, 114, 109, 97, 116] 22 (.builtin "format"), E P #[103, 101, 116, 97, 116, 116, 114] 23 (.builtin "getattr"), E P #[103, 108, 111, 98, 97, 108, 115] 24 (.builtin "globals"), E P #[104, 97, 115, 97, 116, 116, 114] 25 (.builtin "hasattr"), E P #[104, 97, 115, 104] 26 (.builtin "hash"), E P #[104, 101, 120] 27 (.builtin "hex"), E P #[105, 100] 28 (.builtin "id"), E P #[105, 110, 112, 117, 116] 29 (.builtin "input"), E P #[105, 115, 105, 110, 115, 116, 97, 110, 99, 101] 30 (.builtin "isinstance"), E P #[105, 115, 115, 117, 98, 99, 108, 97, 115, 115] 31 (.builtin "issubclass"), E P #[105, 116, 101, 114] 32 (.builtin "iter"), E P #[97, 105, 116, 101, 114] 33 (.builtin "aiter"), E P #[108, 101, 110] 34 (.builtin "len"), E P #[108, 111, 99, 97, 108, 115] 35 (.builtin "locals"), E P #[109, 97, 120] 36 (.builtin "max"), E P #[109, 105, 110] 37 (.builtin "min"), E P #[110, 101, 120, 116] 38 (.builtin "next"), E P #[97, 110, 101, 120, 116] 39 (.builtin "anext"), E P #[111, 99, 116] 40 (.builtin "oct"), E P #[111, 114, 100] 41 (.builtin "ord"), E P #[112, 111, 119] 42 (.builtin "pow"), E P #[112, 114, 105, 110, 116] 43 (.builtin "print"), E P #[114, 101, 112, 114] 44 (.builtin "repr"), E P #[114, 111, 117, 110, 100] 45 (.builtin "round"), E P #[115, 101, 116, 97, 116, 116, 114] 46 (.builtin "setattr"), E P #[115, 111, 114, 116, 101, 100] 47 (.builtin "sorted"), E P #[115, 117, 109] 48 (.builtin "sum"), E P #[118, 97, 114, 115] 49 (.builtin "vars"), E P #[78, 111, 110, 101] 50 (.none), E P #[69, 108, 108, 105, 112, 115, 105, 115] 51 (.ellipsis), E P #[78, 111, 116, 73, 109, 112, 108, 101, 109, 101, 110, 116, 101, 100] 52 (.notImplemented), E P #[70, 97, 108, 115, 101] 53 (.bool false), E P #[84, 114, 117, 101] 54 (.bool true), E P #[98, 111, 111, 108] 55 (.type "bool"), E P #[109, 101, 109, 111, 114, 121, 118, 105, 101, 119] 56 (.type "memoryview"), E P #[98, 121, 116, 101, 97, 114, 114, 97, 121] 57 (.type "bytearray"), E P #[98, 121, 116, 101, 115] 58 (.type "bytes"), E P #[99, 108, 97, 115, 115, 109, 101, 116, 104, 111, 100] 59 (.type "classmethod"), E P #[99, 111, 109, 112, 108, 101, 120] 60 (.type "complex"), E P #[100, 105, 99, 116] 61 (.type "dict"), E P #[101, 110, 117, 109, 101, 114, 97, 116, 101] 62 (.type "enumerate"), E P #[102, 105, 108, 116, 101, 114] 63 (.type "filter"), E P #[102, 108, 111, 97, 116] 64 (.type "float"), E P #[102, 114, 111, 122, 101, 110, 115, 101, 116] 65 (.type "frozenset"), E P #[112, 114, 111, 112, 101, 114, 116, 121] 66 (.type "property"), E P #[105, 110, 116] 67 (.type "int"), E P #[108, 105, 115, 116] 68 (.type "list"), E P #[109, 97, 112] 69 (.type "map"), E P #[111, 98, 106, 101, 99, 116] 70 (.type "object"), E P #[114, 97, 110, 103, 101] 71 (.type "range"), E P #[114, 101, 118, 101, 114, 115, 101, 100] 72 (.type "reversed"), E P #[115, 101, 116] 73 (.type "set"), E P #[115, 108, 105, 99, 101] 74 (.type "slice"), E P #[115, 116, 97, 116, 105, 99, 109, 101, 116, 104, 111, 100] 75 (.type "staticmethod"), E P #[115, 116, 114] 76 (.type "str"), E P #[115, 117, 112, 101, 114] 77 (.type "super"), E P #[116, 117, 112, 108, 101] 78 (.type "tuple"), E P #[116, 121, 112, 101] 79 (.type "type"), E P #[122, 105, 112] 80 (.type "zip"), E P #[95, 95, 100, 101, 98, 117, 103, 95, 95] 81 (.bool true), E P #[66, 97, 115, 101, 69, 120, 99, 101, 112, 116, 105, 111, 110] 82 (.type "BaseException"), E P #[66, 97, 115, 101, 69, 120, 99, 101, 112, 116, 105, 111, 110, 71, 114, 111, 117, 112] 83 (.type "BaseExceptionGroup"), E P #[69, 120, 99, 101, 112, 116, 105, 111, 110] 84 (.type "Exception"), E P #[71, 101, 110, 101, 114, 97, 116, 111, 114, 69, 120, 105, 116] 85 (.type "GeneratorExit"), E P #[75, 101, 121, 98, 111, 97, 114, 100, 73, 110, 116, 101, 114, 114, 117, 112, 116] 86 (.type "KeyboardInterrupt"), E P #[83, 121, 115, 116, 101, 109, 69, 120, 105, 116] 87 (.type "SystemExit"), E P #[65, 114, 105, 116, 104, 109, 101, 116, 105, 99, 69, 114, 114, 111, 114] 88 (.type "ArithmeticError"), E P #[65, 115, 115, 101, 114, 116, 105, 111, 110, 69, 114, 114, 111, 114] 89 (.type "AssertionError"), E P #[65, 116, 116, 114, 105, 98, 117, 116, 101, 69, 114, 114, 111, 114] 90 (.type "AttributeError"), E P #[66, 117, 102, 102, 101, 114, 69, 114, 114, 111, 114] 91 (.type "BufferError"), E P #[69, 79, 70, 69, 114, 114, 111, 114] 92 (.type "EOFError"), E P #[73, 109, 112, 111, 114, 116, 69, 114, 114, 111, 114] 93 (.type "ImportError"), E P #[76, 111, 111, 107, 117, 112, 69, 114, 114, 111, 114] 94 (.type "LookupError"), E P #[77, 101, 109, 111, 114, 121, 69, 114, 114, 111, 114] 95 (.type "MemoryError"), E P #[78, 97, 109, 101, 69, 114, 114, 111, 114] 96 (.type "NameError"), E P #[79, 83, 69, 114, 114, 111, 114] 97 (.type "OSError"), E P #[82, 101, 102, 101, 114, 101, 110, 99, 101, 69, 114, 114, 111, 114] 98 (.type "ReferenceError"), E P #[82, 117, 110, 116, 105, 109, 101, 69, 114, 114, 111, 114] 99 (.type "RuntimeError"), E P #[83, 116, 111, 112, 65, 115, 121, 110, 99, 73, 116, 101, 114, 97, 116, 105, 111, 110] 100 (.type "StopAsyncIteration"), E P #[83, 116, 111, 112, 73, 116, 101, 114, 97, 116, 105, 111, 110] 101 (.type "StopIteration"), E P #[83, 121, 110, 116, 97, 120, 69, 114, 114, 111, 114] 102 (.type "SyntaxError"), E P #[83, 121, 115, 116, 101, 109, 69, 114, 114, 111, 114] 103 (.type "SystemError"), E P #[84, 121, 112, 101, 69, 114, 114, 111, 114] 104 (.type "TypeError"), E P #[86, 97, 108, 117, 101, 69, 114, 114, 111, 114] 105 (.type "ValueError"), E P #[87, 97, 114, 110, 105, 110, 103] 106 (.type "Warning"), E P #[70, 108, 111, 97, 116, 105, 110, 103, 80, 111, 105, 110, 116, 69, 114, 114, 111, 114] 107 (.type "FloatingPointError"), E P #[79, 118, 101, 114, 102, 108, 111, 119, 69, 114, 114, 111, 114] 108 (.type "OverflowError"), E P #[90, 101, 114, 111, 68, 105, 118, 105, 115, 105, 111, 110, 69, 114, 114, 111, 114] 109 (.type "ZeroDivisionError"), E P #[66, 121, 116, 101, 115, 87, 97, 114, 110, 105, 110, 103] 110 (.type "BytesWarning"), E P #[68, 101, 112, 114, 101, 99, 97, 116, 105, 111, 110, 87, 97, 114, 110, 105, 110, 103] 111 (.type "DeprecationWarning"), E P #[69, 110, 99, 111, 100, 105, 110, 103, 87, 97, 114, 110, 105, 110, 103] 112 (.type "EncodingWarning"), E P #[70, 117, 116, 117, 114, 101, 87, 97, 114, 110, 105, 110, 103] 113 (.type "FutureWarning"), E P #[73, 109, 112, 111, 114, 116, 87, 97, 114, 110, 105, 110, 103] 114 (.type "ImportWarning"), E P #[80, 101, 110, 100, 105, 110, 103, 68, 101, 112, 114, 101, 99, 97, 116, 105, 111, 110, 87, 97, 114, 110, 105, 110, 103] 115 (.type "PendingDeprecationWarning"), E P #[82, 101, 115, 111, 117, 114, 99, 101, 87, 97, 114, 110, 105, 110, 103] 116 (.type "ResourceWarning"), E P #[82, 117, 110, 116, 105, 109, 101, 87, 97, 114, 110, 105, 110, 103] 117 (.type "RuntimeWarning"), E P #[83, 121, 110, 116, 97, 120, 87, 97, 114, 110, 105, 110, 103] 118 (.type "SyntaxWarning"), E P #[85, 110, 105, 99, 111, 100, 101, 87, 97, 114, 110, 105, 110, 103] 119 (.type "UnicodeWarning"), E P #[85, 115, 101, 114, 87, 97, 114, 110, 105, 110, 103] 120 (.type "UserWarning"), E P #[66, 108, 111, 99, 107, 105, 110, 103, 73, 79, 69, 114, 114, 111, 114] 121 (.type "BlockingIOError"), E P #[67, 104, 105, 108, 100, 80, 114, 111, 99, 101, 115, 115, 69, 114, 114, 111, 114] 122 (.type "ChildProcessError"), E P #[67, 111, 110, 110, 101, 99, 116, 105, 111, 110, 69, 114, 114, 111, 114] 123 (.type "ConnectionError"), E P #[70, 105, 108, 101, 69, 120, 105, 115, 116, 115, 69, 114, 114, 111, 114] 124 (.type "FileExistsError"), E P #[70, 105, 108, 101, 78, 111, 116, 70, 111, 117, 110, 100, 69, 114, 114, 111, 114] 125 (.type "FileNotFoundError"), E P #[73, 110, 116, 101, 114, 114, 117, 112, 116, 101, 100, 69, 114, 114, 111, 114] 126 (.type "InterruptedError"), E P #[73, 115, 65, 68, 105, 114, 101, 99, 116, 111, 114, 121, 69, 114, 114, 111, 114] 127 (.type "IsADirectoryError"), E P #[78, 111, 116, 65, 68, 105, 114, 101, 99, 116, 111, 114, 121, 69, 114, 114, 111, 114] 128 (.type "NotADirectoryError"), E P #[80, 101, 114, 109, 105, 115, 115, 105, 111, 110, 69, 114, 114, 111, 114] 129 (.type "PermissionError"), E P #[80, 114, 111, 99, 101, 115, 115, 76, 111, 111, 107, 117, 112, 69, 114, 114, 111, 114] 130 (.type "ProcessLookupError"), E P #[84, 105, 109, 101, 111, 117, 116, 69, 114, 114, 111, 114] 131 (.type "TimeoutError"), E P #[73, 110, 100, 101, 110, 116, 97, 116, 105, 111, 110, 69, 114, 114, 111, 114] 132 (.type "IndentationError"), E P #[95, 73, 110, 99, 111, 109, 112, 108, 101, 116, 101, 73, 110, 112, 117, 116, 69, 114, 114, 111, 114] 133 (.type "_IncompleteInputError"), E P #[73, 110, 100, 101, 120, 69, 114, 114, 111, 114] 134 (.type "IndexError"), E P #[75, 101, 121, 69, 114, 114, 111, 114] 135 (.type "KeyError"), E P #[77, 111, 100, 117, 108, 101, 78, 111, 116, 70, 111, 117, 110, 100, 69, 114, 114, 111, 114] 136 (.type "ModuleNotFoundError"), E P #[78, 111, 116, 73, 109, 112, 108, 101, 109, 101, 110, 116, 101, 100, 69, 114, 114, 111, 114] 137 (.type "NotImplementedError"), E P #[80, 121, 116, 104, 111, 110, 70, 105, 110, 97, 108, 105, 122, 97, 116, 105, 111, 110, 69, 114, 114, 111, 114] 138 (.type "PythonFinalizationError"), E P #[82, 101, 99, 117, 114, 115, 105, 111, 110, 69, 114, 114, 111, 114] 139 (.type "RecursionError"), E P #[85, 110, 98, 111, 117, 110, 100, 76, 111, 99, 97, 108, 69, 114, 114, 111, 114] 140 (.type "UnboundLocalError"), E P #[85, 110, 105, 99, 111, 100, 101, 69, 114, 114, 111, 114] 141 (.type "UnicodeError"), E P #[66, 114, 111, 107, 101, 110, 80, 105, 112, 101, 69, 114, 114, 111, 114] 142 (.type "BrokenPipeError"), E P #[67, 111, 110, 110, 101, 99, 116, 105, 111, 110, 65, 98, 111, 114, 116, 101, 100, 69, 114, 114, 111, 114] 143 (.type "ConnectionAbortedError"), E P #[67, 111, 110, 110, 101, 99, 116, 105, 111, 110, 82, 101, 102, 117, 115, 101, 100, 69, 114, 114, 111, 114] 144 (.type "ConnectionRefusedError"), E P #[67, 111, 110, 110, 101, 99, 116, 105, 111, 110, 82, 101, 115, 101, 116, 69, 114, 114, 111, 114] 145 (.type "ConnectionResetError"), E P #[84, 97, 98, 69, 114, 114, 111, 114] 146 (.type "TabError"), E P #[85, 110, 105, 99, 111, 100, 101, 68, 101, 99, 111, 100, 101, 69, 114, 114, 111, 114] 147 (.type "UnicodeDecodeError"), E P #[85, 110, 105, 99, 111, 100, 101, 69, 110, 99, 111, 100, 101, 69, 114, 114, 111, 114] 148 (.type "UnicodeEncodeError"), E P #[85, 110, 105, 99, 111, 100, 101, 84, 114, 97, 110, 115, 108, 97, 116, 101, 69, 114, 114, 111, 114] 149 (.type "UnicodeTranslateError"), E P #[69, 120, 99, 101, 112, 116, 105, 111, 110, 71, 114, 111, 117, 112] 150 (.type "ExceptionGroup"), E P #[69, 110, 118, 105, 114, 111, 110, 109, 101, 110, 116, 69, 114, 114, 111, 114] 151 (.type "OSError"), E P #[73, 79, 69, 114, 114, 111, 114] 152 (.type "OSError"), E P #[111, 112, 101, 110] 153 (.builtin "open"), E P #[113, 117, 105, 116] 154 (.builtin "builtins.quit#opaque"), E P #[101, 120, 105, 116] 155 (.builtin "builtins.exit#opaque"), E P #[99, 111, 112, 121, 114, 105, 103, 104, 116] 156 (.builtin "builtins.copyright#opaque"), E P #[99, 114, 101, 100, 105, 116, 115] 157 (.builtin "builtins.credits#opaque"), E P #[108, 105, 99, 101, 110, 115, 101] 158 (.builtin "builtins.license#opaque"), E P #[104, 101, 108, 112] 159 (.builtin "builtins.help#opaque")] 159, slots := #[] }
noncomputable def o1 (P : Params) : Obj := { cls := .type "dict", dict := none, data := .dict #[E P #[98, 117, 105, 108, 116, 105, 110, 115] 162 (.ref 4), E P #[95, 95, 109, 97, 105, 110, 95, 95] 163 (.ref 5), E P #[95, 115, 114, 101] 244 (.ref 12)] 3, slots := #[] }
noncomputable def o2 (P : Params) : Obj := { cls := .none, dict := none, data := .dict #[E P #[105, 109, 112, 111, 114, 116, 46, 108, 111, 97, 100, 101, 100, 46, 95, 115, 114, 101] 183 (.bool true), E P #[99, 108, 97, 115, 115, 46, 95, 102, 114, 111, 122, 101, 110, 95, 105, 109, 112, 111, 114, 116, 108, 105, 98, 46, 66, 117, 105, 108, 116, 105, 110, 73, 109, 112, 111, 114, 116, 101, 114] 185 (.ref 14), E P #[119, 97, 116, 99, 104, 101, 100, 46, 105, 109, 112, 111, 114, 116] 206 (.ref 18), E P #[99, 108, 97, 115, 115, 46, 95, 102, 114, 111, 122, 101, 110, 95, 105, 109, 112, 111, 114, 116, 108, 105, 98, 46, 77, 111, 100, 117, 108, 101, 83, 112, 101, 99] 216 (.ref 22), E P #[115, 121, 115, 46, 109, 111, 100, 117, 108, 101, 115, 46, 98, 111, 111, 107, 101, 100, 45, 101, 112, 111, 99, 104] 245 (.int 3 0), E P #[105, 109, 112, 111, 114, 116, 46, 108, 97, 116, 101, 114, 45, 108, 97, 105, 100, 46, 95, 115, 114, 101] 270 (.bool true), E P #[119, 97, 116, 99, 104, 101, 100, 46, 108, 105, 98, 114, 97, 114, 121] 272 (.ref 27), E P #[119, 97, 116, 99, 104, 101, 100, 46, 108, 105, 98, 114, 97, 114, 121, 45, 111, 98, 106, 101, 99, 116, 115] 0 (.str ⟨#[12]⟩ 0), E P #[119, 97, 116, 99, 104, 101, 100, 46, 108, 105, 98, 114, 97, 114, 121, 45, 100, 101, 101, 112, 46, 95, 115, 114, 101] 273 (.str ⟨#[4, 0, 0, 11, 4, 0, 0, 11, 4, 0, 0, 3, 4, 0, 0, 11, 8, 4, 100, 105, 99, 116, 2]⟩ 0)] 9, slots := #[] }
noncomputable def o3 (P : Params) : Obj := { cls := .type "dict", dict := none, data := .dict #[E P #[95, 95, 110, 97, 109, 101, 95, 95] 165 (.str ⟨#[95, 95, 109, 97, 105, 110, 95, 95]⟩ 164), E P #[95, 95, 100, 111, 99, 95, 95] 166 (.none), E P #[95, 95, 112, 97, 99, 107, 97, 103, 101, 95, 95] 167 (.none), E P #[95, 95, 108, 111, 97, 100, 101, 114, 95, 95] 168 (.builtin "__main__.__loader__#opaque"), E P #[95, 95, 115, 112, 101, 99, 95, 95] 169 (.none), E P #[95, 95, 97, 110, 110, 111, 116, 97, 116, 105, 111, 110, 115, 95, 95] 170 (.ref 6), E P #[95, 95, 98, 117, 105, 108, 116, 105, 110, 115, 95, 95] 171 (.ref 4), E P #[95, 95, 102, 105, 108, 101, 95, 95] 173 (.str ⟨#[47, 99, 108, 97, 105, 109, 47, 99, 117, 116, 46, 112, 121]⟩ 172), E P #[95, 95, 99, 97, 99, 104, 101, 100, 95, 95] 174 (.none), E P #[95, 115, 114, 101] 275 (.ref 12)] 10, slots := #[] }
noncomputable def o4 (P : Params) : Obj := { cls := .type "module", dict := (some 0), data := .plain, slots := #[] }
noncomputable def o5 (P : Params) : Obj := { cls := .type "module", dict := (some 3), data := .plain, slots := #[] }
noncomputable def o6 (P : Params) : Obj := { cls := .type "dict", dict := none, data := .dict #[] 0, slots := #[] }
noncomputable def o7 (P : Params) : Obj := { cls := .type "tuple", dict := none, data := .seq #[] 0, slots := #[] }
noncomputable def o8 (P : Params) : Obj := { cls := .none, dict := none, data := .fields #[], slots := #[] }
noncomputable def o9 (P : Params) : Obj := { cls := .type "code", dict := none, data := .fields #[.str ⟨#[60, 109, 111, 100, 117, 108, 101, 62]⟩ 176, .str ⟨#[60, 109, 111, 100, 117, 108, 101, 62]⟩ 177, .str ⟨#[47, 99, 108, 97, 105, 109, 47, 99, 117, 116, 46, 112, 121]⟩ 178, .int 1 0, .int 0 0, .int 0 0, .int 0 0, .int 0 0, .ref 7, .bool false, .int 175 0, .ref 8, .none, .none, .none, .none, .int 179 0, .int 1 0, .str ⟨#[47, 99, 108, 97, 105, 109, 47, 99, 117, 116, 46, 112, 121]⟩ 180], slots := #[] }
noncomputable def o10 (P : Params) : Obj := { cls := .type "frame", dict := none, data := .plain, slots := #[some (.ref 9), some (.ref 3), some (.ref 3), none, some (.str ⟨#[95, 95, 109, 97, 105, 110, 95, 95]⟩ 164), none, some (.ref 0)] }
noncomputable def o11 (P : Params) : Obj := { cls := .type "dict", dict := none, data := .dict #[E P #[95, 95, 110, 97, 109, 101, 95, 95] 247 (.str ⟨#[95, 115, 114, 101]⟩ 246), E P #[95, 95, 100, 111, 99, 95, 95] 248 (.none), E P #[95, 95, 112, 97, 99, 107, 97, 103, 101, 95, 95] 250 (.str ⟨#[]⟩ 249), E P #[95, 95, 108, 111, 97, 100, 101, 114, 95, 95] 251 (.builtin "off-the-table:_sre.__loader__:shared#opaque"), E P #[95, 95, 115, 112, 101, 99, 95, 95] 252 (.builtin "off-the-table:_sre.__spec__:shared#opaque"), E P #[99, 111, 109, 112, 105, 108, 101] 253 (.builtin "_sre.compile"), E P #[116, 101, 109, 112, 108, 97, 116, 101] 254 (.builtin "off-the-table:_sre.template:shared#opaque"), E P #[103, 101, 116, 99, 111, 100, 101, 115, 105, 122, 101] 255 (.builtin "off-the-table:_sre.getcodesize:shared#opaque"), E P #[97, 115, 99, 105, 105, 95, 105, 115, 99, 97, 115, 101, 100] 256 (.builtin "off-the-table:_sre.ascii_iscased:shared#opaque"), E P #[117, 110, 105, 99, 111, 100, 101, 95, 105, 115, 99, 97, 115, 101, 100] 257 (.builtin "off-the-table:_sre.unicode_iscased:shared#opaque"), E P #[97, 115, 99, 105, 105, 95, 116, 111, 108, 111, 119, 101, 114] 258 (.builtin "off-the-table:_sre.ascii_tolower:shared#opaque"), E P #[117, 110, 105, 99, 111, 100, 101, 95, 116, 111, 108, 111, 119, 101, 114] 259 (.builtin "off-the-table:_sre.unicode_tolower:shared#opaque"), E P #[77, 65, 71, 73, 67] 261 (.int 20230612 260), E P #[67, 79, 68, 69, 83, 73, 90, 69] 263 (.int 4 262), E P #[77, 65, 88, 82, 69, 80, 69, 65, 84] 265 (.int 4294967295 264), E P #[77, 65, 88, 71, 82, 79, 85, 80, 83] 267 (.int 1073741823 266), E P #[99, 111, 112, 121, 114, 105, 103, 104, 116] 269 (.str ⟨#[32, 83, 82, 69, 32, 50, 46, 50, 46, 50, 32, 67, 111, 112, 121, 114, 105, 103, 104, 116, 32, 40, 99, 41, 32, 49, 57, 57, 55, 45, 50, 48, 48, 50, 32, 98, 121, 32, 83, 101, 99, 114, 101, 116, 32, 76, 97, 98, 115, 32, 65, 66, 32]⟩ 268)] 17, slots := #[] }
noncomputable def o12 (P : Params) : Obj := { cls := .type "module", dict := (some 11), data := .plain, slots := #[] }
noncomputable def o13 (P : Params) : Obj := { cls := .type "dict", dict := none, data := .dict #[E P #[95, 95, 109, 111, 100, 117, 108, 101, 95, 95] 189 (.str ⟨#[95, 102, 114, 111, 122, 101, 110, 95, 105, 109, 112, 111, 114, 116, 108, 105, 98]⟩ 186), E P #[95, 95, 102, 105, 114, 115, 116, 108, 105, 110, 101, 110, 111, 95, 95] 190 (.int 971 187), E P #[95, 95, 100, 111, 99, 95, 95] 191 (.builtin "_frozen_importlib.BuiltinImporter.__doc__:str#opaque"), E P #[95, 79, 82, 73, 71, 73, 78] 192 (.str ⟨#[98, 117, 105, 108, 116, 45, 105, 110]⟩ 188), E P #[102, 105, 110, 100, 95, 115, 112, 101, 99] 193 (.builtin "_frozen_importlib.BuiltinImporter.find_spec#opaque"), E P #[99, 114, 101, 97, 116, 101, 95, 109, 111, 100, 117, 108, 101] 194 (.builtin "_frozen_importlib.BuiltinImporter.create_module#opaque"), E P #[101, 120, 101, 99, 95, 109, 111, 100, 117, 108, 101] 195 (.builtin "_frozen_importlib.BuiltinImporter.exec_module#opaque"), E P #[103, 101, 116, 95, 99, 111, 100, 101] 196 (.builtin "_frozen_importlib.BuiltinImporter.get_code#opaque"), E P #[103, 101, 116, 95, 115, 111, 117, 114, 99, 101] 197 (.builtin "_frozen_importlib.BuiltinImporter.get_source#opaque"), E P #[105, 115, 95, 112, 97, 99, 107, 97, 103, 101] 198 (.builtin "_frozen_importlib.BuiltinImporter.is_package#opaque"), E P #[108, 111, 97, 100, 95, 109, 111, 100, 117, 108, 101] 199 (.builtin "_frozen_importlib.BuiltinImporter.load_module#opaque"), E P #[95, 95, 115, 116, 97, 116, 105, 99, 95, 97, 116, 116, 114, 105, 98, 117, 116, 101, 115, 95, 95] 200 (.ref 15), E P #[95, 95, 100, 105, 99, 116, 95, 95] 202 (.ref 16), E P #[95, 95, 119, 101, 97, 107, 114, 101, 102, 95, 95] 204 (.ref 17)] 14, slots := #[] }
noncomputable def o14 (P : Params) : Obj := { cls := .type "type", dict := none, data := .cls { name := ⟨#[66, 117, 105, 108, 116, 105, 110, 73, 109, 112, 111, 114, 116, 101, 114]⟩, bases := [.type "object"], mro := [.ref 14, .type "object"], ns := 13, qualname := ⟨#[66, 117, 105, 108, 116, 105, 110, 73, 109, 112, 111, 114, 116, 101, 114]⟩, hasDict := true, slotNames := [], subclasses := [], abstract := false, collection := none, hasDel := false }, slots := #[] }
noncomputable def o16 (P : Params) : Obj := { cls := .type "getset_descriptor", dict := none, data := .fields #[.str ⟨#[95, 95, 100, 105, 99, 116, 95, 95]⟩ 201, .ref 14, .builtin "function.__dict__", .builtin "function.__dict__#set"], slots := #[] }
noncomputable def o17 (P : Params) : Obj := { cls := .type "getset_descriptor", dict := none, data := .fields #[.str ⟨#[95, 95, 119, 101, 97, 107, 114, 101, 102, 95, 95]⟩ 203, .ref 14, .builtin "ExceptionGroup.__weakref__", .none], slots := #[] }
noncomputable def o18 (P : Params) : Obj := { cls := .none, dict := none, data := .seq #[.int 13 0, .str ⟨#[6, 189, 10, 95, 95, 109, 111, 100, 117, 108, 101, 95, 95, 6, 186, 17, 95, 102, 114, 111, 122, 101, 110, 95, 105, 109, 112, 111, 114, 116, 108, 105, 98, 6, 190, 15, 95, 95, 102, 105, 114, 115, 116, 108, 105, 110, 101, 110, 111, 95, 95, 4, 187, 0, 971, 6, 191, 7, 95, 95, 100, 111, 99, 95, 95, 9, 52, 95, 102, 114, 111, 122, 101, 110, 95, 105, 109, 112, 111, 114, 116, 108, 105, 98, 46, 66, 117, 105, 108, 116, 105, 110, 73, 109, 112, 111, 114, 116, 101, 114, 46, 95, 95, 100, 111, 99, 95, 95, 58, 115, 116, 114, 35, 111, 112, 97, 113, 117, 101, 6, 192, 7, 95, 79, 82, 73, 71, 73, 78, 6, 188, 8, 98, 117, 105, 108, 116, 45, 105, 110, 6, 193, 9, 102, 105, 110, 100, 95, 115, 112, 101, 99, 9, 50, 95, 102, 114, 111, 122, 101, 110, 95, 105, 109, 112, 111, 114, 116, 108, 105, 98, 46, 66, 117, 105, 108, 116, 105, 110, 73, 109, 112, 111, 114, 116, 101, 114, 46, 102, 105, 110, 100, 95, 115, 112, 101, 99, 35, 111, 112, 97, 113, 117, 101, 6, 194, 13, 99, 114, 101, 97, 116, 101, 95, 109, 111, 100, 117, 108, 101, 9, 54, 95, 102, 114, 111, 122, 101, 110, 95, 105, 109, 112, 111, 114, 116, 108, 105, 98, 46, 66, 117, 105, 108, 116, 105, 110, 73, 109, 112, 111, 114, 116, 101, 114, 46, 99, 114, 101, 97, 116, 101, 95, 109, 111, 100, 117, 108, 101, 35, 111, 112, 97, 113, 117, 101, 6, 195, 11, 101, 120, 101, 99, 95, 109, 111, 100, 117, 108, 101, 9, 52, 95, 102, 114, 111, 122, 101, 110, 95, 105, 109, 112, 111, 114, 116, 108, 105, 98, 46, 66, 117, 105, 108, 116, 105, 110, 73, 109, 112, 111, 114, 116, 101, 114, 46, 101, 120, 101, 99, 95, 109, 111, 100, 117, 108, 101, 35, 111, 112, 97, 113, 117, 101, 6, 196, 8, 103, 101, 116, 95, 99, 111, 100, 101, 9, 49, 95, 102, 114, 111, 122, 101, 110, 95, 105, 109, 112, 111, 114, 116, 108, 105, 98, 46, 66, 117, 105, 108, 116, 105, 110, 73, 109, 112, 111, 114, 116, 101, 114, 46, 103, 101, 116, 95, 99, 111, 100, 101, 35, 111, 112, 97, 113, 117, 101, 6, 197, 10, 103, 101, 116, 95, 115, 111, 117, 114, 99, 101, 9, 51, 95, 102, 114, 111, 122, 101, 110, 95, 105, 109, 112, 111, 114, 116, 108, 105, 98, 46, 66, 117, 105, 108, 116, 105, 110, 73, 109, 112, 111, 114, 116, 101, 114, 46, 103, 101, 116, 95, 115, 111, 117, 114, 99, 101, 35, 111, 112, 97, 113, 117, 101, 6, 198, 10, 105, 115, 95, 112, 97, 99, 107, 97, 103, 101, 9, 51, 95, 102, 114, 111, 122, 101, 110, 95, 105, 109, 112, 111, 114, 116, 108, 105, 98, 46, 66, 117, 105, 108, 116, 105, 110, 73, 109, 112, 111, 114, 116, 101, 114, 46, 105, 115, 95, 112, 97, 99, 107, 97, 103, 101, 35, 111, 112, 97, 113, 117, 101, 6, 199, 11, 108, 111, 97, 100, 95, 109, 111, 100, 117, 108, 101, 9, 52, 95, 102, 114, 111, 122, 101, 110, 95, 105, 109, 112, 111, 114, 116, 108, 105, 98, 46, 66, 117, 105, 108, 116, 105, 110, 73, 109, 112, 111, 114, 116, 101, 114, 46, 108, 111, 97, 100, 95, 109, 111, 100, 117, 108, 101, 35, 111, 112, 97, 113, 117, 101, 6, 200, 21, 95, 95, 115, 116, 97, 116, 105, 99, 95, 97, 116, 116, 114, 105, 98, 117, 116, 101, 115, 95, 95, 4, 0, 0, 15, 6, 202, 8, 95, 95, 100, 105, 99, 116, 95, 95, 4, 0, 0, 16, 6, 204, 11, 95, 95, 119, 101, 97, 107, 114, 101, 102, 95, 95, 4, 0, 0, 17]⟩ 0, .bool true, .bool true, .str ⟨#[]⟩ 205, .int 21 0, .str ⟨#[6, 227, 10, 95, 95, 109, 111, 100, 117, 108, 101, 95, 95, 6, 217, 17, 95, 102, 114, 111, 122, 101, 110, 95, 105, 109, 112, 111, 114, 116, 108, 105, 98, 6, 228, 15, 95, 95, 102, 105, 114, 115, 116, 108, 105, 110, 101, 110, 111, 95, 95, 4, 218, 0, 562, 6, 229, 7, 95, 95, 100, 111, 99, 95, 95, 9, 47, 95, 102, 114, 111, 122, 101, 110, 95, 105, 109, 112, 111, 114, 116, 108, 105, 98, 46, 77, 111, 100, 117, 108, 101, 83, 112, 101, 99, 46, 95, 95, 100, 111, 99, 95, 95, 58, 115, 116, 114, 35, 111, 112, 97, 113, 117, 101, 6, 230, 8, 95, 95, 105, 110, 105, 116, 95, 95, 9, 44, 95, 102, 114, 111, 122, 101, 110, 95, 105, 109, 112, 111, 114, 116, 108, 105, 98, 46, 77, 111, 100, 117, 108, 101, 83, 112, 101, 99, 46, 95, 95, 105, 110, 105, 116, 95, 95, 35, 111, 112, 97, 113, 117, 101, 6, 231, 8, 95, 95, 114, 101, 112, 114, 95, 95, 9, 44, 95, 102, 114, 111, 122, 101, 110, 95, 105, 109, 112, 111, 114, 116, 108, 105, 98, 46, 77, 111, 100, 117, 108, 101, 83, 112, 101, 99, 46, 95, 95, 114, 101, 112, 114, 95, 95, 35, 111, 112, 97, 113, 117, 101, 6, 232, 6, 95, 95, 101, 113, 95, 95, 9, 42, 95, 102, 114, 111, 122, 101, 110, 95, 105, 109, 112, 111, 114, 116, 108, 105, 98, 46, 77, 111, 100, 117, 108, 101, 83, 112, 101, 99, 46, 95, 95, 101, 113, 95, 95, 35, 111, 112, 97, 113, 117, 101, 6, 233, 6, 99, 97, 99, 104, 101, 100, 9, 42, 95, 102, 114, 111, 122, 101, 110, 95, 105, 109, 112, 111, 114, 116, 108, 105, 98, 46, 77, 111, 100, 117, 108, 101, 83, 112, 101, 99, 46, 99, 97, 99, 104, 101, 100, 35, 111, 112, 97, 113, 117, 101, 6, 234, 6, 112, 97, 114, 101, 110, 116, 9, 42, 95, 102, 114, 111, 122, 101, 110, 95, 105, 109, 112, 111, 114, 116, 108, 105, 98, 46, 77, 111, 100, 117, 108, 101, 83, 112, 101, 99, 46, 112, 97, 114, 101, 110, 116, 35, 111, 112, 97, 113, 117, 101, 6, 235, 12, 104, 97, 115, 95, 108, 111, 99, 97, 116, 105, 111, 110, 9, 48, 95, 102, 114, 111, 122, 101, 110, 95, 105, 109, 112, 111, 114, 116, 108, 105, 98, 46, 77, 111, 100, 117, 108, 101, 83, 112, 101, 99, 46, 104, 97, 115, 95, 108, 111, 99, 97, 116, 105, 111, 110, 35, 111, 112, 97, 113, 117, 101, 6, 236, 21, 95, 95, 115, 116, 97, 116, 105, 99, 95, 97, 116, 116, 114, 105, 98, 117, 116, 101, 115, 95, 95, 4, 0, 0, 23, 6, 238, 8, 95, 95, 100, 105, 99, 116, 95, 95, 4, 0, 0, 24, 6, 240, 11, 95, 95, 119, 101, 97, 107, 114, 101, 102, 95, 95, 4, 0, 0, 25, 6, 241, 8, 95, 95, 104, 97, 115, 104, 95, 95, 0]⟩ 0, .bool true, .bool true, .str ⟨#[]⟩ 242] 1, slots := #[] }
noncomputable def o19 (P : Params) : Obj := { cls := .type "list", dict := none, data := .seq #[] 0, slots := #[] }
noncomputable def o20 (P : Params) : Obj := { cls := .type "dict", dict := none, data := .dict #[E P #[110, 97, 109, 101] 208 (.str ⟨#[95, 115, 114, 101]⟩ 207), E P #[108, 111, 97, 100, 101, 114] 209 (.ref 14), E P #[111, 114, 105, 103, 105, 110] 210 (.str ⟨#[98, 117, 105, 108, 116, 45, 105, 110]⟩ 184), E P #[108, 111, 97, 100, 101, 114, 95, 115, 116, 97, 116, 101] 211 (.none), E P #[115, 117, 98, 109, 111, 100, 117, 108, 101, 95, 115, 101, 97, 114, 99, 104, 95, 108, 111, 99, 97, 116, 105, 111, 110, 115] 212 (.none), E P #[95, 117, 110, 105, 110, 105, 116, 105, 97, 108, 105, 122, 101, 100, 95, 115, 117, 98, 109, 111, 100, 117, 108, 101, 115] 213 (.ref 19), E P #[95, 115, 101, 116, 95, 102, 105, 108, 101, 97, 116, 116, 114] 214 (.bool false), E P #[95, 99, 97, 99, 104, 101, 100] 215 (.none), E P #[95, 105, 110, 105, 116, 105, 97, 108, 105, 122, 105, 110, 103] 243 (.bool false)] 9, slots := #[] }
noncomputable def o21 (P : Params) : Obj := { cls := .type "dict", dict := none, data := .dict #[E P #[95, 95, 109, 111, 100, 117, 108, 101, 95, 95] 227 (.str ⟨#[95, 102, 114, 111, 122, 101, 110, 95, 105, 109, 112, 111, 114, 116, 108, 105, 98]⟩ 217), E P #[95, 95, 102, 105, 114, 115, 116, 108, 105, 110, 101, 110, 111, 95, 95] 228 (.int 562 218), E P #[95, 95, 100, 111, 99, 95, 95] 229 (.builtin "_frozen_importlib.ModuleSpec.__doc__:str#opaque"), E P #[95, 95, 105, 110, 105, 116, 95, 95] 230 (.builtin "_frozen_importlib.ModuleSpec.__init__#opaque"), E P #[95, 95, 114, 101, 112, 114, 95, 95] 231 (.builtin "_frozen_importlib.ModuleSpec.__repr__#opaque"), E P #[95, 95, 101, 113, 95, 95] 232 (.builtin "_frozen_importlib.ModuleSpec.__eq__#opaque"), E P #[99, 97, 99, 104, 101, 100] 233 (.builtin "_frozen_importlib.ModuleSpec.cached#opaque"), E P #[112, 97, 114, 101, 110, 116] 234 (.builtin "_frozen_importlib.ModuleSpec.parent#opaque"), E P #[104, 97, 115, 95, 108, 111, 99, 97, 116, 105, 111, 110] 235 (.builtin "_frozen_importlib.ModuleSpec.has_location#opaque"), E P #[95, 95, 115, 116, 97, 116, 105, 99, 95, 97, 116, 116, 114, 105, 98, 117, 116, 101, 115, 95, 95] 236 (.ref 23), E P #[95, 95, 100, 105, 99, 116, 95, 95] 238 (.ref 24), E P #[95, 95, 119, 101, 97, 107, 114, 101, 102, 95, 95] 240 (.ref 25), E P #[95, 95, 104, 97, 115, 104, 95, 95] 241 (.none)] 13, slots := #[] }
noncomputable def o22 (P : Params) : Obj := { cls := .type "type", dict := none, data := .cls { name := ⟨#[77, 111, 100, 117, 108, 101, 83, 112, 101, 99]⟩, bases := [.type "object"], mro := [.ref 22, .type "object"], ns := 21, qualname := ⟨#[77, 111, 100, 117, 108, 101, 83, 112, 101, 99]⟩, hasDict := true, slotNames := [], subclasses := [], abstract := false, collection := none, hasDel := false }, slots := #[] }
noncomputable def o23 (P : Params) : Obj := { cls := .type "tuple", dict := none, data := .seq #[.str ⟨#[95, 99, 97, 99, 104, 101, 100]⟩ 219, .str ⟨#[95, 115, 101, 116, 95, 102, 105, 108, 101, 97, 116, 116, 114]⟩ 220, .str ⟨#[95, 117, 110, 105, 110, 105, 116, 105, 97, 108, 105, 122, 101, 100, 95, 115, 117, 98, 109, 111, 100, 117, 108, 101, 115]⟩ 221, .str ⟨#[108, 111, 97, 100, 101, 114]⟩ 222, .str ⟨#[108, 111, 97, 100, 101, 114, 95, 115, 116, 97, 116, 101]⟩ 223, .str ⟨#[110, 97, 109, 101]⟩ 224, .str ⟨#[111, 114, 105, 103, 105, 110]⟩ 225, .str ⟨#[115, 117, 98, 109, 111, 100, 117, 108, 101, 95, 115, 101, 97, 114, 99, 104, 95, 108, 111, 99, 97, 116, 105, 111, 110, 115]⟩ 226] 0, slots := #[] }
noncomputable def o24 (P : Params) : Obj := { cls := .type "getset_descriptor", dict := none, data := .fields #[.str ⟨#[95, 95, 100, 105, 99, 116, 95, 95]⟩ 237, .ref 22, .builtin "function.__dict__", .builtin "function.__dict__#set"], slots := #[] }
noncomputable def o25 (P : Params) : Obj := { cls := .type "getset_descriptor", dict := none, data := .fields #[.str ⟨#[95, 95, 119, 101, 97, 107, 114, 101, 102, 95, 95]⟩ 239, .ref 22, .builtin "ExceptionGroup.__weakref__", .none], slots := #[] }
noncomputable def o26 (P : Params) : Obj := { cls := .ref 22, dict := (some 20), data := .plain, slots := #[] }
noncomputable def o27 (P : Params) : Obj := { cls := .none, dict := none, data := .seq #[.int 11 0, .str ⟨#[6, 247, 8, 95, 95, 110, 97, 109, 101, 95, 95, 6, 246, 4, 95, 115, 114, 101, 6, 248, 7, 95, 95, 100, 111, 99, 95, 95, 0, 6, 250, 11, 95, 95, 112, 97, 99, 107, 97, 103, 101, 95, 95, 6, 249, 0, 6, 251, 10, 95, 95, 108, 111, 97, 100, 101, 114, 95, 95, 4, 0, 0, 14, 6, 252, 8, 95, 95, 115, 112, 101, 99, 95, 95, 4, 0, 0, 26, 6, 253, 7, 99, 111, 109, 112, 105, 108, 101, 9, 12, 95, 115, 114, 101, 46, 99, 111, 109, 112, 105, 108, 101, 6, 254, 8, 116, 101, 109, 112, 108, 97, 116, 101, 9, 13, 95, 115, 114, 101, 46, 116, 101, 109, 112, 108, 97, 116, 101, 6, 255, 11, 103, 101, 116, 99, 111, 100, 101, 115, 105, 122, 101, 9, 16, 95, 115, 114, 101, 46, 103, 101, 116, 99, 111, 100, 101, 115, 105, 122, 101, 6, 256, 13, 97, 115, 99, 105, 105, 95, 105, 115, 99, 97, 115, 101, 100, 9, 18, 95, 115, 114, 101, 46, 97, 115, 99, 105, 105, 95, 105, 115, 99, 97, 115, 101, 100, 6, 257, 15, 117, 110, 105, 99, 111, 100, 101, 95, 105, 115, 99, 97, 115, 101, 100, 9, 20, 95, 115, 114, 101, 46, 117, 110, 105, 99, 111, 100, 101, 95, 105, 115, 99, 97, 115, 101, 100, 6, 258, 13, 97, 115, 99, 105, 105, 95, 116, 111, 108, 111, 119, 101, 114, 9, 18, 95, 115, 114, 101, 46, 97, 115, 99, 105, 105, 95, 116, 111, 108, 111, 119, 101, 114, 6, 259, 15, 117, 110, 105, 99, 111, 100, 101, 95, 116, 111, 108, 111, 119, 101, 114, 9, 20, 95, 115, 114, 101, 46, 117, 110, 105, 99, 111, 100, 101, 95, 116, 111, 108, 111, 119, 101, 114, 6, 261, 5, 77, 65, 71, 73, 67, 4, 260, 0, 20230612, 6, 263, 8, 67, 79, 68, 69, 83, 73, 90, 69, 4, 262, 0, 4, 6, 265, 9, 77, 65, 88, 82, 69, 80, 69, 65, 84, 4, 264, 0, 4294967295, 6, 267, 9, 77, 65, 88, 71, 82, 79, 85, 80, 83, 4, 266, 0, 1073741823, 6, 269, 9, 99, 111, 112, 121, 114, 105, 103, 104, 116, 6, 268, 53, 32, 83, 82, 69, 32, 50, 46, 50, 46, 50, 32, 67, 111, 112, 121, 114, 105, 103, 104, 116, 32, 40, 99, 41, 32, 49, 57, 57, 55, 45, 50, 48, 48, 50, 32, 98, 121, 32, 83, 101, 99, 114, 101, 116, 32, 76, 97, 98, 115, 32, 65, 66, 32]⟩ 0, .bool true, .bool false, .str ⟨#[95, 115, 114, 101]⟩ 271] 0, slots := #[] }
noncomputable def o30 (P : Params) : Obj := { cls := .type "code", dict := none, data := .fields #[.str ⟨#[60, 109, 111, 100, 117, 108, 101, 62]⟩ 277, .str ⟨#[60, 109, 111, 100, 117, 108, 101, 62]⟩ 278, .str ⟨#[47, 99, 108, 97, 105, 109, 47, 99, 117, 116, 46, 112, 121]⟩ 279, .int 1 0, .int 0 0, .int 0 0, .int 0 0, .int 0 0, .ref 28, .bool false, .int 276 0, .ref 29, .none, .none, .none, .none, .int 280 0, .int 1 0, .str ⟨#[47, 99, 108, 97, 105, 109, 47, 99, 117, 116, 46, 112, 121]⟩ 281], slots := #[] }
noncomputable def o31 (P : Params) : Obj := { cls := .type "frame", dict := none, data := .plain, slots := #[some (.ref 30), some (.ref 3), some (.ref 3), none, some (.str ⟨#[95, 95, 109, 97, 105, 110, 95, 95]⟩ 164), none, some (.ref 0)] }
noncomputable def o3_1 (P : Params) : Obj := { cls := .type "dict", dict := none, data := .dict #[E P #[95, 95, 110, 97, 109, 101, 95, 95] 165 (.str ⟨#[95, 95, 109, 97, 105, 110, 95, 95]⟩ 164), E P #[95, 95, 100, 111, 99, 95, 95] 166 (.none), E P #[95, 95, 112, 97, 99, 107, 97, 103, 101, 95, 95] 167 (.none), E P #[95, 95, 108, 111, 97, 100, 101, 114, 95, 95] 168 (.builtin "__main__.__loader__#opaque"), E P #[95, 95, 115, 112, 101, 99, 95, 95] 169 (.none), E P #[95, 95, 97, 110, 110, 111, 116, 97, 116, 105, 111, 110, 115, 95, 95] 170 (.ref 6), E P #[95, 95, 98, 117, 105, 108, 116, 105, 110, 115, 95, 95] 171 (.ref 4), E P #[95, 95, 102, 105, 108, 101, 95, 95] 173 (.str ⟨#[47, 99, 108, 97, 105, 109, 47, 99, 117, 116, 46, 112, 121]⟩ 172), E P #[95, 95, 99, 97, 99, 104, 101, 100, 95, 95] 174 (.none), E P #[95, 115, 114, 101] 275 (.ref 12), E P #[95, 116, 119, 105, 110, 95, 114, 101, 95, 49] 316 (.ref 36)] 11, slots := #[] }
noncomputable def o32 (P : Params) : Obj := { cls := .type "list", dict := none, data := .seq #[.int 14 285, .int 8 286, .int 1 287, .int 3 288, .int 3 289, .int 1 290, .int 1 291, .int 61 292, .int 0 293, .int 16 294, .int 61 295, .int 24 296, .int 16 297, .int 2 298, .int 2 299, .int 13 300, .int 11 301, .int 9 302, .int 0 303, .int 67043328 304, .int 126 305, .int 126 306, .int 0 307, .int 0 308, .int 0 309, .int 0 310, .int 0 311, .int 1 312, .int 1 313] 0, slots := #[] }
noncomputable def o34 (P : Params) : Obj := { cls := .type "tuple", dict := none, data := .seq #[.none] 0, slots := #[] }
noncomputable def o35 (P : Params) : Obj := { cls := .type "tuple", dict := none, data := .seq #[.int 14 0, .int 8 0, .int 1 0, .int 3 0, .int 3 0, .int 1 0, .int 1 0, .int 61 0, .int 0 0, .int 16 0, .int 61 0, .int 24 0, .int 16 0, .int 2 0, .int 2 0, .int 13 0, .int 11 0, .int 9 0, .int 0 0, .int 67043328 0, .int 126 0, .int 126 0, .int 0 0, .int 0 0, .int 0 0, .int 0 0, .int 0 0, .int 1 0, .int 1 0] 0, slots := #[] }
noncomputable def o36 (P : Params) : Obj := { cls := .type "re.Pattern", dict := none, data := .fields #[.str ⟨#[61, 91, 97, 45, 102, 65, 45, 70, 48, 45, 57, 93, 123, 50, 125]⟩ 283, .int 256 315, .int 0 0, .none, .none, .ref 35, .int 0 0], slots := #[] }
noncomputable def o3_2 (P : Params) : Obj := { cls := .type "dict", dict := none, data := .dict #[E P #[95, 95, 110, 97, 109, 101, 95, 95] 165 (.str ⟨#[95, 95, 109, 97, 105, 110, 95, 95]⟩ 164), E P #[95, 95, 100, 111, 99, 95, 95] 166 (.none), E P #[95, 95, 112, 97, 99, 107, 97, 103, 101, 95, 95] 167 (.none), E P #[95, 95, 108, 111, 97, 100, 101, 114, 95, 95] 168 (.builtin "__main__.__loader__#opaque"), E P #[95, 95, 115, 112, 101, 99, 95, 95] 169 (.none), E P #[95, 95, 97, 110, 110, 111, 116, 97, 116, 105, 111, 110, 115, 95, 95] 170 (.ref 6), E P #[95, 95, 98, 117, 105, 108, 116, 105, 110, 115, 95, 95] 171 (.ref 4), E P #[95, 95, 102, 105, 108, 101, 95, 95] 173 (.str ⟨#[47, 99, 108, 97, 105, 109, 47, 99, 117, 116, 46, 112, 121]⟩ 172), E P #[95, 95, 99, 97, 99, 104, 101, 100, 95, 95] 174 (.none), E P #[95, 115, 114, 101] 275 (.ref 12), E P #[95, 116, 119, 105, 110, 95, 114, 101, 95, 49] 316 (.ref 36), E P #[95, 81, 85, 79, 80, 82, 73, 95, 77, 65, 80] 1344 (.ref 39)] 12, slots := #[] }
noncomputable def o37 (P : Params) : Obj := { cls := .type "range", dict := none, data := .fields #[.int 0 318, .int 256 317, .int 1 319], slots := #[] }
noncomputable def o38 (P : Params) : Obj := { cls := .type "range_iterator", dict := none, data := .fields #[.int 256 0, .int 0 0, .int 1 0], slots := #[] }
noncomputable def o39 (P : Params) : Obj := { cls := .type "list", dict := none, data := .seq (L39_312).toArray 256, slots := #[] }
noncomputable def o40 (P : Params) : Obj := { cls := .type "dict", dict := none, data := .dict #[] 2, slots := #[] }
noncomputable def o42 (P : Params) : Obj := { cls := .type "StopIteration", dict := none, data := .fields #[.ref 41, .none, .none, .none, .bool false, .none], slots := #[] }
noncomputable def o3_3 (P : Params) : Obj := { cls := .type "dict", dict := none, data := .dict #[E P #[95, 95, 110, 97, 109, 101, 95, 95] 165 (.str ⟨#[99, 112, 121, 51, 49, 51, 46, 101, 109, 97, 105, 108, 46, 113, 117, 111, 112, 114, 105, 109, 105, 109, 101]⟩ 1355), E P #[95, 95, 100, 111, 99, 95, 95] 166 (.none), E P #[95, 95, 112, 97, 99, 107, 97, 103, 101, 95, 95] 167 (.none), E P #[95, 95, 108, 111, 97, 100, 101, 114, 95, 95] 168 (.builtin "__main__.__loader__#opaque"), E P #[95, 95, 115, 112, 101, 99, 95, 95] 169 (.none), E P #[95, 95, 97, 110, 110, 111, 116, 97, 116, 105, 111, 110, 115, 95, 95] 170 (.ref 6), E P #[95, 95, 98, 117, 105, 108, 116, 105, 110, 115, 95, 95] 171 (.ref 4), E P #[95, 95, 102, 105, 108, 101, 95, 95] 173 (.str ⟨#[47, 99, 108, 97, 105, 109, 47, 99, 117, 116, 46, 112, 121]⟩ 172), E P #[95, 95, 99, 97, 99, 104, 101, 100, 95, 95] 174 (.none), E P #[95, 115, 114, 101] 275 (.ref 12), E P #[95, 116, 119, 105, 110, 95, 114, 101, 95, 49] 316 (.ref 36), E P #[95, 81, 85, 79, 80, 82, 73, 95, 77, 65, 80] 1344 (.ref 39), E P #[95, 81, 85, 79, 80, 82, 73, 95, 72, 69, 65, 68, 69, 82, 95, 77, 65, 80] 1345 (.ref 44), E P #[95, 81, 85, 79, 80, 82, 73, 95, 66, 79, 68, 89, 95, 77, 65, 80] 1346 (.ref 46), E P #[97, 115, 99, 105, 105, 95, 108, 111, 119, 101, 114, 99, 97, 115, 101] 1348 (.str ⟨#[97, 98, 99, 100, 101, 102, 103, 104, 105, 106, 107, 108, 109, 110, 111, 112, 113, 114, 115, 116, 117, 118, 119, 120, 121, 122]⟩ 1347), E P #[97, 115, 99, 105, 105, 95, 117, 112, 112, 101, 114, 99, 97, 115, 101] 1350 (.str ⟨#[65, 66, 67, 68, 69, 70, 71, 72, 73, 74, 75, 76, 77, 78, 79, 80, 81, 82, 83, 84, 85, 86, 87, 88, 89, 90]⟩ 1349), E P #[97, 115, 99, 105, 105, 95, 108, 101, 116, 116, 101, 114, 115] 1352 (.str ⟨#[97, 98, 99, 100, 101, 102, 103, 104, 105, 106, 107, 108, 109, 110, 111, 112, 113, 114, 115, 116, 117, 118, 119, 120, 121, 122, 65, 66, 67, 68, 69, 70, 71, 72, 73, 74, 75, 76, 77, 78, 79, 80, 81, 82, 83, 84, 85, 86, 87, 88, 89, 90]⟩ 1351), E P #[100, 105, 103, 105, 116, 115] 1354 (.str ⟨#[48, 49, 50, 51, 52, 53, 54, 55, 56, 57]⟩ 1353)] 18, slots := #[] }
noncomputable def o43 (P : Params) : Obj := { cls := .type "slice", dict := none, data := .fields #[.none, .none, .none], slots := #[] }
noncomputable def o44 (P : Params) : Obj := { cls := .type "list", dict := none, data := .seq (L44_312).toArray 0, slots := #[] }
noncomputable def o46 (P : Params) : Obj := { cls := .type "list", dict := none, data := .seq (L46_312).toArray 0, slots := #[] }
noncomputable def o3_4 (P : Params) : Obj := { cls := .type "dict", dict := none, data := .dict #[E P #[95, 95, 110, 97, 109, 101, 95, 95] 165 (.str ⟨#[99, 112, 121, 51, 49, 51, 46, 101, 109, 97, 105, 108, 46, 113, 117, 111, 112, 114, 105, 109, 105, 109, 101]⟩ 1355), E P #[95, 95, 100, 111, 99, 95, 95] 166 (.none), E P #[95, 95, 112, 97, 99, 107, 97, 103, 101, 95, 95] 167 (.none), E P #[95, 95, 108, 111, 97, 100, 101, 114, 95, 95] 168 (.builtin "__main__.__loader__#opaque"), E P #[95, 95, 115, 112, 101, 99, 95, 95] 169 (.none), E P #[95, 95, 97, 110, 110, 111, 116, 97, 116, 105, 111, 110, 115, 95, 95] 170 (.ref 6), E P #[95, 95, 98, 117, 105, 108, 116, 105, 110, 115, 95, 95] 171 (.ref 4), E P #[95, 95, 102, 105, 108, 101, 95, 95] 173 (.str ⟨#[47, 99, 108, 97, 105, 109, 47, 99, 117, 116, 46, 112, 121]⟩ 172), E P #[95, 95, 99, 97, 99, 104, 101, 100, 95, 95] 174 (.none), E P #[95, 115, 114, 101] 275 (.ref 12), E P #[95, 116, 119, 105, 110, 95, 114, 101, 95, 49] 316 (.ref 36), E P #[95, 81, 85, 79, 80, 82, 73, 95, 77, 65, 80] 1344 (.ref 39), E P #[95, 81, 85, 79, 80, 82, 73, 95, 72, 69, 65, 68, 69, 82, 95, 77, 65, 80] 1345 (.ref 44), E P #[95, 81, 85, 79, 80, 82, 73, 95, 66, 79, 68, 89, 95, 77, 65, 80] 1346 (.ref 46), E P #[97, 115, 99, 105, 105, 95, 108, 111, 119, 101, 114, 99, 97, 115, 101] 1348 (.str ⟨#[97, 98, 99, 100, 101, 102, 103, 104, 105, 106, 107, 108, 109, 110, 111, 112, 113, 114, 115, 116, 117, 118, 119, 120, 121, 122]⟩ 1347), E P #[97, 115, 99, 105, 105, 95, 117, 112, 112, 101, 114, 99, 97, 115, 101] 1350 (.str ⟨#[65, 66, 67, 68, 69, 70, 71, 72, 73, 74, 75, 76, 77, 78, 79, 80, 81, 82, 83, 84, 85, 86, 87, 88, 89, 90]⟩ 1349), E P #[97, 115, 99, 105, 105, 95, 108, 101, 116, 116, 101, 114, 115] 1352 (.str ⟨#[97, 98, 99, 100, 101, 102, 103, 104, 105, 106, 107, 108, 109, 110, 111, 112, 113, 114, 115, 116, 117, 118, 119, 120, 121, 122, 65, 66, 67, 68, 69, 70, 71, 72, 73, 74, 75, 76, 77, 78, 79, 80, 81, 82, 83, 84, 85, 86, 87, 88, 89, 90]⟩ 1351), E P #[100, 105, 103, 105, 116, 115] 1354 (.str ⟨#[48, 49, 50, 51, 52, 53, 54, 55, 56, 57]⟩ 1353), E P #[99] 1365 (.int 57 1562)] 19, slots := #[] }
noncomputable def o44_1 (P : Params) : Obj := { cls := .type "list", dict := none, data := .seq (L44_655).toArray 0, slots := #[] }
noncomputable def o47 (P : Params) : Obj := { cls := .type "bytes_iterator", dict := none, data := .fields #[.none, .int 67 0], slots := #[] }
noncomputable def o49 (P : Params) : Obj := { cls := .type "StopIteration", dict := none, data := .fields #[.ref 48, .none, .none, .none, .bool false, .none], slots := #[] }
noncomputable def o3_5 (P : Params) : Obj := { cls := .type "dict", dict := none, data := .dict #[E P #[95, 95, 110, 97, 109, 101, 95, 95] 165 (.str ⟨#[99, 112, 121, 51, 49, 51, 46, 101, 109, 97, 105, 108, 46, 113, 117, 111, 112, 114, 105, 109, 105, 109, 101]⟩ 1355), E P #[95, 95, 100, 111, 99, 95, 95] 166 (.none), E P #[95, 95, 112, 97, 99, 107, 97, 103, 101, 95, 95] 167 (.none), E P #[95, 95, 108, 111, 97, 100, 101, 114, 95, 95] 168 (.builtin "__main__.__loader__#opaque"), E P #[95, 95, 115, 112, 101, 99, 95, 95] 169 (.none), E P #[95, 95, 97, 110, 110, 111, 116, 97, 116, 105, 111, 110, 115, 95, 95] 170 (.ref 6), E P #[95, 95, 98, 117, 105, 108, 116, 105, 110, 115, 95, 95] 171 (.ref 4), E P #[95, 95, 102, 105, 108, 101, 95, 95] 173 (.str ⟨#[47, 99, 108, 97, 105, 109, 47, 99, 117, 116, 46, 112, 121]⟩ 172), E P #[95, 95, 99, 97, 99, 104, 101, 100, 95, 95] 174 (.none), E P #[95, 115, 114, 101] 275 (.ref 12), E P #[95, 116, 119, 105, 110, 95, 114, 101, 95, 49] 316 (.ref 36), E P #[95, 81, 85, 79, 80, 82, 73, 95, 77, 65, 80] 1344 (.ref 39), E P #[95, 81, 85, 79, 80, 82, 73, 95, 72, 69, 65, 68, 69, 82, 95, 77, 65, 80] 1345 (.ref 44), E P #[95, 81, 85, 79, 80, 82, 73, 95, 66, 79, 68, 89, 95, 77, 65, 80] 1346 (.ref 46), E P #[97, 115, 99, 105, 105, 95, 108, 111, 119, 101, 114, 99, 97, 115, 101] 1348 (.str ⟨#[97, 98, 99, 100, 101, 102, 103, 104, 105, 106, 107, 108, 109, 110, 111, 112, 113, 114, 115, 116, 117, 118, 119, 120, 121, 122]⟩ 1347), E P #[97, 115, 99, 105, 105, 95, 117, 112, 112, 101, 114, 99, 97, 115, 101] 1350 (.str ⟨#[65, 66, 67, 68, 69, 70, 71, 72, 73, 74, 75, 76, 77, 78, 79, 80, 81, 82, 83, 84, 85, 86, 87, 88, 89, 90]⟩ 1349), E P #[97, 115, 99, 105, 105, 95, 108, 101, 116, 116, 101, 114, 115] 1352 (.str ⟨#[97, 98, 99, 100, 101, 102, 103, 104, 105, 106, 107, 108, 109, 110, 111, 112, 113, 114, 115, 116, 117, 118, 119, 120, 121, 122, 65, 66, 67, 68, 69, 70, 71, 72, 73, 74, 75, 76, 77, 78, 79, 80, 81, 82, 83, 84, 85, 86, 87, 88, 89, 90]⟩ 1351), E P #[100, 105, 103, 105, 116, 115] 1354 (.str ⟨#[48, 49, 50, 51, 52, 53, 54, 55, 56, 57]⟩ 1353), E P #[99] 1365 (.int 9 1851)] 19, slots := #[] }
noncomputable def o44_2 (P : Params) : Obj := { cls := .type "list", dict := none, data := .seq (L44_287).toArray 0, slots := #[] }
noncomputable def o46_1 (P : Params) : Obj := { cls := .type "list", dict := none, data := .seq (L46_381).toArray 0, slots := #[] }
noncomputable def o50 (P : Params) : Obj := { cls := .type "bytes_iterator", dict := none, data := .fields #[.none, .int 95 0], slots := #[] }
noncomputable def o52 (P : Params) : Obj := { cls := .type "StopIteration", dict := none, data := .fields #[.ref 51, .none, .none, .none, .bool false, .none], slots := #[] }
noncomputable def o3_6 (P : Params) : Obj := { cls := .type "dict", dict := none, data := .dict #[E P #[95, 95, 110, 97, 109, 101, 95, 95] 165 (.str ⟨#[108, 97, 119, 95, 114, 108, 48, 48, 51, 57, 95, 48, 49]⟩ 1930), E P #[95, 95, 100, 111, 99, 95, 95] 166 (.none), E P #[95, 95, 112, 97, 99, 107, 97, 103, 101, 95, 95] 167 (.none), E P #[95, 95, 108, 111, 97, 100, 101, 114, 95, 95] 168 (.builtin "__main__.__loader__#opaque"), E P #[95, 95, 115, 112, 101, 99, 95, 95] 169 (.none), E P #[95, 95, 97, 110, 110, 111, 116, 97, 116, 105, 111, 110, 115, 95, 95] 170 (.ref 6), E P #[95, 95, 98, 117, 105, 108, 116, 105, 110, 115, 95, 95] 171 (.ref 4), E P #[95, 95, 102, 105, 108, 101, 95, 95] 173 (.str ⟨#[47, 99, 108, 97, 105, 109, 47, 99, 117, 116, 46, 112, 121]⟩ 172), E P #[95, 95, 99, 97, 99, 104, 101, 100, 95, 95] 174 (.none), E P #[95, 115, 114, 101] 275 (.ref 12), E P #[95, 116, 119, 105, 110, 95, 114, 101, 95, 49] 316 (.ref 36), E P #[95, 81, 85, 79, 80, 82, 73, 95, 77, 65, 80] 1344 (.ref 39), E P #[95, 81, 85, 79, 80, 82, 73, 95, 72, 69, 65, 68, 69, 82, 95, 77, 65, 80] 1345 (.ref 44), E P #[95, 81, 85, 79, 80, 82, 73, 95, 66, 79, 68, 89, 95, 77, 65, 80] 1346 (.ref 46), E P #[97, 115, 99, 105, 105, 95, 108, 111, 119, 101, 114, 99, 97, 115, 101] 1348 (.str ⟨#[97, 98, 99, 100, 101, 102, 103, 104, 105, 106, 107, 108, 109, 110, 111, 112, 113, 114, 115, 116, 117, 118, 119, 120, 121, 122]⟩ 1347), E P #[97, 115, 99, 105, 105, 95, 117, 112, 112, 101, 114, 99, 97, 115, 101] 1350 (.str ⟨#[65, 66, 67, 68, 69, 70, 71, 72, 73, 74, 75, 76, 77, 78, 79, 80, 81, 82, 83, 84, 85, 86, 87, 88, 89, 90]⟩ 1349), E P #[97, 115, 99, 105, 105, 95, 108, 101, 116, 116, 101, 114, 115] 1352 (.str ⟨#[97, 98, 99, 100, 101, 102, 103, 104, 105, 106, 107, 108, 109, 110, 111, 112, 113, 114, 115, 116, 117, 118, 119, 120, 121, 122, 65, 66, 67, 68, 69, 70, 71, 72, 73, 74, 75, 76, 77, 78, 79, 80, 81, 82, 83, 84, 85, 86, 87, 88, 89, 90]⟩ 1351), E P #[100, 105, 103, 105, 116, 115] 1354 (.str ⟨#[48, 49, 50, 51, 52, 53, 54, 55, 56, 57]⟩ 1353), E P #[117, 110, 113, 117, 111, 116, 101] 1860 (.ref 59), E P #[104, 101, 97, 100, 101, 114, 95, 101, 110, 99, 111, 100, 101] 1870 (.ref 67), E P #[95, 81, 85, 79, 80, 82, 73, 95, 66, 79, 68, 89, 95, 69, 78, 67, 79, 68, 69, 95, 77, 65, 80] 1871 (.ref 69), E P #[95, 117, 110, 113, 117, 111, 116, 101, 95, 109, 97, 116, 99, 104] 1886 (.ref 79), E P #[104, 101, 97, 100, 101, 114, 95, 100, 101, 99, 111, 100, 101] 1893 (.ref 86), E P #[95, 77, 65, 88, 95, 83, 84, 82, 73, 78, 71, 95, 83, 73, 90, 69] 1897 (.int 40 1896), E P #[95, 77, 79, 86, 69, 95, 67, 79, 83, 84] 1899 (.int 2 1898), E P #[95, 67, 65, 83, 69, 95, 67, 79, 83, 84] 1901 (.int 1 1900), E P #[95, 115, 117, 98, 115, 116, 105, 116, 117, 116, 105, 111, 110, 95, 99, 111, 115, 116] 1909 (.ref 93), E P #[95, 108, 101, 118, 101, 110, 115, 104, 116, 101, 105, 110, 95, 100, 105, 115, 116, 97, 110, 99, 101] 1929 (.ref 100), E P #[95, 108, 97, 119, 95, 111, 99, 116, 101, 116] 1938 (.ref 107), E P #[95, 108, 97, 119, 95, 119, 114, 105, 116, 116, 101, 110] 1945 (.ref 114), E P #[95, 108, 97, 119, 95, 115, 108, 105, 112] 1957 (.ref 121), E P #[95, 108, 97, 119, 95, 114, 101, 97, 100] 1963 (.ref 126), E P #[95, 108, 97, 119, 95, 112, 114, 105, 99, 101] 1975 (.ref 133), E P #[108, 97, 119] 1981 (.ref 138)] 36, slots := #[] }
noncomputable def o29 (P : Params) : Obj := { cls := .none, dict := none, data := .fields #[.int 16 0, .int 0 0, .ref 58, .int 18 0, .int 0 0, .ref 66, .int 27 0, .int 0 0, .ref 78, .int 30 0, .int 0 0, .ref 85, .int 37 0, .int 0 0, .ref 92, .int 43 0, .int 0 0, .ref 99, .int 82 0, .int 0 0, .ref 106, .int 88 0, .int 0 0, .ref 113, .int 94 0, .int 0 0, .ref 120, .int 106 0, .int 0 0, .ref 125, .int 111 0, .int 0 0, .ref 132, .int 121 0, .int 0 0, .ref 137], slots := #[] }
noncomputable def o55 (P : Params) : Obj := { cls := .type "tuple", dict := none, data := .seq #[.str ⟨#[115]⟩ 1857] 0, slots := #[] }
noncomputable def o57 (P : Params) : Obj := { cls := .none, dict := none, data := .func { name := ⟨#[117, 110, 113, 117, 111, 116, 101]⟩, qualname := ⟨#[117, 110, 113, 117, 111, 116, 101]⟩, params := fP 12, body := fB 12, scope := fS 12, globals := 0, closure := [], defaults := .none, kwdefaults := .none, doc := .none, pyModule := .none, annotations := none, code := .none, closureTuple := .none, builtins := 0 }, slots := #[] }
noncomputable def o58 (P : Params) : Obj := { cls := .type "code", dict := none, data := .fields #[.str ⟨#[117, 110, 113, 117, 111, 116, 101]⟩ 1854, .str ⟨#[117, 110, 113, 117, 111, 116, 101]⟩ 1855, .str ⟨#[47, 99, 108, 97, 105, 109, 47, 99, 117, 116, 46, 112, 121]⟩ 1856, .int 16 0, .int 1 0, .int 0 0, .int 0 0, .int 3 0, .ref 53, .bool true, .int 276 0, .ref 54, .none, .ref 55, .ref 56, .ref 57, .int 1858 0, .int 16 0, .str ⟨#[47, 99, 108, 97, 105, 109, 47, 99, 117, 116, 46, 112, 121]⟩ 1859], slots := #[] }
noncomputable def o59 (P : Params) : Obj := { cls := .type "function", dict := none, data := .func { name := ⟨#[117, 110, 113, 117, 111, 116, 101]⟩, qualname := ⟨#[117, 110, 113, 117, 111, 116, 101]⟩, params := fP 12, body := fB 12, scope := fS 12, globals := 3, closure := [], defaults := .none, kwdefaults := .none, doc := .none, pyModule := .str ⟨#[99, 112, 121, 51, 49, 51, 46, 101, 109, 97, 105, 108, 46, 113, 117, 111, 112, 114, 105, 109, 105, 109, 101]⟩ 1355, annotations := none, code := .ref 58, closureTuple := .none, builtins := 0 }, slots := #[] }
noncomputable def o60 (P : Params) : Obj := { cls := .type "tuple", dict := none, data := .seq #[.str ⟨#[105, 115, 111, 45, 56, 56, 53, 57, 45, 49]⟩ 1861] 0, slots := #[] }
noncomputable def o63 (P : Params) : Obj := { cls := .type "tuple", dict := none, data := .seq #[.str ⟨#[104, 101, 97, 100, 101, 114, 95, 98, 121, 116, 101, 115]⟩ 1865, .str ⟨#[99, 104, 97, 114, 115, 101, 116]⟩ 1866, .str ⟨#[101, 110, 99, 111, 100, 101, 100]⟩ 1867] 0, slots := #[] }
noncomputable def o65 (P : Params) : Obj := { cls := .none, dict := none, data := .func { name := ⟨#[104, 101, 97, 100, 101, 114, 95, 101, 110, 99, 111, 100, 101]⟩, qualname := ⟨#[104, 101, 97, 100, 101, 114, 95, 101, 110, 99, 111, 100, 101]⟩, params := fP 13, body := fB 13, scope := fS 13, globals := 0, closure := [], defaults := .none, kwdefaults := .none, doc := .none, pyModule := .none, annotations := none, code := .none, closureTuple := .none, builtins := 0 }, slots := #[] }
noncomputable def o66 (P : Params) : Obj := { cls := .type "code", dict := none, data := .fields #[.str ⟨#[104, 101, 97, 100, 101, 114, 95, 101, 110, 99, 111, 100, 101]⟩ 1862, .str ⟨#[104, 101, 97, 100, 101, 114, 95, 101, 110, 99, 111, 100, 101]⟩ 1863, .str ⟨#[47, 99, 108, 97, 105, 109, 47, 99, 117, 116, 46, 112, 121]⟩ 1864, .int 18 0, .int 2 0, .int 0 0, .int 0 0, .int 3 0, .ref 61, .bool true, .int 276 0, .ref 62, .none, .ref 63, .ref 64, .ref 65, .int 1868 0, .int 18 0, .str ⟨#[47, 99, 108, 97, 105, 109, 47, 99, 117, 116, 46, 112, 121]⟩ 1869], slots := #[] }
noncomputable def o67 (P : Params) : Obj := { cls := .type "function", dict := none, data := .func { name := ⟨#[104, 101, 97, 100, 101, 114, 95, 101, 110, 99, 111, 100, 101]⟩, qualname := ⟨#[104, 101, 97, 100, 101, 114, 95, 101, 110, 99, 111, 100, 101]⟩, params := fP 13, body := fB 13, scope := fS 13, globals := 3, closure := [], defaults := .ref 60, kwdefaults := .none, doc := .none, pyModule := .str ⟨#[99, 112, 121, 51, 49, 51, 46, 101, 109, 97, 105, 108, 46, 113, 117, 111, 112, 114, 105, 109, 105, 109, 101]⟩ 1355, annotations := none, code := .ref 66, closureTuple := .none, builtins := 0 }, slots := #[] }
noncomputable def o69 (P : Params) : Obj := { cls := .type "list", dict := none, data := .seq (L69_509).toArray 0, slots := #[] }
noncomputable def o70 (P : Params) : Obj := { cls := .type "bytes_iterator", dict := none, data := .fields #[.none, .int 2 0], slots := #[] }
noncomputable def o72 (P : Params) : Obj := { cls := .type "StopIteration", dict := none, data := .fields #[.ref 71, .none, .none, .none, .bool false, .none], slots := #[] }
noncomputable def o75 (P : Params) : Obj := { cls := .type "tuple", dict := none, data := .seq #[.str ⟨#[109, 97, 116, 99, 104]⟩ 1882, .str ⟨#[115]⟩ 1883] 0, slots := #[] }
noncomputable def o77 (P : Params) : Obj := { cls := .none, dict := none, data := .func { name := ⟨#[95, 117, 110, 113, 117, 111, 116, 101, 95, 109, 97, 116, 99, 104]⟩, qualname := ⟨#[95, 117, 110, 113, 117, 111, 116, 101, 95, 109, 97, 116, 99, 104]⟩, params := fP 17, body := fB 17, scope := fS 17, globals := 0, closure := [], defaults := .none, kwdefaults := .none, doc := .none, pyModule := .none, annotations := none, code := .none, closureTuple := .none, builtins := 0 }, slots := #[] }
noncomputable def o78 (P : Params) : Obj := { cls := .type "code", dict := none, data := .fields #[.str ⟨#[95, 117, 110, 113, 117, 111, 116, 101, 95, 109, 97, 116, 99, 104]⟩ 1879, .str ⟨#[95, 117, 110, 113, 117, 111, 116, 101, 95, 109, 97, 116, 99, 104]⟩ 1880, .str ⟨#[47, 99, 108, 97, 105, 109, 47, 99, 117, 116, 46, 112, 121]⟩ 1881, .int 27 0, .int 1 0, .int 0 0, .int 0 0, .int 3 0, .ref 73, .bool true, .int 276 0, .ref 74, .none, .ref 75, .ref 76, .ref 77, .int 1884 0, .int 27 0, .str ⟨#[47, 99, 108, 97, 105, 109, 47, 99, 117, 116, 46, 112, 121]⟩ 1885], slots := #[] }
noncomputable def o79 (P : Params) : Obj := { cls := .type "function", dict := none, data := .func { name := ⟨#[95, 117, 110, 113, 117, 111, 116, 101, 95, 109, 97, 116, 99, 104]⟩, qualname := ⟨#[95, 117, 110, 113, 117, 111, 116, 101, 95, 109, 97, 116, 99, 104]⟩, params := fP 17, body := fB 17, scope := fS 17, globals := 3, closure := [], defaults := .none, kwdefaults := .none, doc := .none, pyModule := .str ⟨#[99, 112, 121, 51, 49, 51, 46, 101, 109, 97, 105, 108, 46, 113, 117, 111, 112, 114, 105, 109, 105, 109, 101]⟩ 1355, annotations := none, code := .ref 78, closureTuple := .none, builtins := 0 }, slots := #[] }
noncomputable def o82 (P : Params) : Obj := { cls := .type "tuple", dict := none, data := .seq #[.str ⟨#[115]⟩ 1890] 0, slots := #[] }
noncomputable def o84 (P : Params) : Obj := { cls := .none, dict := none, data := .func { name := ⟨#[104, 101, 97, 100, 101, 114, 95, 100, 101, 99, 111, 100, 101]⟩, qualname := ⟨#[104, 101, 97, 100, 101, 114, 95, 100, 101, 99, 111, 100, 101]⟩, params := fP 18, body := fB 18, scope := fS 18, globals := 0, closure := [], defaults := .none, kwdefaults := .none, doc := .none, pyModule := .none, annotations := none, code := .none, closureTuple := .none, builtins := 0 }, slots := #[] }
noncomputable def o85 (P : Params) : Obj := { cls := .type "code", dict := none, data := .fields #[.str ⟨#[104, 101, 97, 100, 101, 114, 95, 100, 101, 99, 111, 100, 101]⟩ 1887, .str ⟨#[104, 101, 97, 100, 101, 114, 95, 100, 101, 99, 111, 100, 101]⟩ 1888, .str ⟨#[47, 99, 108, 97, 105, 109, 47, 99, 117, 116, 46, 112, 121]⟩ 1889, .int 30 0, .int 1 0, .int 0 0, .int 0 0, .int 3 0, .ref 80, .bool true, .int 276 0, .ref 81, .none, .ref 82, .ref 83, .ref 84, .int 1891 0, .int 30 0, .str ⟨#[47, 99, 108, 97, 105, 109, 47, 99, 117, 116, 46, 112, 121]⟩ 1892], slots := #[] }
noncomputable def o86 (P : Params) : Obj := { cls := .type "function", dict := none, data := .func { name := ⟨#[104, 101, 97, 100, 101, 114, 95, 100, 101, 99, 111, 100, 101]⟩, qualname := ⟨#[104, 101, 97, 100, 101, 114, 95, 100, 101, 99, 111, 100, 101]⟩, params := fP 18, body := fB 18, scope := fS 18, globals := 3, closure := [], defaults := .none, kwdefaults := .none, doc := .none, pyModule := .str ⟨#[99, 112, 121, 51, 49, 51, 46, 101, 109, 97, 105, 108, 46, 113, 117, 111, 112, 114, 105, 109, 105, 109, 101]⟩ 1355, annotations := none, code := .ref 85, closureTuple := .none, builtins := 0 }, slots := #[] }
noncomputable def o89 (P : Params) : Obj := { cls := .type "tuple", dict := none, data := .seq #[.str ⟨#[99, 104, 95, 97]⟩ 1905, .str ⟨#[99, 104, 95, 98]⟩ 1906] 0, slots := #[] }
noncomputable def o91 (P : Params) : Obj := { cls := .none, dict := none, data := .func { name := ⟨#[95, 115, 117, 98, 115, 116, 105, 116, 117, 116, 105, 111, 110, 95, 99, 111, 115, 116]⟩, qualname := ⟨#[95, 115, 117, 98, 115, 116, 105, 116, 117, 116, 105, 111, 110, 95, 99, 111, 115, 116]⟩, params := fP 23, body := fB 23, scope := fS 23, globals := 0, closure := [], defaults := .none, kwdefaults := .none, doc := .none, pyModule := .none, annotations := none, code := .none, closureTuple := .none, builtins := 0 }, slots := #[] }
noncomputable def o92 (P : Params) : Obj := { cls := .type "code", dict := none, data := .fields #[.str ⟨#[95, 115, 117, 98, 115, 116, 105, 116, 117, 116, 105, 111, 110, 95, 99, 111, 115, 116]⟩ 1902, .str ⟨#[95, 115, 117, 98, 115, 116, 105, 116, 117, 116, 105, 111, 110, 95, 99, 111, 115, 116]⟩ 1903, .str ⟨#[47, 99, 108, 97, 105, 109, 47, 99, 117, 116, 46, 112, 121]⟩ 1904, .int 37 0, .int 2 0, .int 0 0, .int 0 0, .int 3 0, .ref 87, .bool true, .int 276 0, .ref 88, .none, .ref 89, .ref 90, .ref 91, .int 1907 0, .int 37 0, .str ⟨#[47, 99, 108, 97, 105, 109, 47, 99, 117, 116, 46, 112, 121]⟩ 1908], slots := #[] }
noncomputable def o93 (P : Params) : Obj := { cls := .type "function", dict := none, data := .func { name := ⟨#[95, 115, 117, 98, 115, 116, 105, 116, 117, 116, 105, 111, 110, 95, 99, 111, 115, 116]⟩, qualname := ⟨#[95, 115, 117, 98, 115, 116, 105, 116, 117, 116, 105, 111, 110, 95, 99, 111, 115, 116]⟩, params := fP 23, body := fB 23, scope := fS 23, globals := 3, closure := [], defaults := .none, kwdefaults := .none, doc := .none, pyModule := .str ⟨#[99, 112, 121, 51, 49, 51, 46, 116, 114, 97, 99, 101, 98, 97, 99, 107]⟩ 1894, annotations := none, code := .ref 92, closureTuple := .none, builtins := 0 }, slots := #[] }
noncomputable def o96 (P : Params) : Obj := { cls := .type "tuple", dict := none, data := .seq #[.str ⟨#[97]⟩ 1913, .str ⟨#[98]⟩ 1914, .str ⟨#[109, 97, 120, 95, 99, 111, 115, 116]⟩ 1915, .str ⟨#[112, 114, 101]⟩ 1916, .str ⟨#[112, 111, 115, 116]⟩ 1917, .str ⟨#[114, 111, 119]⟩ 1918, .str ⟨#[114, 101, 115, 117, 108, 116]⟩ 1919, .str ⟨#[98, 105, 110, 100, 101, 120]⟩ 1920, .str ⟨#[98, 99, 104, 97, 114]⟩ 1921, .str ⟨#[100, 105, 115, 116, 97, 110, 99, 101]⟩ 1922, .str ⟨#[109, 105, 110, 105, 109, 117, 109]⟩ 1923, .str ⟨#[105, 110, 100, 101, 120]⟩ 1924, .str ⟨#[115, 117, 98, 115, 116, 105, 116, 117, 116, 101]⟩ 1925, .str ⟨#[105, 110, 115, 101, 114, 116, 95, 100, 101, 108, 101, 116, 101]⟩ 1926] 0, slots := #[] }
noncomputable def o98 (P : Params) : Obj := { cls := .none, dict := none, data := .func { name := ⟨#[95, 108, 101, 118, 101, 110, 115, 104, 116, 101, 105, 110, 95, 100, 105, 115, 116, 97, 110, 99, 101]⟩, qualname := ⟨#[95, 108, 101, 118, 101, 110, 115, 104, 116, 101, 105, 110, 95, 100, 105, 115, 116, 97, 110, 99, 101]⟩, params := fP 24, body := fB 24, scope := fS 24, globals := 0, closure := [], defaults := .none, kwdefaults := .none, doc := .none, pyModule := .none, annotations := none, code := .none, closureTuple := .none, builtins := 0 }, slots := #[] }
noncomputable def o99 (P : Params) : Obj := { cls := .type "code", dict := none, data := .fields #[.str ⟨#[95, 108, 101, 118, 101, 110, 115, 104, 116, 101, 105, 110, 95, 100, 105, 115, 116, 97, 110, 99, 101]⟩ 1910, .str ⟨#[95, 108, 101, 118, 101, 110, 115, 104, 116, 101, 105, 110, 95, 100, 105, 115, 116, 97, 110, 99, 101]⟩ 1911, .str ⟨#[47, 99, 108, 97, 105, 109, 47, 99, 117, 116, 46, 112, 121]⟩ 1912, .int 43 0, .int 3 0, .int 0 0, .int 0 0, .int 3 0, .ref 94, .bool true, .int 276 0, .ref 95, .none, .ref 96, .ref 97, .ref 98, .int 1927 0, .int 43 0, .str ⟨#[47, 99, 108, 97, 105, 109, 47, 99, 117, 116, 46, 112, 121]⟩ 1928], slots := #[] }
noncomputable def o100 (P : Params) : Obj := { cls := .type "function", dict := none, data := .func { name := ⟨#[95, 108, 101, 118, 101, 110, 115, 104, 116, 101, 105, 110, 95, 100, 105, 115, 116, 97, 110, 99, 101]⟩, qualname := ⟨#[95, 108, 101, 118, 101, 110, 115, 104, 116, 101, 105, 110, 95, 100, 105, 115, 116, 97, 110, 99, 101]⟩, params := fP 24, body := fB 24, scope := fS 24, globals := 3, closure := [], defaults := .none, kwdefaults := .none, doc := .none, pyModule := .str ⟨#[99, 112, 121, 51, 49, 51, 46, 116, 114, 97, 99, 101, 98, 97, 99, 107]⟩ 1894, annotations := none, code := .ref 99, closureTuple := .none, builtins := 0 }, slots := #[] }
noncomputable def o103 (P : Params) : Obj := { cls := .type "tuple", dict := none, data := .seq #[.str ⟨#[120]⟩ 1935] 0, slots := #[] }
noncomputable def o105 (P : Params) : Obj := { cls := .none, dict := none, data := .func { name := ⟨#[95, 108, 97, 119, 95, 111, 99, 116, 101, 116]⟩, qualname := ⟨#[95, 108, 97, 119, 95, 111, 99, 116, 101, 116]⟩, params := fP 26, body := fB 26, scope := fS 26, globals := 0, closure := [], defaults := .none, kwdefaults := .none, doc := .none, pyModule := .none, annotations := none, code := .none, closureTuple := .none, builtins := 0 }, slots := #[] }
noncomputable def o106 (P : Params) : Obj := { cls := .type "code", dict := none, data := .fields #[.str ⟨#[95, 108, 97, 119, 95, 111, 99, 116, 101, 116]⟩ 1932, .str ⟨#[95, 108, 97, 119, 95, 111, 99, 116, 101, 116]⟩ 1933, .str ⟨#[47, 99, 108, 97, 105, 109, 47, 99, 117, 116, 46, 112, 121]⟩ 1934, .int 82 0, .int 1 0, .int 0 0, .int 0 0, .int 3 0, .ref 101, .bool true, .int 276 0, .ref 102, .none, .ref 103, .ref 104, .ref 105, .int 1936 0, .int 82 0, .str ⟨#[47, 99, 108, 97, 105, 109, 47, 99, 117, 116, 46, 112, 121]⟩ 1937], slots := #[] }
noncomputable def o107 (P : Params) : Obj := { cls := .type "function", dict := none, data := .func { name := ⟨#[95, 108, 97, 119, 95, 111, 99, 116, 101, 116]⟩, qualname := ⟨#[95, 108, 97, 119, 95, 111, 99, 116, 101, 116]⟩, params := fP 26, body := fB 26, scope := fS 26, globals := 3, closure := [], defaults := .none, kwdefaults := .none, doc := .none, pyModule := .str ⟨#[108, 97, 119, 95, 114, 108, 48, 48, 51, 57, 95, 48, 49]⟩ 1930, annotations := none, code := .ref 106, closureTuple := .none, builtins := 0 }, slots := #[] }
noncomputable def o110 (P : Params) : Obj := { cls := .type "tuple", dict := none, data := .seq #[.str ⟨#[111, 99, 116, 101, 116]⟩ 1942] 0, slots := #[] }
noncomputable def o112 (P : Params) : Obj := { cls := .none, dict := none, data := .func { name := ⟨#[95, 108, 97, 119, 95, 119, 114, 105, 116, 116, 101, 110]⟩, qualname := ⟨#[95, 108, 97, 119, 95, 119, 114, 105, 116, 116, 101, 110]⟩, params := fP 27, body := fB 27, scope := fS 27, globals := 0, closure := [], defaults := .none, kwdefaults := .none, doc := .none, pyModule := .none, annotations := none, code := .none, closureTuple := .none, builtins := 0 }, slots := #[] }
noncomputable def o113 (P : Params) : Obj := { cls := .type "code", dict := none, data := .fields #[.str ⟨#[95, 108, 97, 119, 95, 119, 114, 105, 116, 116, 101, 110]⟩ 1939, .str ⟨#[95, 108, 97, 119, 95, 119, 114, 105, 116, 116, 101, 110]⟩ 1940, .str ⟨#[47, 99, 108, 97, 105, 109, 47, 99, 117, 116, 46, 112, 121]⟩ 1941, .int 88 0, .int 1 0, .int 0 0, .int 0 0, .int 3 0, .ref 108, .bool true, .int 276 0, .ref 109, .none, .ref 110, .ref 111, .ref 112, .int 1943 0, .int 88 0, .str ⟨#[47, 99, 108, 97, 105, 109, 47, 99, 117, 116, 46, 112, 121]⟩ 1944], slots := #[] }
noncomputable def o114 (P : Params) : Obj := { cls := .type "function", dict := none, data := .func { name := ⟨#[95, 108, 97, 119, 95, 119, 114, 105, 116, 116, 101, 110]⟩, qualname := ⟨#[95, 108, 97, 119, 95, 119, 114, 105, 116, 116, 101, 110]⟩, params := fP 27, body := fB 27, scope := fS 27, globals := 3, closure := [], defaults := .none, kwdefaults := .none, doc := .none, pyModule := .str ⟨#[108, 97, 119, 95, 114, 108, 48, 48, 51, 57, 95, 48, 49]⟩ 1930, annotations := none, code := .ref 113, closureTuple := .none, builtins := 0 }, slots := #[] }
noncomputable def o117 (P : Params) : Obj := { cls := .type "tuple", dict := none, data := .seq #[.str ⟨#[117, 110, 105, 116, 115]⟩ 1949, .str ⟨#[112, 108, 97, 99, 101]⟩ 1950, .str ⟨#[110, 117, 109, 98, 101, 114]⟩ 1951, .str ⟨#[119, 104, 101, 114, 101]⟩ 1952, .str ⟨#[117, 110, 105, 116]⟩ 1953, .str ⟨#[102, 105, 103, 117, 114, 101]⟩ 1954] 0, slots := #[] }
noncomputable def o119 (P : Params) : Obj := { cls := .none, dict := none, data := .func { name := ⟨#[95, 108, 97, 119, 95, 115, 108, 105, 112]⟩, qualname := ⟨#[95, 108, 97, 119, 95, 115, 108, 105, 112]⟩, params := fP 28, body := fB 28, scope := fS 28, globals := 0, closure := [], defaults := .none, kwdefaults := .none, doc := .none, pyModule := .none, annotations := none, code := .none, closureTuple := .none, builtins := 0 }, slots := #[] }
noncomputable def o120 (P : Params) : Obj := { cls := .type "code", dict := none, data := .fields #[.str ⟨#[95, 108, 97, 119, 95, 115, 108, 105, 112]⟩ 1946, .str ⟨#[95, 108, 97, 119, 95, 115, 108, 105, 112]⟩ 1947, .str ⟨#[47, 99, 108, 97, 105, 109, 47, 99, 117, 116, 46, 112, 121]⟩ 1948, .int 94 0, .int 3 0, .int 0 0, .int 0 0, .int 3 0, .ref 115, .bool true, .int 276 0, .ref 116, .none, .ref 117, .ref 118, .ref 119, .int 1955 0, .int 94 0, .str ⟨#[47, 99, 108, 97, 105, 109, 47, 99, 117, 116, 46, 112, 121]⟩ 1956], slots := #[] }
noncomputable def o121 (P : Params) : Obj := { cls := .type "function", dict := none, data := .func { name := ⟨#[95, 108, 97, 119, 95, 115, 108, 105, 112]⟩, qualname := ⟨#[95, 108, 97, 119, 95, 115, 108, 105, 112]⟩, params := fP 28, body := fB 28, scope := fS 28, globals := 3, closure := [], defaults := .none, kwdefaults := .none, doc := .none, pyModule := .str ⟨#[108, 97, 119, 95, 114, 108, 48, 48, 51, 57, 95, 48, 49]⟩ 1930, annotations := none, code := .ref 120, closureTuple := .none, builtins := 0 }, slots := #[] }
noncomputable def o124 (P : Params) : Obj := { cls := .none, dict := none, data := .func { name := ⟨#[95, 108, 97, 119, 95, 114, 101, 97, 100]⟩, qualname := ⟨#[95, 108, 97, 119, 95, 114, 101, 97, 100]⟩, params := fP 29, body := fB 29, scope := fS 29, globals := 0, closure := [], defaults := .none, kwdefaults := .none, doc := .none, pyModule := .none, annotations := none, code := .none, closureTuple := .none, builtins := 0 }, slots := #[] }
noncomputable def o125 (P : Params) : Obj := { cls := .type "code", dict := none, data := .fields #[.str ⟨#[95, 108, 97, 119, 95, 114, 101, 97, 100]⟩ 1958, .str ⟨#[95, 108, 97, 119, 95, 114, 101, 97, 100]⟩ 1959, .str ⟨#[47, 99, 108, 97, 105, 109, 47, 99, 117, 116, 46, 112, 121]⟩ 1960, .int 106 0, .int 1 0, .int 0 0, .int 0 0, .int 3 0, .ref 122, .bool true, .int 276 0, .ref 123, .none, .none, .none, .ref 124, .int 1961 0, .int 106 0, .str ⟨#[47, 99, 108, 97, 105, 109, 47, 99, 117, 116, 46, 112, 121]⟩ 1962], slots := #[] }
noncomputable def o126 (P : Params) : Obj := { cls := .type "function", dict := none, data := .func { name := ⟨#[95, 108, 97, 119, 95, 114, 101, 97, 100]⟩, qualname := ⟨#[95, 108, 97, 119, 95, 114, 101, 97, 100]⟩, params := fP 29, body := fB 29, scope := fS 29, globals := 3, closure := [], defaults := .none, kwdefaults := .none, doc := .none, pyModule := .str ⟨#[108, 97, 119, 95, 114, 108, 48, 48, 51, 57, 95, 48, 49]⟩ 1930, annotations := none, code := .ref 125, closureTuple := .none, builtins := 0 }, slots := #[] }
noncomputable def o129 (P : Params) : Obj := { cls := .type "tuple", dict := none, data := .seq #[.str ⟨#[102, 105, 114, 115, 116]⟩ 1967, .str ⟨#[115, 101, 99, 111, 110, 100]⟩ 1968, .str ⟨#[112, 114, 105, 99, 101]⟩ 1969, .str ⟨#[107]⟩ 1970, .str ⟨#[108, 111, 119]⟩ 1971, .str ⟨#[104, 105, 103, 104]⟩ 1972] 0, slots := #[] }
noncomputable def o131 (P : Params) : Obj := { cls := .none, dict := none, data := .func { name := ⟨#[95, 108, 97, 119, 95, 112, 114, 105, 99, 101]⟩, qualname := ⟨#[95, 108, 97, 119, 95, 112, 114, 105, 99, 101]⟩, params := fP 30, body := fB 30, scope := fS 30, globals := 0, closure := [], defaults := .none, kwdefaults := .none, doc := .none, pyModule := .none, annotations := none, code := .none, closureTuple := .none, builtins := 0 }, slots := #[] }
noncomputable def o132 (P : Params) : Obj := { cls := .type "code", dict := none, data := .fields #[.str ⟨#[95, 108, 97, 119, 95, 112, 114, 105, 99, 101]⟩ 1964, .str ⟨#[95, 108, 97, 119, 95, 112, 114, 105, 99, 101]⟩ 1965, .str ⟨#[47, 99, 108, 97, 105, 109, 47, 99, 117, 116, 46, 112, 121]⟩ 1966, .int 111 0, .int 2 0, .int 0 0, .int 0 0, .int 3 0, .ref 127, .bool true, .int 276 0, .ref 128, .none, .ref 129, .ref 130, .ref 131, .int 1973 0, .int 111 0, .str ⟨#[47, 99, 108, 97, 105, 109, 47, 99, 117, 116, 46, 112, 121]⟩ 1974], slots := #[] }
noncomputable def o133 (P : Params) : Obj := { cls := .type "function", dict := none, data := .func { name := ⟨#[95, 108, 97, 119, 95, 112, 114, 105, 99, 101]⟩, qualname := ⟨#[95, 108, 97, 119, 95, 112, 114, 105, 99, 101]⟩, params := fP 30, body := fB 30, scope := fS 30, globals := 3, closure := [], defaults := .none, kwdefaults := .none, doc := .none, pyModule := .str ⟨#[108, 97, 119, 95, 114, 108, 48, 48, 51, 57, 95, 48, 49]⟩ 1930, annotations := none, code := .ref 132, closureTuple := .none, builtins := 0 }, slots := #[] }
noncomputable def o136 (P : Params) : Obj := { cls := .none, dict := none, data := .func { name := ⟨#[108, 97, 119]⟩, qualname := ⟨#[108, 97, 119]⟩, params := fP 31, body := fB 31, scope := fS 31, globals := 0, closure := [], defaults := .none, kwdefaults := .none, doc := .none, pyModule := .none, annotations := none, code := .none, closureTuple := .none, builtins := 0 }, slots := #[] }
noncomputable def o137 (P : Params) : Obj := { cls := .type "code", dict := none, data := .fields #[.str ⟨#[108, 97, 119]⟩ 1976, .str ⟨#[108, 97, 119]⟩ 1977, .str ⟨#[47, 99, 108, 97, 105, 109, 47, 99, 117, 116, 46, 112, 121]⟩ 1978, .int 121 0, .int 1 0, .int 0 0, .int 0 0, .int 3 0, .ref 134, .bool true, .int 276 0, .ref 135, .none, .none, .none, .ref 136, .int 1979 0, .int 121 0, .str ⟨#[47, 99, 108, 97, 105, 109, 47, 99, 117, 116, 46, 112, 121]⟩ 1980], slots := #[] }
noncomputable def o138 (P : Params) : Obj := { cls := .type "function", dict := none, data := .func { name := ⟨#[108, 97, 119]⟩, qualname := ⟨#[108, 97, 119]⟩, params := fP 31, body := fB 31, scope := fS 31, globals := 3, closure := [], defaults := .none, kwdefaults := .none, doc := .none, pyModule := .str ⟨#[108, 97, 119, 95, 114, 108, 48, 48, 51, 57, 95, 48, 49]⟩ 1930, annotations := none, code := .ref 137, closureTuple := .none, builtins := 0 }, slots := #[] }
noncomputable def H0 (P : Params) : Heap := ⟨#[o0 P, o1 P, o2 P, o3 P, o4 P, o5 P, o6 P, o7 P, o8 P, o9 P, o10 P, o11 P, o12 P, o13 P, o14 P, o7 P, o16 P, o17 P, o18 P, o19 P, o20 P, o21 P, o22 P, o23 P, o24 P, o25 P, o26 P, o27 P], {}⟩
noncomputable def Ha (P : Params) : Heap := ⟨#[o0 P, o1 P, o2 P, o3 P, o4 P, o5 P, o6 P, o7 P, o8 P, o9 P, o10 P, o11 P, o12 P, o13 P, o14 P, o7 P, o16 P, o17 P, o18 P, o19 P, o20 P, o21 P, o22 P, o23 P, o24 P, o25 P, o26 P, o27 P, o7 P, o8 P, o30 P, o31 P], {}⟩
noncomputable def SbT (P : Params) : BT := (N (o0 P) (N (o1 P) (N (o3 P) (N (o7 P) (N (o7 P) (N (o31 P) Z Z) Z) (N (o23 P) Z Z)) (N (o11 P) (N (o19 P) Z Z) (N (o27 P) Z Z))) (N (o5 P) (N (o9 P) (N (o17 P) Z Z) (N (o25 P) Z Z)) (N (o13 P) (N (o21 P) Z Z) (N (o8 P) Z Z)))) (N (o2 P) (N (o4 P) (N (o8 P) (N (o16 P) Z Z) (N (o24 P) Z Z)) (N (o12 P) (N (o20 P) Z Z) (N (o7 P) Z Z))) (N (o6 P) (N (o10 P) (N (o18 P) Z Z) (N (o26 P) Z Z)) (N (o14 P) (N (o22 P) Z Z) (N (o30 P) Z Z)))))
noncomputable def Sb (w : World) (os : OsState) : SharedT := ⟨SbT w.params, 32, {}, #[], {}, 282, os⟩
noncomputable def S1T (P : Params) : BT := (N (o0 P) (N (o1 P) (N (o3_1 P) (N (o7 P) (N (o7 P) (N (o31 P) Z Z) Z) (N (o23 P) Z Z)) (N (o11 P) (N (o19 P) (N (o35 P) Z Z) Z) (N (o27 P) Z Z))) (N (o5 P) (N (o9 P) (N (o17 P) (N (o6 P) Z Z) Z) (N (o25 P) Z Z)) (N (o13 P) (N (o21 P) Z Z) (N (o8 P) Z Z)))) (N (o2 P) (N (o4 P) (N (o8 P) (N (o16 P) (N (o32 P) Z Z) Z) (N (o24 P) Z Z)) (N (o12 P) (N (o20 P) (N (o36 P) Z Z) Z) (N (o7 P) Z Z))) (N (o6 P) (N (o10 P) (N (o18 P) (N (o34 P) Z Z) Z) (N (o26 P) Z Z)) (N (o14 P) (N (o22 P) Z Z) (N (o30 P) Z Z)))))
noncomputable def S1 (w : World) (os : OsState) : SharedT := ⟨S1T w.params, 37, {}, #[], {}, 317, os⟩
noncomputable def S2T (P : Params) : BT := (N (o0 P) (N (o1 P) (N (o3_2 P) (N (o7 P) (N (o7 P) (N (o31 P) Z Z) Z) (N (o23 P) (N (o39 P) Z Z) Z)) (N (o11 P) (N (o19 P) (N (o35 P) Z Z) Z) (N (o27 P) Z Z))) (N (o5 P) (N (o9 P) (N (o17 P) (N (o6 P) Z Z) Z) (N (o25 P) (N (o7 P) Z Z) Z)) (N (o13 P) (N (o21 P) (N (o37 P) Z Z) Z) (N (o8 P) Z Z)))) (N (o2 P) (N (o4 P) (N (o8 P) (N (o16 P) (N (o32 P) Z Z) Z) (N (o24 P) (N (o40 P) Z Z) Z)) (N (o12 P) (N (o20 P) (N (o36 P) Z Z) Z) (N (o7 P) Z Z))) (N (o6 P) (N (o10 P) (N (o18 P) (N (o34 P) Z Z) Z) (N (o26 P) (N (o42 P) Z Z) Z)) (N (o14 P) (N (o22 P) (N (o38 P) Z Z) Z) (N (o30 P) Z Z)))))
noncomputable def S2 (w : World) (os : OsState) : SharedT := ⟨S2T w.params, 43, {}, #[], {}, 1345, os⟩
noncomputable def S3T (P : Params) : BT := (N (o0 P) (N (o1 P) (N (o3_3 P) (N (o7 P) (N (o7 P) (N (o31 P) Z Z) Z) (N (o23 P) (N (o39 P) Z Z) Z)) (N (o11 P) (N (o19 P) (N (o35 P) Z Z) Z) (N (o27 P) (N (o43 P) Z Z) Z))) (N (o5 P) (N (o9 P) (N (o17 P) (N (o6 P) Z Z) Z) (N (o25 P) (N (o7 P) Z Z) Z)) (N (o13 P) (N (o21 P) (N (o37 P) Z Z) Z) (N (o8 P) (N (o43 P) Z Z) Z)))) (N (o2 P) (N (o4 P) (N (o8 P) (N (o16 P) (N (o32 P) Z Z) Z) (N (o24 P) (N (o40 P) Z Z) Z)) (N (o12 P) (N (o20 P) (N (o36 P) Z Z) Z) (N (o7 P) (N (o44 P) Z Z) Z))) (N (o6 P) (N (o10 P) (N (o18 P) (N (o34 P) Z Z) Z) (N (o26 P) (N (o42 P) Z Z) Z)) (N (o14 P) (N (o22 P) (N (o38 P) Z Z) Z) (N (o30 P) (N (o46 P) Z Z) Z)))))
noncomputable def S3 (w : World) (os : OsState) : SharedT := ⟨S3T w.params, 47, {}, #[], {}, 1357, os⟩
noncomputable def S4T (P : Params) : BT := (N (o0 P) (N (o1 P) (N (o3_4 P) (N (o7 P) (N (o7 P) (N (o31 P) Z Z) (N (o47 P) Z Z)) (N (o23 P) (N (o39 P) Z Z) Z)) (N (o11 P) (N (o19 P) (N (o35 P) Z Z) Z) (N (o27 P) (N (o43 P) Z Z) Z))) (N (o5 P) (N (o9 P) (N (o17 P) (N (o6 P) Z Z) (N (o49 P) Z Z)) (N (o25 P) (N (o7 P) Z Z) Z)) (N (o13 P) (N (o21 P) (N (o37 P) Z Z) Z) (N (o8 P) (N (o43 P) Z Z) Z)))) (N (o2 P) (N (o4 P) (N (o8 P) (N (o16 P) (N (o32 P) Z Z) (N (o7 P) Z Z)) (N (o24 P) (N (o40 P) Z Z) Z)) (N (o12 P) (N (o20 P) (N (o36 P) Z Z) Z) (N (o7 P) (N (o44_1 P) Z Z) Z))) (N (o6 P) (N (o10 P) (N (o18 P) (N (o34 P) Z Z) Z) (N (o26 P) (N (o42 P) Z Z) Z)) (N (o14 P) (N (o22 P) (N (o38 P) Z Z) Z) (N (o30 P) (N (o46 P) Z Z) Z)))))
noncomputable def S4 (w : World) (os : OsState) : SharedT := ⟨S4T w.params, 50, {}, #[], {}, 1565, os⟩
noncomputable def S5T (P : Params) : BT := (N (o0 P) (N (o1 P) (N (o3_5 P) (N (o7 P) (N (o7 P) (N (o31 P) Z Z) (N (o47 P) Z Z)) (N (o23 P) (N (o39 P) Z Z) Z)) (N (o11 P) (N (o19 P) (N (o35 P) Z Z) (N (o7 P) Z Z)) (N (o27 P) (N (o43 P) Z Z) Z))) (N (o5 P) (N (o9 P) (N (o17 P) (N (o6 P) Z Z) (N (o49 P) Z Z)) (N (o25 P) (N (o7 P) Z Z) Z)) (N (o13 P) (N (o21 P) (N (o37 P) Z Z) Z) (N (o8 P) (N (o43 P) Z Z) Z)))) (N (o2 P) (N (o4 P) (N (o8 P) (N (o16 P) (N (o32 P) Z Z) (N (o7 P) Z Z)) (N (o24 P) (N (o40 P) Z Z) Z)) (N (o12 P) (N (o20 P) (N (o36 P) Z Z) (N (o52 P) Z Z)) (N (o7 P) (N (o44_2 P) Z Z) Z))) (N (o6 P) (N (o10 P) (N (o18 P) (N (o34 P) Z Z) (N (o50 P) Z Z)) (N (o26 P) (N (o42 P) Z Z) Z)) (N (o14 P) (N (o22 P) (N (o38 P) Z Z) Z) (N (o30 P) (N (o46_1 P) Z Z) Z)))))
noncomputable def S5 (w : World) (os : OsState) : SharedT := ⟨S5T w.params, 53, {}, #[], {}, 1854, os⟩
noncomputable def S6T (P : Params) : BT := (N (o0 P) (N (o1 P) (N (o3_6 P) (N (o7 P) (N (o7 P) (N (o31 P) (N (o63 P) (N (o7 P) Z Z) Z) (N (o8 P) Z Z)) (N (o47 P) (N (o79 P) Z Z) (N (o7 P) Z Z))) (N (o23 P) (N (o39 P) (N (o7 P) (N (o8 P) Z Z) Z) (N (o103 P) Z Z)) (N (o55 P) (N (o7 P) Z Z) (N (o119 P) Z Z)))) (N (o11 P) (N (o19 P) (N (o35 P) (N (o67 P) (N (o131 P) Z Z) Z) (N (o99 P) Z Z)) (N (o7 P) (N (o7 P) Z Z) (N (o7 P) Z Z))) (N (o27 P) (N (o43 P) (N (o75 P) Z Z) (N (o107 P) Z Z)) (N (o59 P) (N (o91 P) Z Z) (N (o8 P) Z Z))))) (N (o5 P) (N (o9 P) (N (o17 P) (N (o6 P) (N (o65 P) (N (o129 P) Z Z) Z) (N (o7 P) Z Z)) (N (o49 P) (N (o8 P) Z Z) (N (o113 P) Z Z))) (N (o25 P) (N (o7 P) (N (o7 P) (N (o137 P) Z Z) Z) (N (o105 P) Z Z)) (N (o57 P) (N (o89 P) Z Z) (N (o121 P) Z Z)))) (N (o13 P) (N (o21 P) (N (o37 P) (N (o69 P) (N (o133 P) Z Z) Z) (N (o7 P) Z Z)) (N (o7 P) (N (o85 P) Z Z) (N (o117 P) Z Z))) (N (o29 P) (N (o43 P) (N (o77 P) Z Z) (N (o8 P) Z Z)) (N (o7 P) (N (o93 P) Z Z) (N (o125 P) Z Z)))))) (N (o2 P) (N (o4 P) (N (o8 P) (N (o16 P) (N (o32 P) (N (o7 P) (N (o8 P) Z Z) Z) (N (o96 P) Z Z)) (N (o7 P) (N (o7 P) Z Z) (N (o112 P) Z Z))) (N (o24 P) (N (o40 P) (N (o72 P) (N (o136 P) Z Z) Z) (N (o7 P) Z Z)) (N (o7 P) (N (o8 P) Z Z) (N (o120 P) Z Z)))) (N (o12 P) (N (o20 P) (N (o36 P) (N (o43 P) (N (o132 P) Z Z) Z) (N (o100 P) Z Z)) (N (o52 P) (N (o84 P) Z Z) (N (o8 P) Z Z))) (N (o7 P) (N (o44_2 P) (N (o7 P) Z Z) (N (o7 P) Z Z)) (N (o60 P) (N (o92 P) Z Z) (N (o124 P) Z Z))))) (N (o6 P) (N (o10 P) (N (o18 P) (N (o34 P) (N (o66 P) (N (o7 P) Z Z) Z) (N (o98 P) Z Z)) (N (o50 P) (N (o82 P) Z Z) (N (o114 P) Z Z))) (N (o26 P) (N (o42 P) (N (o8 P) (N (o138 P) Z Z) Z) (N (o106 P) Z Z)) (N (o58 P) (N (o7 P) Z Z) (N (o7 P) Z Z)))) (N (o14 P) (N (o22 P) (N (o38 P) (N (o70 P) (N (o7 P) Z Z) Z) (N (o8 P) Z Z)) (N (o8 P) (N (o86 P) Z Z) (N (o7 P) Z Z))) (N (o30 P) (N (o46_1 P) (N (o78 P) Z Z) (N (o110 P) Z Z)) (N (o8 P) (N (o7 P) Z Z) (N (o126 P) Z Z)))))))
noncomputable def S6 (w : World) (os : OsState) : SharedT := ⟨S6T w.params, 139, {}, #[], {}, 1982, os⟩
noncomputable def Hf (P : Params) : Heap := ⟨#[o0 P, o1 P, o2 P, o3_6 P, o4 P, o5 P, o6 P, o7 P, o8 P, o9 P, o10 P, o11 P, o12 P, o13 P, o14 P, o7 P, o16 P, o17 P, o18 P, o19 P, o20 P, o21 P, o22 P, o23 P, o24 P, o25 P, o26 P, o27 P, o7 P, o29 P, o30 P, o31 P, o32 P, o6 P, o34 P, o35 P, o36 P, o37 P, o38 P, o39 P, o40 P, o7 P, o42 P, o43 P, o44_2 P, o43 P, o46_1 P, o47 P, o7 P, o49 P, o50 P, o7 P, o52 P, o7 P, o8 P, o55 P, o7 P, o57 P, o58 P, o59 P, o60 P, o7 P, o8 P, o63 P, o7 P, o65 P, o66 P, o67 P, o43 P, o69 P, o70 P, o7 P, o72 P, o7 P, o8 P, o75 P, o7 P, o77 P, o78 P, o79 P, o7 P, o8 P, o82 P, o7 P, o84 P, o85 P, o86 P, o7 P, o8 P, o89 P, o7 P, o91 P, o92 P, o93 P, o7 P, o8 P, o96 P, o7 P, o98 P, o99 P, o100 P, o7 P, o8 P, o103 P, o7 P, o105 P, o106 P, o107 P, o7 P, o8 P, o110 P, o7 P, o112 P, o113 P, o114 P, o7 P, o8 P, o117 P, o7 P, o119 P, o120 P, o121 P, o7 P, o8 P, o124 P, o125 P, o126 P, o7 P, o8 P, o129 P, o7 P, o131 P, o132 P, o133 P, o7 P, o8 P, o136 P, o137 P, o138 P], {}⟩
noncomputable def env : Env := { scope := pg.main.scope, locals := mainNs, globals := mainNs, cells := [], code := .ref 30, frame := some 31 }
noncomputable abbrev cE : Code := Code.body (behindTheImports pg) env
noncomputable abbrev p0 : Pos := ⟨0, 0, 0, 0⟩
noncomputable abbrev B0 : List Frame := [topFrame p0]
noncomputable abbrev ann : Option Value := some (.ref 6)
noncomputable def cut (a n : Nat) : List Stmt := (bE.drop a).take n
end Mine
end
end
section
open PySem PySem.W PyProof.Rows
set_option Elab.async false
set_option maxRecDepth 100000
set_option maxHeartbeats 0
noncomputable section
namespace Mine
noncomputable def Lpre (w : World) (os : OsState) := topGo treeTable pg w 28 ann 12 ⟨H0 w.params, #[], {}, 276, os⟩ (topStub pg)
noncomputable def Rpre (w : World) (os : OsState) : Option (Shared × Thread) := some (⟨Ha w.params, #[], {}, 282, os⟩, ⟨denote treeTable cE, cE, p0, B0⟩)
theorem rLpre : Lpre = Lpre := rfl
theorem rRpre : Rpre = Rpre := rfl
name_quick lpre for Lpre by rLpre
name_quick rpre for Rpre by rRpre
theorem kpre : Fast.lpre = Fast.rpre := by kernel_rfl
theorem tpre : Lpre = Rpre := Fast.lpre_eq.trans (kpre.trans Fast.rpre_eq.symm)
noncomputable def Lblk (w : World) (os : OsState) := segRun treeTable pg w 28 ann 1 1 ⟨Ha w.params, #[], {}, 282, os⟩ (blockOf (behindTheImports pg) env cE p0 B0)
noncomputable def Rblk (w : World) (os : OsState) : Option (Flow × Shared × Code × Pos) := some (.next, (Sb w os).abs, cE, p0)
theorem rLblk : Lblk = Lblk := rfl
name_quick lblk for Lblk by rLblk
theorem kblk : Fast.lblk = Rblk := by kernel_rfl
theorem tblk : Lblk = Rblk := Fast.lblk_eq.trans kblk
noncomputable def L1 (w : World) (os : OsState) := segRunT treeTable pg w 28 ann 1 79 (Sb w os) (piecesOf (cut 0 1) env cE p0 B0)
noncomputable def R1 (w : World) (os : OsState) : Option (Flow × SharedT × Code × Pos) := some (.next, S1 w os, cE, ⟨2, 0, 2, 10⟩)
theorem rL1 : L1 = L1 := rfl
name_quick l1 for L1 by rL1
theorem k1 : Fast.l1 = R1 := by kernel_rfl
theorem t1 : L1 = R1 := Fast.l1_eq.trans k1

/-! the comprehension -/
noncomputable def th2 : Thread := piecesOf (cut 1 1) env cE ⟨2, 0, 2, 10⟩ B0
noncomputable def w2 (w : World) : World := (w.withFollow "special-get-raises" false).withFollow "comprehension-iter-twice" true
/-- the loop's head: the thread -/
noncomputable def thr (w : World) (os : OsState) : Thread := match segGoT treeTable pg (w2 w) 28 ann 1 79 (S1 w os) th2 with | some x => x.2 | none => th2
/-- the loop's head: the state behind i turns -/
noncomputable def CT (P : Params) (i : Nat) : BT :=
  ((((S1T P).ins 37 { cls := .type "range", data := .fields #[.int 0 318, .int 256 317, .int 1 319] }).ins 38 { cls := .type "range_iterator", data := .fields #[.int i 0, .int (256 - i : Nat) 0, .int 1 0] }).ins 39 { cls := .type "list", data := .seq (qs i 0).toArray i }).ins 40 { cls := .type "dict", data := .dict #[E P #[99] 321 (.int (i - 1 : Nat) (320 + 4 * (i - 1)))] 1 }
noncomputable def Cst (w : World) (os : OsState) (i : Nat) : SharedT := ⟨CT w.params i, 41, {}, #[], {}, 320 + 4 * i, os⟩
noncomputable def Lcs (n : Nat) (w : World) (os : OsState) := segGoT treeTable pg w 28 ann 1 n (S1 w os) th2
noncomputable def Rcs (w : World) (os : OsState) : Option (SharedT × Thread) := some (Cst w os 1, thr w os)
theorem rLcs : Lcs = Lcs := rfl
theorem rRcs : Rcs = Rcs := rfl
name_quick lcs for Lcs by rLcs
name_quick rcs for Rcs by rRcs
theorem kcs00 (w : World) : Fast.lcs 89 ((w.withFollow "special-get-raises" false).withFollow "comprehension-iter-twice" false) = Fast.rcs ((w.withFollow "special-get-raises" false).withFollow "comprehension-iter-twice" false) := by kernel_rfl
theorem kcs10 (w : World) : Fast.lcs 89 ((w.withFollow "special-get-raises" true).withFollow "comprehension-iter-twice" false) = Fast.rcs ((w.withFollow "special-get-raises" true).withFollow "comprehension-iter-twice" false) := by kernel_rfl
theorem kcs01 (w : World) : Fast.lcs 79 ((w.withFollow "special-get-raises" false).withFollow "comprehension-iter-twice" true) = Fast.rcs ((w.withFollow "special-get-raises" false).withFollow "comprehension-iter-twice" true) := by kernel_rfl
theorem kcs11 (w : World) : Fast.lcs 79 ((w.withFollow "special-get-raises" true).withFollow "comprehension-iter-twice" true) = Fast.rcs ((w.withFollow "special-get-raises" true).withFollow "comprehension-iter-twice" true) := by kernel_rfl
noncomputable def Lct (i k : Nat) (w : World) (os : OsState) := segGoT treeTable pg w 28 ann 1 (37 * k) (Cst w os i) (thr w os)
noncomputable def Rct (i : Nat) (w : World) (os : OsState) : Option (SharedT × Thread) := some (Cst w os i, thr w os)
theorem rLct : Lct = Lct := rfl
theorem rRct : Rct = Rct := rfl
name_quick lct for Lct by rLct
name_quick rct for Rct by rRct
end Mine
end
end
section
open PySem PySem.W PyProof.Rows
set_option Elab.async false
set_option maxRecDepth 100000
set_option maxHeartbeats 0
noncomputable section
namespace Mine
theorem kct1a : Fast.lct 1 64 = Fast.rct 65 := by kernel_rfl
noncomputable def Lce (w : World) (os : OsState) := segRunT treeTable pg w 28 ann 1 2359 (Cst w os 193) (thr w os)
noncomputable def Rce (w : World) (os : OsState) : Option (Flow × SharedT × Code × Pos) := some (.next, S2 w os, cE, ⟨3, 0, 3, 11⟩)
theorem rLce : Lce = Lce := rfl
name_quick lce for Lce by rLce
theorem kce : Fast.lce = Rce := by kernel_rfl
noncomputable def L3 (w : World) (os : OsState) := segRunT treeTable pg w 28 ann 1 109 (S2 w os) (piecesOf (cut 2 7) env cE ⟨3, 0, 3, 11⟩ B0)
noncomputable def R3 (w : World) (os : OsState) : Option (Flow × SharedT × Code × Pos) := some (.next, S3 w os, cE, ⟨10, 0, 10, 8⟩)
theorem rL3 : L3 = L3 := rfl
name_quick l3 for L3 by rL3
theorem k3 : Fast.l3 = R3 := by kernel_rfl
noncomputable def th4 : Thread := piecesOf (cut 9 1) env cE ⟨10, 0, 10, 8⟩ B0
noncomputable def G4 (w : World) (os : OsState) := segGoT treeTable pg w 28 ann 1 200 (S3 w os) th4
noncomputable def M4 (w : World) (os : OsState) : SharedT × Thread := match G4 (w.withFollow "special-get-raises" false) os with | some x => x | none => (S3 w os, th4)
noncomputable def RG4 (w : World) (os : OsState) : Option (SharedT × Thread) := some (M4 w os)
theorem rG4 : G4 = G4 := rfl
theorem rRG4 : RG4 = RG4 := rfl
name_quick g4 for G4 by rG4
name_quick rg4 for RG4 by rRG4
theorem k4f (w : World) : Fast.g4 (w.withFollow "special-get-raises" false) = Fast.rg4 (w.withFollow "special-get-raises" false) := by kernel_rfl
theorem k4t (w : World) : Fast.g4 (w.withFollow "special-get-raises" true) = Fast.rg4 (w.withFollow "special-get-raises" true) := by kernel_rfl
noncomputable def L4 (w : World) (os : OsState) := segRunT treeTable pg w 28 ann 1 2877 (M4 w os).1 (M4 w os).2
noncomputable def R4 (w : World) (os : OsState) : Option (Flow × SharedT × Code × Pos) := some (.next, S4 w os, cE, ⟨11, 9, 11, 74⟩)
theorem rL4 : L4 = L4 := rfl
name_quick l4 for L4 by rL4
theorem k4 : Fast.l4 = R4 := by kernel_rfl
noncomputable def th5 : Thread := piecesOf (cut 10 2) env cE ⟨11, 9, 11, 74⟩ B0
noncomputable def G5 (w : World) (os : OsState) := segGoT treeTable pg w 28 ann 1 200 (S4 w os) th5
noncomputable def M5 (w : World) (os : OsState) : SharedT × Thread := match G5 (w.withFollow "special-get-raises" false) os with | some x => x | none => (S4 w os, th5)
noncomputable def RG5 (w : World) (os : OsState) : Option (SharedT × Thread) := some (M5 w os)
theorem rG5 : G5 = G5 := rfl
theorem rRG5 : RG5 = RG5 := rfl
name_quick g5 for G5 by rG5
name_quick rg5 for RG5 by rRG5
theorem k5f (w : World) : Fast.g5 (w.withFollow "special-get-raises" false) = Fast.rg5 (w.withFollow "special-get-raises" false) := by kernel_rfl
theorem k5t (w : World) : Fast.g5 (w.withFollow "special-get-raises" true) = Fast.rg5 (w.withFollow "special-get-raises" true) := by kernel_rfl
noncomputable def L5 (w : World) (os : OsState) := segRunT treeTable pg w 28 ann 1 4127 (M5 w os).1 (M5 w os).2
noncomputable def R5 (w : World) (os : OsState) : Option (Flow × SharedT × Code × Pos) := some (.next, S5 w os, cE, ⟨14, 9, 14, 110⟩)
theorem rL5 : L5 = L5 := rfl
name_quick l5 for L5 by rL5
theorem k5 : Fast.l5 = R5 := by kernel_rfl
noncomputable def th6 : Thread := piecesOf (cut 12 20) env cE ⟨14, 9, 14, 110⟩ B0
noncomputable def G6 (w : World) (os : OsState) := segGoT treeTable pg w 28 ann 1 200 (S5 w os) th6
noncomputable def M6 (w : World) (os : OsState) : SharedT × Thread := match G6 (w.withFollow "special-get-raises" false) os with | some x => x | none => (S5 w os, th6)
noncomputable def RG6 (w : World) (os : OsState) : Option (SharedT × Thread) := some (M6 w os)
theorem rG6 : G6 = G6 := rfl
theorem rRG6 : RG6 = RG6 := rfl
name_quick g6 for G6 by rG6
name_quick rg6 for RG6 by rRG6
theorem k6f (w : World) : Fast.g6 (w.withFollow "special-get-raises" false) = Fast.rg6 (w.withFollow "special-get-raises" false) := by kernel_rfl
theorem k6t (w : World) : Fast.g6 (w.withFollow "special-get-raises" true) = Fast.rg6 (w.withFollow "special-get-raises" true) := by kernel_rfl
noncomputable def L6 (w : World) (os : OsState) := segRunT treeTable pg w 28 ann 1 500 (M6 w os).1 (M6 w os).2
noncomputable def R6 (w : World) (os : OsState) : Option (Flow × SharedT × Code × Pos) := some (.next, S6 w os, cE, ⟨121, 0, 133, 99⟩)
theorem rL6 : L6 = L6 := rfl
name_quick l6 for L6 by rL6
theorem k6 : Fast.l6 = R6 := by kernel_rfl
end Mine
end
end
section
open PySem PySem.W PyProof.Rows
set_option Elab.async false
set_option maxRecDepth 100000
set_option maxHeartbeats 0
noncomputable section
namespace Mine
noncomputable def Lop (w : World) := (fencedOpening treeTable pg w 35536).map (fun s => (s.heap, s.gens, s.drawn, s.toks))
noncomputable def Rop (w : World) : Option (Heap × Array GenState × Drawn × Nat) := some (H0 w.params, #[], {}, 276)
theorem rLop : Lop = Lop := rfl
name_quick lop for Lop by rLop
theorem kop : Fast.lop = Rop := by kernel_rfl
noncomputable def Lsz (w : World) := ((H0 w.params).isNs mainGlobals && (#[] : Array GenState).size == 0, (H0 w.params).objs.size, (H0 w.params).nsMap mainGlobals "__annotations__")
theorem rLsz : Lsz = Lsz := rfl
name_quick lsz for Lsz by rLsz
theorem ksz : Fast.lsz = fun _ => (true, 28, ann) := by kernel_rfl
noncomputable def Lfin (w : World) (os : OsState) := topRun treeTable pg w 28 ann 2 (S6 w os).abs ⟨doneF .next, cE, ⟨121, 0, 133, 99⟩, B0⟩
noncomputable def Rfin (w : World) (os : OsState) : Option Shared := some ⟨Hf w.params, #[], {}, 1982, os⟩
theorem rLfin : Lfin = Lfin := rfl
name_quick lfin for Lfin by rLfin
theorem kfin : Fast.lfin = Rfin := by kernel_rfl
end Mine
end
end
section
open PySem PySem.W PyProof.Rows
set_option Elab.async false
set_option maxRecDepth 100000
set_option maxHeartbeats 0
noncomputable section
namespace Mine
theorem kct2a : Fast.lct 65 64 = Fast.rct 129 := by kernel_rfl
theorem kct3a : Fast.lct 129 64 = Fast.rct 193 := by kernel_rfl
theorem segRun_mono {tb : String → Option Builtin} {p : Program} {w : World} {n₀ : Nat} {ann : Option Value} {b : Nat} (k : Nat) : ∀ (n : Nat) (s : Shared) (t : Thread) (r : Flow × Shared × Code × Pos), segRun tb p w n₀ ann b n s t = some r → segRun tb p w n₀ ann b (n + k) s t = some r
  | 0, _, _, _, h => by simp [segRun] at h
  | n + 1, s, t, r, h => by
    rw [show n + 1 + k = n + k + 1 by omega]
    unfold segRun at h ⊢
    cases he : endAt b t with
    | some f => rw [he] at h; exact h
    | none =>
      rw [he] at h
      cases hk : stepOk n₀ ann t with
      | false => rw [hk] at h; cases h
      | true =>
        rw [hk] at h
        cases hs : step (denote tb) p w s t with
        | halt o s' => rw [hs] at h; cases h
        | go s' t' => rw [hs] at h; exact segRun_mono k n s' t' r h
theorem hcs (n : Nat) (w : World) (os : OsState) (k : Fast.lcs n w = Fast.rcs w) : segGoT treeTable pg w 28 ann 1 n (S1 w os) th2 = some (Cst w os 1, thr w os) :=
  (congrFun (congrFun (congrFun Fast.lcs_eq n) w) os).trans ((congrFun k os).trans (congrFun (congrFun Fast.rcs_eq w) os).symm)
theorem hct (i k j : Nat) (w : World) (os : OsState) (h : Fast.lct i k = Fast.rct j) : segGoT treeTable pg w 28 ann 1 (37 * k) (Cst w os i) (thr w os) = some (Cst w os j, thr w os) :=
  (congrFun (congrFun (congrFun (congrFun Fast.lct_eq i) k) w) os).trans ((congrFun (congrFun h w) os).trans (congrFun (congrFun (congrFun Fast.rct_eq j) w) os).symm)
theorem hce (w : World) (os : OsState) : segRunT treeTable pg w 28 ann 1 2359 (Cst w os 193) (thr w os) = some (.next, S2 w os, cE, ⟨3, 0, 3, 11⟩) :=
  (congrFun (congrFun Fast.lce_eq w) os).trans (congrFun (congrFun kce w) os)
theorem hcomp (n : Nat) (w : World) (os : OsState) (k : Fast.lcs n w = Fast.rcs w) : segRun treeTable pg w 28 ann 1 (n + (37 * 64 + (37 * 64 + (37 * 64 + 2359)))) (S1 w os).abs th2 = some (.next, (S2 w os).abs, cE, ⟨3, 0, 3, 11⟩) :=
  seg_go (segGo_of (hcs n w os k)) (seg_go (segGo_of (hct 1 64 65 w os kct1a)) (seg_go (segGo_of (hct 65 64 129 w os kct2a)) (seg_go (segGo_of (hct 129 64 193 w os kct3a)) (segRun_of (hce w os)))))
theorem hcompF (w : World) (os : OsState) (k : Fast.lcs 89 w = Fast.rcs w) : segRun treeTable pg w 28 ann 1 9552 (S1 w os).abs th2 = some (.next, (S2 w os).abs, cE, ⟨3, 0, 3, 11⟩) := hcomp 89 w os k
theorem hcompT (w : World) (os : OsState) (k : Fast.lcs 79 w = Fast.rcs w) : segRun treeTable pg w 28 ann 1 9552 (S1 w os).abs th2 = some (.next, (S2 w os).abs, cE, ⟨3, 0, 3, 11⟩) := segRun_mono 10 9542 _ _ _ (hcomp 79 w os k)
theorem t2 (w : World) : (fun os => segRun treeTable pg w 28 ann 1 9552 (S1 w os).abs th2) = fun os => some (.next, (S2 w os).abs, cE, ⟨3, 0, 3, 11⟩) :=
  byRow2 "comprehension-iter-twice" (P := fun w => (fun os => segRun treeTable pg w 28 ann 1 9552 (S1 w os).abs th2) = fun os => some (.next, (S2 w os).abs, cE, ⟨3, 0, 3, 11⟩))
    (byRow2 "special-get-raises" (P := fun w => (fun os => segRun treeTable pg (w.withFollow "comprehension-iter-twice" false) 28 ann 1 9552 (S1 (w.withFollow "comprehension-iter-twice" false) os).abs th2) = fun os => some (.next, (S2 (w.withFollow "comprehension-iter-twice" false) os).abs, cE, ⟨3, 0, 3, 11⟩))
      (fun w => funext fun os => hcompF _ os (kcs00 w)) (fun w => funext fun os => hcompF _ os (kcs10 w)))
    (byRow2 "special-get-raises" (P := fun w => (fun os => segRun treeTable pg (w.withFollow "comprehension-iter-twice" true) 28 ann 1 9552 (S1 (w.withFollow "comprehension-iter-twice" true) os).abs th2) = fun os => some (.next, (S2 (w.withFollow "comprehension-iter-twice" true) os).abs, cE, ⟨3, 0, 3, 11⟩))
      (fun w => funext fun os => hcompT _ os (kcs01 w)) (fun w => funext fun os => hcompT _ os (kcs11 w))) w
theorem t3 (w : World) (os : OsState) : L3 w os = R3 w os := (congrFun (congrFun Fast.l3_eq w) os).trans (congrFun (congrFun k3 w) os)
theorem eta_some {α β : Type} {o : Option (α × β)} {x : α × β} (h : o = some x) : o = some (x.1, x.2) := h
theorem g4 (w : World) : G4 w = RG4 w := byRow2 "special-get-raises" (P := fun w => G4 w = RG4 w) (fun w => (congrFun Fast.g4_eq _).trans ((k4f w).trans (congrFun Fast.rg4_eq _).symm)) (fun w => (congrFun Fast.g4_eq _).trans ((k4t w).trans (congrFun Fast.rg4_eq _).symm)) w
theorem h4 (w : World) (os : OsState) : segGoT treeTable pg w 28 ann 1 200 (S3 w os) th4 = some ((M4 w os).1, (M4 w os).2) := eta_some (x := M4 w os) (congrFun (g4 w) os)
theorem t4 (w : World) (os : OsState) : segRunT treeTable pg w 28 ann 1 2877 (M4 w os).1 (M4 w os).2 = some (.next, S4 w os, cE, ⟨11, 9, 11, 74⟩) := (congrFun (congrFun Fast.l4_eq w) os).trans (congrFun (congrFun k4 w) os)
theorem u4 (w : World) (os : OsState) : segRun treeTable pg w 28 ann 1 (200 + 2877) (S3 w os).abs th4 = some (.next, (S4 w os).abs, cE, ⟨11, 9, 11, 74⟩) := seg_go (segGo_of (h4 w os)) (segRun_of (t4 w os))
theorem g5 (w : World) : G5 w = RG5 w := byRow2 "special-get-raises" (P := fun w => G5 w = RG5 w) (fun w => (congrFun Fast.g5_eq _).trans ((k5f w).trans (congrFun Fast.rg5_eq _).symm)) (fun w => (congrFun Fast.g5_eq _).trans ((k5t w).trans (congrFun Fast.rg5_eq _).symm)) w
theorem h5 (w : World) (os : OsState) : segGoT treeTable pg w 28 ann 1 200 (S4 w os) th5 = some ((M5 w os).1, (M5 w os).2) := eta_some (x := M5 w os) (congrFun (g5 w) os)
theorem t5 (w : World) (os : OsState) : segRunT treeTable pg w 28 ann 1 4127 (M5 w os).1 (M5 w os).2 = some (.next, S5 w os, cE, ⟨14, 9, 14, 110⟩) := (congrFun (congrFun Fast.l5_eq w) os).trans (congrFun (congrFun k5 w) os)
theorem u5 (w : World) (os : OsState) : segRun treeTable pg w 28 ann 1 (200 + 4127) (S4 w os).abs th5 = some (.next, (S5 w os).abs, cE, ⟨14, 9, 14, 110⟩) := seg_go (segGo_of (h5 w os)) (segRun_of (t5 w os))
theorem g6 (w : World) : G6 w = RG6 w := byRow2 "special-get-raises" (P := fun w => G6 w = RG6 w) (fun w => (congrFun Fast.g6_eq _).trans ((k6f w).trans (congrFun Fast.rg6_eq _).symm)) (fun w => (congrFun Fast.g6_eq _).trans ((k6t w).trans (congrFun Fast.rg6_eq _).symm)) w
theorem h6 (w : World) (os : OsState) : segGoT treeTable pg w 28 ann 1 200 (S5 w os) th6 = some ((M6 w os).1, (M6 w os).2) := eta_some (x := M6 w os) (congrFun (g6 w) os)
theorem t6 (w : World) (os : OsState) : segRunT treeTable pg w 28 ann 1 500 (M6 w os).1 (M6 w os).2 = some (.next, S6 w os, cE, ⟨121, 0, 133, 99⟩) := (congrFun (congrFun Fast.l6_eq w) os).trans (congrFun (congrFun k6 w) os)
theorem u6 (w : World) (os : OsState) : segRun treeTable pg w 28 ann 1 (200 + 500) (S5 w os).abs th6 = some (.next, (S6 w os).abs, cE, ⟨121, 0, 133, 99⟩) := seg_go (segGo_of (h6 w os)) (segRun_of (t6 w os))
theorem body_split : behindTheImports pg = cut 0 1 ++ (cut 1 1 ++ (cut 2 7 ++ (cut 9 1 ++ (cut 10 2 ++ (cut 12 20 ++ []))))) := by kernel_rfl
theorem run_rest (w : World) (os : OsState) : topRun treeTable pg w 28 ann (79 + (9552 + (109 + (3077 + (4327 + (700 + 2)))))) (Sb w os).abs (restOf (behindTheImports pg) env cE p0 B0) = some ⟨Hf w.params, #[], {}, 1982, os⟩ := by
  rw [body_split]
  exact piece_app (segRun_of (congrFun (congrFun t1 w) os)) (piece_app (congrFun (t2 w) os) (piece_app (segRun_of (t3 w os)) (piece_app (u4 w os) (piece_app (u5 w os) (piece_app (u6 w os) (piece_nil ((congrFun (congrFun Fast.lfin_eq w) os).trans (congrFun (congrFun kfin w) os))))))))
theorem run (w : World) (os : OsState) : topRun treeTable pg w 28 ann (12 + (1 + (79 + (9552 + (109 + (3077 + (4327 + (700 + 2)))))))) ⟨H0 w.params, #[], {}, 276, os⟩ (topStub pg) = some ⟨Hf w.params, #[], {}, 1982, os⟩ :=
  go_top (congrFun (congrFun tpre w) os) (piece_block (congrFun (congrFun tblk w) os) (run_rest w os))
end Mine
end
end
section
open PySem PySem.W PyProof.Rows
set_option Elab.async false
set_option maxRecDepth 100000
set_option maxHeartbeats 0
noncomputable section
namespace Mine
noncomputable def keepL : List Stmt := [0, 1, 2, 3, 4, 5, 6, 7, 8, 13, 15, 18, 19, 21, 22, 23, 24, 25, 27, 28, 29, 30, 31, 32].filterMap fun i => pg.main.body[i]?
noncomputable def view : Program := { pg with main := { pg.main with body := keepL } }
noncomputable def loose : List Str := [Str.ofString "_twin_re_1", Str.ofString "_QUOPRI_MAP", Str.ofString "_QUOPRI_HEADER_MAP", Str.ofString "_QUOPRI_BODY_MAP", Str.ofString "ascii_letters", Str.ofString "header_encode", Str.ofString "_QUOPRI_BODY_ENCODE_MAP"]
noncomputable abbrev Xt : Shared → Bool := fun s => xlAt view [] s && recOk (RowW.records PySem.Challenge.rw_rl0039_01.row.toRowW) s
noncomputable abbrev Fin6 (w : World) (os : OsState) : Shared := ⟨Hf w.params, #[], {}, 1982, os⟩
noncomputable def LA (w : World) (os : OsState) : Bool := staticsOk (importedModules pg.main.body) (H0 w.params) (Hf w.params) && namesBound pg (Hf w.params) && gensDone (Fin6 w os) && laidKept (H0 w.params) (Hf w.params)
theorem rLA : LA = LA := rfl
name_quick la for LA by rLA
theorem kA : Fast.la = fun _ _ => true := by kernel_rfl
noncomputable def LB (w : World) (os : OsState) := openSeen view loose (importedModules pg.main.body) Xt true (Fin6 w os)
noncomputable def RB := openGood view loose
theorem rLB : LB = LB := rfl
theorem rRB : RB = RB := rfl
name_quick lb for LB by rLB
name_quick rb for RB by rRB
theorem kB : Fast.lb = fun _ _ => Fast.rb := by kernel_rfl
end Mine
end
end
section
open PySem PySem.W PyProof.Rows
set_option Elab.async false
set_option maxRecDepth 100000
set_option maxHeartbeats 0
noncomputable section
namespace Mine
theorem left {α : Type} (Yf : Shared → α) (Ya : World → α) (h : ∀ w os, Yf (Fin6 w os) = Ya w) : LeftO pg view loose Xt Yf Ya 35536 :=
  LeftO.of_pieces (H₀ := H0) (H₁ := Hf) (gs₀ := #[]) (gs₁ := #[]) (d₀ := {}) (d₁ := {}) (k₀ := 276) (k₁ := 1982) (m₀ := 28) (ann := ann)
    (fun w => (congrFun Fast.lop_eq w).trans (congrFun kop w))
    (fun w => (congrFun Fast.lsz_eq w).trans (congrFun ksz w))
    run (by decide)
    (fun w => funext fun os => looks_pair ((congrFun (congrFun Fast.la_eq w) os).trans (congrFun (congrFun kA w) os)) (looks_pair ((congrFun (congrFun Fast.lb_eq w) os).trans ((congrFun (congrFun kB w) os).trans Fast.rb_eq.symm)) (h w os)))
local macro_rules | `(tactic| o_head $H) => `(tactic| (refine holds_open (q := Mine.view) (loose := Mine.loose) (Xt := Mine.Xt) (XP := XL Mine.view []) (Yf := Hook.obs $H) (Ya := Hook.val $H) (YP := Hook.says $H) (N := 35536) (Mine.left (Hook.obs $H) (Hook.val $H) (fun w os => by kernel_rfl)) (Hook.of $H) (Hook.keeps $H) (fun s e => xl_of s (Bool.and_eq_true_iff.mp e).1) XL.keeps (by rfl) (by rfl) (by rfl) (fun s e => recFacts_of (Bool.and_eq_true_iff.mp e).2) (by rfl) (by first | assumption | decide +kernel) (by decide +kernel) ⟨rfl, rfl, rfl, rfl, rfl, by decide +kernel⟩ ?$(Lean.mkIdent `hw) ?$(Lean.mkIdent `hc)))
open_top hd for PySem.Challenge.rw_rl0039_01
end Mine
end
end
section
open PySem PySem.W PyProof.Rows
set_option Elab.async false
set_option maxRecDepth 100000
set_option maxHeartbeats 4000000
namespace Mine
/-- a contract of a def: f, its arguments, what stands made, what it gives back and makes -/
noncomputable def Ctr (w : World) (mean : ExcName → Option Value) (mg mb : Str → Option Value) (k : Nat) (f : Addr) (vs : List Value) (news : List (Addr × Obj)) (Out : Value → List (Addr × Obj) → Prop) : Prop :=
  ∀ (dp un : Nat) (gd : Option (List Code)) (cn : Str) (cs : Scope) (a : Addr) (ccd : Value) (cl : List (Str × Addr)) (outer : List Env) (A₀ : Around) (base h₀ : Heap) (L : Addr) (m : Str → Option Value) (s : Shared) (Q E : Value → Shared → Prop),
    Below A₀ base outer h₀ → Fr h₀ L s.heap m → (Mine.hd.heap_39 w.params).In h₀ → News h₀ L s.heap news → Top Mine.view (looseW Mine.view Mine.loose) mean mg mb h₀ → cs.kind = .function → dp + k < recursionLimit → un + 8 * k < cLine →
    (∀ r tl h' tk', Fr h₀ L h' m → News h₀ L h' (tl ++ news) → Out r tl → Q r { s with heap := h', toks := tk' }) →
    wpAny (model PySem.Challenge.rw_rl0039_01.row.prog w) (ktrTop dp un gd cn cs L a ccd cl outer) (call (.ref f) vs) Q E s
theorem Ctr.use {w : World} {mean : ExcName → Option Value} {mg mb : Str → Option Value} {k : Nat} {f : Addr} {vs : List Value} {news : List (Addr × Obj)} {Out : Value → List (Addr × Obj) → Prop} (C : Ctr w mean mg mb k f vs news Out)
    {dp un : Nat} {gd : Option (List Code)} {cn : Str} {cs : Scope} {a : Addr} {ccd : Value} {cl : List (Str × Addr)} {outer : List Env} {A₀ : Around} {base h₀ : Heap} {L : Addr} {m : Str → Option Value} {s : Shared} {Q E : Value → Shared → Prop}
    (B : Below A₀ base outer h₀) (F : Fr h₀ L s.heap m) (X : (Mine.hd.heap_39 w.params).In h₀) (N : News h₀ L s.heap news) (T : Top Mine.view (looseW Mine.view Mine.loose) mean mg mb h₀) (hk : cs.kind = .function) (hd : dp + k < recursionLimit) (hu : un + 8 * k < cLine)
    (ret : ∀ r tl h' tk', Fr h₀ L h' m → News h₀ L h' (tl ++ news) → Out r tl → Q r { s with heap := h', toks := tk' }) :
    wpAny (model PySem.Challenge.rw_rl0039_01.row.prog w) (ktrTop dp un gd cn cs L a ccd cl outer) (call (.ref f) vs) Q E s := C _ _ _ _ _ _ _ _ _ _ _ _ _ _ _ _ _ B F X N T hk hd hu ret
theorem ret_made {h₀ h' : Heap} {L D : Addr} {m : Str → Option Value} {o : Obj} {news led : List (Addr × Obj)} {Out : Value → List (Addr × Obj) → Prop} {s : Shared} {tk : Nat} {Q : Value → Shared → Prop}
    (hret : ∀ r tl h' tk', Fr h₀ L h' m → News h₀ L h' (tl ++ news) → Out r tl → Q r { s with heap := h', toks := tk' }) (F : Fr h₀ L h' m) (N : News h₀ L h' ((D, o) :: led)) (hs : ∀ p ∈ news, p ∈ led) (ho : Out (.ref D) [(D, o)]) : Q (.ref D) { s with heap := h', toks := tk } :=
  hret _ [(D, o)] h' tk F (fun p hp => N p (by
    rcases List.mem_cons.mp hp with rfl | hp
    · exact .head _
    · exact .tail _ (hs p hp))) ho
/-- where the ways of a statement meet: one name turned, all else as it stood -/
noncomputable def JoinAt (h₀ : Heap) (L : Addr) (x : Str) (m₀ : Str → Option Value) (news : List (Addr × Obj)) (P : Int → Prop) (s s₂ : Shared) : Prop :=
  ∃ (p : Int) (t : Tok) (h' : Heap) (tk : Nat), s₂ = { s with heap := h', toks := tk } ∧ P p ∧ Fr h₀ L h' (fun y => if y = x then some (.int p t) else m₀ y) ∧ News h₀ L h' news
theorem join_at {h₀ : Heap} {L : Addr} {x : Str} {m₀ : Str → Option Value} {news : List (Addr × Obj)} {P : Int → Prop} {s : Shared} {p : Int} {t : Tok} {h' : Heap} {tk : Nat}
    (F : Fr h₀ L h' (fun y => if y = x then some (.int p t) else m₀ y)) (N : News h₀ L h' news) (hp : P p) : JoinAt h₀ L x m₀ news P s { s with heap := h', toks := tk } := ⟨p, t, h', tk, rfl, hp, F, N⟩
theorem join_next {M : Model} {A : Around} {E : Value → Shared → Prop} {t : Sem Flow} {Q : Flow → Shared → Prop} {s : Shared} {h₀ : Heap} {L : Addr} {m₀ : Str → Option Value} {news : List (Addr × Obj)} (_F : Fr h₀ L s.heap m₀) (_N : News h₀ L s.heap news) (x : Str) (P : Int → Prop)
    (h1 : wpAny M A t (fun f s₂ => match f with | .next => JoinAt h₀ L x m₀ news P s s₂ | f => Q f s₂) E s)
    (h2 : ∀ p t h' tk, P p → Fr h₀ L h' (fun y => if y = x then some (.int p t) else m₀ y) → News h₀ L h' news → Q .next { s with heap := h', toks := tk }) : wpAny M A t Q E s := by
  refine wpAny_mono h1 (fun f s₂ h => ?_) fun _ _ e => e
  cases f with
  | next =>
    obtain ⟨p, t, h', tk, rfl, hp, F', N'⟩ := h
    exact h2 p t h' tk hp F' N'
  | brk => exact h
  | cont => exact h
  | ret v => exact h
/-- the same of any value -/
noncomputable def JoinV (h₀ : Heap) (L : Addr) (x : Str) (m₀ : Str → Option Value) (news : List (Addr × Obj)) (P : Value → Prop) (s s₂ : Shared) : Prop :=
  ∃ (v : Value) (h' : Heap) (tk : Nat), s₂ = { s with heap := h', toks := tk } ∧ P v ∧ Fr h₀ L h' (fun y => if y = x then some v else m₀ y) ∧ News h₀ L h' news
theorem joinv_at {h₀ : Heap} {L : Addr} {x : Str} {m₀ : Str → Option Value} {news : List (Addr × Obj)} {P : Value → Prop} {s : Shared} {v : Value} {h' : Heap} {tk : Nat}
    (F : Fr h₀ L h' (fun y => if y = x then some v else m₀ y)) (N : News h₀ L h' news) (hp : P v) : JoinV h₀ L x m₀ news P s { s with heap := h', toks := tk } := ⟨v, h', tk, rfl, hp, F, N⟩
theorem joinv_next {M : Model} {A : Around} {E : Value → Shared → Prop} {t : Sem Flow} {Q : Flow → Shared → Prop} {s : Shared} {h₀ : Heap} {L : Addr} {m₀ : Str → Option Value} {news : List (Addr × Obj)} (_F : Fr h₀ L s.heap m₀) (_N : News h₀ L s.heap news) (x : Str) (P : Value → Prop)
    (h1 : wpAny M A t (fun f s₂ => match f with | .next => JoinV h₀ L x m₀ news P s s₂ | f => Q f s₂) E s)
    (h2 : ∀ v h' tk, P v → Fr h₀ L h' (fun y => if y = x then some v else m₀ y) → News h₀ L h' news → Q .next { s with heap := h', toks := tk }) : wpAny M A t Q E s := by
  refine wpAny_mono h1 (fun f s₂ h => ?_) fun _ _ e => e
  cases f with
  | next =>
    obtain ⟨v, h', tk, rfl, hp, F', N'⟩ := h
    exact h2 v h' tk hp F' N'
  | brk => exact h
  | cont => exact h
  | ret v => exact h
theorem ints_of_at : ∀ (vs : List Value) (ks : List Int), vs.length = ks.length → (∀ (j : Nat) (v : Value), vs[j]? = some v → ∃ k t, ks[j]? = some k ∧ v = .int k t) → IntsAre vs ks
  | [], [], _, _ => IntsAre.nil
  | v :: r, k :: q, e, h => by
    obtain ⟨k', t, hk, hv⟩ := h 0 v rfl
    cases hk
    subst hv
    exact IntsAre.cons _ _ (ints_of_at r q (by simpa using e) fun j v hj => h (j + 1) v hj)
theorem row_size (n : Nat) : Builtin.Range.rangeSize 2 (2 * ((n : Int) + 1)) 2 = (n : Int) := by
  unfold Builtin.Range.rangeSize
  rw [if_pos (by decide)]
  split <;> omega
theorem fits_small {x : Int} (h1 : -1000 ≤ x) (h2 : x ≤ 1000) : Builtin.Range.rangeFitsLong x = true := by
  unfold Builtin.Range.rangeFitsLong
  rw [Bool.and_eq_true, decide_eq_true_eq, decide_eq_true_eq]
  constructor <;> omega
theorem row_list {prog : Program} {w : World} {A : Around} {E : Value → Shared → Prop} {s : Shared} {h₀ : Heap} {L r : Addr} {m : Str → Option Value} {news : List (Addr × Obj)} {b : Int} {t₀ u₀ v₀ : Tok} {n : Nat} {Q : Value → Shared → Prop}
    (hh : A.handled = none) (F : Fr h₀ L s.heap m) (N : News h₀ L s.heap news) (hr : IsRange s.heap r 2 b 2 t₀ u₀ v₀) (hb : b = 2 * ((n : Int) + 1)) (hz : n ≤ 40)
    (h : ∀ D us c h' tk, Fr h₀ L h' m → News h₀ L h' ((D, listOf (List.toArray us) c) :: news) → (∀ p ∈ news, p.1 < D) → IntsAre us (rowKs n) → Q (.ref D) { s with heap := h', toks := tk }) :
    wpAny (model prog w) A (call (.type "list") [.ref r]) Q E s := by
  subst hb
  refine call_list_range (n := n) hh hr ?_ ?_ (by omega) fun h' tk acc c hk hD hI => ?_
  · unfold Builtin.Range.small
    rw [row_size]
    rw [if_pos (by decide), fits_small (by omega) (by omega), fits_small (by omega) (by omega), fits_small (by omega) (by omega), fits_small (x := 2 * ((n : Int) + 1) + (2 - 1)) (by omega) (by omega)]
    simp
  · exact row_size n
  · have hD' : h'.get? s.heap.objs.size = some (listOf (List.toArray acc.toList) c) := by
      rw [Array.toArray_toList]
      exact hD
    refine h _ acc.toList c h' tk (F.keeps hk) (news_pushed F N hk hD' rfl) (fun p hp => Heap.lt_size (N p hp).1) (ints_of_at _ _ (by rw [Array.length_toList, rowKs_length]; exact hI.1) fun j v hj => ?_)
    have hj' : j < n := by
      have := (List.getElem?_eq_some_iff.mp hj).1
      rw [Array.length_toList, hI.1] at this
      exact this
    obtain ⟨t, e⟩ := hI.2 j v (by rw [← hj, Array.getElem?_toList])
    exact ⟨_, t, by unfold rowKs; rw [List.getElem?_map, List.getElem?_range hj']; rfl, e⟩
theorem bne_of_lt {q : Int} (h : q < 0) : (q != 0) = true := by simp only [bne_iff_ne, ne_eq]; omega
section
open PySem.Spec PySem.Builtin PySem.Builtin.Str
variable {prog : Program} {w : World} {A : Around} {E : Value → Shared → Prop} {s : Shared} {value slice : Expr} {x : Str} {t : Tok} {h₀ : Heap} {L : Addr} {m : Str → Option Value} {news : List (Addr × Obj)} {Q : Value → Shared → Prop}
theorem slice_none (hF : Fr h₀ L s.heap m) (hN : News h₀ L s.heap news) (h : ∀ h' t' k, Fr h₀ L h' m → News h₀ L h' news → Q (.str x t') { s with heap := h', toks := k })
    (hs : subscripted slice false (.str x t) (.ref s.heap.objs.size) = operate [.ref s.heap.objs.size, .str x t] (getItem (.str x t) (.ref s.heap.objs.size)) := by with_unfolding_all rfl)
    (ht : ∀ r, letTemporaryGo value (.str x t) r = pure () := by intro _; with_unfolding_all rfl) (hsz : x.length ≤ sizeLine := by size_fits) :
    wpAny (model prog w) A (subscriptTail value slice (.str x t) (.ref s.heap.objs.size)) Q E { s with heap := s.heap.push { cls := .type "slice", data := .fields #[.none, .none, .none] } } :=
  slice_strN_nn hF hN (fun h' t' k a b => by rw [slice_all]; exact h h' t' k a b) hs ht hsz
end
/-! lists of texts -/
section
variable {prog : Program} {w : World} {A : Around} {E : Value → Shared → Prop} {s : Shared} {value slice : Expr} {h₀ : Heap} {L l a b : Addr} {m : Str → Option Value} {news : List (Addr × Obj)} {Q : Value → Shared → Prop} {vs ws : List Value} {us : List Str}
theorem strs_at (h : StrsAre vs us) {k : Nat} (hk : k < us.length) : ∃ t, vs[k]? = some (.str (us.getD k Str.empty) t) := by
  have e : us[k]? = some (us.getD k Str.empty) := by rw [List.getD_eq_getElem?_getD, List.getElem?_eq_getElem hk]; rfl
  exact h.get k _ e
theorem strs_item {k : Int} {u : Tok} (hl : s.heap.IsList l vs.toArray) (hi : StrsAre vs us) (h0 : 0 ≤ k) (h1 : k < us.length) (hfit : k < 2 ^ 63) (h3 : ∀ u ∈ us, u.length ≤ 3) (h : ∀ t, (us.getD k.toNat Str.empty).length ≤ 3 → Q (.str (us.getD k.toNat Str.empty) t) s)
    (hs : subscripted slice false (.ref l) (.int k u) = operate [.ref l, .int k u] (getItem (.ref l) (.int k u)) := by with_unfolding_all rfl) :
    wpAny (model prog w) A (subscriptTail value slice (.ref l) (.int k u)) Q E s := by
  obtain ⟨t, e⟩ := strs_at hi (k := k.toNat) (by omega)
  exact tail_any hl.typeIs slot_list_getitem.lookup (wpAny_getItem_list hl h0 hfit (by simpa using e) (h t (h3 _ (by rw [List.getD_eq_getElem?_getD, List.getElem?_eq_getElem (show k.toNat < us.length by omega)]; exact List.getElem_mem _)))) hs
theorem pick_to {y : Int} (h : 0 ≤ y) : slicePick vs.toArray none (some y) none = (vs.take y.toNat).toArray := by
  have e : sliceBounds none (some y) none vs.toArray.size = (((0 : Nat) : Int), ((min y.toNat vs.toArray.size : Nat) : Int), 1) := by
    simp only [sliceBounds, Option.getD_none, show (1 : Int) > 0 by decide, if_true, if_neg (show ¬ (y < 0) by omega)]
    congr 1
    congr 1
    omega
  rw [kmk_pick_nat _ e]
  show ((vs.drop 0).take (min y.toNat vs.toArray.size - 0)).toArray = _
  rw [List.drop_zero, Nat.sub_zero, List.size_toArray, kmk_take_min]
theorem pick_from {x : Int} (h : 0 ≤ x) : slicePick vs.toArray (some x) none none = (vs.drop x.toNat).toArray := by
  have e : sliceBounds (some x) none none vs.toArray.size = (((min x.toNat vs.toArray.size : Nat) : Int), ((vs.toArray.size : Nat) : Int), 1) := by
    simp only [sliceBounds, Option.getD_none, show (1 : Int) > 0 by decide, if_true, if_neg (show ¬ (x < 0) by omega)]
    congr 1
    omega
  rw [kmk_pick_nat _ e]
  show ((vs.drop (min x.toNat vs.toArray.size)).take (vs.toArray.size - min x.toNat vs.toArray.size)).toArray = _
  rw [List.size_toArray, kmk_drop_min, List.take_of_length_le (by rw [List.length_drop]; omega)]
theorem list_to {y : Int} {t : Tok} (F : Fr h₀ L s.heap m) (N : News h₀ L s.heap news) (hl : s.heap.IsList l vs.toArray) (hy : 0 ≤ y) (hz : vs.length ≤ 1000)
    (h : ∀ D h', Fr h₀ L h' m → News h₀ L h' ((D, listOf (vs.take y.toNat).toArray 0) :: news) → (∀ p ∈ news, p.1 < D) → Q (.ref D) { s with heap := h' })
    (hs : subscripted slice false (.ref l) (.ref s.heap.objs.size) = operate [.ref s.heap.objs.size, .ref l] (getItem (.ref l) (.ref s.heap.objs.size)) := by with_unfolding_all rfl) (ht : ∀ r, letTemporaryGo value (.ref l) r = pure () := by kmk_pure) :
    wpAny (model prog w) A (subscriptTail value slice (.ref l) (.ref s.heap.objs.size)) Q E { s with heap := s.heap.push { cls := .type "slice", data := .fields #[.none, .int y t, .none] } } :=
  kmk_slice F N hl IsPart.none (IsPart.int _ _) (fun D h' F' N' l1 => h D h' F' (by rw [pick_to hy] at N'; exact N') l1) hs ht (by rw [sizeLine_eq, List.size_toArray]; omega)
theorem list_from {y : Int} {t : Tok} (F : Fr h₀ L s.heap m) (N : News h₀ L s.heap news) (hl : s.heap.IsList l vs.toArray) (hy : 0 ≤ y) (hz : vs.length ≤ 1000)
    (h : ∀ D h', Fr h₀ L h' m → News h₀ L h' ((D, listOf (vs.drop y.toNat).toArray 0) :: news) → (∀ p ∈ news, p.1 < D) → Q (.ref D) { s with heap := h' })
    (hs : subscripted slice false (.ref l) (.ref s.heap.objs.size) = operate [.ref s.heap.objs.size, .ref l] (getItem (.ref l) (.ref s.heap.objs.size)) := by with_unfolding_all rfl) (ht : ∀ r, letTemporaryGo value (.ref l) r = pure () := by kmk_pure) :
    wpAny (model prog w) A (subscriptTail value slice (.ref l) (.ref s.heap.objs.size)) Q E { s with heap := s.heap.push { cls := .type "slice", data := .fields #[.int y t, .none, .none] } } :=
  kmk_slice F N hl (IsPart.int _ _) IsPart.none (fun D h' F' N' l1 => h D h' F' (by rw [pick_from hy] at N'; exact N') l1) hs ht (by rw [sizeLine_eq, List.size_toArray]; omega)
theorem list_add (F : Fr h₀ L s.heap m) (N : News h₀ L s.heap news) (ha : s.heap.IsList a vs.toArray) (hb : s.heap.IsList b ws.toArray) (hz : vs.length + ws.length ≤ 1000)
    (h : ∀ D h', Fr h₀ L h' m → News h₀ L h' ((D, listOf (vs ++ ws).toArray 0) :: news) → (∀ p ∈ news, p.1 < D) → Q (.ref D) { s with heap := h' }) :
    wpAny (model prog w) A (binaryOp .Add (.ref a) (.ref b)) Q E s :=
  kmk_add_lit F N ha hb rfl h (by rw [sizeLine_eq]; simpa using (by omega : vs.length + ws.length ≤ 16777216))
end
end Mine
end
section
open PySem PySem.W PyProof.Rows PySem.Calls
set_option Elab.async false
set_option maxRecDepth 100000
set_option maxHeartbeats 4000000
namespace Mine
/-- item by item -/
noncomputable def AllR {α : Type} (R : α → Value → Prop) : List α → List Value → Prop
  | [], [] => True
  | a :: as, v :: vs => R a v ∧ AllR R as vs
  | _, _ => False
theorem AllR.snoc {α : Type} {R : α → Value → Prop} {a : α} {v : Value} (h : R a v) : ∀ {as : List α} {vs : List Value}, AllR R as vs → AllR R (as ++ [a]) (vs ++ [v])
  | [], [], _ => ⟨h, trivial⟩
  | _ :: _, _ :: _, x => ⟨x.1, AllR.snoc h x.2⟩
  | [], _ :: _, x => x.elim
  | _ :: _, [], x => x.elim
theorem AllR.ints {α : Type} {g : α → Int} : ∀ {as : List α} {vs : List Value}, AllR (fun a v => ∃ t, v = .int (g a) t) as vs → IntsAre vs (as.map g)
  | [], [], _ => .nil
  | _ :: _, _ :: _, ⟨⟨t, e⟩, r⟩ => by subst e; exact .cons _ t (AllR.ints r)
  | [], _ :: _, x => x.elim
  | _ :: _, [], x => x.elim
theorem AllR.strs {α : Type} {g : α → Str} : ∀ {as : List α} {vs : List Value}, AllR (fun a v => ∃ t, v = .str (g a) t) as vs → StrsAre vs (as.map g)
  | [], [], _ => .nil
  | _ :: _, _ :: _, ⟨⟨t, e⟩, r⟩ => by subst e; exact .cons _ t (AllR.strs r)
  | [], _ :: _, x => x.elim
  | _ :: _, [], x => x.elim
section
variable {prog : Program} {w : World} {A : Around} {h₀ : Heap} {L : Addr} {m : Str → Option Value} {env : Env} {elt : Expr} {x : Str} {scope : Scope} {cl : List (Str × Addr)} {s : Shared} {S : List (Addr × Obj) → Prop} {P : Nat → Value → Prop} {Fin : List Value → List (Addr × Obj) → Prop} {news : List (Addr × Obj)}
/-- a comprehension whose element is a relation of the item -/
theorem comp_rest {α : Type} {n : Nat} (as : List α) (Rin Rout : α → Value → Prop) (hn : as.length = n) (hP : ∀ i v, i < n → P i v → ∃ a, as[i]? = some a ∧ Rin a v)
    (turn : ∀ a v I oI C oC D m₂ ys h tk (E' : Value → Shared → Prop), a ∈ as → Rin a v → LCg.NsObj oC m₂ → m₂ x = some v → Fr h₀ L h m → News h₀ L h ((I, oI) :: (C, oC) :: (D, LCg.lst ys) :: news) → LCg.Off3 I C D news → S news →
      wpAny (model prog w) A (eval elt (compEnvC scope cl C env)) (LCg.CompEnd h₀ L m { s with heap := h, toks := tk } I oI C oC D (LCg.lst ys) S (fun y news' => news' = news ∧ Rout a y)) E' { s with heap := h, toks := tk }) (hS : S news)
    (fin : ∀ ys, AllR Rout as ys → Fin ys news) : LCg.CompRest prog w A h₀ L m env elt x scope cl s S P Fin n 0 [] news := by
  have key : ∀ (j i : Nat) (ys : List Value), i + j = n → AllR Rout (as.take i) ys → LCg.CompRest prog w A h₀ L m env elt x scope cl s S P Fin j i ys news := by
    intro j
    induction j with
    | zero =>
      intro i ys hi hy
      rw [List.take_of_length_le (by omega)] at hy
      exact LCg.CompRest.zero (fin ys hy)
    | succ j ih =>
      intro i ys hi hy
      refine LCg.CompRest.succ fun v I oI C oC D m₂ h tk E' hv hC hx F N off ne => ?_
      obtain ⟨a, ha, hin⟩ := hP i v (by omega) hv
      refine wpAny_mono (turn a v I oI C oC D m₂ ys h tk E' (List.mem_of_getElem? ha) hin hC hx F N off hS) (fun y s₂ hq => ?_) fun _ _ e => e
      obtain ⟨h', tk', nw, e, F', N', off', hS', rfl, ho⟩ := hq
      refine ⟨h', tk', nw, e, F', N', off', hS', ih (i + 1) _ (by omega) ?_⟩
      rw [List.take_add_one, ha]
      exact hy.snoc ho
  exact key n 0 [] (by omega) trivial
end
section
variable {prog : Program} {w : World} {A : Around} {E : Value → Shared → Prop} {s : Shared} {h₀ : Heap} {L : Addr} {m : Str → Option Value} {env : Env}
/-- what a comprehension over a text's signs asks -/
noncomputable def SrcText (prog : Program) (w : World) (A : Around) (h₀ : Heap) (L : Addr) (m : Str → Option Value) (env : Env) (elt : Expr) (x : Str) (scope : Scope) (cl : List (Str × Addr)) (Fin : Shared → List Value → List (Addr × Obj) → Prop) (xv : Value) (s₁ : Shared) : Prop :=
  ∃ xt tx news, xv = .str xt tx ∧ A.handled = none ∧ Fr h₀ L s₁.heap m ∧ News h₀ L s₁.heap news ∧ xt.length ≤ sizeLine ∧
    ∀ g, LCg.CompRest prog w A h₀ L m env elt x scope cl { s₁ with heap := g } (fun _ => True) (SignAt xt) (Fin { s₁ with heap := g }) xt.cps.size 0 [] news
theorem SrcText.intro {elt : Expr} {x : Str} {scope : Scope} {cl : List (Str × Addr)} {Fin : Shared → List Value → List (Addr × Obj) → Prop} {xt : Str} {tx : Tok} {news : List (Addr × Obj)} {s₁ : Shared} (hh : A.handled = none) (F : Fr h₀ L s₁.heap m) (N : News h₀ L s₁.heap news) (hsz : xt.length ≤ 1000)
    (Rout : Nat → Value → Prop)
    (turn : ∀ g c v I oI C oC D m₂ ys h tk (E' : Value → Shared → Prop), c ∈ xt.cps.toList → (∃ t, v = .str ⟨#[c]⟩ t) → LCg.NsObj oC m₂ → m₂ x = some v → Fr h₀ L h m → News h₀ L h ((I, oI) :: (C, oC) :: (D, LCg.lst ys) :: news) → LCg.Off3 I C D news → True →
      wpAny (model prog w) A (eval elt (compEnvC scope cl C env)) (LCg.CompEnd h₀ L m { s₁ with heap := h, toks := tk } I oI C oC D (LCg.lst ys) (fun _ => True) (fun y news' => news' = news ∧ Rout c y)) E' { ({ s₁ with heap := g } : Shared) with heap := h, toks := tk })
    (fin : ∀ g ys, AllR Rout xt.cps.toList ys → Fin { s₁ with heap := g } ys news) : SrcText prog w A h₀ L m env elt x scope cl Fin (.str xt tx) s₁ :=
  ⟨xt, tx, news, rfl, hh, F, N, by rw [sizeLine_eq]; omega, fun g => comp_rest xt.cps.toList (fun c v => ∃ t, v = .str ⟨#[c]⟩ t) Rout (by simp) (fun i v _ hv => by
    obtain ⟨c, u, hc, e⟩ := hv
    exact ⟨c, by rw [← hc, Array.getElem?_toList], u, e⟩) (turn g) trivial (fin g)⟩
/-- a comprehension over a text's signs, given a name -/
theorem assign_comp_text {elt iter : Expr} {x y : Str} {px py : Pos} {scope : Scope} {cl : List (Str × Addr)} {pos spos : Pos} {Q : Flow → Shared → Prop} (_F₀ : Fr h₀ L s.heap m) (hLe : env.locals = L)
    (hsw : swapsWith (.ListComp elt [⟨.Name x px, iter, [], 0⟩] scope pos) (some (.Name y py)) spos.line env = pure true)
    (hclos : closureFor scope env = pure cl) (hcell : ∀ z ∈ scope.names, z.2 ≠ .cell) (hkind : scope.kind = .function)
    (hnames : ∀ z ∈ scope.names, z.2 = .local → scope.names.lookup z.1 = some .local) (hx : scope.names.lookup x = some .local)
    (hy : env.kindOf y = some .local) (hp : (env.scope.kind == .class || (env.scope.kind == .module && env.locals != env.globals)) = false)
    (h : wpAny (model prog w) A (eval iter env) (SrcText prog w A h₀ L m env elt x scope cl (fun s₂ => LCg.FinA h₀ L m s₂ y Q)) E s)
    (hs : ∀ x, foldedSetIterable iter env x = pure x := by intro _; rfl) :
    wpAny (model prog w) A (exec (.Assign [.Name y py] (.ListComp elt [⟨.Name x px, iter, [], 0⟩] scope pos) spos) env) Q E s := by
  subst hLe
  rw [exec_Assign_Name_used _ _ _ _ hsw]
  refine wpAny_bind (wpAny_standAt (wpAny_bind ?_))
  show wpAny _ A (do let _ ← comprehension (.ListComp elt [⟨.Name x px, iter, [], 0⟩] scope pos) scope env _ (newList []) false (eval iter env) (some (assign (.Name y py) env))) _ _ s
  refine wpAny_bind (wpAny_mono (wpAny_comprehension_free (use := some (assign (.Name y py) env)) (Q := fun _ s' => Q .next s') rfl hs hclos hkind hnames
    (wpAny_mono h (fun xv s₁ h₁ => ?_) fun _ _ e => e)) (fun _ s' hq => wpAny_pure (wpAny_pure hq)) fun _ _ e => e)
  obtain ⟨xt, tx, news, rfl, hh, F, N, hsz, R⟩ := h₁
  have key : ∀ (tp : String), Walks prog w A s₁.heap.objs.size [s₁.heap.objs.size] [s₁.heap.objs.size] xt.cps.size (SignAt xt) (fun i h => h.IsStrIter s₁.heap.objs.size tp xt tx i) →
      ∀ o, (s₁.heap.push o).IsStrIter s₁.heap.objs.size tp xt tx 0 → wpAny (model prog w) A (newList []) (fun acc s₃ => wpAny (model prog w) A (newFunctionEnv scope env.globals cl [] env.qual none .none (some env)) (fun cenv s₄ =>
        codeAny (model prog w) A (.compStart (.ListComp elt [⟨.Name x px, iter, [], 0⟩] scope pos) 0 (.ref s₁.heap.objs.size) acc { cenv with scope := relabel scope env })
          (compPost (model prog w) A E (some (assign (.Name y py) env)) (fun _ s' => Q .next s') acc cenv.locals) s₄) E s₃) E { s₁ with heap := s₁.heap.push o } := by
    intro tp W o hst
    refine LCg.block_U W hsz (fun i h st => by obtain ⟨o, e, _⟩ := st; exact ⟨o, e⟩) (fun i h h' o nw st e e' _ _ _ => by obtain ⟨o', q, r⟩ := st; rw [e] at q; cases q; exact ⟨o, e', r⟩) hcell hkind hx hst (fun b hb => ?_)
      (F.keeps fun _ _ e => Heap.get?_push_of_some _ e) (N.grown fun _ _ e => Heap.get?_push_of_some _ e) (Nat.ne_of_lt F.ns.lt) (next_is_new F) (fun p hp => Nat.ne_of_lt (Heap.lt_size (N p hp).1)) trivial (R _) ?_
    · rw [List.mem_singleton.mp hb]
      show s₁.heap.objs.size < (s₁.heap.push _).objs.size
      rw [Heap.size_push]
      exact Nat.lt_succ_self _
    · intro D C h' tk m' ys news' F' N' o1 hn hC₀ hD₀ hCL hDL hCD offC fin
      show wpAny _ A (assign (.Name y py) env (.ref D)) _ _ _
      refine wpAny_assign_Name (wpAny_storeName_local hy F'.ns (fun h₂ hn₂ hs₂ => ?_) hp)
      have hL₀ : h₀.get? env.locals = none := Heap.get?_none_of_le F'.above
      have F₂ : Fr h₀ env.locals h₂ (fun z => if z = y then some (.ref D) else m z) := ⟨hn₂, fun b o e => hs₂.extBut b o (fun q => by rw [q, hL₀] at e; cases e) (F'.keep b o e), F'.above⟩
      refine ⟨m', hn.sameBut hs₂ hCL, fun h'' hs'' => fin D h'' _ (F₂.change hs'' hCL hC₀) (fun p hp => ?_) o1⟩
      have z : h₂.get? p.1 = some p.2 := hs₂.extBut _ _ (N' p hp).2.1 (N' p hp).1
      refine ⟨hs''.extBut _ _ ?_ z, (N' p hp).2⟩
      rcases List.mem_cons.mp hp with rfl | hp
      · exact Ne.symm hCD
      · exact offC p hp
  cases ha : xt.cps.all (· < 128)
  · exact wpAny_pyIter_wide ha (key _ (Walks.strWide hh _ xt tx) _ ⟨_, Heap.get?_push_size _ rfl, rfl, rfl⟩)
  · exact wpAny_pyIter_ascii ha (key _ (Walks.strAscii hh _ xt tx) _ ⟨_, Heap.get?_push_size _ rfl, rfl, rfl⟩)
end
end Mine
end
section
open PySem PySem.W PyProof.Rows PySem.Calls PySem.Builtin
set_option Elab.async false
set_option maxRecDepth 100000
set_option maxHeartbeats 4000000
namespace Mine
/-! bytes.decode('latin1') -/
section
noncomputable abbrev bOf (bs : List UInt8) : Array UInt8 := bs.toArray
theorem lat_run (id : String) : ∀ (bs : List UInt8), bs.length ≤ 6 → _codecs.runDecoder id _codecs.latin1Decoder none true bs.toArray 0 [] = pure ((bs.map UInt8.toNat).toArray, bs.length)
  | [], _ => by kernel_rfl
  | [_], _ => by kernel_rfl
  | [_, _], _ => by kernel_rfl
  | [_, _, _], _ => by kernel_rfl
  | [_, _, _, _], _ => by kernel_rfl
  | [_, _, _, _, _], _ => by kernel_rfl
  | [_, _, _, _, _, _], _ => by kernel_rfl
  | _ :: _ :: _ :: _ :: _ :: _ :: _ :: _, h => by simp at h
variable {b : Array UInt8} {t : Tok}
theorem lat_road {id : String} : _codecs.decodeRoad id b (PySem.Str.ofString "latin1") none [] = (_codecs.runDecoder id _codecs.latin1Decoder none true b 0 [] >>= fun r => mkStr ⟨r.1⟩) := by kernel_rfl
theorem lat_entry (c : UInt8) (cs : List UInt8) (te : Tok) : «bytes.decode» ⟨[.bytes (c :: cs).toArray t, .str (PySem.Str.ofString "latin1") te], []⟩ = (mkStr (PySem.Str.ofString "utf-8") >>= fun _ => mkStr (PySem.Str.ofString "latin1") >>= fun e => mkStr (PySem.Str.ofString "bytes.decode") >>= fun d =>
    call (.builtin "_codecs.decode.text") [.bytes (c :: cs).toArray t, e, .none, d] >>= fun v => ret v) := by kernel_rfl
theorem args_decode_2 (a b : Value) : argsOk "bytes.decode" ⟨[a, b], []⟩ := by
  unfold argsOk; rw [signature?_of (id := "bytes.decode") (n := ['e', 'd', 'o', 'c', 'e', 'd']) (o := ['s', 'e', 't', 'y', 'b']) (by kernel_rfl) FB.owner_bytes]; kernel_rfl
theorem lat_text {t1 t2 : Tok} {d : PySem.Str} {n : Nat} {x : PySem.Str} (hd : ∀ id, _codecs.runDecoder id _codecs.latin1Decoder none true b 0 [] = pure (x.cps, n)) :
    Meets («_codecs.decode.text» ⟨[.bytes b t, .str (PySem.Str.ofString "latin1") t1, .none, .str d t2], []⟩) (fun _ R s => x.length ≤ sizeLine ∧ R (.ok (.ret (.str x s.toks))) { s with toks := s.toks + 1 }) := by
  refine .of_wp fun prog w A R s hS => ?_
  obtain ⟨hsz, h⟩ := hS
  show wpAny _ _ (Bytes.bytesLike _ (.bytes b t) >>= fun r => _) _ _ s
  refine wpAny_bind (wpAny_of_eq KBd.like_eq ?_)
  refine wpAny_bind (wpAny_of_eq KBd.held_eq ?_)
  show wpAny _ _ (_codecs.decodeRoad _ b (PySem.Str.ofString "latin1") none [] >>= fun v => _) _ _ s
  rw [lat_road, hd]
  refine wpAny_bind (wpAny_bind (wpAny_pure ?_))
  exact wpAny_mkStr (wpAny_pure ⟨_, rfl, h⟩) hsz
theorem lat_meets {bs : List UInt8} (te : Tok) (h0 : bs ≠ []) (h6 : bs.length ≤ 6) :
    Meets («bytes.decode» ⟨[.bytes bs.toArray t, .str (PySem.Str.ofString "latin1") te], []⟩) (fun _ R s => ∀ t' k, R (.ok (.ret (.str ⟨(bs.map UInt8.toNat).toArray⟩ t'))) { s with toks := k }) := by
  refine .of_wp fun prog w A R s h => ?_
  cases bs with
  | nil => exact absurd rfl h0
  | cons c cs =>
    rw [lat_entry]
    refine wpAny_bind (wpAny_mkStr ?_ (by decide))
    refine wpAny_bind (wpAny_mkStr ?_ (by decide))
    refine wpAny_bind (wpAny_mkStr ?_ (by decide))
    refine wpAny_bind (call_function_meets KBd.kind_text KBd.plain_text KBd.entry_text (KBd.args_text _ _ _ _) (lat_text (x := ⟨((c :: cs).map UInt8.toNat).toArray⟩) fun id => lat_run id (c :: cs) h6) ⟨?_, wpAny_pure ⟨_, rfl, h _ _⟩⟩)
    show (List.toArray _).size ≤ _
    rw [List.size_toArray, List.length_map, sizeLine_eq]
    omega
end
section
variable {prog : Program} {w : World} {A : Around} {E : Value → Shared → Prop} {s : Shared} {t te : Tok}
theorem lat_decode {bs : List UInt8} {Q : Value → Shared → Prop} (h0 : bs ≠ []) (h6 : bs.length ≤ 6) (h : ∀ t' k, Q (.str ⟨(bs.map UInt8.toNat).toArray⟩ t') { s with toks := k }) :
    wpAny (model prog w) A (call (.builtin "bytes.decode") [.bytes bs.toArray t, .str (PySem.Str.ofString "latin1") te]) Q E s :=
  call_meets FB.slot_bytes_decode (typeIs_bytes _ _ _) FB.entry_bytes_decode (args_decode_2 _ _) (lat_meets te h0 h6) h
end
/-! str.translate by a list of texts -/
section
variable {prog : Program} {w : World} {A : Around} {E : Value → Shared → Prop} {s : Shared}
open PySem.Builtin.Str in
theorem look_list {l : Addr} {tv : List Value} {c : Nat} {x : PySem.Str} {tx : Tok} {Q : Mapped → Shared → Prop} (hl : s.heap.IsList l tv.toArray) (hc : c < 256) (hx : tv[c]? = some (.str x tx)) (h : ∀ k, Q (.text x) { s with toks := k }) :
    wpAny (model prog w) A (tableLookup (.ref l) c) Q E s := by
  unfold tableLookup
  refine wpAny_bind (wpAny_attempt (wpAny_bind (wpAny_mkInt ?_)))
  refine wpAny_getItem_list hl (by omega) (by omega) (by simpa using hx) ?_
  refine wpAny_bind (wpAny_of_eq (a := none) rfl ?_)
  exact wpAny_bind (wpAny_of_eq (a := some x) rfl (wpAny_pure (h _)))
theorem one_sign {x : PySem.Str} (h : x.length = 1) : ∃ d, x.cps[0]? = some d ∧ x = ⟨#[d]⟩ := by
  obtain ⟨⟨l⟩⟩ := x
  match l, h with
  | [a], _ => exact ⟨a, rfl, rfl⟩
theorem foldl_cps : ∀ (l : List PySem.Str) (acc : Array Nat), l.foldl (fun acc p => acc ++ p.cps) acc = acc ++ (l.flatMap fun p => p.cps.toList).toArray
  | [], acc => by simp
  | p :: r, acc => by
    rw [List.foldl_cons, foldl_cps r, List.flatMap_cons]
    refine Array.toList_inj.mp ?_
    simp
theorem flat_len (g : Nat → PySem.Str) (hl3 : ∀ c, (g c).length ≤ 3) : ∀ cs : List Nat, (cs.flatMap fun c => (g c).cps.toList).length ≤ 3 * cs.length
  | [] => by simp
  | c :: r => by
    have h1 := flat_len g hl3 r
    have h2 : (g c).cps.toList.length ≤ 3 := by simpa [PySem.Str.length] using hl3 c
    rw [List.flatMap_cons, List.length_append, List.length_cons]
    omega
open PySem.Builtin.Str in
theorem tr_meets {l : Addr} {tv : List Value} {g : Nat → PySem.Str} {cs : List Nat} {t : Tok} (hcs : ∀ c ∈ cs, c < 256) (hg : ∀ c, c < 256 → ∃ tx, tv[c]? = some (.str (g c) tx)) (hl3 : ∀ c, (g c).length ≤ 3) (h0 : cs ≠ []) (h6 : cs.length ≤ 6) :
    Meets («str.translate» ⟨[.str ⟨cs.toArray⟩ t, .ref l], []⟩) (fun _ R s => s.heap.IsList l tv.toArray ∧ ∀ t' k, R (.ok (.ret (.str ⟨(cs.flatMap fun c => (g c).cps.toList).toArray⟩ t'))) { s with toks := k }) := by
  refine .of_wp fun prog w A R s hS => ?_
  obtain ⟨hl, h⟩ := hS
  unfold «str.translate»
  refine wpAny_bind (wpAny_of_eq (a := (.str ⟨cs.toArray⟩ t, ⟨cs.toArray⟩, .ref l)) (by rfl) ?_)
  dsimp only
  rw [if_neg (by cases cs with | nil => exact absurd rfl h0 | cons a r => simp [PySem.Str.length])]
  refine wpAny_bind (wpAny_forIn_array' _ (fun rest (b : List PySem.Str × Nat × Bool × List (Nat × Option Nat) × Bool) s' => (∃ k, s' = { s with toks := k }) ∧ ∃ done, cs = done ++ rest ∧ b.1 = (done.map g).reverse ∧ b.2.1 ≤ 3 * done.length ∧ b.2.2.2.2 = false ∧ ∀ c a, b.2.2.2.1.lookup c = some a → ∃ d, a = some d ∧ g c = ⟨#[d]⟩) _ ?_ ?_ _ _ ⟨⟨s.toks, rfl⟩, [], rfl, rfl, Nat.le_refl _, rfl, fun c a e => by cases e⟩)
  · rintro x rest ⟨pieces, total, fast, known, drop⟩ s₁ ⟨⟨k, rfl⟩, done, hd, hp, ht, hdr, hk⟩
    dsimp only at hp ht hdr hk ⊢
    subst hdr
    have hdl : done.length ≤ 6 := by rw [hd] at h6; simp at h6; omega
    have hx : x < 256 := hcs x (by rw [hd]; simp)
    obtain ⟨tx, hgx⟩ := hg x hx
    have hlen := hl3 x
    have next : ∀ (pc : PySem.Str) (n : Nat) (f : Bool) (kn : List (Nat × Option Nat)) (k' : Nat), pc = g x → n ≤ 3 → (∀ c a, kn.lookup c = some a → ∃ d, a = some d ∧ g c = ⟨#[d]⟩) →
        (∃ k, ({ s with toks := k' } : Shared) = { s with toks := k }) ∧ ∃ done, cs = done ++ rest ∧ pc :: pieces = (done.map g).reverse ∧ total + n ≤ 3 * done.length ∧ false = false ∧ ∀ c a, kn.lookup c = some a → ∃ d, a = some d ∧ g c = ⟨#[d]⟩ := by
      intro pc n f kn k' e hn hkn
      refine ⟨⟨k', rfl⟩, done ++ [x], by rw [hd]; simp, ?_, ?_, rfl, hkn⟩
      · rw [e, hp]; simp
      · rw [List.length_append, List.length_singleton]; omega
    rw [if_neg (by simp only [Str.tooLong, decide_eq_true_eq, sizeLine_eq]; omega)]
    cases fast with
    | true =>
      rw [if_pos rfl]
      cases hlk : known.lookup x with
      | some a =>
        obtain ⟨d, rfl, hgd⟩ := hk x a hlk
        dsimp only
        refine wpAny_bind (wpAny_pure ?_)
        dsimp only
        exact wpAny_pure (next _ 1 true known k hgd.symm (by omega) hk)
      | none =>
        dsimp only
        refine wpAny_bind (look_list hl hx hgx fun k1 => ?_)
        dsimp only
        by_cases h1 : ((g x).length == 1 && (g x).cps.all fun x => decide (x < 128)) = true
        · rw [if_pos h1]
          obtain ⟨d, e1, e2⟩ := one_sign (eq_of_beq (Bool.and_eq_true_iff.mp h1).1)
          rw [e1]
          dsimp only
          refine wpAny_bind (wpAny_pure ?_)
          dsimp only
          refine wpAny_pure (next _ 1 true ((x, some d) :: known) k1 e2.symm (by omega) fun c a e => ?_)
          rw [List.lookup_cons] at e
          cases hc : c == x with
          | true =>
            rw [hc] at e
            cases e
            exact ⟨d, rfl, by rw [eq_of_beq hc, e2]⟩
          | false =>
            rw [hc] at e
            exact hk c a e
        · rw [if_neg h1]
          dsimp only
          refine wpAny_bind (wpAny_pure ?_)
          dsimp only
          refine wpAny_bind (wpAny_rule ?_)
          rw [if_neg (by decide)]
          refine wpAny_bind (look_list hl hx hgx fun k2 => ?_)
          exact wpAny_pure (next _ _ false known k2 rfl hlen hk)
    | false =>
      rw [if_neg (by decide), if_neg (by decide)]
      refine wpAny_bind (look_list hl hx hgx fun k1 => ?_)
      exact wpAny_pure (next _ _ false known k1 rfl hlen hk)
  · rintro ⟨pieces, total, fast, known, drop⟩ s₁ ⟨⟨k, rfl⟩, done, hd, hp, ht, hdr, hk⟩
    dsimp only at hp ht hdr hk ⊢
    rw [List.append_nil] at hd
    subst hd
    rw [if_neg (by simp only [Str.tooLong, decide_eq_true_eq, sizeLine_eq]; omega), hp, List.reverse_reverse, foldl_cps]
    refine wpAny_bind (wpAny_mkStr (wpAny_pure ⟨_, rfl, ?_⟩) ?_)
    · rw [show (#[] ++ ((cs.map g).flatMap fun p => p.cps.toList).toArray : Array Nat) = (cs.flatMap fun c => (g c).cps.toList).toArray by simp [List.flatMap_map]]
      exact h _ _
    · show (#[] ++ ((cs.map g).flatMap fun p => p.cps.toList).toArray : Array Nat).size ≤ _
      have := flat_len g hl3 cs
      simp only [Array.size_append, List.size_toArray, List.flatMap_map, sizeLine_eq]
      simp only [List.size_toArray, List.length_nil]
      omega
theorem tr_call {prog : Program} {w : World} {A : Around} {E : Value → Shared → Prop} {s : Shared} {l : Addr} {tv : List Value} {g : Nat → PySem.Str} {cs : List Nat} {t : Tok} {Q : Value → Shared → Prop} (hl : s.heap.IsList l tv.toArray) (hcs : ∀ c ∈ cs, c < 256) (hg : ∀ c, c < 256 → ∃ tx, tv[c]? = some (.str (g c) tx)) (hl3 : ∀ c, (g c).length ≤ 3) (h0 : cs ≠ []) (h6 : cs.length ≤ 6)
    (h : ∀ t' k, (⟨(cs.flatMap fun c => (g c).cps.toList).toArray⟩ : PySem.Str).length ≤ 18 → Q (.str ⟨(cs.flatMap fun c => (g c).cps.toList).toArray⟩ t') { s with toks := k }) :
    wpAny (model prog w) A (call (.builtin "str.translate") [.str ⟨cs.toArray⟩ t, .ref l]) Q E s :=
  call_meets F.slot_str_translate (typeIs_str _ _ _) F.entry_str_translate (F.args_str_translate_2 _ _) (tr_meets hcs hg hl3 h0 h6) ⟨hl, fun t' k => h t' k (by
    show (List.toArray _).size ≤ 18
    have := flat_len g hl3 cs
    rw [List.size_toArray]
    omega)⟩
end
section
variable {M : Model} {A : Around} {E : Value → Shared → Prop} {s : Shared}
theorem tr_method {x : PySem.Str} {t : Tok} {pl : Sem Bool} {Q : Value × List Value → Shared → Prop} (h : Q (.builtin "str.translate", [.str x t]) s) : wpAny M A (getMethod (.str x t) "translate" pl) Q E s :=
  getMethod_builtin (typeIs_str s x t) F.plainAttrs_str F.slot_str_translate F.type_str_translate (fun _ e => nomatch e) h
end
/-! the table of the header's words -/
noncomputable def hdrG (c : Nat) : PySem.Str := if c = 32 then ⟨#[95]⟩ else if hdrBytes.contains c = true then ⟨#[c]⟩ else ⟨#[61, hx (c / 16), hx (c % 16)]⟩
theorem hdrG_len (c : Nat) : (hdrG c).length ≤ 3 := by unfold hdrG; split <;> (try split) <;> exact Nat.le_of_ble_eq_true rfl
theorem hdr_ok : ((List.range 256).all fun c => match L44_287[c]? with | some (.str x _) => x.cps == (hdrG c).cps | _ => false) = true := by decide +kernel
theorem hdr_at (c : Nat) (h : c < 256) : ∃ tx, L44_287[c]? = some (.str (hdrG c) tx) := by
  have := List.all_eq_true.mp hdr_ok c (List.mem_range.mpr h)
  split at this
  · rename_i x t e
    exact ⟨t, by rw [e]; exact congrArg some (congrArg (Value.str · t) (Str.ext' (eq_of_beq this)))⟩
  · cases this
theorem tab44 {w : World} {h : Heap} (X : (Mine.hd.heap_39 w.params).In h) : h.IsList 44 L44_287.toArray := by
  have e : (Mine.hd.heap_39 w.params).lookup 44 = some (o44_2 w.params) := by kernel_rfl
  exact ⟨_, X _ _ e, rfl, _, rfl⟩
end Mine
end
section
open PySem PySem.W PyProof.Rows PySem.Calls PySem.Builtin
set_option Elab.async false
set_option maxRecDepth 100000
set_option maxHeartbeats 4000000
namespace Mine
open PySem.Sre
/-- the pattern's words -/
noncomputable abbrev rxC : Array Nat := #[14, 8, 1, 3, 3, 1, 1, 61, 0, 16, 61, 24, 16, 2, 2, 13, 11, 9, 0, 67043328, 126, 126, 0, 0, 0, 0, 0, 1, 1]
/-- a try at place s -/
noncomputable def tryAt (T : Array Nat) (seen : Sre.Seen) (s : Nat) (o : Bool) : M :=
  { code := rxC, text := T, lim := T.size, start := s, lastStart := T.size, pc := 9, pos := s, handed := s, outermost := o, marks := #[], frames := [{ wait := .nextStart, pc := 9, pos := s, outermost := o }], weight := 1, seen := seen }
/-- it failed there -/
noncomputable def failAt (T : Array Nat) (seen : Sre.Seen) (s : Nat) (o : Bool) : M := { tryAt T seen s o with answer := some false }
theorem try_step {T : Array Nat} {seen : Sre.Seen} {s : Nat} {o : Bool} (h : s < T.size) (hc : T.getD s 0 ≠ 61) : (tryAt T seen s o).step = failAt T (seen.add 16) s o := by
  show (if s ≥ T.size then _ else _) = _
  rw [if_neg (by omega)]
  show (match (Except.ok (T.getD s 0 == 61, seen.add 16) : Except String (Bool × Sre.Seen)) with | .error why => _ | .ok (false, seen) => _ | .ok (true, seen) => _) = _
  rw [beq_false_of_ne hc]
  rfl
theorem fail_step {T : Array Nat} {seen : Sre.Seen} {s : Nat} {o : Bool} (h : s < T.size) : (failAt T seen s o).step = tryAt T seen (s + 1) false := by
  show (if s < T.size then _ else _) = _
  rw [if_pos h]
  rfl
/-- a figure to the base of 16, in either size -/
noncomputable def isHex (c : Nat) : Bool := (decide (48 ≤ c) && decide (c ≤ 57)) || (decide (65 ≤ c) && decide (c ≤ 70)) || (decide (97 ≤ c) && decide (c ≤ 102))
theorem hex_lt {c : Nat} (h : isHex c = true) : c < 103 := by
  unfold isHex at h
  simp only [Bool.or_eq_true, Bool.and_eq_true, decide_eq_true_eq] at h
  omega
theorem hex_bits : ((List.range 103).all fun c => !isHex c || (c < 256 && (rxC.getD (17 + (1 + c / 32)) 0).testBit (c % 32))) = true := by decide +kernel
theorem hex_bit {c : Nat} (h : isHex c = true) : (c < 256 && (rxC.getD (17 + (1 + c / 32)) 0).testBit (c % 32)) = true := by
  have := List.all_eq_true.mp hex_bits c (List.mem_range.mpr (hex_lt h))
  rw [h] at this
  simpa using this
theorem hex_set {c : Nat} {seen : Sre.Seen} (h : isHex c = true) : accepts rxC 15 c seen = .ok (true, seen.add 9) := by
  show (if (c < 256 && (rxC.getD (17 + (1 + c / 32)) 0).testBit (c % 32)) = true then _ else _) = _
  rw [if_pos (hex_bit h)]
  rfl
theorem hex_run {T : Array Nat} {p : Nat} {seen : Sre.Seen} (h1 : isHex (T.getD p 0) = true) (h2 : isHex (T.getD (p + 1) 0) = true) : Sre.run rxC T 15 2 p 0 seen = .ok (2, (seen.add 9).add 9) := by
  unfold Sre.run
  rw [hex_set h1]
  show (do let (yes, seen) ← accepts rxC 15 (T.getD (p + 1) 0) (seen.add 9); if yes then Sre.run rxC T 15 0 (p + 1 + 1) (0 + 1 + 1) seen else pure (0 + 1, seen)) = _
  rw [hex_set h2]
  rfl
noncomputable def esc1 (T : Array Nat) (seen : Sre.Seen) (s : Nat) (o : Bool) : M := { tryAt T (seen.add 16) s o with pc := 11, pos := s + 1 }
theorem esc_step1 {T : Array Nat} {seen : Sre.Seen} {s : Nat} {o : Bool} (h : s < T.size) (hc : T.getD s 0 = 61) : (tryAt T seen s o).step = esc1 T seen s o := by
  show (if s ≥ T.size then _ else _) = _
  rw [if_neg (by omega)]
  show (match (Except.ok (T.getD s 0 == 61, seen.add 16) : Except String (Bool × Sre.Seen)) with | .error why => _ | .ok (false, seen) => _ | .ok (true, seen) => _) = _
  rw [hc]
  rfl
noncomputable def esc2 (T : Array Nat) (seen : Sre.Seen) (s : Nat) (o : Bool) : M :=
  { tryAt T ((((seen.add 16).add 24).add 13 |>.add 9) |>.add 9) s o with pc := 28, pos := s + 3, handed := s + 3, weight := 2, frames := [{ wait := .giveBack, pc := 11, pos := s + 3, outermost := o, count := 2 }, { wait := .nextStart, pc := 9, pos := s, outermost := o }] }
theorem esc_step2 {T : Array Nat} {seen : Sre.Seen} {s : Nat} {o : Bool} (h : s + 3 ≤ T.size) (h1 : isHex (T.getD (s + 1) 0) = true) (h2 : isHex (T.getD (s + 2) 0) = true) : (esc1 T seen s o).step = esc2 T seen s o := by
  show (if ((2 : Nat) : Int) > (T.size : Int) - ((s + 1 : Nat) : Int) then _ else _) = _
  rw [if_neg (by omega)]
  show (match Sre.run rxC T 15 (min 2 ((T.size : Int) - ((s + 1 : Nat) : Int)).toNat) (s + 1) 0 ((((seen.add 16).add 24)).add 13) with | .error why => _ | .ok (n, seen) => _) = _
  rw [show min 2 ((T.size : Int) - ((s + 1 : Nat) : Int)).toNat = 2 by omega, hex_run h1 h2]
  rfl
theorem runFor_succ {n : Nat} {m : M} (h : m.outcome = none) : M.runFor (n + 1) m = M.runFor n m.step := by
  show (if m.outcome.isSome = true then m else M.runFor n m.step) = _
  rw [h]
  rfl
/-- a match is found -/
noncomputable def Found (m : M) (s e : Nat) : Prop := m.outcome = some .matched ∧ m.start = s ∧ m.handed = e ∧ m.lastindex = -1
theorem esc_found {T : Array Nat} {seen : Sre.Seen} {s : Nat} {o : Bool} (h : s + 3 ≤ T.size) (hc : T.getD s 0 = 61) (h1 : isHex (T.getD (s + 1) 0) = true) (h2 : isHex (T.getD (s + 2) 0) = true) : Found (M.runFor 6 (tryAt T seen s o)) s (s + 3) := by
  rw [runFor_succ rfl, esc_step1 (by omega) hc, runFor_succ rfl, esc_step2 h h1 h2]
  cases o <;> exact ⟨rfl, rfl, rfl, rfl⟩
theorem search_esc {T : Array Nat} : ∀ (n s : Nat) (seen : Sre.Seen) (o : Bool), (∀ i, i < n → T.getD (s + i) 0 ≠ 61) → s + n + 3 ≤ T.size → T.getD (s + n) 0 = 61 → isHex (T.getD (s + n + 1) 0) = true → isHex (T.getD (s + n + 2) 0) = true →
    Found (M.runFor (2 * n + 6) (tryAt T seen s o)) (s + n) (s + n + 3)
  | 0, s, seen, o, _, h, hc, h1, h2 => esc_found h hc h1 h2
  | n + 1, s, seen, o, ha, h, hc, h1, h2 => by
    have h0 := ha 0 (by omega)
    rw [Nat.add_zero] at h0
    rw [show 2 * (n + 1) + 6 = 2 * n + 6 + 1 + 1 by omega, runFor_succ rfl, try_step (by omega) h0, runFor_succ rfl, fail_step (by omega)]
    have e : s + (n + 1) = s + 1 + n := by omega
    rw [e] at h hc h1 h2 ⊢
    exact search_esc n (s + 1) _ false (fun i hi => by have := ha (i + 1) (by omega); rwa [show s + (i + 1) = s + 1 + i by omega] at this) h hc h1 h2
theorem end_fail {T : Array Nat} {seen : Sre.Seen} {s : Nat} {o : Bool} (h : s = T.size) : (M.runFor 3 (tryAt T seen s o)).outcome = some .failed := by
  have e1 : (tryAt T seen s o).step = failAt T (seen.add 16) s o := by
    show (if s ≥ T.size then _ else _) = _
    rw [if_pos (by omega)]
    rfl
  have e2 : (failAt T (seen.add 16) s o).step = { failAt T (seen.add 16) s o with frames := [], weight := 0 } := by
    show (if s < T.size then _ else _) = _
    rw [if_neg (by omega)]
    rfl
  rw [runFor_succ rfl, e1, runFor_succ rfl, e2]
  rfl
theorem search_none {T : Array Nat} : ∀ (n s : Nat) (seen : Sre.Seen) (o : Bool), (∀ i, i < n → T.getD (s + i) 0 ≠ 61) → s + n = T.size → (M.runFor (2 * n + 3) (tryAt T seen s o)).outcome = some .failed
  | 0, s, seen, o, _, h => end_fail h
  | n + 1, s, seen, o, ha, h => by
    have h0 := ha 0 (by omega)
    rw [Nat.add_zero] at h0
    rw [show 2 * (n + 1) + 3 = 2 * n + 3 + 1 + 1 by omega, runFor_succ rfl, try_step (by omega) h0, runFor_succ rfl, fail_step (by omega)]
    exact search_none n (s + 1) _ false (fun i hi => by have := ha (i + 1) (by omega); rwa [show s + (i + 1) = s + 1 + i by omega] at this) (by omega)
noncomputable def failNow (T : Array Nat) (p : Nat) : M :=
  { code := rxC, text := T, lim := T.size, start := p, pc := 9, pos := p, handed := p, marks := #[], seen := ({} : Sre.Seen).add 14, answer := some false }
theorem forSearch_eq (T : Array Nat) (p : Nat) : forSearch rxC T 0 p T.size false = if (decide (p > T.size) || decide (T.size - p < 3)) = true then failNow T p else tryAt T (({} : Sre.Seen).add 14) p true := rfl
theorem found_esc {T : Array Nat} {s n : Nat} (ha : ∀ i, i < n → T.getD (s + i) 0 ≠ 61) (h : s + n + 3 ≤ T.size) (hc : T.getD (s + n) 0 = 61) (h1 : isHex (T.getD (s + n + 1) 0) = true) (h2 : isHex (T.getD (s + n + 2) 0) = true) :
    Found (M.runFor (2 * n + 6) (forSearch rxC T 0 s T.size false)) (s + n) (s + n + 3) := by
  rw [forSearch_eq, if_neg (by simp only [Bool.or_eq_true, decide_eq_true_eq]; omega)]
  exact search_esc n s _ true ha h hc h1 h2
theorem found_none {T : Array Nat} {s n : Nat} (ha : ∀ i, i < n → T.getD (s + i) 0 ≠ 61) (h : s + n = T.size) : ∃ k, k ≤ 2 * n + 3 ∧ (M.runFor k (forSearch rxC T 0 s T.size false)).outcome = some .failed := by
  rw [forSearch_eq]
  split
  · exact ⟨1, by omega, rfl⟩
  · exact ⟨_, Nat.le_refl _, search_none n s _ true ha h⟩
/-! the machine's drive -/
theorem runFor_add (a : Nat) : ∀ (b : Nat) (m : M), M.runFor (b + a) m = M.runFor a (M.runFor b m) := by
  have fix : ∀ (a : Nat) (m : M), m.outcome.isSome = true → M.runFor a m = m := fun a m h => by
    cases a with
    | zero => rfl
    | succ a => show (if m.outcome.isSome = true then m else M.runFor a m.step) = _; rw [if_pos h]
  intro b
  induction b with
  | zero => intro m; rw [Nat.zero_add]; rfl
  | succ b ih =>
    intro m
    rw [show b + 1 + a = b + a + 1 by omega]
    show (if m.outcome.isSome = true then m else M.runFor (b + a) m.step) = M.runFor a (if m.outcome.isSome = true then m else M.runFor b m.step)
    split
    · rename_i h
      exact (fix a m h).symm
    · exact ih m.step
theorem runFor_fix {a : Nat} {m : M} (h : m.outcome.isSome = true) : M.runFor a m = m := by
  cases a with
  | zero => rfl
  | succ a => show (if m.outcome.isSome = true then m else M.runFor a m.step) = _; rw [if_pos h]
section
variable {Md : Model} {A : Around} {E : Value → Shared → Prop} {s : Shared}
open PySem.Builtin.Re
theorem drive : ∀ (n k : Nat) (m : M) {Q : M → Shared → Prop}, (M.runFor k m).outcome.isSome = true → k ≤ 4 * n → 1 ≤ n → Q (M.runFor k m) s → wpAny Md A (reDrive n m) Q E s
  | 0, _, _, _, _, _, h, _ => absurd h (by omega)
  | n + 1, k, m, Q, ho, hk, _, h => by
    show wpAny Md A (if (M.runFor reTurnSteps m).outcome.isSome = true then pure (M.runFor reTurnSteps m) else do rule "sre.turn"; reDrive n (M.runFor reTurnSteps m)) Q E s
    by_cases h4 : (M.runFor reTurnSteps m).outcome.isSome = true
    · rw [if_pos h4]
      refine wpAny_pure ?_
      have e : M.runFor reTurnSteps m = M.runFor k m := by
        by_cases hle : k ≤ reTurnSteps
        · rw [show reTurnSteps = k + (reTurnSteps - k) by omega, runFor_add, runFor_fix ho]
        · rw [show k = reTurnSteps + (k - reTurnSteps) by omega, runFor_add, runFor_fix h4]
      rw [e]
      exact h
    · rw [if_neg h4]
      have hle : ¬ k ≤ reTurnSteps := fun hle => h4 (by rw [show reTurnSteps = k + (reTurnSteps - k) by omega, runFor_add, runFor_fix ho]; exact ho)
      have e : M.runFor k m = M.runFor (k - reTurnSteps) (M.runFor reTurnSteps m) := by rw [← runFor_add]; congr 1; omega
      rw [e] at ho h
      have hr : reTurnSteps = 4 := rfl
      exact wpAny_bind (wpAny_rule (drive n (k - reTurnSteps) _ ho (by omega) (by omega) h))
theorem run_found {k : Nat} {m : M} {Q : Option M → Shared → Prop} (ho : (M.runFor k m).outcome = some .matched) (hk : k ≤ 1000) (h : Q (some (M.runFor k m)) s) : wpAny Md A (reRunToEnd m) Q E s := by
  unfold reRunToEnd
  refine wpAny_bind (drive _ k m (by rw [ho]; rfl) (by omega) (by omega) ?_)
  refine wpAny_bind (wpAny_forIn_list _ (fun _ _ s' => s' = s) _ (fun i rest b s₁ e => ?_) (fun b s₁ e => ?_) _ _ rfl)
  · subst e
    (try dsimp only)
    split
    · exact wpAny_bind (wpAny_rule (wpAny_pure rfl))
    · exact wpAny_pure rfl
  · subst e
    (try dsimp only)
    rw [ho]
    exact wpAny_pure h
theorem run_none {k : Nat} {m : M} {Q : Option M → Shared → Prop} (ho : (M.runFor k m).outcome = some .failed) (hk : k ≤ 1000) (h : Q none s) : wpAny Md A (reRunToEnd m) Q E s := by
  unfold reRunToEnd
  refine wpAny_bind (drive _ k m (by rw [ho]; rfl) (by omega) (by omega) ?_)
  refine wpAny_bind (wpAny_forIn_list _ (fun _ _ s' => s' = s) _ (fun i rest b s₁ e => ?_) (fun b s₁ e => ?_) _ _ rfl)
  · subst e
    (try dsimp only)
    split
    · exact wpAny_bind (wpAny_rule (wpAny_pure rfl))
    · exact wpAny_pure rfl
  · subst e
    (try dsimp only)
    rw [ho]
    exact wpAny_pure h
end
end Mine
end
section
open PySem PySem.W PyProof.Rows PySem.Calls PySem.NumText
set_option Elab.async false
set_option maxRecDepth 100000
set_option maxHeartbeats 4000000
namespace Mine
/-- a figure's worth -/
noncomputable def hv (c : Nat) : Nat := (digit? c).getD 0
theorem hv_lt : ((List.range 103).all fun c => !isHex c || decide (hv c < 16)) = true := by decide +kernel
theorem hv_hi {c : Nat} (h : isHex c = true) : hv c < 16 := by
  have := List.all_eq_true.mp hv_lt c (List.mem_range.mpr (hex_lt h))
  rw [h] at this
  simpa using this
noncomputable def ok16 (a b : Nat) : Bool :=
  let t := [a, b].dropWhile blank
  let q := based 16 (sign t).2
  (sign t).1 == false && q.1 == 16 && q.2.1 == false && digits? 16 (q.2.2.reverse.dropWhile blank).reverse == some #[hv a, hv b]
theorem ok16_all : ((List.range 103).all fun a => !isHex a || (List.range 103).all fun b => !isHex b || ok16 a b) = true := by decide +kernel
theorem read16 {a b : Nat} (ha : isHex a = true) (hb : isHex b = true) : (int_private% "readNumeral") 0 16 [a, b] = (int_private% "Numeral.value") (((hv a * 16 + hv b : Nat) : Int)) := by
  have h1 := List.all_eq_true.mp ok16_all a (List.mem_range.mpr (hex_lt ha))
  rw [ha, Bool.not_true, Bool.false_or] at h1
  have h2 := List.all_eq_true.mp h1 b (List.mem_range.mpr (hex_lt hb))
  rw [hb, Bool.not_true, Bool.false_or] at h2
  unfold ok16 at h2
  simp only [Bool.and_eq_true, beq_iff_eq] at h2
  obtain ⟨⟨⟨e1, e2⟩, e3⟩, e4⟩ := h2
  rw [readNumeral_eq, e1, e2, e3, e4]
  show (int_private% "Numeral.value") ((((0 * 16 + hv a) * 16 + hv b : Nat) : Int)) = _
  rw [Nat.zero_mul, Nat.zero_add]
theorem wp_text16 {M : Model} {A : Around} {E : Value → Shared → Prop} {s : Shared} {Q : Value → Shared → Prop} {v : Value} {text : List Nat} {n : Int}
    (hs : (text.takeWhile (· != 0)).length ≤ 640) (hr : (int_private% "readNumeral") 0 16 (text.takeWhile (· != 0)) = (int_private% "Numeral.value") n)
    (ha : ((text.takeWhile (· != 0)).length == text.length) = true) (h : Q (.int n s.toks) { s with toks := s.toks + 1 }) :
    wpAny M A ((int_private% "intFromText") v text 16) Q E s := by
  obtain ⟨hp, g, d, tk, os⟩ := s
  repeat (any_goals (first
    | assumption
    | (with_reducible refine wpAny_ite_true (decide_eq_true hs) ?_)
    | (with_reducible refine wpAny_ite_true (decide_eq_true ha) ?_)
    | wp_step))
  all_goals (try rw [hr])
  all_goals (try dsimp only)
  repeat (any_goals (first
    | assumption
    | (with_reducible refine wpAny_ite_true (decide_eq_true hs) ?_)
    | (with_reducible refine wpAny_ite_true (decide_eq_true ha) ?_)
    | wp_step))
theorem hex_ne {c : Nat} (h : isHex c = true) : (c != 0) = true := by
  unfold isHex at h
  simp only [Bool.or_eq_true, Bool.and_eq_true, decide_eq_true_eq, bne_iff_ne, ne_eq] at h ⊢
  omega
theorem gives16 {a b : Nat} {u v : Tok} (ha : isHex a = true) (hb : isHex b = true) : Gives (Builtin.«int.__new__» ⟨[.type "int", .str ⟨#[a, b]⟩ u, .int 16 v], []⟩) (.int ((hv a * 16 + hv b : Nat) : Int)) :=
  .of_wp fun M A E s Q h => by
    have hs : ([a, b].takeWhile (· != 0)) = [a, b] := by simp [List.takeWhile, hex_ne ha, hex_ne hb]
    have ht : (#[a, b].all (· < 128)) = true := by
      have h1 := hex_lt ha
      have h2 := hex_lt hb
      simp
      omega
    unfold Builtin.«int.__new__»
    refine wpAny_bind (wpAny_of_eq (a := true) rfl ?_)
    refine bm_if_false rfl ?_
    refine wpAny_bind (wpAny_of_eq F.conv_sub_int ?_)
    refine bm_if_false rfl ?_
    refine wpAny_bind (wpAny_of_eq F.madeHere_int ?_)
    refine bm_if_false rfl ?_
    refine wpAny_ite_false rfl ?_
    refine wpAny_bind (wpAny_of_eq (a := ()) rfl ?_)
    dsimp only
    refine wpAny_bind (wpAny_of_eq (a := 16) rfl ?_)
    refine bm_if_false rfl ?_
    refine wpAny_bind (wpAny_of_eq (a := some [a, b]) (by show (pure (some (if (#[a, b].all (· < 128)) = true then [a, b] else Unicode.numberText [a, b])) : Sem (Option (List Nat))) = _; rw [if_pos ht]) ?_)
    dsimp only
    refine wpAny_bind (wp_text16 (by rw [hs]; exact (show 2 ≤ 640 by decide)) (by rw [hs]; exact read16 ha hb) (by rw [hs]; rfl) ?_)
    exact wpAny_pure ⟨_, rfl, h⟩
theorem tc2 (a b : Value) : checkTypeCall "int" ⟨[a, b], []⟩ = pure () := by kernel_rfl
theorem nc2 (a b : Value) : checkBuiltinCall "int.__new__" ⟨[.type "int", a, b], []⟩ = pure () := by kernel_rfl
theorem call16 {prog : Program} {w : World} {A : Around} {E : Value → Shared → Prop} {s : Shared} {Q : Value → Shared → Prop} {a b : Nat} {u v : Tok} (ha : isHex a = true) (hb : isHex b = true) (h : Q (.int ((hv a * 16 + hv b : Nat) : Int) s.toks) { s with toks := s.toks + 1 }) :
    wpAny (model prog w) A (call (.type "int") [.str ⟨#[a, b]⟩ u, .int 16 v]) Q E s :=
  callType_new F.called_int F.newNe_int (tc2 _ _) (nc2 _ _) (fun obj => F.initArgs_range_2 obj _ _) F.entry_int_new (gives16 ha hb).meets (show (Made.int _).post _ s from ⟨rfl, h⟩)
end Mine
end
section
open PySem PySem.W PyProof.Rows PySem.Calls PySem.Builtin
set_option Elab.async false
set_option maxRecDepth 100000
set_option maxHeartbeats 4000000
namespace Mine
theorem plain_match : PlainAttrs "re.Match" :=
  ⟨⟨"object.__getattribute__", by rw [typeLookup_type, builtinLookup_eq_fast]; kernel_rfl, by decide +kernel⟩, by rw [typeLookup_type, builtinLookup_eq_fast]; kernel_rfl⟩
theorem slot_group : Slot "re.Match" "group" "re.Match.group" :=
  .of (owner := "re.Match") (n := "group") (by rw [typeLookup_type, builtinLookup_eq_fast]; kernel_rfl) (by decide +kernel) (by decide +kernel) (by decide +kernel)
    (by first | exact .inl (by decide +kernel) | exact .inr (by decide +kernel)) (by rw [isSubtype_type]; kernel_rfl)
theorem type_group : typeOf (.builtin "re.Match.group") = pure (.type "method_descriptor") := by show builtinType _ = _; rw [builtinType_eq_fast]; kernel_rfl
theorem entry_group : entryFor table "re.Match.group" = some Builtin.«re.Match.group» := entryFor_of_tree (by kernel_rfl)
theorem args_group (a b : Value) : argsOk "re.Match.group" ⟨[a, b], []⟩ := by
  unfold argsOk; kernel_rfl
theorem plain_pattern : PlainAttrs "re.Pattern" :=
  ⟨⟨"object.__getattribute__", by rw [typeLookup_type, builtinLookup_eq_fast]; kernel_rfl, by decide +kernel⟩, by rw [typeLookup_type, builtinLookup_eq_fast]; kernel_rfl⟩
theorem slot_sub : Slot "re.Pattern" "sub" "re.Pattern.sub" :=
  .of (owner := "re.Pattern") (n := "sub") (by rw [typeLookup_type, builtinLookup_eq_fast]; kernel_rfl) (by decide +kernel) (by decide +kernel) (by decide +kernel)
    (by first | exact .inl (by decide +kernel) | exact .inr (by decide +kernel)) (by rw [isSubtype_type]; kernel_rfl)
theorem type_sub : typeOf (.builtin "re.Pattern.sub") = pure (.type "method_descriptor") := by show builtinType _ = _; rw [builtinType_eq_fast]; kernel_rfl
theorem entry_sub : entryFor table "re.Pattern.sub" = some Builtin.«re.Pattern.sub» := entryFor_of_tree (by kernel_rfl)
theorem entry_loop : entryFor table "re.Pattern.sub.loop" = some Builtin.«re.Pattern.sub.loop» := entryFor_of_tree (by kernel_rfl)
theorem plain_loop : plainId "re.Pattern.sub.loop" = true := by decide +kernel
theorem args_sub (a b c : Value) : argsOk "re.Pattern.sub" ⟨[a, b, c], []⟩ := by
  unfold argsOk; kernel_rfl
noncomputable abbrev matchObj (S : PySem.Str) (tS : Tok) (lim : Nat) (tp : Addr) : Obj := { cls := .type "re.Match", data := .fields #[.str S tS, .ref 36, rawInt 0, rawInt lim, rawInt (-1), .ref tp] }
noncomputable abbrev spanObj (st en : Nat) : Obj := { cls := .type "tuple", data := .seq #[rawInt st, rawInt en] }
section
open PySem.Builtin.Re
theorem group_meets {S : PySem.Str} {tS t0 : Tok} {lim st en : Nat} {D tp : Addr} (hz : S.length ≤ 1000) :
    Meets («re.Match.group» ⟨[.ref D, .int 0 t0], []⟩) (fun _ R s => (s.heap.get? D = some (matchObj S tS lim tp) ∧ s.heap.get? tp = some (spanObj st en)) ∧ ∀ t' k, R (.ok (.ret (.str ⟨S.cps.extract st en⟩ t'))) { s with toks := k }) := by
  refine .of_wp fun prog w A R s hS => ?_
  obtain ⟨⟨hD, hp⟩, h⟩ := hS
  unfold «re.Match.group»
  refine wpAny_bind (wpAny_of_eq (a := ()) rfl ?_)
  dsimp only
  refine wpAny_bind ?_
  unfold reFound
  refine wpAny_bind (wpAny_fieldsOf hD rfl ?_)
  refine wpAny_bind ?_
  unfold reRawItems
  refine wpAny_bind (wpAny_seqItems hp rfl ?_)
  refine wpAny_pure (wpAny_pure ?_)
  rw [show ((some #[rawInt st, rawInt en]).getD #[]).map reRawOf = #[(st : Int), (en : Int)] from by simp [reRawOf, rawInt]]
  refine wpAny_bind (wpAny_of_eq (a := 0) (by kernel_rfl) ?_)
  refine wpAny_bind ?_
  unfold reGroupText
  dsimp only
  refine bm_if_false ?_ ?_
  · show (decide ((st : Int) < 0) || decide ((en : Int) < 0)) = false
    rw [decide_eq_false (by omega), decide_eq_false (by omega)]
    rfl
  refine wpAny_bind (wpAny_of_eq (a := (S.cps, 0)) rfl ?_)
  show wpAny _ _ (mkStr ⟨S.cps.extract ((st : Nat) : Int).toNat ((en : Nat) : Int).toNat⟩) _ _ _
  rw [Int.toNat_natCast, Int.toNat_natCast]
  refine wpAny_mkStr (wpAny_pure ⟨_, rfl, h _ _⟩) ?_
  show (S.cps.extract st en).size ≤ sizeLine
  have : S.cps.size ≤ 1000 := hz
  rw [sizeLine_eq, Array.size_extract]
  omega
theorem group_call {prog : Program} {w : World} {A : Around} {E : Value → Shared → Prop} {s : Shared} {Q : Value → Shared → Prop} {S : PySem.Str} {tS t0 : Tok} {lim st en : Nat} {D tp : Addr} (hz : S.length ≤ 1000) (hD : s.heap.get? D = some (matchObj S tS lim tp)) (hp : s.heap.get? tp = some (spanObj st en))
    (h : ∀ t' k, Q (.str ⟨S.cps.extract st en⟩ t') { s with toks := k }) : wpAny (model prog w) A (call (.builtin "re.Match.group") [.ref D, .int 0 t0]) Q E s :=
  call_meets slot_group ⟨_, hD, rfl⟩ entry_group (args_group _ _) (group_meets hz) ⟨⟨hD, hp⟩, h⟩
theorem group_method {M : Model} {A : Around} {E : Value → Shared → Prop} {s : Shared} {D : Addr} {o : Obj} {pl : Sem Bool} {Q : Value × List Value → Shared → Prop} (hD : s.heap.get? D = some o) (hc : o.cls = .type "re.Match") (hd : o.dict = none) (h : Q (.builtin "re.Match.group", [.ref D]) s) : wpAny M A (getMethod (.ref D) "group" pl) Q E s :=
  getMethod_builtin ⟨_, hD, hc⟩ plain_match slot_group type_group (fun a e => by cases e; exact ⟨o, hD, hd⟩) h
theorem sub_method {M : Model} {A : Around} {E : Value → Shared → Prop} {s : Shared} {D : Addr} {o : Obj} {pl : Sem Bool} {Q : Value × List Value → Shared → Prop} (hD : s.heap.get? D = some o) (hc : o.cls = .type "re.Pattern") (hd : o.dict = none) (h : Q (.builtin "re.Pattern.sub", [.ref D]) s) : wpAny M A (getMethod (.ref D) "sub" pl) Q E s :=
  getMethod_builtin ⟨_, hD, hc⟩ plain_pattern slot_sub type_sub (fun a e => by cases e; exact ⟨o, hD, hd⟩) h
end
end Mine
end
section
open PySem PySem.W PyProof.Rows
set_option Elab.async false
set_option maxRecDepth 100000
set_option maxHeartbeats 4000000
open Mine
theorem Mine.c_octet (w : World) (mean : ExcName → Option Value) (mg mb : Str → Option Value) (x : Int) (tx : Tok) (news : List (Addr × Obj)) :
    Ctr w mean mg mb 1 107 [.int x tx] news (fun r tl => tl = [] ∧ ∃ t, r = .int (octI x) t) := by
  w_top off
  unfold Ctr
  k_fill
  intro dp un gd cn cs a ccd cl outer A₀ base h₀ L m s Q E B F X Nw T hk hd hu hret
  refine wpAny_call ?_
  k_dflt ktr_enter
  k_steps
  all_goals (refine hret _ [] _ _ (by k_asm) (by k_asm) ⟨rfl, ktn_int ?_⟩)
  all_goals (clear hret)
  all_goals (unfold octI)
  all_goals (first | (rw [if_pos (by assumption)]; done) | (rw [if_neg (by assumption), if_pos (by assumption)]; rfl) | (rw [if_neg (by assumption), if_neg (by assumption)]; done))
end
section
open PySem PySem.W PyProof.Rows
set_option Elab.async false
set_option maxRecDepth 100000
set_option maxHeartbeats 4000000
open Mine
theorem Mine.c_written (w : World) (mean : ExcName → Option Value) (mg mb : Str → Option Value) (o : Int) (to : Tok) (h0 : 0 ≤ o) (h1 : o < 256) (news : List (Addr × Obj)) :
    Ctr w mean mg mb 1 114 [.int o to] news (fun r tl => tl = [] ∧ ∃ t, r = .str (wrS o) t) := by
  w_top off
  unfold Ctr
  k_fill
  intro dp un gd cn cs a ccd cl outer A₀ base h₀ L m s Q E B F X Nw T hk hd hu hret
  refine wpAny_call ?_
  k_dflt ktr_enter
  k_steps
  all_goals (refine hret _ [] _ _ (by k_asm) (by k_asm) ⟨rfl, strT ?_⟩)
  all_goals (clear hret; unfold wrS)
  · rw [if_pos (by assumption)]
  · rw [if_neg (by assumption), if_neg (by simp only [Bool.not_eq_false]; assumption)]
  · rw [if_neg (by assumption), if_pos (by assumption)]
theorem Mine.c_sub (w : World) (mean : ExcName → Option Value) (mg mb : Str → Option Value) (x y : Str) (tx ty : Tok) (hx : x.length ≤ 1) (hy : y.length ≤ 1) (news : List (Addr × Obj)) :
    Ctr w mean mg mb 1 93 [.str x tx, .str y ty] news (fun r tl => tl = [] ∧ ∃ t, r = .int (subF x y) t) := by
  w_top off
  unfold Ctr
  k_fill
  intro dp un gd cn cs a ccd cl outer A₀ base h₀ L m s Q E B F X Nw T hk hd hu hret
  refine wpAny_call ?_
  k_dflt ktr_enter
  k_steps
  all_goals (refine hret _ [] _ _ (by k_asm) (by k_asm) ⟨rfl, ktn_int ?_⟩)
  all_goals (clear hret; unfold subF)
  · rw [if_pos (by assumption)]
  · rw [if_neg (by rw [show (x == y) = false by assumption]; decide), if_pos (by assumption)]
  · rw [if_neg (by rw [show (x == y) = false by assumption]; decide), if_neg (by rw [show (Txt.lower x == Txt.lower y) = false by assumption]; decide)]
end
section
open PySem PySem.W PyProof.Rows
set_option Elab.async false
set_option maxRecDepth 100000
set_option maxHeartbeats 4000000
open Mine
local macro_rules | `(tactic| k_steps) => `(tactic| repeat' ((fail_if_success (with_reducible show wpAny _ _ (pyIter (Value.ref _)) _ _ _)); (fail_if_success (with_reducible show InvEndN _ _ _ _ _ _ _)); first | (k_unfold; (try dsimp only)) | (k_end; wrow_close) | walk1 | (dsimp only; walk1) | (leave1; walk_say "STEP leave1"; try dsimp only) | fail "no step"))
theorem Mine.c_price (w : World) (mean : ExcName → Option Value) (mg mb : Str → Option Value) (x y : Str) (tx ty : Tok) (hx : x.length ≤ 40) (hy : y.length = x.length) (news : List (Addr × Obj)) :
    Ctr w mean mg mb 1 133 [.str x tx, .str y ty] news (fun r tl => tl = [] ∧ ∃ t, r = .int (priceF x y x.length) t) := by
  w_top off
  unfold Ctr
  k_fill
  intro dp un gd cn cs a ccd cl outer A₀ base h₀ L m s Q E B F X Nw T hk hd hu hret
  refine wpAny_call ?_
  k_with "state" => first
    | exact rfl
    | exact price_turn hy kInv kEq kLt (by first
      | exact pr1Z_1a (by assumption) (by assumption) (by assumption)
      | exact pr1Z_1b (by assumption) (by assumption) (by assumption) (by assumption)
      | exact pr1Z_2a (by assumption) (by assumption) (by assumption)
      | exact pr1Z_2b (by assumption) (by assumption) (by assumption)
      | exact pr1Z_2c (by assumption) (by assumption)
      | exact pr1Z_2d (by assumption) (by assumption) (by assumption)
      | exact pr1Z_2e (by assumption) (by assumption))
    | exact price_turn0 hy kInv kEq kLt (pr1Z_0 (by assumption) (by assumption))
  k_dflt ktr_enter
  k_steps
  k_state (fun pre p => p = priceF x y pre.length) "price"
  · k_steps
    all_goals kst_close
  · k_steps
    refine hret _ [] _ _ (by k_asm) (by k_asm) ⟨rfl, ktn_int ?_⟩
    rw [kInv, rangeKs_length]
    congr 1
end
section
open PySem PySem.W PyProof.Rows
set_option Elab.async false
set_option maxRecDepth 100000
set_option maxHeartbeats 0
open Mine
local macro_rules | `(tactic| k_steps) => `(tactic| repeat' ((fail_if_success (with_reducible show wpAny _ _ (pyIter (Value.ref _)) _ _ _)); (fail_if_success (with_reducible show InvEndN _ _ _ _ _ _ _)); (fail_if_success (with_reducible show wpAny _ _ (exec (Stmt.While _ _ _ _) _) _ _ _)); (fail_if_success (with_reducible show KswEnd _ _ _ _ _ _ _ _ _ _ _ _)); (fail_if_success (with_reducible show wpAny _ _ (exec (Stmt.Assign [_] (Expr.Subscript _ (Expr.Slice none _ _ _) _) _) _) _ _ _)); first | (k_unfold; (try dsimp only)) | (k_end; wrow_close) | walk1 | (dsimp only; walk1) | (leave1; walk_say "STEP leave1"; try dsimp only) | fail "no step"))
local macro_rules | `(tactic| walk_at "subscriptTail Name Slice str ref") => `(tactic| ((with_reducible show wpAny _ _ (subscriptTail _ (Expr.Slice none (some _) none _) _ _) _ _ _); (with_reducible rename Fr _ _ _ _ => F'); (with_reducible rename News _ _ _ _ => N'); (refine Mine.slice_none (hsz := ?hsz) (s := ⟨_, _, _, _, _⟩) F' N' ?_); (case hsz => size_fits); intro _ _ _ _ _))
local macro_rules | `(tactic| walk_at "call ref") => `(tactic| (k_here; (with_reducible show wpAny _ _ (call (Value.ref 93) _) _ _ _); k_dflt (refine' Ctr.use (Mine.c_sub _ _ _ _ _ _ _ _ ?hx ?hy _) ?k1 ?k2 ?k3 ?k4 ?k5 ?kK ?kd ?ku ?_; (case hx => exact Nat.le_of_eq (len_item _ _)); (case hy => exact Nat.le_of_eq (len_item _ _)); (case k1 => k_asm); (case k2 => k_asm); (case k3 => k_asm); (case k4 => k_asm); (case k5 => k_asm); (case kK => first | exact rfl | assumption); (case kd => ktr_room); (case ku => ktr_units)); intro r9 tl9 h' tk' F' N' ho9; (try dsimp only at ho9); (obtain ⟨e1, t9, e2⟩ := ho9); (subst e1); (subst e2); (try simp only [List.nil_append] at N'); (try dsimp only); (try k_fold); (try k_sweep)))
local macro_rules | `(tactic| walk_at "call type:list") => `(tactic| (k_here; (with_reducible show wpAny _ _ (call (Value.type _) [Value.ref _]) _ _ _); (rename IsRange _ _ _ _ _ _ _ _ => rgX); (with_unfolding_all refine' Mine.row_list ?k0 ?k1 ?k2 ?k3 ?k4 ?k5 ?_; (case k0 => rfl); (case k1 => k_asm); (case k2 => k_asm); (case k3 => first | exact rgX | assumption); (case k4 => rfl); (case k5 => omega); k_whole); intro D' vs' c' h' tk' F' N' l1 hI'; (try k_lt l1); (try k_sweep)))
local macro_rules | `(tactic| kst_in) => `(tactic| ((try dsimp only); (refine List.forall_mem_cons.mpr ⟨?inA, fun p9 h9 => List.Mem.tail _ ?inB⟩); (case inA => with_unfolding_all exact List.Mem.head _); (case inB => with_unfolding_all first | exact List.mem_append.mpr (.inl h9) | exact h9)))
theorem Mine.c_lev (w : World) (mean : ExcName → Option Value) (mg mb : Str → Option Value) (x y : Str) (tx ty t4 : Tok) (hx : x.length ≤ 40) (hy : y.length = x.length) (h4 : byPlace x y x.length ≤ 4) (news : List (Addr × Obj)) :
    Ctr w mean mg mb 3 100 [.str x tx, .str y ty, .int 4 t4] news (fun r tl => tl = [] ∧ ∃ t, r = .int (byPlace x y x.length) t) := by
  w_top off
  unfold Ctr
  k_fill
  intro dp un gd cn cs a ccd cl outer A₀ base h₀ L m s Q E B F X Nw T hk hd hu hret
  refine wpAny_call ?_
  k_dflt ktr_enter
  k_steps
  · exact hret _ [] _ _ (by k_asm) (by k_asm) ⟨rfl, ktn_int (lev_same (by assumption))⟩
  refine join_next (by assumption) (by assumption) (Str.ofString "pre") (fun p => 0 ≤ p ∧ p ≤ x.length ∧ ∀ k, k < p.toNat → cpN x k = cpN y k) ?_ ?_
  · k_with "state" => first | exact pre_start | exact pre_step hy (by assumption) (by omega) (by assumption) (by assumption)
    k_while (fun _ p => 0 ≤ p ∧ p ≤ x.length ∧ ∀ k, k < p.toNat → cpN x k = cpN y k) (fun _ p => x.length - p.toNat) "pre"
    k_steps
    · ksw_close
    all_goals exact join_at (by assumption) (by assumption) ⟨by assumption, by assumption, by assumption⟩
  · intro p tp h' tk hP F' N'
    (try k_fold)
    obtain ⟨hP0, hP1, hPk⟩ := hP
    have hA := byPlace_from hy hP0 hP1 hPk
    k_steps
    generalize Txt.slice x (some p) none = a' at *
    generalize Txt.slice y (some p) none = b' at *
    obtain ⟨hA1, hA2, hA3⟩ := hA
    clear hP0 hP1 hPk
    refine join_next (by assumption) (by assumption) (Str.ofString "post") (fun q => q ≤ 0 ∧ -(a'.length : Int) ≤ q ∧ ∀ k, k < a'.length → (a'.length : Int) + q ≤ k → cpN a' k = cpN b' k) ?_ ?_
    · k_with "state" => first | exact post_start | exact post_step hA2 (by omega) (by omega) (by assumption) (by assumption)
      k_while (fun _ q => q ≤ 0 ∧ -(a'.length : Int) ≤ q ∧ ∀ k, k < a'.length → (a'.length : Int) + q ≤ k → cpN a' k = cpN b' k) (fun _ q => (a'.length + q).toNat) "post"
      rename (_ ≤ (0 : Int)) => hq0
      rcases Int.lt_or_eq_of_le hq0 with hq | hq
      · have hne := bne_of_lt hq
        have hLa := (slice_upto_neg hq (x := a') (by assumption)).1
        have hLb := (slice_upto_neg hq (x := b') (by omega)).1
        k_steps
        · ksw_close
        all_goals exact join_at (by assumption) (by assumption) ⟨by assumption, by assumption, by assumption⟩
      · subst hq
        k_steps
        · ksw_close
        all_goals exact join_at (by assumption) (by assumption) ⟨by assumption, by assumption, by assumption⟩
    · intro q tq h' tk hP F' N'
      (try k_fold)
      obtain ⟨hP0, hP1, hPk⟩ := hP
      have hC := byPlace_cut hA2 hP0 hP1 hPk
      k_steps
      refine joinv_next (by assumption) (by assumption) (Str.ofString "a") (fun v => ∃ t, v = .str (cutTo a' q) t) ?_ ?_
      · rcases Int.lt_or_eq_of_le hP0 with hq | hq
        · have hne := bne_of_lt hq
          walk1
          k_steps
          exact joinv_at (by assumption) (by assumption) ⟨_, by rw [cutTo_neg _ hq]⟩
        · subst hq
          walk1
          k_steps
          exact joinv_at (by assumption) (by assumption) ⟨_, by rw [cutTo_zero]⟩
      rintro _ h' tk ⟨ta, rfl⟩ F' N'
      (try k_fold)
      k_steps
      refine joinv_next (by assumption) (by assumption) (Str.ofString "b") (fun v => ∃ t, v = .str (cutTo b' q) t) ?_ ?_
      · rcases Int.lt_or_eq_of_le hP0 with hq | hq
        · have hne := bne_of_lt hq
          walk1
          k_steps
          exact joinv_at (by assumption) (by assumption) ⟨_, by rw [cutTo_neg _ hq]⟩
        · subst hq
          walk1
          k_steps
          exact joinv_at (by assumption) (by assumption) ⟨_, by rw [cutTo_zero]⟩
      rintro _ h' tk ⟨tb, rfl⟩ F' N'
      (try k_fold)
      obtain ⟨hC1, hC2, hC3⟩ := hC
      generalize cutTo a' q = a'' at *
      generalize cutTo b' q = b'' at *
      clear hP0 hP1 hPk
      k_with "state" => exact rows_start (by omega)
      k_steps
      · k_state (fun pre res (row : List Int) => row.length = a''.length ∧ RowOk (byPlace a'' b'') a''.length pre.length row ∧ (pre.length = a''.length → (byPlace a'' b'' a''.length ≤ res ∨ 4 ≤ res) ∧ res ≤ byPlace a'' b'' a''.length)) "result" "row"
        · k_steps
          rename List Int => oPre
          rename (kN = 0 + (oPre.length : Int)) => oEq
          rename (oPre.length < _) => oLt
          generalize kN = kO at *
          rename (RowOk _ _ oPre.length _) => oRow
          k_with "state" => first | exact in_begin oRow oEq (by assumption)
          k_state (fun pre d r mn (row : List Int) => row.length = a''.length ∧ InOk (byPlace a'' b'') a''.length oPre.length pre.length row d r mn) "distance" "result" "minimum" "row"
          · k_steps
            · k_with "state" => exact in_turnA (in_turn hC2 oEq oLt kEq kLt (by assumption) rfl) (by assumption)
              kst_close
            · k_with "state" => exact in_turnB (in_turn hC2 oEq oLt kEq kLt (by assumption) rfl) (by assumption)
              kst_close
          · rename (InOk _ _ _ _ _ _ _ _) => hI
            have hm4 := (in_done (kO := kO) hC2 (by omega) oLt (rangeKs_length _ _) (by assumption) hI).1
            k_with "state" => exact (in_done hC2 (by omega) oLt (rangeKs_length _ _) (by assumption) hI).2
            k_steps
            all_goals kst_close
        · k_steps
          refine hret _ [] _ _ (by k_asm) (by first | k_asm | exact cb_drop (by assumption) (fun p hp => List.Mem.tail _ hp)) ⟨rfl, ktn_int ?_⟩
          exact lev_end hA3 hC3 h4 hC2 (rangeKs_length _ _) (by assumption)
      all_goals (refine hret _ [] _ _ (by k_asm) (by k_asm) ⟨rfl, ktn_int ?_⟩)
      all_goals (rw [hA3, hC3, show a''.length = 0 by omega, show b''.length = 0 by omega]; rfl)
end
section
open PySem PySem.W PyProof.Rows
set_option Elab.async false
set_option maxRecDepth 100000
set_option maxHeartbeats 0
open Mine
namespace Mine
noncomputable abbrev s22 : Str := Str.ofString "0123456789ABCDEFabcdef"
noncomputable abbrev s69 : Str := Str.ofString "ABCDEFGHIJKLMNOPQRSTUVWXYZabcdefghijklmnopqrstuvwxyz0123456789-!*+/_ "
noncomputable def slipU (u : Str) (turn number : Int) : Str :=
  if u.length = 3 then (if turn.fmod 2 = 0 then Str.ofString "=" ++ Txt.item s22 (number.fmod 22) ++ Txt.item u 2 else Str.ofString "=" ++ Txt.item u 1 ++ Txt.item s22 (number.fmod 22)) else Txt.item s69 (number.fmod 69)
noncomputable def slipF (us : List Str) (place number : Int) : List Str :=
  us.take (place.fmod us.length).toNat ++ [slipU (us.getD (place.fmod us.length).toNat Str.empty) (place.fdiv us.length) number] ++ us.drop ((place.fmod us.length) + 1).toNat
theorem slip_strs {vs : List Value} {us : List Str} {place number : Int} {u : Str} {t : Tok} (hus : StrsAre vs us) (hu : u = slipU (us.getD (place.fmod us.length).toNat Str.empty) (place.fdiv us.length) number) :
    StrsAre (vs.take (place.fmod us.length).toNat ++ [.str u t] ++ vs.drop ((place.fmod us.length) + 1).toNat) (slipF us place number) := by
  subst hu
  exact .append' (.append' (hus.take' _) (.cons _ _ .nil)) (hus.drop' _)
end Mine
local macro_rules | `(tactic| walk_at "subscriptTail Name Name ref int") => `(tactic| (k_here; (with_reducible show wpAny _ _ (subscriptTail _ _ (Value.ref _) (Value.int _ _)) _ _ _); (with_unfolding_all refine' Mine.strs_item ?k1 ?k2 ?k3 ?k4 ?k5 ?k7 ?_ ?k6; (case k7 => assumption); (case k1 => kmk_list); (case k2 => assumption); (case k3 => first | omega | l_idx); (case k4 => first | omega | l_idx); (case k5 => first | omega | l_idx); (case k6 => with_unfolding_all rfl); k_whole); intro _ _))
local macro_rules | `(tactic| walk_at "subscriptTail Name Slice ref ref") => `(tactic| (k_here; (with_reducible show wpAny _ _ (subscriptTail _ (PySem.Expr.Slice none (some _) none _) (Value.ref _) (Value.ref _)) _ _ _); k_dflt (refine' Mine.list_to ?F ?N ?l ?y ?z ?_ ?s ?t; (case F => k_asm); (case N => k_asm); (case l => kmk_list); (case y => first | omega | l_idx); (case z => omega); (case s => with_unfolding_all rfl); (case t => kmk_pure)); intro D' h' F' N' l1; (try k_lt l1); (try k_sweep)))
local macro_rules | `(tactic| walk_at "subscriptTail Name Slice ref ref") => `(tactic| (k_here; (with_reducible show wpAny _ _ (subscriptTail _ (PySem.Expr.Slice (some _) none none _) (Value.ref _) (Value.ref _)) _ _ _); k_dflt (refine' Mine.list_from ?F ?N ?l ?y ?z ?_ ?s ?t; (case F => k_asm); (case N => k_asm); (case l => kmk_list); (case y => first | omega | l_idx); (case z => omega); (case s => with_unfolding_all rfl); (case t => kmk_pure)); intro D' h' F' N' l1; (try k_lt l1); (try k_sweep)))
local macro_rules | `(tactic| walk_at "binaryOp Add ref ref") => `(tactic| (k_here; (with_reducible show wpAny _ _ (binaryOp _ (Value.ref _) (Value.ref _)) _ _ _); k_dflt (refine' Mine.list_add ?F ?N ?a ?b ?z ?_; (case F => k_asm); (case N => k_asm); (case a => kmk_list); (case b => kmk_list); (case z => ((simp only [List.length_append, List.length_take, List.length_drop, List.length_cons, List.length_nil]); omega))); intro D' h' F' N' l1; (try k_lt l1); (try k_sweep)))
theorem Mine.c_slip (w : World) (mean : ExcName → Option Value) (mg mb : Str → Option Value) (l : Addr) (c : Nat) (vs : List Value) (us : List Str) (hus : StrsAre vs us) (h1 : 1 ≤ us.length) (h6 : us.length ≤ 6) (h3 : ∀ u ∈ us, u.length ≤ 3) (place number : Int) (tp tn : Tok) (news : List (Addr × Obj)) :
    Ctr w mean mg mb 1 121 [.ref l, .int place tp, .int number tn] ((l, listOf vs.toArray c) :: news) (fun r tl => ∃ D vs' c', tl = [(D, listOf vs'.toArray c')] ∧ r = .ref D ∧ StrsAre vs' (slipF us place number)) := by
  w_top off
  unfold Ctr
  k_fill
  intro dp un gd cn cs a ccd cl outer A₀ base h₀ L m s Q E B F X Nw T hk hd hu hret
  refine wpAny_call ?_
  have hlen := hus.length
  have hw0 := Int.fmod_nonneg_of_pos place (show (0 : Int) < us.length by omega)
  have hw1 := Int.fmod_lt_of_pos place (show (0 : Int) < us.length by omega)
  k_dflt ktr_enter
  k_steps
  all_goals (with_reducible rename News _ _ _ _ => nN)
  all_goals (refine ret_made hret (by k_asm) nN (by intro p hp; simp only [List.mem_cons] at hp ⊢; rcases hp with hp | hp <;> simp [hp]) ⟨_, _, _, rfl, rfl, slip_strs (by assumption) ?_⟩)
  all_goals (unfold slipU)
  · rw [if_pos (by omega), if_pos (by assumption)]
  · rw [if_pos (by omega), if_neg (by assumption)]
  · rw [if_neg (by omega)]
end
section
open PySem PySem.W PyProof.Rows
set_option Elab.async false
set_option maxRecDepth 100000
set_option maxHeartbeats 0
open Mine
namespace Mine
noncomputable abbrev s16 : Str := Str.ofString "0123456789abcdef"
noncomputable def hexF (c : Nat) : Int := Txt.find s16 (Txt.lower ⟨#[c]⟩)
noncomputable def readF (u : Str) : Str := if u.length = 3 then ⟨#[(16 * hexF (cpN u 1) + hexF (cpN u 2)).toNat]⟩ else if (u == Str.ofString "_") = true then Str.ofString " " else u
theorem slice1 {u : Str} (h : u.length = 3) : Txt.slice u (some 1) none = ⟨#[cpN u 1, cpN u 2]⟩ := by
  have e := eq_of_beq (PyProof.Rows.slice_closes_fromL (x := u) (i := 1) (by decide) (by omega) rfl)
  have hl : u.cps.toList.length = 3 := by rw [← h]; simp [Str.length]
  rw [e]
  match hq : u.cps.toList with
  | [a, b, c] =>
    have e1 : cpN u 1 = b := by rw [cpN_list, hq]; rfl
    have e2 : cpN u 2 = c := by rw [cpN_list, hq]; rfl
    rw [e1, e2, h]
    rfl
  | [] => rw [hq] at hl; cases hl
  | [_] => rw [hq] at hl; cases hl
  | [_, _] => rw [hq] at hl; cases hl
  | _ :: _ :: _ :: _ :: _ => rw [hq] at hl; simp at hl
end Mine
local macro_rules | `(tactic| k_steps) => `(tactic| repeat' ((fail_if_success (with_reducible show wpAny _ _ (exec (Stmt.Assign [_] (Expr.ListComp _ _ _ _) _) _) _ _ _)); (fail_if_success (with_reducible show Mine.SrcText _ _ _ _ _ _ _ _ _ _ _ _ _ _)); (fail_if_success (with_reducible show LCg.CompEnd _ _ _ _ _ _ _ _ _ _ _ _ _ _)); first | (k_unfold; (try dsimp only)) | (k_end; wrow_close) | walk1 | (dsimp only; walk1) | (leave1; walk_say "STEP leave1"; try dsimp only) | fail "no step"))
theorem Mine.c_read (w : World) (mean : ExcName → Option Value) (mg mb : Str → Option Value) (u : Str) (tu : Tok) (h3 : u.length ≤ 3) (hr : u.length = 3 → (0 ≤ hexF (cpN u 1) ∧ hexF (cpN u 1) ≤ 15) ∧ 0 ≤ hexF (cpN u 2) ∧ hexF (cpN u 2) ≤ 15) (news : List (Addr × Obj)) :
    Ctr w mean mg mb 3 126 [.str u tu] news (fun r tl => tl = [] ∧ ∃ t, r = .str (readF u) t) := by
  w_top off
  unfold Ctr
  k_fill
  intro dp un gd cn cs a ccd cl outer A₀ base h₀ L m s Q E B F X Nw T hk hd hu hret
  refine wpAny_call ?_
  k_dflt ktr_enter
  k_steps
  · have hu3 : u.length = 3 := by omega
    k_dflt (refine Mine.assign_comp_text (by k_asm) (by rfl) (by rfl) (by with_unfolding_all rfl) (by decide) (by rfl) (by decide) (by rfl) (by rfl) (by rfl) ?_)
    k_steps
    rw [slice1 hu3]
    refine SrcText.intro (by rfl) (by k_asm) (by k_asm) (show 2 ≤ 1000 by decide) (fun c v => ∃ t, v = .int (hexF c) t) ?_ ?_
    · intro g' c' v' I' oI' C' oC' D' m' ys' h' tk' E' hc' hv' hC' hx' F' N' off' _
      obtain ⟨t', rfl⟩ := hv'
      have hsg : (⟨#[c']⟩ : Str).length ≤ 1 := Nat.le_refl _
      k_steps
      k_unfold
      exact ⟨_, _, _, rfl, by k_asm, by k_asm, by assumption, trivial, rfl, _, rfl⟩
    · intro g' ys' hys'
      have hI : IntsAre ys' [hexF (cpN u 1), hexF (cpN u 2)] := AllR.ints hys'
      obtain ⟨⟨a1, a2⟩, a3, a4⟩ := hr hu3
      have b1 : 0 ≤ 16 * [hexF (cpN u 1), hexF (cpN u 2)].getD (Int.toNat 0) 0 + [hexF (cpN u 1), hexF (cpN u 2)].getD (Int.toNat 1) 0 := show 0 ≤ 16 * hexF (cpN u 1) + hexF (cpN u 2) by omega
      have b2 : 16 * [hexF (cpN u 1), hexF (cpN u 2)].getD (Int.toNat 0) 0 + [hexF (cpN u 1), hexF (cpN u 2)].getD (Int.toNat 1) 0 ≤ 255 := show 16 * hexF (cpN u 1) + hexF (cpN u 2) ≤ 255 by omega
      clear hys'
      k_steps
      exact hret _ [] _ _ (by k_asm) (by first | k_asm | exact cb_drop (by assumption) (fun p hp => List.Mem.tail _ hp)) ⟨rfl, strT (by unfold readF; rw [if_pos hu3]; rfl)⟩
  · exact hret _ [] _ _ (by k_asm) (by k_asm) ⟨rfl, strT (by unfold readF; rw [if_neg (by omega), if_pos (by assumption)])⟩
  · exact hret _ [] _ _ (by k_asm) (by k_asm) ⟨rfl, strT (by unfold readF; rw [if_neg (by omega), if_neg (by rw [show (u == Str.ofString "_") = false by assumption]; decide)])⟩
end
section
open PySem PySem.W PyProof.Rows
set_option Elab.async false
set_option maxRecDepth 100000
set_option maxHeartbeats 0
open Mine
namespace Mine
noncomputable def encB (bs : List UInt8) : Str := ⟨((bs.map UInt8.toNat).flatMap fun c => (hdrG c).cps.toList).toArray⟩
end Mine
local macro_rules | `(tactic| walk_at "call builtin:bytes.decode") => `(tactic| (k_here; (with_reducible show wpAny _ _ (call (Value.builtin "bytes.decode") [Value.bytes _ _, Value.str _ _]) _ _ _); (refine Mine.lat_decode (by assumption) (by omega) ?_); intro _ _))
local macro_rules | `(tactic| walk_at "call builtin:str.translate") => `(tactic| (k_here; (with_reducible show wpAny _ _ (call (Value.builtin "str.translate") [Value.str _ _, Value.ref _]) _ _ _); (refine Mine.tr_call (Mine.tab44 (Frag.In.keeps (by k_asm) (Fr.keep (by k_asm)))) (by assumption) Mine.hdr_at Mine.hdrG_len (by assumption) (by assumption) ?_); intro _ _ _))
local macro_rules | `(tactic| walk_at "getMethod str") => `(tactic| (k_here; with_reducible refine Mine.tr_method ?_))
theorem Mine.c_henc (w : World) (mean : ExcName → Option Value) (mg mb : Str → Option Value) (bs : List UInt8) (tb tx : Tok) (h0 : bs ≠ []) (h6 : bs.length ≤ 6) (news : List (Addr × Obj)) :
    Ctr w mean mg mb 3 67 [.bytes bs.toArray tb, .str (Str.ofString "x") tx] news (fun r tl => tl = [] ∧ ∃ t, r = .str (Str.ofString "=?x?q?" ++ encB bs ++ Str.ofString "?=") t) := by
  w_top off
  unfold Ctr
  k_fill
  intro dp un gd cn cs a ccd cl outer A₀ base h₀ L m s Q E B F X Nw T hk hd hu hret
  refine wpAny_call ?_
  have g1 : bs.map UInt8.toNat ≠ [] := by simpa using h0
  have g2 : (bs.map UInt8.toNat).length ≤ 6 := by rw [List.length_map]; exact h6
  have g3 : ∀ c ∈ bs.map UInt8.toNat, c < 256 := by
    intro c hc
    obtain ⟨u, _, rfl⟩ := List.mem_map.mp hc
    exact u.toNat_lt
  have g4 : (bs.toArray.size : Int) ≠ 0 := by rw [List.size_toArray]; intro e; exact h0 (List.length_eq_zero_iff.mp (by omega))
  k_dflt (refine' code_def ?k1 ?k2 ?k3 ?k4 ?k5 ?kA ?kF ?kK ?k6 ?k7 ?k8 ?k9 ?kB ?_ ?c2 ?c3 ?c4 ?c5; (case kA => exact rfl); (case kF => exact rfl); (case kK => assumption); (case k1 => k_asm); (case k2 => k_asm); (case k3 => k_asm); (case k4 => k_asm); (case k5 => k_asm); (case k6 => k_is); (case k7 => k_is); (case k8 => ktr_room); (case k9 => exact binds_K (by k_in) rfl (by k_is) rfl rfl rfl); (case c5 => decide); (case kB => exact locs rfl); (case c2 => exact rfl); (case c3 => exact rfl); (case c4 => exact rfl); k_whole)
  intro g' L' h' FG' F' N' B' X' T'
  (try dsimp only)
  (try k_fold)
  k_steps
  · refine hret _ [] _ _ (by k_asm) (by k_asm) ⟨rfl, strT ?_⟩
    rw [show Str.empty ++ Str.ofString "=?" ++ Str.ofString "x" ++ Str.ofString "?q?" = Str.ofString "=?x?q?" from by decide +kernel]
    rfl
  all_goals exact absurd (by assumption) g4
end
section
open PySem PySem.W PyProof.Rows
set_option Elab.async false
set_option maxRecDepth 100000
set_option maxHeartbeats 0
open Mine
theorem Mine.slice13 (a b : Nat) : Txt.slice ⟨#[61, a, b]⟩ (some 1) (some 3) = ⟨#[a, b]⟩ :=
  eq_of_beq (PyProof.Rows.slice_closesL (x := ⟨#[61, a, b]⟩) (i := 1) (j := 3) (by decide) (by decide) (show (3 : Int) ≤ ((3 : Nat) : Int) by decide))
theorem Mine.c_unq (w : World) (mean : ExcName → Option Value) (mg mb : Str → Option Value) (a b : Nat) (ha : isHex a = true) (hb : isHex b = true) (tu : Tok) (news : List (Addr × Obj)) :
    Ctr w mean mg mb 1 59 [.str ⟨#[61, a, b]⟩ tu] news (fun r tl => tl = [] ∧ ∃ t, r = .str ⟨#[hv a * 16 + hv b]⟩ t) := by
  w_top off
  unfold Ctr
  k_fill
  intro dp un gd cn cs ad ccd cl outer A₀ base h₀ L m s Q E B F X Nw T hk hd hu hret
  refine wpAny_call ?_
  have hl : (⟨#[61, a, b]⟩ : Str).length = 3 := rfl
  have x1 := hv_hi ha
  have x2 := hv_hi hb
  have b1 : 0 ≤ ((hv a * 16 + hv b : Nat) : Int) := by omega
  have b2 : ((hv a * 16 + hv b : Nat) : Int) ≤ 1114111 := by omega
  k_dflt ktr_enter
  k_steps
  rw [slice13]
  refine call16 ha hb ?_
  k_steps
  exact hret _ [] _ _ (by k_asm) (by k_asm) ⟨rfl, strT (by rw [Int.toNat_natCast])⟩
end
section
open PySem PySem.W PyProof.Rows
set_option Elab.async false
set_option maxRecDepth 100000
set_option maxHeartbeats 0
open Mine
local macro_rules | `(tactic| k_steps) => `(tactic| repeat' ((fail_if_success (with_reducible show wpAny _ _ (getMethod (Value.ref _) _ _) _ _ _)); (fail_if_success (with_reducible show wpAny _ _ (call (Value.ref _) _) _ _ _)); first | (k_unfold; (try dsimp only)) | (k_end; wrow_close) | walk1 | (dsimp only; walk1) | (leave1; walk_say "STEP leave1"; try dsimp only) | fail "no step"))
theorem Mine.c_unqm (w : World) (mean : ExcName → Option Value) (mg mb : Str → Option Value) (S : Str) (tS : Tok) (lim st en : Nat) (D tp : Addr) (a b : Nat) (hz : S.length ≤ 1000) (hx : S.cps.extract st en = #[61, a, b]) (ha : isHex a = true) (hb : isHex b = true) (news : List (Addr × Obj)) (hD : (D, matchObj S tS lim tp) ∈ news) (hp : (tp, spanObj st en) ∈ news) :
    Ctr w mean mg mb 2 79 [.ref D] news (fun r tl => tl = [] ∧ ∃ t, r = .str ⟨#[hv a * 16 + hv b]⟩ t) := by
  w_top off
  unfold Ctr
  k_fill
  intro dp un gd cn cs ad ccd cl outer A₀ base h₀ L m s Q E B F X Nw T hk hd hu hret
  refine wpAny_call ?_
  k_dflt ktr_enter
  k_steps
  with_reducible rename News _ _ _ _ => nN
  refine group_method (nN _ hD).1 rfl rfl ?_
  k_steps
  refine group_call hz (nN _ hD).1 (nN _ hp).1 ?_
  rw [hx]
  intro t9 k9
  k_steps
  k_dflt (refine' Ctr.use (Mine.c_unq _ _ _ _ _ _ ha hb _ _) ?k1 ?k2 ?k3 ?k4 ?k5 ?kK ?kd ?ku ?_; (case k1 => k_asm); (case k2 => k_asm); (case k3 => k_asm); (case k4 => k_asm); (case k5 => k_asm); (case kK => first | exact rfl | assumption); (case kd => ktr_room); (case ku => ktr_units))
  intro r9 tl9 h' tk' F' N' ho9
  obtain ⟨e1, t9, e2⟩ := ho9
  subst e1
  subst e2
  (try simp only [List.nil_append] at N')
  (try dsimp only)
  (try k_fold)
  k_steps
  exact hret _ [] _ _ (by k_asm) (by k_asm) ⟨rfl, strT rfl⟩
end
section
open PySem PySem.W PyProof.Rows PySem.Calls PySem.Builtin
set_option Elab.async false
set_option maxRecDepth 100000
set_option maxHeartbeats 4000000
namespace Mine
open PySem.Builtin.Re
/-! what the pattern's sub goes over: runs without an escape, each but the last with one behind it -/
noncomputable def flatS : List (List Nat × Nat × Nat) → List Nat → List Nat
  | [], z => z
  | (xs, a, b) :: r, z => xs ++ 61 :: a :: b :: flatS r z
noncomputable def decS : List (List Nat × Nat × Nat) → List Nat → List Nat
  | [], z => z
  | (xs, a, b) :: r, z => xs ++ (hv a * 16 + hv b) :: decS r z
noncomputable def OkS (segs : List (List Nat × Nat × Nat)) (z : List Nat) : Prop := (∀ g ∈ segs, (∀ x ∈ g.1, x ≠ 61) ∧ isHex g.2.1 = true ∧ isHex g.2.2 = true) ∧ ∀ x ∈ z, x ≠ 61
noncomputable def cat (ps : List PySem.Str) : List Nat := ps.flatMap fun p => p.cps.toList
theorem cat_len : ∀ ps : List PySem.Str, (ps.map (·.length)).sum = (cat ps).length
  | [] => rfl
  | p :: r => by
    have := cat_len r
    simp only [cat, List.flatMap_cons, List.length_append, List.map_cons, List.sum_cons] at this ⊢
    rw [this]
    simp [PySem.Str.length]
theorem glued_foldl : ∀ (l : List PySem.Str) (acc : Array Nat), l.foldl (fun acc p => acc ++ (#[] : Array Nat) ++ p.cps) acc = acc ++ (cat l).toArray
  | [], acc => by simp [cat]
  | p :: r, acc => by
    rw [List.foldl_cons, glued_foldl r]
    refine Array.toList_inj.mp ?_
    simp [cat]
theorem join_cat (ps : List PySem.Str) : Txt.join ⟨#[]⟩ ps = ⟨(cat ps).toArray⟩ := by
  show Str.glued ⟨#[]⟩ ps = _
  unfold Str.glued
  rw [glued_foldl]
  cases ps with
  | nil => rfl
  | cons p r =>
    refine Str.ext' (Array.toList_inj.mp ?_)
    simp [cat]
noncomputable abbrev tgt (S : PySem.Str) (tS : Tok) : ReTarget := { pattern := .ref 36, string := .str S tS, code := rxC, text := S.cps, kind := 0, groups := 0, pos := 0, lim := S.cps.size }
section
variable {w : World} {A : Around} {E : Value → Shared → Prop} {s : Shared} {h : Heap}
theorem get36 (X : (Mine.hd.heap_39 w.params).In h) : h.get? 36 = some (o36 w.params) := X _ _ (by kernel_rfl)
theorem get35 (X : (Mine.hd.heap_39 w.params).In h) : h.get? 35 = some (o35 w.params) := X _ _ (by kernel_rfl)
theorem words_eq : ((#[.int 14 0, .int 8 0, .int 1 0, .int 3 0, .int 3 0, .int 1 0, .int 1 0, .int 61 0, .int 0 0, .int 16 0, .int 61 0, .int 24 0, .int 16 0, .int 2 0, .int 2 0, .int 13 0, .int 11 0, .int 9 0, .int 0 0, .int 67043328 0, .int 126 0, .int 126 0, .int 0 0, .int 0 0, .int 0 0, .int 0 0, .int 0 0, .int 1 0, .int 1 0] : Array Value).map reRawOf).map Int.toNat = rxC := by decide +kernel
theorem whole_target {M : Model} {S : PySem.Str} {tS : Tok} {Q : ReTarget → Shared → Prop} (X : (Mine.hd.heap_39 w.params).In s.heap) (hq : Q (tgt S tS) s) : wpAny M A (reWholeTarget (.ref 36) (.str S tS)) Q E s := by
  unfold reWholeTarget
  refine wpAny_bind (wpAny_fieldsOf (get36 X) rfl ?_)
  refine wpAny_bind (wpAny_of_eq (a := (S.cps, 0)) rfl ?_)
  dsimp only
  refine bm_if_false rfl ?_
  refine bm_if_false rfl ?_
  refine wpAny_bind (wpAny_of_eq (a := ()) rfl ?_)
  refine wpAny_bind ?_
  unfold reRawItems
  refine wpAny_bind ?_
  show wpAny _ _ (seqItems? (.ref 35)) _ _ _
  refine wpAny_seqItems (get35 X) rfl ?_
  refine wpAny_pure (wpAny_pure ?_)
  rw [Option.getD_some]
  rw [words_eq]
  exact hq
theorem push_piece {M : Model} {h₀ : Heap} {L lst : Addr} {m : PySem.Str → Option Value} {vs : List Value} {c : Nat} {v : Value} {news : List (Addr × Obj)} {Q : Unit → Shared → Prop} (F : Fr h₀ L s.heap m) (N : News h₀ L s.heap ((lst, listOf vs.toArray c) :: news)) (hne : ∀ p ∈ news, p.1 ≠ lst) (hz : vs.length ≤ 1000)
    (hq : ∀ h' c', Fr h₀ L h' m → News h₀ L h' ((lst, listOf (vs ++ [v]).toArray c') :: news) → Q () { s with heap := h' }) : wpAny M A (updateSeq lst (·.push v)) Q E s := by
  have z := N (lst, listOf vs.toArray c) (.head _)
  refine wpAny_updateSeq z.1 rfl ?_ (by rw [sizeLine_eq, List.size_toArray]; omega) (by rw [sizeLine_eq, Array.size_push, List.size_toArray]; omega)
  have hs : Heap.SameBut lst s.heap (s.heap.update lst (Obj.mapSeq (·.push v))) := Heap.SameBut.update ..
  have ho := Heap.get?_update_self (Obj.mapSeq (·.push v)) z.1 rfl
  have ho' : (s.heap.update lst (Obj.mapSeq (·.push v))).get? lst = some (listOf (vs ++ [v]).toArray (if (vs.toArray.push v).size == vs.toArray.size then c else c + 1)) := by
    rw [ho, ← List.push_toArray]
    rfl
  exact hq _ _ (F.change hs z.2.1 z.2.2) (news_set (pre := []) N (fun _ h => nomatch h) hne hs ho')
end
theorem ext_mid {T : Array Nat} {pre xs rest : List Nat} (h : T.toList = pre ++ (xs ++ rest)) : T.extract pre.length (pre.length + xs.length) = xs.toArray := by
  refine Array.toList_inj.mp ?_
  rw [Array.toList_extract, h]
  simp [List.extract, List.drop_append, List.take_append]
theorem getD_mid {T : Array Nat} {pre xs : List Nat} (h : T.toList = pre ++ xs) (i : Nat) : T.getD (pre.length + i) 0 = xs.getD i 0 := by
  have e : T.getD (pre.length + i) 0 = T.toList.getD (pre.length + i) 0 := cpN_list ⟨T⟩ _
  rw [e, h]
  simp [List.getD, List.getElem?_append_right]
theorem getD_ne {xs rest : List Nat} (h : ∀ x ∈ xs, x ≠ 61) {i : Nat} (hi : i < xs.length) : (xs ++ rest).getD i 0 ≠ 61 := by
  have e : (xs ++ rest).getD i 0 = xs[i] := by simp [List.getD, List.getElem?_append_left hi, hi]
  rw [e]
  exact h _ (List.getElem_mem _)
/-- the run ahead of a match, or the last one, goes onto the list if it is not empty -/
theorem push_run {M : Model} {A : Around} {E : Value → Shared → Prop} {s : Shared} {h₀ : Heap} {L lst : Addr} {m : PySem.Str → Option Value} {vs : List Value} {ps : List PySem.Str} {c : Nat} {news : List (Addr × Obj)} {T : Array Nat} {pre xs rest : List Nat} {α : Type} {k : Sem α} {Qk : α → Shared → Prop} {e : Nat} {dec : Decidable (pre.length < e)} (he : e = pre.length + xs.length)
    (hT : T.toList = pre ++ (xs ++ rest)) (hv : StrsAre vs ps) (hp : ps.length ≤ 100) (hT1 : T.size ≤ 100) (F : Fr h₀ L s.heap m) (N : News h₀ L s.heap ((lst, listOf vs.toArray c) :: news)) (hne : ∀ p ∈ news, p.1 ≠ lst)
    (hq : ∀ h' vs' ps' c' tk', Fr h₀ L h' m → News h₀ L h' ((lst, listOf (List.toArray vs') c') :: news) → StrsAre vs' ps' → cat ps' = cat ps ++ xs → ps'.length ≤ ps.length + xs.length → wpAny M A k Qk E { s with heap := h', toks := tk' }) :
    wpAny M A (@ite _ (pre.length < e) dec (do let v ← reSlice T 0 pre.length e; updateSeq lst (·.push v); k) k) Qk E s := by
  subst he
  by_cases hx : xs.length = 0
  · rw [if_neg (by omega)]
    have e : xs = [] := List.length_eq_zero_iff.mp hx
    exact hq s.heap vs ps c s.toks F N hv (by rw [e, List.append_nil]) (by omega)
  · rw [if_pos (by omega)]
    have hl : T.toList.length = T.size := by simp
    refine wpAny_bind ?_
    show wpAny M A (mkStr ⟨T.extract pre.length (pre.length + xs.length)⟩) _ _ _
    rw [ext_mid hT]
    refine wpAny_mkStr ?_ ?_
    · refine wpAny_bind (push_piece (vs := vs) (c := c) (news := news) (s := { s with toks := s.toks + 1 }) F N hne (by rw [hv.length]; omega) fun h' c' F' N' => ?_)
      refine hq h' _ (ps ++ [⟨xs.toArray⟩]) c' _ F' N' (.append' hv (.cons _ _ .nil)) (by simp [cat]) (by rw [List.length_append, List.length_singleton]; omega)
    · show (xs.toArray).size ≤ _
      rw [hT, List.length_append, List.length_append] at hl
      rw [List.size_toArray, sizeLine_eq]
      omega
theorem new_match {M : Model} {A : Around} {E : Value → Shared → Prop} {s : Shared} {S : PySem.Str} {tS : Tok} {lim st en : Nat} {mm : Sre.M} {Q : Value → Shared → Prop} (h1 : mm.start = st) (h2 : mm.handed = en) (h3 : mm.lastindex = -1)
    (hq : Q (.ref (s.heap.push (spanObj st en)).objs.size) { s with heap := (s.heap.push (spanObj st en)).push (matchObj S tS lim s.heap.objs.size) }) :
    wpAny M A (reNewMatch (.ref 36) (.str S tS) 0 0 lim mm) Q E s := by
  unfold reNewMatch
  show wpAny _ _ (if false = true then _ else _) _ _ _
  refine bm_if_false rfl ?_
  rw [h1, h2, h3]
  refine wpAny_bind ?_
  unfold newTuple
  refine wpAny_newObj_type ?_ (show 2 ≤ sizeLine by rw [sizeLine_eq]; decide)
  unfold newFields
  exact wpAny_newObj_type hq (show 6 ≤ sizeLine + 2 by rw [sizeLine_eq]; decide)
section
variable {w : World} {mean : ExcName → Option Value} {mg mb : PySem.Str → Option Value} {dp un : Nat} {gd : Option (List Code)} {cn : PySem.Str} {cs : Scope} {ad : Addr} {ccd : Value} {cl : List (PySem.Str × Addr)} {outer : List Env} {A₀ : Around} {base h₀ : Heap} {L : Addr} {m : PySem.Str → Option Value}
theorem sub_loop (B : Below A₀ base outer h₀) (X : (Mine.hd.heap_39 w.params).In h₀) (T : Top Mine.view (looseW Mine.view Mine.loose) mean mg mb h₀) (hk : cs.kind = .function) (hd : dp + 2 < recursionLimit) (hu : un + 1 + 8 * 2 < cLine)
    {S : PySem.Str} {tS : Tok} {lst : Addr} {news : List (Addr × Obj)} (hne : ∀ p ∈ news, p.1 ≠ lst) (hz : S.length ≤ 100) (R : Result → Shared → Prop) (z : List Nat) :
    ∀ (segs : List (List Nat × Nat × Nat)) (pre : List Nat) (ps : List PySem.Str) (vs : List Value) (c n : Nat) (s : Shared), S.cps.toList = pre ++ flatS segs z → OkS segs z → StrsAre vs ps → ps.length ≤ pre.length → (cat ps).length ≤ pre.length →
      Fr h₀ L s.heap m → News h₀ L s.heap ((lst, listOf vs.toArray c) :: news) →
      (∀ h' t' tk', Fr h₀ L h' m → News h₀ L h' news → R (.ok (.ret (.str ⟨(cat ps ++ decS segs z).toArray⟩ t'))) { s with heap := h', toks := tk' }) →
      codeAny (model PySem.Challenge.rw_rl0039_01.row.prog w) (ktrTop dp un gd cn cs L ad ccd cl outer) (.builtin "re.Pattern.sub.loop" ⟨[.ref 36, .str S tS, .ref 79, rawInt 1, rawInt 0, rawInt n, rawInt pre.length, rawInt pre.length, .bool false, .ref lst, .bool false], []⟩) R s := by
  intro segs
  induction segs with
  | nil =>
    intro pre ps vs c n s hS ok hv hp hc F N hR
    refine codeAny_builtin entry_loop ?_
    rw [Around.under_plainId plain_loop _]
    unfold «re.Pattern.sub.loop»
    dsimp only [rawInt]
    refine wpAny_bind (whole_target (X.keeps F.keep) ?_)
    refine bm_if_false rfl ?_
    refine wpAny_bind (bm_if_false (by rfl) ?_)
    rw [Int.toNat_natCast]
    show wpAny _ _ (reRunToEnd (Sre.forSearch rxC S.cps 0 pre.length S.cps.size false)) _ _ _
    have hsz : S.cps.size = pre.length + z.length := by
      have := congrArg List.length hS
      rw [List.length_append] at this
      simpa [flatS] using this
    have hz' : S.cps.size ≤ 100 := hz
    obtain ⟨k, hk1, hk2⟩ := found_none (T := S.cps) (s := pre.length) (n := z.length) (fun i hi => by rw [getD_mid hS]; have := getD_ne (rest := []) ok.2 hi; rwa [List.append_nil] at this) hsz.symm
    refine run_none hk2 (by omega) ?_
    dsimp only
    refine push_run (T := S.cps) (rest := []) hsz (by rw [List.append_nil]; exact hS) hv (by omega) hz' F N hne fun h' vs' ps' c' tk' F' N' hv' hcat hlen => ?_
    refine wpAny_bind ?_
    show wpAny _ _ (mkStr ⟨S.cps.extract 0 0⟩) _ _ _
    rw [show S.cps.extract 0 0 = #[] from by simp]
    refine wpAny_mkStr ?_ (by decide)
    have hl := (N' _ (.head _)).1
    refine wpAny_bind (wpAny_seqItems hl rfl ?_)
    have fin : ∀ t' tk', R (.ok (.ret (.str ⟨(cat ps').toArray⟩ t'))) { s with heap := h', toks := tk' } := fun t' tk' => by
      rw [hcat]
      exact hR h' t' tk' F' fun p hp => N' p (.tail _ hp)
    cases hvs : vs' with
    | nil =>
      rw [if_pos (by rfl)]
      have e : ps' = [] := by rw [hvs] at hv'; cases hv'; rfl
      rw [e] at fin
      exact wpAny_bind (wpAny_pure (bm_if_false rfl (wpAny_pure (fin _ _))))
    | cons v0 vr =>
      rw [if_neg (by intro q; exact absurd q (by simp))]
      have hz2 : (cat ps').length ≤ 100 := by rw [hcat, List.length_append]; omega
      refine wpAny_bind (join_list (ys := ps') ⟨_, hl, rfl, _, rfl⟩ hv' ?_ fun t' tk2 => ?_)
      · rw [cat_len]
        show _ + ps'.length * 0 ≤ _
        omega
      · show wpAny _ _ (if false = true then _ else _) _ _ _
        refine bm_if_false rfl (wpAny_pure ?_)
        have := fin t' tk2
        rw [← join_cat] at this
        exact this
  | cons g r ih =>
    obtain ⟨xs, a, b⟩ := g
    intro pre ps vs c n s hS ok hsv hp hc F N hR
    obtain ⟨ok1, okz⟩ := ok
    obtain ⟨hx, ha, hb⟩ := ok1 _ (.head _)
    have okr : OkS r z := ⟨fun q hq => ok1 q (.tail _ hq), okz⟩
    dsimp only at hx ha hb
    have hS' : S.cps.toList = pre ++ (xs ++ 61 :: a :: b :: flatS r z) := hS
    have hz' : S.cps.size ≤ 100 := hz
    have hsz : S.cps.size = pre.length + (xs.length + ((flatS r z).length + 3)) := by
      have := congrArg List.length hS'
      rw [List.length_append, List.length_append] at this
      simpa using this
    have hg : ∀ i, S.cps.getD (pre.length + xs.length + i) 0 = (61 :: a :: b :: flatS r z).getD i 0 := fun i => by
      have e : S.cps.toList = (pre ++ xs) ++ (61 :: a :: b :: flatS r z) := by rw [hS', List.append_assoc]
      have := getD_mid e i
      rwa [List.length_append] at this
    refine codeAny_builtin entry_loop ?_
    rw [Around.under_plainId plain_loop _]
    unfold «re.Pattern.sub.loop»
    dsimp only [rawInt]
    refine wpAny_bind (whole_target (X.keeps F.keep) ?_)
    refine bm_if_false rfl ?_
    refine wpAny_bind (bm_if_false (by rfl) ?_)
    rw [Int.toNat_natCast]
    show wpAny _ _ (reRunToEnd (Sre.forSearch rxC S.cps 0 pre.length S.cps.size false)) _ _ _
    have hf := found_esc (T := S.cps) (s := pre.length) (n := xs.length) (fun i hi => by rw [getD_mid hS']; exact getD_ne hx hi) (by omega) (hg 0) (by rw [hg 1]; exact ha) (by rw [hg 2]; exact hb)
    refine run_found hf.1 (by omega) ?_
    generalize Sre.M.runFor (2 * xs.length + 6) (Sre.forSearch rxC S.cps 0 pre.length S.cps.size false) = mm at hf
    obtain ⟨_, hst, hhd, hli⟩ := hf
    dsimp only
    refine push_run (T := S.cps) (rest := 61 :: a :: b :: flatS r z) hst hS' hsv (by omega) hz' F N hne fun h' vs' ps' c' tk' F' N' hv' hcat hlen => ?_
    refine bm_if_false rfl ?_
    refine wpAny_bind (new_match hst hhd hli ?_)
    refine wpAny_bind (wpAny_holding (bm_if_true rfl ?_))
    have F2 := (F'.push (spanObj (pre.length + xs.length) (pre.length + xs.length + 3))).push (matchObj S tS S.cps.size h'.objs.size)
    have N2 := News.push (F'.push (spanObj (pre.length + xs.length) (pre.length + xs.length + 3))) (News.push F' N' (spanObj (pre.length + xs.length) (pre.length + xs.length + 3))) (matchObj S tS S.cps.size h'.objs.size)
    have hex3 : S.cps.extract (pre.length + xs.length) (pre.length + xs.length + 3) = #[61, a, b] := by
      have e : S.cps.toList = (pre ++ xs) ++ ([61, a, b] ++ flatS r z) := by rw [hS', List.append_assoc]; rfl
      have := ext_mid e
      rwa [List.length_append] at this
    show wpAny _ (ktrTop dp (un + 1) gd cn cs L ad ccd cl outer) _ _ _ _
    refine Ctr.use (Mine.c_unqm w mean mg mb S tS S.cps.size _ _ _ _ a b (by omega) hex3 ha hb _ (.head _) (.tail _ (.head _))) B F2 X N2 T hk hd hu ?_
    rintro rv tl h3 tk3 F3 N3 ⟨rfl, tv, rfl⟩
    refine bm_if_true rfl ?_
    have N3' : News h₀ L h3 ((lst, listOf vs'.toArray c') :: news) := fun p hp => N3 p (.tail _ (.tail _ hp))
    refine wpAny_bind (push_piece (s := { s with heap := h3, toks := tk3 }) F3 N3' hne (by rw [hv'.length]; omega) fun h4 c4 F4 N4 => ?_)
    have q := ih (pre ++ (xs ++ [61, a, b])) (ps' ++ [⟨#[hv a * 16 + hv b]⟩]) _ c4 (n + 1) { s with heap := h4, toks := tk3 } (by rw [hS']; simp) okr (.append' hv' (.cons _ _ .nil)) (by simp; omega)
      (by rw [show cat (ps' ++ [⟨#[hv a * 16 + hv b]⟩]) = cat ps' ++ [hv a * 16 + hv b] by simp [cat], hcat]; simp only [List.length_append, List.length_cons, List.length_nil]; omega) F4 N4 (fun h5 t5 tk5 F5 N5 => by
        have := hR h5 t5 tk5 F5 N5
        have e : cat (ps' ++ [⟨#[hv a * 16 + hv b]⟩]) ++ decS r z = cat ps ++ decS ((xs, a, b) :: r) z := by
          show cat (ps' ++ [⟨#[hv a * 16 + hv b]⟩]) ++ decS r z = cat ps ++ (xs ++ (hv a * 16 + hv b) :: decS r z)
          have e2 : cat (ps' ++ [⟨#[hv a * 16 + hv b]⟩]) = cat ps' ++ [hv a * 16 + hv b] := by simp [cat]
          rw [e2, hcat]
          simp
        rw [e]
        exact this)
    have e1 : (pre ++ (xs ++ [61, a, b])).length = mm.handed := by rw [hhd]; simp; omega
    have e2 : (mm.handed == mm.start) = false := by rw [hhd, hst]; simp
    rw [e1] at q
    rw [e2]
    exact wpAny_pure ⟨plainId_quiet plain_loop _, q⟩
theorem get79 {h : Heap} (X : (Mine.hd.heap_39 w.params).In h) : h.get? 79 = some (o79 w.params) := X _ _ (by kernel_rfl)
theorem fn_call : typeLookup (.type "function") "__call__" = pure (some (.builtin "function.__call__")) := by rw [typeLookup_type, builtinLookup_eq_fast]; kernel_rfl
theorem str_not_ba : isSubtype (.type "str") (.type "bytearray") = pure false := by rw [isSubtype_type]; kernel_rfl
theorem sub_call {E : Value → Shared → Prop} {s : Shared} {Q : Value → Shared → Prop} (B : Below A₀ base outer h₀) (X : (Mine.hd.heap_39 w.params).In h₀) (T : Top Mine.view (looseW Mine.view Mine.loose) mean mg mb h₀) (hk : cs.kind = .function) (hd : dp + 2 < recursionLimit) (hu : un + 1 + 8 * 2 < cLine)
    {S : PySem.Str} {tS : Tok} {news : List (Addr × Obj)} (hz : S.length ≤ 100) {segs : List (List Nat × Nat × Nat)} {z : List Nat} (hS : S.cps.toList = flatS segs z) (ok : OkS segs z) (F : Fr h₀ L s.heap m) (N : News h₀ L s.heap news)
    (hq : ∀ h' t' tk', Fr h₀ L h' m → News h₀ L h' news → Q (.str ⟨(decS segs z).toArray⟩ t') { s with heap := h', toks := tk' }) :
    wpAny (model PySem.Challenge.rw_rl0039_01.row.prog w) (ktrTop dp un gd cn cs L ad ccd cl outer) (call (.builtin "re.Pattern.sub") [.ref 36, .ref 79, .str S tS]) Q E s := by
  have X' := X.keeps F.keep
  have hT : s.TypeIs (.ref 36) "re.Pattern" := ⟨_, get36 X', rfl⟩
  have hT79 : s.TypeIs (.ref 79) "function" := ⟨_, get79 X', rfl⟩
  refine wpAny_call (codeAny_call_builtin slot_sub.plain entry_sub (slot_sub.check _ _ _ _ _ _ _ _ hT (args_sub _ _ _) ?_))
  show wpAny _ _ (reSubstitute "re.Pattern.sub" "sub" false _) _ _ _
  unfold reSubstitute
  dsimp only
  refine wpAny_bind (wpAny_of_eq (a := [some (.ref 79), some (.str S tS), none]) (by kernel_rfl) ?_)
  dsimp only
  refine wpAny_bind (wpAny_pure ?_)
  refine wpAny_bind (wpAny_specialOf hT79 fn_call ?_)
  refine bm_if_true rfl ?_
  refine wpAny_bind (wpAny_pure ?_)
  refine bm_if_true rfl ?_
  refine wpAny_bind (wpAny_pure ?_)
  refine wpAny_bind (wpAny_holding (whole_target X' ?_))
  refine bm_if_true rfl ?_
  refine wpAny_bind ?_
  unfold reNotHeld
  refine wpAny_bind (wpAny_isInstance (typeIs_str s S tS) str_not_ba ?_)
  refine bm_if_false rfl ?_
  dsimp only
  refine wpAny_pure ?_
  refine wpAny_bind (newList_K F N (fun lst h' F' N' l1 => ?_) (by rw [sizeLine_eq]; decide))
  refine wpAny_pure ⟨plainId_quiet plain_loop _, ?_⟩
  exact sub_loop B X T hk hd hu (fun p hp => Nat.ne_of_lt (l1 p hp)) hz _ z segs [] [] [] 0 0 { s with heap := h' } hS ok .nil (Nat.le_refl _) (Nat.le_refl _) F' N' (fun h5 t5 tk5 F5 N5 => hq h5 t5 tk5 F5 N5)
end
end Mine
end
section
open PySem PySem.W PyProof.Rows
set_option Elab.async false
set_option maxRecDepth 100000
set_option maxHeartbeats 0
open Mine
local macro_rules | `(tactic| k_steps) => `(tactic| repeat' ((fail_if_success (with_reducible show wpAny _ _ (getMethod (Value.ref _) _ _) _ _ _)); (fail_if_success (with_reducible show wpAny _ _ (call (Value.builtin "re.Pattern.sub") _) _ _ _)); first | (k_unfold; (try dsimp only)) | (k_end; wrow_close) | walk1 | (dsimp only; walk1) | (leave1; walk_say "STEP leave1"; try dsimp only) | fail "no step"))
theorem Mine.c_hdec (w : World) (mean : ExcName → Option Value) (mg mb : Str → Option Value) (S : Str) (tS : Tok) (segs : List (List Nat × Nat × Nat)) (z : List Nat) (hz0 : S.length ≤ 100) (hz : (Txt.replace S (Str.ofString "_") (Str.ofString " ")).length ≤ 100) (hS : (Txt.replace S (Str.ofString "_") (Str.ofString " ")).cps.toList = flatS segs z) (ok : OkS segs z) (news : List (Addr × Obj)) :
    Ctr w mean mg mb 4 86 [.str S tS] news (fun r tl => tl = [] ∧ ∃ t, r = .str ⟨(decS segs z).toArray⟩ t) := by
  w_top off
  unfold Ctr
  k_fill
  intro dp un gd cn cs ad ccd cl outer A₀ base h₀ L m s Q E B F X Nw T hk hd hu hret
  refine wpAny_call ?_
  k_dflt ktr_enter
  show wpAny _ _ _ _ _ (Shared.mk _ _ _ (s.toks + 1) _)
  generalize htk : s.toks + 1 = tk0
  k_steps
  refine SC.replaceW (u := tk0) (v := tk0 + 1) (show @Ne Nat tk0 0 by omega) (show @Ne Nat (tk0 + 1) 0 by omega) (show @Ne Nat tk0 (tk0 + 1) by omega) (by decide +kernel) (by omega) (by decide +kernel) ?_
  intro t9 k9
  k_steps
  refine sub_method (get36 (Frag.In.keeps (by k_asm) (Fr.keep (by k_asm)))) rfl rfl ?_
  k_steps
  k_dflt (refine' Mine.sub_call ?k1 ?k3 ?k5 ?kK ?kd ?ku ?hz ?hS ?ok ?k2 ?k4 ?_; (case k1 => k_asm); (case k2 => k_asm); (case k3 => k_asm); (case k4 => k_asm); (case k5 => k_asm); (case kK => first | exact rfl | assumption); (case kd => ktr_room); (case ku => ktr_units); (case hz => exact hz); (case hS => exact hS); (case ok => exact ok))
  intro h' t' tk' F' N'
  (try dsimp only)
  (try k_fold)
  k_steps
  exact hret _ [] _ _ (by k_asm) (by k_asm) ⟨rfl, strT rfl⟩
end
section
open PySem PySem.W PyProof.Rows PySem.Calls
set_option Elab.async false
set_option maxRecDepth 100000
set_option maxHeartbeats 4000000
namespace Mine
/-- script[:4:2] -/
noncomputable def oddL : List Int → List Int
  | a :: _ :: c :: _ => [a, c]
  | a :: _ => [a]
  | [] => []
/-- script[1:4:2] -/
noncomputable def evenL : List Int → List Int
  | _ :: b :: _ :: d :: _ => [b, d]
  | _ :: b :: _ => [b]
  | _ => []
theorem odd_bounds (n : Nat) : sliceBounds none (some 4) (some 2) n = (0, min 4 (n : Int), 2) := by
  simp only [sliceBounds, Option.getD_some, show (2 : Int) > 0 by decide, if_true, if_neg (show ¬ ((4 : Int) < 0) by decide)]
  congr 1
  congr 1
  omega
theorem even_bounds (n : Nat) : sliceBounds (some 1) (some 4) (some 2) n = (min 1 (n : Int), min 4 (n : Int), 2) := by
  simp only [sliceBounds, Option.getD_some, show (2 : Int) > 0 by decide, if_true, if_neg (show ¬ ((4 : Int) < 0) by decide), if_neg (show ¬ ((1 : Int) < 0) by decide)]
  congr 1
  · omega
  · congr 1
    omega
theorem pick_odd {vs : List Value} {ns : List Int} (h : IntsAre vs ns) : IntsAre (slicePick vs.toArray none (some 4) (some 2)).toList (oddL ns) := by
  unfold slicePick
  rw [odd_bounds, List.size_toArray]
  match vs, ns, h with
  | _, _, .nil => exact .nil
  | _, _, .cons a ta .nil =>
    rw [show min 4 (((((.int a ta : Value) :: []).length : Nat) : Int)) = 1 by simp only [List.length_cons, List.length_nil]; omega]
    exact .cons a ta .nil
  | _, _, .cons a ta (.cons b tb .nil) =>
    rw [show min 4 (((((.int a ta : Value) :: .int b tb :: []).length : Nat) : Int)) = 2 by simp only [List.length_cons, List.length_nil]; omega]
    exact .cons a ta .nil
  | _, _, .cons a ta (.cons b tb (.cons c tc .nil)) =>
    rw [show min 4 (((((.int a ta : Value) :: .int b tb :: .int c tc :: []).length : Nat) : Int)) = 3 by simp only [List.length_cons, List.length_nil]; omega]
    exact .cons a ta (.cons c tc .nil)
  | _, _, .cons a ta (.cons b tb (.cons c tc (.cons (vs := r) d td h))) =>
    have e : min 4 ((((.int a ta : Value) :: .int b tb :: .int c tc :: .int d td :: r).length : Nat) : Int) = 4 := by simp only [List.length_cons]; omega
    rw [e]
    exact .cons a ta (.cons c tc .nil)
theorem pick_even {vs : List Value} {ns : List Int} (h : IntsAre vs ns) : IntsAre (slicePick vs.toArray (some 1) (some 4) (some 2)).toList (evenL ns) := by
  unfold slicePick
  rw [even_bounds, List.size_toArray]
  match vs, ns, h with
  | _, _, .nil => exact .nil
  | _, _, .cons a ta .nil =>
    rw [show min 4 (((((.int a ta : Value) :: []).length : Nat) : Int)) = 1 by simp only [List.length_cons, List.length_nil]; omega, show min 1 (((((.int a ta : Value) :: []).length : Nat) : Int)) = 1 by simp only [List.length_cons, List.length_nil]; omega]
    exact .nil
  | _, _, .cons a ta (.cons b tb .nil) =>
    rw [show min 4 (((((.int a ta : Value) :: .int b tb :: []).length : Nat) : Int)) = 2 by simp only [List.length_cons, List.length_nil]; omega, show min 1 (((((.int a ta : Value) :: .int b tb :: []).length : Nat) : Int)) = 1 by simp only [List.length_cons, List.length_nil]; omega]
    exact .cons b tb .nil
  | _, _, .cons a ta (.cons b tb (.cons c tc .nil)) =>
    rw [show min 4 (((((.int a ta : Value) :: .int b tb :: .int c tc :: []).length : Nat) : Int)) = 3 by simp only [List.length_cons, List.length_nil]; omega, show min 1 (((((.int a ta : Value) :: .int b tb :: .int c tc :: []).length : Nat) : Int)) = 1 by simp only [List.length_cons, List.length_nil]; omega]
    exact .cons b tb .nil
  | _, _, .cons a ta (.cons b tb (.cons c tc (.cons (vs := r) d td h))) =>
    have e : min 4 ((((.int a ta : Value) :: .int b tb :: .int c tc :: .int d td :: r).length : Nat) : Int) = 4 := by simp only [List.length_cons]; omega
    have e1 : min 1 ((((.int a ta : Value) :: .int b tb :: .int c tc :: .int d td :: r).length : Nat) : Int) = 1 := by simp only [List.length_cons]; omega
    rw [e, e1]
    exact .cons b tb (.cons d td .nil)
section
variable {prog : Program} {w : World} {A : Around} {E : Value → Shared → Prop} {s : Shared} {value slice : Expr} {h₀ : Heap} {L l : Addr} {m : Str → Option Value} {news : List (Addr × Obj)} {Q : Value → Shared → Prop} {vs : List Value} {ns ms : List Int}
theorem slice_step {vl vu vk : Value} {lo hi st : Option Int} {ops : List Value} (F : Fr h₀ L s.heap m) (N : News h₀ L s.heap news) (hl : s.heap.IsList l vs.toArray) (pl : IsPart vl lo) (pu : IsPart vu hi) (pk : IsPart vk st) (h0 : st ≠ some 0) (hm : IntsAre (slicePick vs.toArray lo hi st).toList ms) (hz : vs.length ≤ 1000)
    (h : ∀ D ws h', Fr h₀ L h' m → News h₀ L h' ((D, listOf (List.toArray ws) 0) :: news) → (∀ p ∈ news, p.1 < D) → IntsAre ws ms → Q (.ref D) { s with heap := h' })
    (hs : subscripted slice false (.ref l) (.ref s.heap.objs.size) = operate ops (getItem (.ref l) (.ref s.heap.objs.size))) (ht : ∀ r, letTemporaryGo value (.ref l) r = pure ()) :
    wpAny (model prog w) A (subscriptTail value slice (.ref l) (.ref s.heap.objs.size)) Q E { s with heap := s.heap.push { cls := .type "slice", data := .fields #[vl, vu, vk] } } :=
  slice_list3 F N hl pl pu pk h0 (fun h' F' N' => h _ _ h' F' (by rw [Array.toArray_toList]; exact N') (fun p hp => Nat.lt_succ_of_lt (Heap.lt_size (N p hp).1)) hm) hs ht (by rw [sizeLine_eq, List.size_toArray]; omega)
end
theorem safe_range : ∀ v ∈ safeI, 0 ≤ v ∧ v < 256 := by decide
theorem oct_range (x : Int) : 0 ≤ octI x ∧ octI x < 256 := by
  unfold octI
  split
  · have h1 := Int.fmod_nonneg_of_pos (x.fdiv 3) (show (0 : Int) < 256 by decide)
    have h2 := Int.fmod_lt_of_pos (x.fdiv 3) (show (0 : Int) < 256 by decide)
    exact ⟨h1, h2⟩
  · split
    · have h1 := Int.fmod_nonneg_of_pos (x.fdiv 3) (show (0 : Int) < 67 by decide)
      have h2 := Int.fmod_lt_of_pos (x.fdiv 3) (show (0 : Int) < 67 by decide)
      have hl : safeI.length = 67 := rfl
      rw [List.getD_eq_getElem?_getD, List.getElem?_eq_getElem (by omega)]
      exact safe_range _ (List.getElem_mem _)
    · have h1 := Int.fmod_nonneg_of_pos (x.fdiv 3) (show (0 : Int) < 64 by decide)
      have h2 := Int.fmod_lt_of_pos (x.fdiv 3) (show (0 : Int) < 64 by decide)
      omega
theorem octs_mem {k : Int} {l : List Int} (h : k ∈ l.map fun k' => octI k') : 0 ≤ k ∧ k < 256 := by
  obtain ⟨x, _, rfl⟩ := List.mem_map.mp h
  exact oct_range x
theorem octs_ex {ys : List Value} {ns : List Int} (h : IntsAre ys (List.map (fun k' => octI k') (List.take 4 ns ++ [437, 40]))) : ∃ octs : List Int, IntsAre ys octs ∧ (∀ k ∈ octs, 0 ≤ k ∧ k < 256) ∧ 1 ≤ octs.length ∧ octs.length ≤ 6 :=
  ⟨_, h, fun _ hk => octs_mem hk, by simp, by simp; omega⟩
theorem ints_src {ys : List Value} {ns : List Int} {n : Nat} (hI : IntsAre ys ns) : ∀ i v, i < n → ys.toArray[i]? = some v → ∃ a, ns[i]? = some a ∧ ∃ t, v = .int a t := fun i v _ hv => by
  obtain ⟨k, t, e, hk⟩ := IntsAre.at hI i v (by simpa using hv)
  exact ⟨k, hk, t, e⟩
theorem strs_src {ys : List Value} {ns : List Str} {n : Nat} (hI : StrsAre ys ns) : ∀ i v, i < n → ys.toArray[i]? = some v → ∃ a, ns[i]? = some a ∧ ∃ t, v = .str a t := fun i v _ hv => by
  have key : ∀ {vs : List Value} {us : List Str}, StrsAre vs us → ∀ (i : Nat) (v : Value), vs[i]? = some v → ∃ a, us[i]? = some a ∧ ∃ t, v = .str a t := by
    intro vs us h
    induction h with
    | nil => intro i v e; simp at e
    | cons a t h ih =>
      intro i v e
      cases i with
      | zero => simp at e; exact ⟨a, rfl, t, e.symm⟩
      | succ i => exact ih i v (by simpa using e)
  exact key hI i v (by simpa using hv)
theorem news_units {h₀ h : Heap} {L : Addr} {ys ys' : List Value} {D a b Do : Addr} {oa ob : Obj} {rest : List (Addr × Obj)} (N : News h₀ L h ((D, LCg.lst ys') :: (a, oa) :: (b, ob) :: (Do, LCg.lst ys) :: rest)) : News h₀ L h ((D, listOf ys'.toArray ys'.length) :: [(Do, LCg.lst ys)]) := by
  intro p hp
  rcases List.mem_cons.mp hp with rfl | hp
  · exact N _ (.head _)
  · rcases List.mem_cons.mp hp with rfl | hp
    · exact N _ (.tail _ (.tail _ (.tail _ (.head _))))
    · cases hp
theorem lens_le {us : List Str} (h3 : ∀ u ∈ us, u.length ≤ 3) : (us.map (·.length)).sum ≤ 3 * us.length := by
  induction us with
  | nil => exact Nat.le_refl _
  | cons u r ih =>
    have h1 := h3 u (.head _)
    have h2 := ih fun u hu => h3 u (.tail _ hu)
    simp only [List.map_cons, List.sum_cons, List.length_cons]
    omega
theorem cat_le {us : List Str} (h3 : ∀ u ∈ us, u.length ≤ 3) : (cat us).length ≤ 3 * us.length := by
  rw [← cat_len]
  exact lens_le h3
theorem join_units {prog : Program} {w : World} {A : Around} {E : Value → Shared → Prop} {s : Shared} {t : Tok} {Q : Value → Shared → Prop} {D : Addr} {vs : List Value} {us : List Str} (hl : s.heap.IsList D vs.toArray) (hi : StrsAre vs us) (h6 : us.length ≤ 6) (h3 : ∀ u ∈ us, u.length ≤ 3)
    (h : ∀ x t' k, x = ⟨(cat us).toArray⟩ → x.length ≤ 18 → Q (.str x t') { s with toks := k }) : wpAny (model prog w) A (call (.builtin "str.join") [.str (Str.ofString "") t, .ref D]) Q E s := by
  have e : Str.ofString "" = ⟨#[]⟩ := rfl
  have h1 := lens_le h3
  have h2 := cat_le h3
  rw [e]
  refine join_list hl hi (show _ + us.length * 0 ≤ _ by omega) fun t' k => ?_
  rw [join_cat]
  refine h _ _ _ rfl ?_
  show (cat us).toArray.size ≤ 18
  rw [List.size_toArray]
  omega
end Mine
end
section
open PySem PySem.W PyProof.Rows
set_option Elab.async false
set_option maxRecDepth 100000
set_option maxHeartbeats 4000000
namespace Mine
/-- a unit: one sign, or '=' and two figures -/
noncomputable def Un (u : Str) : Prop := (∃ c, u = ⟨#[c]⟩ ∧ c ≠ 61 ∧ c < 128) ∨ ∃ a b, u = ⟨#[61, a, b]⟩ ∧ isHex a = true ∧ isHex b = true
noncomputable def unB (u : Str) : Bool := match u.cps.toList with
  | [c] => decide (c ≠ 61 ∧ c < 128)
  | [e, a, b] => decide (e = 61) && isHex a && isHex b
  | _ => false
theorem Un.of {u : Str} (h : unB u = true) : Un u := by
  obtain ⟨⟨l⟩⟩ := u
  match l, h with
  | [c], h => exact .inl ⟨c, rfl, by simpa [unB] using h⟩
  | [e, a, b], h =>
    simp only [unB, Bool.and_eq_true, decide_eq_true_eq] at h
    obtain ⟨⟨rfl, ha⟩, hb⟩ := h
    exact .inr ⟨a, b, rfl, ha, hb⟩
theorem Un.len3 {u : Str} (h : Un u) : u.length ≤ 3 := by
  rcases h with ⟨c, rfl, _⟩ | ⟨a, b, rfl, _⟩
  · exact Nat.le_of_ble_eq_true rfl
  · exact Nat.le_of_ble_eq_true rfl
noncomputable def w67 : List Nat := s67.cps.toList
noncomputable def wrL (c : Nat) : Str := if c = 32 then ⟨#[95]⟩ else if decide (c ∈ w67) = true then ⟨#[c]⟩ else ⟨#[61, hx (c / 16), hx (c % 16)]⟩
theorem wr_67 (c : Nat) : decide (c ∈ w67) = true ↔ (Builtin.Str.occurrences s67 ⟨#[c]⟩ 0 s67.length 1).isEmpty = false := by
  rw [show decide (c ∈ w67) = !(Builtin.Str.occurrences s67 ⟨#[c]⟩ 0 s67.length 1).isEmpty from (StrLaws.found_one s67 c).symm, Bool.not_eq_true']
theorem wr_fig : ((List.range 256).all fun c => (Str.ofString "=" ++ Txt.item sHex ((c : Int).fdiv 16) ++ Txt.item sHex ((c : Int).fmod 16)) == (⟨#[61, hx (c / 16), hx (c % 16)]⟩ : Str)) = true := by decide +kernel
theorem wr_eq {c : Nat} (h : c < 256) : wrS (c : Int) = wrL c := by
  have e := eq_of_beq (List.all_eq_true.mp wr_fig c (List.mem_range.mpr h))
  unfold wrS wrL
  rw [e, Int.toNat_natCast]
  by_cases h32 : c = 32
  · rw [if_pos (show (c : Int) = 32 by omega), if_pos h32]
    exact eq_of_beq (by decide +kernel)
  · rw [if_neg (show ¬ (c : Int) = 32 by omega), if_neg h32]
    by_cases hw : (Builtin.Str.occurrences s67 ⟨#[c]⟩ 0 s67.length 1).isEmpty = false
    · rw [if_pos hw, if_pos ((wr_67 c).mpr hw)]
    · rw [if_neg hw, if_neg (fun q => hw ((wr_67 c).mp q))]
theorem wr_tab : ((List.range 256).all fun c => wrL c == hdrG c && unB (hdrG c)) = true := by decide +kernel
theorem wr_hdr {o : Int} (h0 : 0 ≤ o) (h1 : o < 256) : wrS o = hdrG o.toNat ∧ Un (hdrG o.toNat) := by
  have := List.all_eq_true.mp wr_tab o.toNat (List.mem_range.mpr (by omega))
  have e := wr_eq (c := o.toNat) (by omega)
  rw [Int.toNat_of_nonneg h0] at e
  rw [e]
  simp only [Bool.and_eq_true] at this
  exact ⟨eq_of_beq this.1, .of this.2⟩
theorem fig_tab : (s22.cps.toList.all isHex) = true := by decide +kernel
theorem sign_tab : (s69.cps.toList.all fun c => decide (c ≠ 61 ∧ c < 128)) = true := by decide +kernel
theorem getD_all {p : Nat → Bool} {x : Str} {k : Nat} (h : x.cps.toList.all p = true) (hk : k < x.length) : p (x.cps.getD k 0) = true := by
  refine List.all_eq_true.mp h _ ?_
  rw [Array.getD_eq_getD_getElem?, ← Array.getElem?_toList, List.getElem?_eq_getElem (show k < x.cps.toList.length by simpa [Str.length] using hk)]
  exact List.getElem_mem _
theorem fig_at (n : Int) : ∃ f, Txt.item s22 (n.fmod 22) = ⟨#[f]⟩ ∧ isHex f = true := by
  have h0 := Int.fmod_nonneg_of_pos n (show (0 : Int) < 22 by decide)
  have h1 := Int.fmod_lt_of_pos n (show (0 : Int) < 22 by decide)
  have hl : s22.length = 22 := by decide +kernel
  exact ⟨_, eq_of_beq (item_closes (x := s22) ⟨h0, by omega⟩), getD_all fig_tab (by omega)⟩
theorem sign_at (n : Int) : ∃ f, Txt.item s69 (n.fmod 69) = ⟨#[f]⟩ ∧ f ≠ 61 ∧ f < 128 := by
  have h0 := Int.fmod_nonneg_of_pos n (show (0 : Int) < 69 by decide)
  have h1 := Int.fmod_lt_of_pos n (show (0 : Int) < 69 by decide)
  have hl : s69.length = 69 := by decide +kernel
  exact ⟨_, eq_of_beq (item_closes (x := s69) ⟨h0, by omega⟩), by simpa using getD_all (k := (n.fmod 69).toNat) sign_tab (by omega)⟩
/-- what one slip does to one unit -/
theorem slipU_cases {u : Str} (h : Un u) (t n : Int) : (∃ c d, u = ⟨#[c]⟩ ∧ slipU u t n = ⟨#[d]⟩ ∧ (c ≠ 61 ∧ c < 128) ∧ d ≠ 61 ∧ d < 128) ∨ ∃ a b a' b', u = ⟨#[61, a, b]⟩ ∧ slipU u t n = ⟨#[61, a', b']⟩ ∧ isHex a = true ∧ isHex b = true ∧ isHex a' = true ∧ isHex b' = true ∧ (a' = a ∨ b' = b) := by
  rcases h with ⟨c, rfl, h1, h2⟩ | ⟨a, b, rfl, ha, hb⟩
  · obtain ⟨f, e, h3, h4⟩ := sign_at n
    exact .inl ⟨c, f, rfl, e, ⟨h1, h2⟩, h3, h4⟩
  · obtain ⟨f, e, hf⟩ := fig_at n
    have q : slipU ⟨#[61, a, b]⟩ t n = (if t.fmod 2 = 0 then Str.ofString "=" ++ Txt.item s22 (n.fmod 22) ++ Txt.item ⟨#[61, a, b]⟩ 2 else Str.ofString "=" ++ Txt.item ⟨#[61, a, b]⟩ 1 ++ Txt.item s22 (n.fmod 22)) := if_pos rfl
    rw [q, e]
    split
    · exact .inr ⟨a, b, f, b, rfl, by rfl, ha, hb, hf, hb, .inr rfl⟩
    · exact .inr ⟨a, b, a, f, rfl, by rfl, ha, hb, ha, hf, .inl rfl⟩
theorem slipU_un {u : Str} (h : Un u) (t n : Int) : Un (slipU u t n) := by
  rcases slipU_cases h t n with ⟨_, d, _, e, _, h⟩ | ⟨_, _, a, b, _, e, _, _, h⟩
  · exact .inl ⟨d, e, h⟩
  · exact .inr ⟨a, b, e, h.1, h.2.1⟩
theorem split_at {us : List Str} {k : Nat} (h : k < us.length) : us = us.take k ++ [us.getD k Str.empty] ++ us.drop (k + 1) := by
  conv => lhs; rw [← List.take_append_drop k us, List.drop_eq_getElem_cons h]
  rw [List.getD_eq_getElem?_getD, List.getElem?_eq_getElem h]
  simp
theorem slip_form {us : List Str} (h1 : 1 ≤ us.length) (p n : Int) : ∃ k t, k < us.length ∧ slipF us p n = us.take k ++ [slipU (us.getD k Str.empty) t n] ++ us.drop (k + 1) := by
  have h0 := Int.fmod_nonneg_of_pos p (show (0 : Int) < us.length by omega)
  have h2 := Int.fmod_lt_of_pos p (show (0 : Int) < us.length by omega)
  refine ⟨(p.fmod us.length).toNat, p.fdiv us.length, by omega, ?_⟩
  unfold slipF
  rw [show (p.fmod (us.length : Int) + 1).toNat = (p.fmod us.length).toNat + 1 by omega]
theorem slip_len {us : List Str} (h1 : 1 ≤ us.length) (p n : Int) : (slipF us p n).length = us.length := by
  obtain ⟨k, t, hk, e⟩ := slip_form h1 p n
  rw [e]
  simp only [List.length_append, List.length_take, List.length_cons, List.length_nil, List.length_drop]
  omega
theorem getD_mem {us : List Str} {k : Nat} (h : k < us.length) : us.getD k Str.empty ∈ us := by
  rw [List.getD_eq_getElem?_getD, List.getElem?_eq_getElem h]
  exact List.getElem_mem _
theorem slip_un {us : List Str} (h1 : 1 ≤ us.length) (h : ∀ u ∈ us, Un u) (p n : Int) : ∀ u ∈ slipF us p n, Un u := by
  obtain ⟨k, t, hk, e⟩ := slip_form h1 p n
  rw [e]
  intro u hu
  simp only [List.mem_append, List.mem_singleton] at hu
  rcases hu with (hu | hu) | hu
  · exact h _ (List.mem_of_mem_take hu)
  · rw [hu]
    exact slipU_un (h _ (getD_mem hk)) t n
  · exact h _ (List.mem_of_mem_drop hu)
theorem units_ex {ys : List Value} {octs : List Int} (hO : ∀ k ∈ octs, 0 ≤ k ∧ k < 256) (h : StrsAre ys (octs.map wrS)) : ∃ us : List Str, StrsAre ys us ∧ us = octs.map wrS ∧ us.length = octs.length ∧ (∀ u ∈ us, Un u) ∧ ∀ u ∈ us, u.length ≤ 3 := by
  have hU : ∀ u ∈ octs.map wrS, Un u := by
    intro u hu
    obtain ⟨o, ho, rfl⟩ := List.mem_map.mp hu
    obtain ⟨e, hu⟩ := wr_hdr (hO o ho).1 (hO o ho).2
    rw [e]
    exact hu
  exact ⟨_, h, rfl, by simp, hU, fun u hu => (hU u hu).len3⟩
theorem slip_ex {vs : List Value} {us : List Str} {p n : Int} (h1 : 1 ≤ us.length) (hU : ∀ u ∈ us, Un u) (h : StrsAre vs (slipF us p n)) : ∃ us1 : List Str, StrsAre vs us1 ∧ (∃ p n, us1 = slipF us p n) ∧ us1.length = us.length ∧ (∀ u ∈ us1, Un u) ∧ ∀ u ∈ us1, u.length ≤ 3 :=
  ⟨_, h, ⟨_, _, rfl⟩, slip_len h1 p n, slip_un h1 hU p n, fun u hu => (slip_un h1 hU p n u hu).len3⟩
end Mine
end
section
open PySem PySem.W PyProof.Rows
set_option Elab.async false
set_option maxRecDepth 100000
set_option maxHeartbeats 4000000
namespace Mine
noncomputable abbrev wrapS (x : Str) : Str := Str.ofString "=?x?q?" ++ x ++ Str.ofString "?="
noncomputable abbrev bytesL (octs : List Int) : List UInt8 := octs.map fun n => n.toNat.toUInt8
theorem word_eq {octs : List Int} {us : List Str} (h : us = octs.map wrS) (hO : ∀ k ∈ octs, 0 ≤ k ∧ k < 256) : encB (bytesL octs) = ⟨(cat us).toArray⟩ := by
  subst h
  unfold encB cat bytesL
  congr 2
  rw [List.map_map, List.flatMap_map, List.flatMap_map]
  induction octs with
  | nil => rfl
  | cons o r ih =>
    obtain ⟨h0, h1⟩ := hO o (.head _)
    rw [List.flatMap_cons, List.flatMap_cons, ih fun k hk => hO k (.tail _ hk)]
    congr 1
    rw [(wr_hdr h0 h1).1]
    show (hdrG (o.toNat.toUInt8).toNat).cps.toList = _
    rw [Nat.toUInt8, UInt8.toNat_ofNat', Nat.mod_eq_of_lt (by omega)]
/-- the sum of the prices, sign by sign -/
noncomputable def sumL : List Nat → List Nat → Int
  | a :: xs, b :: ys => sub1 b a + sumL xs ys
  | _, _ => 0
theorem sumL_self : ∀ xs : List Nat, sumL xs xs = 0
  | [] => rfl
  | a :: xs => by rw [sumL, sub1_self, sumL_self xs]; rfl
theorem sumL_app : ∀ {xs ys : List Nat} (xs' ys' : List Nat), xs.length = ys.length → sumL (xs ++ xs') (ys ++ ys') = sumL xs ys + sumL xs' ys'
  | [], [], xs', ys', _ => by show sumL xs' ys' = 0 + _; omega
  | a :: xs, b :: ys, xs', ys', h => by
    show sub1 b a + sumL (xs ++ xs') (ys ++ ys') = sub1 b a + sumL xs ys + sumL xs' ys'
    rw [sumL_app xs' ys' (by simpa using h)]
    omega
theorem sub1_zero {a b : Nat} (h : sub1 a b = 0) : a = b := by
  unfold sub1 subF at h
  split at h
  · rename_i e
    have := eq_of_beq e
    simpa using this
  · split at h <;> cases h
theorem sub1_tri (a b c : Nat) : sub1 c a ≤ sub1 b a + sub1 c b := by
  have h1 := sub1_lo b a
  have h2 := sub1_lo c b
  by_cases e1 : sub1 b a = 0
  · rw [sub1_zero e1, sub1_self]
    omega
  · by_cases e2 : sub1 c b = 0
    · rw [sub1_zero e2, sub1_self]
      omega
    · have := sub1_hi c a
      omega
theorem sumL_tri : ∀ {xs ys zs : List Nat}, xs.length = ys.length → ys.length = zs.length → sumL xs zs ≤ sumL xs ys + sumL ys zs
  | [], [], [], _, _ => by show (0 : Int) ≤ 0 + 0; omega
  | a :: xs, b :: ys, c :: zs, h1, h2 => by
    have h3 := sub1_tri a b c
    have h4 := sumL_tri (xs := xs) (ys := ys) (zs := zs) (by simpa using h1) (by simpa using h2)
    show sub1 c a + sumL xs zs ≤ (sub1 b a + sumL xs ys) + (sub1 c b + sumL ys zs)
    omega
theorem cat_app (a b : List Str) : cat (a ++ b) = cat a ++ cat b := by simp [cat]
/-- one slip changes one unit -/
theorem slip_sum {f : Str → Str} (hf : ∀ u t n, Un u → (f (slipU u t n)).cps.toList.length = (f u).cps.toList.length ∧ sumL (f u).cps.toList (f (slipU u t n)).cps.toList ≤ 2) {us : List Str} (h1 : 1 ≤ us.length) (hU : ∀ u ∈ us, Un u) (p n : Int) :
    (cat ((slipF us p n).map f)).length = (cat (us.map f)).length ∧ sumL (cat (us.map f)) (cat ((slipF us p n).map f)) ≤ 2 := by
  obtain ⟨k, t, hk, e⟩ := slip_form h1 p n
  obtain ⟨g1, g2⟩ := hf (us.getD k Str.empty) t n (hU _ (getD_mem hk))
  have e2 : cat (us.map f) = cat ((us.take k).map f) ++ (f (us.getD k Str.empty)).cps.toList ++ cat ((us.drop (k + 1)).map f) := by
    conv => lhs; rw [split_at hk]
    rw [List.map_append, List.map_append, cat_app, cat_app]
    simp [cat]
  have e3 : cat ((slipF us p n).map f) = cat ((us.take k).map f) ++ (f (slipU (us.getD k Str.empty) t n)).cps.toList ++ cat ((us.drop (k + 1)).map f) := by
    rw [e, List.map_append, List.map_append, cat_app, cat_app]
    simp [cat]
  rw [e2, e3]
  refine ⟨by simp only [List.length_append, g1], ?_⟩
  rw [sumL_app _ _ (by simp only [List.length_append, g1]), sumL_app _ _ rfl, sumL_self, sumL_self]
  omega
theorem slips_sum {f : Str → Str} (hf : ∀ u t n, Un u → (f (slipU u t n)).cps.toList.length = (f u).cps.toList.length ∧ sumL (f u).cps.toList (f (slipU u t n)).cps.toList ≤ 2) {us us1 us2 : List Str} (h1 : 1 ≤ us.length) (hU : ∀ u ∈ us, Un u) (s1 : ∃ p n, us1 = slipF us p n) (s2 : ∃ p n, us2 = slipF us1 p n) :
    (cat (us2.map f)).length = (cat (us.map f)).length ∧ sumL (cat (us.map f)) (cat (us2.map f)) ≤ 4 := by
  obtain ⟨p1, n1, rfl⟩ := s1
  obtain ⟨p2, n2, rfl⟩ := s2
  obtain ⟨a1, a2⟩ := slip_sum hf h1 hU p1 n1
  obtain ⟨b1, b2⟩ := slip_sum hf (by rw [slip_len h1]; exact h1) (slip_un h1 hU p1 n1) p2 n2
  refine ⟨by omega, ?_⟩
  have := sumL_tri (a1.symm) (b1.symm)
  omega
theorem f_id (u : Str) (t n : Int) (h : Un u) : ((id (slipU u t n) : Str)).cps.toList.length = ((id u : Str)).cps.toList.length ∧ sumL ((id u : Str)).cps.toList ((id (slipU u t n) : Str)).cps.toList ≤ 2 := by
  simp only [id]
  rcases slipU_cases h t n with ⟨c, d, rfl, e, _, _⟩ | ⟨a, b, a', b', rfl, e, _, _, _, _, q⟩
  · rw [e]
    refine ⟨rfl, ?_⟩
    have := sub1_hi d c
    show sub1 d c + 0 ≤ 2
    omega
  · rw [e]
    refine ⟨rfl, ?_⟩
    show sub1 61 61 + (sub1 a' a + (sub1 b' b + 0)) ≤ 2
    have h1 := sub1_hi a' a
    have h2 := sub1_hi b' b
    rw [sub1_self]
    rcases q with rfl | rfl
    · rw [sub1_self]; omega
    · rw [sub1_self]; omega
end Mine
end
section
open PySem PySem.W PyProof.Rows
set_option Elab.async false
set_option maxRecDepth 100000
set_option maxHeartbeats 4000000
namespace Mine
theorem s16_tab : ((List.range 103).all fun c => !isHex c || hexF c == (hv c : Int)) = true := by decide +kernel
theorem hexF_eq {c : Nat} (h : isHex c = true) : hexF c = (hv c : Int) := by
  have := List.all_eq_true.mp s16_tab c (List.mem_range.mpr (hex_lt h))
  rw [h] at this
  simpa using this
theorem read_hex {u : Str} (h : Un u) : u.length = 3 → (0 ≤ hexF (cpN u 1) ∧ hexF (cpN u 1) ≤ 15) ∧ 0 ≤ hexF (cpN u 2) ∧ hexF (cpN u 2) ≤ 15 := by
  intro h3
  rcases h with ⟨c, rfl, _⟩ | ⟨a, b, rfl, ha, hb⟩
  · exact absurd (show (1 : Nat) = 3 from h3) (by decide)
  · have h1 := hv_hi ha
    have h2 := hv_hi hb
    show (0 ≤ hexF a ∧ hexF a ≤ 15) ∧ 0 ≤ hexF b ∧ hexF b ≤ 15
    rw [hexF_eq ha, hexF_eq hb]
    omega
/-- a unit's own sign -/
noncomputable def rd (u : Str) : Nat := if u.length = 3 then hv (cpN u 1) * 16 + hv (cpN u 2) else if cpN u 0 = 95 then 32 else cpN u 0
theorem read_one {u : Str} (h : Un u) : readF u = ⟨#[rd u]⟩ ∧ rd u < 256 := by
  rcases h with ⟨c, rfl, _, hc⟩ | ⟨a, b, rfl, ha, hb⟩
  · have hu : Str.ofString "_" = ⟨#[95]⟩ := rfl
    show (if (⟨#[c]⟩ == Str.ofString "_") = true then Str.ofString " " else (⟨#[c]⟩ : Str)) = ⟨#[if c = 95 then 32 else c]⟩ ∧ (if c = 95 then 32 else c) < 256
    by_cases e : c = 95
    · subst e
      exact ⟨rfl, by decide⟩
    · rw [if_neg e, if_neg (by intro q; have := eq_of_beq q; rw [hu] at this; exact e (by simpa using this))]
      exact ⟨rfl, by omega⟩
  · show (⟨#[(16 * hexF a + hexF b).toNat]⟩ : Str) = ⟨#[hv a * 16 + hv b]⟩ ∧ hv a * 16 + hv b < 256
    have h1 := hv_hi ha
    have h2 := hv_hi hb
    rw [hexF_eq ha, hexF_eq hb, show ((16 * (hv a : Int) + (hv b : Int)).toNat) = hv a * 16 + hv b by omega]
    exact ⟨rfl, by omega⟩
theorem read_len {u : Str} (h : Un u) : (readF u).length = 1 := by
  rw [(read_one h).1]
  rfl
theorem f_read (u : Str) (t n : Int) (h : Un u) : (readF (slipU u t n)).cps.toList.length = (readF u).cps.toList.length ∧ sumL (readF u).cps.toList (readF (slipU u t n)).cps.toList ≤ 2 := by
  rw [(read_one h).1, (read_one (slipU_un h t n)).1]
  refine ⟨rfl, ?_⟩
  have := sub1_hi (rd (slipU u t n)) (rd u)
  show sub1 _ _ + 0 ≤ 2
  omega
theorem cat_read {us : List Str} (hU : ∀ u ∈ us, Un u) : cat (us.map readF) = us.map rd := by
  induction us with
  | nil => rfl
  | cons u r ih =>
    have := ih fun u hu => hU u (.tail _ hu)
    simp only [cat, List.map_cons, List.flatMap_cons] at this ⊢
    rw [this, (read_one (hU u (.head _))).1]
    rfl
theorem wr_read_tab : ((List.range 256).all fun c => rd (hdrG c) == c) = true := by decide +kernel
end Mine
end
section
open PySem PySem.W PyProof.Rows
set_option Elab.async false
set_option maxRecDepth 100000
set_option maxHeartbeats 4000000
namespace Mine
noncomputable def sp (k : Nat) : Nat := if k = 95 then 32 else k
theorem map_free : ∀ l : List Nat, 95 ∉ l → l.map sp = l
  | [], _ => rfl
  | k :: r, h => by
    rw [List.map_cons, map_free r fun m => h (List.mem_cons_of_mem _ m), sp, if_neg (fun e => h (by rw [e]; exact List.mem_cons_self ..))]
theorem map_join : ∀ parts : List Str, (∀ p ∈ parts, 95 ∉ p.cps.toList) → (Str.join ⟨#[95]⟩ parts).cps.toList.map sp = (Str.join ⟨#[32]⟩ parts).cps.toList
  | [], _ => rfl
  | [p], h => map_free _ (h p (List.mem_singleton.mpr rfl))
  | p :: q :: r, h => by
    have ih := map_join (q :: r) fun a ha => h a (List.mem_cons_of_mem _ ha)
    show (p ++ ⟨#[95]⟩ ++ Str.join ⟨#[95]⟩ (q :: r)).cps.toList.map sp = (p ++ ⟨#[32]⟩ ++ Str.join ⟨#[32]⟩ (q :: r)).cps.toList
    simp only [Str.cps_append, Array.toList_append, List.map_append]
    rw [ih, map_free _ (h p (List.mem_cons_self ..))]
    rfl
theorem rep_map (x : Str) : (Txt.replace x (Str.ofString "_") (Str.ofString " ")).cps.toList = x.cps.toList.map sp := by
  have e1 : Str.ofString "_" = ⟨#[95]⟩ := rfl
  have e2 : Str.ofString " " = ⟨#[32]⟩ := rfl
  rw [e1, e2, StrLaws.replace_one, ← map_join _ (StrLaws.split_free x 95), StrLaws.join_split]
theorem dec_ex : ∀ {us : List Str}, (∀ u ∈ us, Un u) → ∃ segs z, (cat us).map sp = flatS segs z ∧ OkS segs z ∧ decS segs z = us.map rd
  | [], _ => ⟨[], [], rfl, ⟨fun _ h => (List.not_mem_nil h).elim, fun _ h => (List.not_mem_nil h).elim⟩, rfl⟩
  | u :: r, hU => by
    obtain ⟨segs, z, h1, h2, h3⟩ := dec_ex fun u hu => hU u (.tail _ hu)
    rcases hU u (.head _) with ⟨c, rfl, hc, _⟩ | ⟨a, b, rfl, ha, hb⟩
    · have hs : sp c ≠ 61 := by unfold sp; split <;> omega
      have e1 : (cat (⟨#[c]⟩ :: r)).map sp = sp c :: (cat r).map sp := by simp [cat]
      have e2 : (⟨#[c]⟩ :: r).map rd = sp c :: r.map rd := rfl
      rw [e1, e2, h1, ← h3]
      cases segs with
      | nil =>
        refine ⟨[], sp c :: z, rfl, ⟨h2.1, fun x hx => ?_⟩, rfl⟩
        rcases List.mem_cons.mp hx with rfl | hx
        · exact hs
        · exact h2.2 x hx
      | cons g gs =>
        obtain ⟨xs, a, b⟩ := g
        refine ⟨(sp c :: xs, a, b) :: gs, z, rfl, ⟨fun g hg => ?_, h2.2⟩, rfl⟩
        rcases List.mem_cons.mp hg with rfl | hg
        · obtain ⟨q1, q2⟩ := h2.1 _ (.head _)
          refine ⟨fun x hx => ?_, q2⟩
          rcases List.mem_cons.mp hx with rfl | hx
          · exact hs
          · exact q1 x hx
        · exact h2.1 g (.tail _ hg)
    · have ea : sp a = a := if_neg (by intro e; subst e; exact absurd ha (by decide))
      have eb : sp b = b := if_neg (by intro e; subst e; exact absurd hb (by decide))
      have e1 : (cat (⟨#[61, a, b]⟩ :: r)).map sp = 61 :: a :: b :: (cat r).map sp := by
        have e0 : sp 61 = 61 := rfl
        simp [cat, ea, eb, e0]
      have e2 : (⟨#[61, a, b]⟩ :: r).map rd = (hv a * 16 + hv b) :: r.map rd := rfl
      rw [e1, e2, h1, ← h3]
      refine ⟨([], a, b) :: segs, z, rfl, ⟨fun g hg => ?_, h2.2⟩, rfl⟩
      rcases List.mem_cons.mp hg with rfl | hg
      · exact ⟨fun _ h => (List.not_mem_nil h).elim, ha, hb⟩
      · exact h2.1 g hg
theorem dec_a {us : List Str} (hU : ∀ u ∈ us, Un u) {S : Str} (hS : S = ⟨(cat us).toArray⟩) (h18 : S.length ≤ 18) : ∃ segs z, (Txt.replace S (Str.ofString "_") (Str.ofString " ")).length ≤ 100 ∧ (Txt.replace S (Str.ofString "_") (Str.ofString " ")).cps.toList = flatS segs z ∧ OkS segs z ∧ decS segs z = cat (us.map readF) := by
  obtain ⟨segs, z, h1, h2, h3⟩ := dec_ex hU
  have e := rep_map S
  refine ⟨segs, z, ?_, ?_, h2, by rw [h3, cat_read hU]⟩
  · show (Txt.replace S (Str.ofString "_") (Str.ofString " ")).cps.size ≤ 100
    rw [← Array.length_toList, e, List.length_map, Array.length_toList]
    have : S.cps.size ≤ 18 := h18
    omega
  · rw [e, hS, ← h1]
/-- lower, of one sign under 256 -/
noncomputable def low (c : Nat) : Nat := if (64 < c ∧ c < 91) ∨ (191 < c ∧ c < 223 ∧ c ≠ 215) then c + 32 else c
theorem low_tab : ((List.range 256).all fun c => (Txt.lower ⟨#[c]⟩).cps == #[low c]) = true := by decide +kernel
theorem low_eq {c : Nat} (h : c < 256) : Txt.lower ⟨#[c]⟩ = ⟨#[low c]⟩ := by
  have := eq_of_beq (List.all_eq_true.mp low_tab c (List.mem_range.mpr h))
  exact Str.ext' this
theorem sub1_pr {a b : Nat} (ha : a < 256) (hb : b < 256) : sub1 b a = pr1 a b := by
  unfold sub1 subF
  rw [low_eq ha, low_eq hb]
  have e : ∀ x y : Nat, ((⟨#[x]⟩ : Str) == ⟨#[y]⟩) = decide (x = y) := by
    intro x y
    by_cases h : x = y
    · subst h; simp
    · rw [decide_eq_false h]
      exact Bool.eq_false_iff.mpr fun q => h (by simpa using eq_of_beq q)
  simp only [e, decide_eq_true_eq]
  unfold pr1 low
  split
  · subst_vars
    rw [if_neg (by omega), if_neg (by omega)]
  · split <;> split <;> split <;> (try split) <;> (try split) <;> omega
end Mine
end
section
open PySem PySem.W PyProof.Rows
set_option Elab.async false
set_option maxRecDepth 100000
set_option maxHeartbeats 4000000
namespace Mine
theorem psum_same {c d : Nat → Int} : ∀ {n : Nat}, (∀ k, k < n → c k = d k) → psum c n = psum d n
  | 0, _ => rfl
  | n + 1, h => by
    show psum c n + c n = psum d n + d n
    rw [psum_same fun k hk => h k (by omega), h n (by omega)]
theorem psum_front (c : Nat → Int) : ∀ n : Nat, psum c (n + 1) = c 0 + psum (fun k => c (k + 1)) n
  | 0 => by show (0 : Int) + c 0 = c 0 + 0; omega
  | n + 1 => by
    show psum c (n + 1) + c (n + 1) = c 0 + (psum (fun k => c (k + 1)) n + c (n + 1))
    rw [psum_front c n]
    omega
theorem sum_psum : ∀ {xs ys : List Nat}, xs.length = ys.length → psum (fun k => sub1 (ys.getD k 0) (xs.getD k 0)) xs.length = sumL xs ys
  | [], [], _ => rfl
  | a :: xs, b :: ys, h => by
    rw [List.length_cons, psum_front]
    show sub1 b a + psum (fun k => sub1 (ys.getD k 0) (xs.getD k 0)) xs.length = sub1 b a + sumL xs ys
    rw [sum_psum (by simpa using h)]
theorem len_list (l : List Nat) : (⟨l.toArray⟩ : Str).length = l.length := by
  show l.toArray.size = l.length
  simp
theorem by_list {xs ys : List Nat} (h : ys.length = xs.length) : byPlace ⟨xs.toArray⟩ ⟨ys.toArray⟩ xs.length = sumL xs ys := by
  rw [← sum_psum h.symm]
  unfold byPlace
  exact psum_same fun k _ => by rw [cpN_list, cpN_list]
theorem price_list {xs ys : List Nat} (h : ys.length = xs.length) (hx : ∀ c ∈ xs, c < 256) (hy : ∀ c ∈ ys, c < 256) : priceF ⟨xs.toArray⟩ ⟨ys.toArray⟩ xs.length = sumL xs ys := by
  rw [← sum_psum h.symm]
  unfold priceF
  refine psum_same fun k hk => ?_
  rw [cpN_list, cpN_list, sub1_pr]
  · rw [List.getD_eq_getElem?_getD, List.getElem?_eq_getElem hk]
    exact hx _ (List.getElem_mem _)
  · rw [List.getD_eq_getElem?_getD, List.getElem?_eq_getElem (by omega)]
    exact hy _ (List.getElem_mem _)
theorem cat_256 {us : List Str} (hU : ∀ u ∈ us, Un u) : ∀ c ∈ cat us, c < 256 := by
  intro c hc
  obtain ⟨u, hu, hc⟩ := List.mem_flatMap.mp hc
  rcases hU u hu with ⟨d, rfl, _, hd⟩ | ⟨a, b, rfl, ha, hb⟩
  · have : c = d := by simpa using hc
    omega
  · have h1 := hex_lt ha
    have h2 := hex_lt hb
    have : c = 61 ∨ c = a ∨ c = b := by simpa using hc
    omega
theorem slips_un {us us1 us2 : List Str} (h1 : 1 ≤ us.length) (hU : ∀ u ∈ us, Un u) (s1 : ∃ p n, us1 = slipF us p n) (s2 : ∃ p n, us2 = slipF us1 p n) : ∀ u ∈ us2, Un u := by
  obtain ⟨p1, n1, rfl⟩ := s1
  obtain ⟨p2, n2, rfl⟩ := s2
  exact slip_un (by rw [slip_len h1]; exact h1) (slip_un h1 hU p1 n1) p2 n2
theorem wrap_list (l : List Nat) : wrapS ⟨l.toArray⟩ = ⟨([61, 63, 120, 63, 113, 63] ++ l ++ [63, 61]).toArray⟩ := by
  have e1 : Str.ofString "=?x?q?" = ⟨#[61, 63, 120, 63, 113, 63]⟩ := rfl
  have e2 : Str.ofString "?=" = ⟨#[63, 61]⟩ := rfl
  unfold wrapS
  rw [e1, e2]
  refine Str.ext' (Array.toList_inj.mp ?_)
  simp [Str.cps_append]
theorem lev_a {us us1 us2 : List Str} (h1 : 1 ≤ us.length) (h6 : us.length ≤ 6) (hU : ∀ u ∈ us, Un u) (s1 : ∃ p n, us1 = slipF us p n) (s2 : ∃ p n, us2 = slipF us1 p n) {word slipped units : Str} (hw : word = wrapS units) (hS : slipped = ⟨(cat us2).toArray⟩) (hu : units = ⟨(cat us).toArray⟩) :
    word.length ≤ 40 ∧ (wrapS slipped).length = word.length ∧ byPlace word (wrapS slipped) word.length ≤ 4 ∧ slipped.length = units.length ∧ byPlace word (wrapS slipped) word.length = priceF units slipped units.length := by
  obtain ⟨a1, a2⟩ := slips_sum f_id h1 hU s1 s2
  simp only [List.map_id] at a1 a2
  have h18 : (cat us).length ≤ 18 := by
    have : ∀ {us : List Str}, (∀ u ∈ us, u.length ≤ 3) → (us.map (·.length)).sum ≤ 3 * us.length := by
      intro us h3
      induction us with
      | nil => exact Nat.le_refl _
      | cons u r ih =>
        have h1 := h3 u (.head _)
        have h2 := ih fun u hu => h3 u (.tail _ hu)
        simp only [List.map_cons, List.sum_cons, List.length_cons]
        omega
    rw [← cat_len]
    have := this fun u hu => (hU u hu).len3
    omega
  subst hw hS hu
  rw [wrap_list, wrap_list, len_list, len_list, len_list, len_list]
  have e : sumL ([61, 63, 120, 63, 113, 63] ++ cat us ++ [63, 61]) ([61, 63, 120, 63, 113, 63] ++ cat us2 ++ [63, 61]) = sumL (cat us) (cat us2) := by
    rw [sumL_app _ _ (by simp only [List.length_append, a1]), sumL_app _ _ rfl, sumL_self, sumL_self]
    omega
  have hl : ([61, 63, 120, 63, 113, 63] ++ cat us2 ++ [63, 61] : List Nat).length = ([61, 63, 120, 63, 113, 63] ++ cat us ++ [63, 61] : List Nat).length := by simp only [List.length_append, a1]
  rw [by_list hl, e, price_list a1 (cat_256 hU) (cat_256 (slips_un h1 hU s1 s2))]
  refine ⟨?_, hl, a2, a1, rfl⟩
  simp only [List.length_append, List.length_cons, List.length_nil]
  omega
theorem meant_cat {octs : List Int} {us : List Str} (h : us = octs.map wrS) (hO : ∀ k ∈ octs, 0 ≤ k ∧ k < 256) : cat (octs.map fun a => (⟨#[a.toNat]⟩ : Str)) = us.map rd := by
  subst h
  induction octs with
  | nil => rfl
  | cons o r ih =>
    obtain ⟨h0, h1⟩ := hO o (.head _)
    have := ih fun k hk => hO k (.tail _ hk)
    have t := eq_of_beq (List.all_eq_true.mp wr_read_tab o.toNat (List.mem_range.mpr (by omega)))
    simp only [cat, List.map_cons, List.flatMap_cons] at this ⊢
    rw [this, (wr_hdr h0 h1).1, t]
    rfl
theorem lev_b {octs : List Int} {us us1 us2 : List Str} (h : us = octs.map wrS) (hO : ∀ k ∈ octs, 0 ≤ k ∧ k < 256) (h1 : 1 ≤ us.length) (h6 : us.length ≤ 6) (hU : ∀ u ∈ us, Un u) (s1 : ∃ p n, us1 = slipF us p n) (s2 : ∃ p n, us2 = slipF us1 p n) {meant under : Str} (hm : meant = ⟨(cat (octs.map fun a => (⟨#[a.toNat]⟩ : Str))).toArray⟩) (hu : under = ⟨(cat (us2.map readF)).toArray⟩) :
    under.length = meant.length ∧ byPlace meant under meant.length ≤ 4 ∧ byPlace meant under meant.length = priceF meant under meant.length := by
  obtain ⟨a1, a2⟩ := slips_sum f_read h1 hU s1 s2
  have hU2 := slips_un h1 hU s1 s2
  rw [meant_cat h hO, ← cat_read hU] at hm
  subst hm hu
  have lt : ∀ {vs : List Str}, (∀ u ∈ vs, Un u) → ∀ c ∈ cat (vs.map readF), c < 256 := by
    intro vs hV c hc
    rw [cat_read hV] at hc
    obtain ⟨u, hu, rfl⟩ := List.mem_map.mp hc
    exact (read_one (hV u hu)).2
  rw [len_list, len_list, by_list a1, price_list a1 (lt hU) (lt hU2)]
  exact ⟨a1, a2, rfl⟩
end Mine
end
set_option Elab.async false
open PySem PySem.W PyProof.Rows
set_option Elab.async false
set_option maxRecDepth 100000
set_option maxHeartbeats 0
open Mine
local macro_rules | `(tactic| walk_at "call ref") => `(tactic| (k_here; (with_reducible show wpAny _ _ (call (Value.ref 107) _) _ _ _); k_dflt (refine' Ctr.use (Mine.c_octet _ _ _ _ _ _ _) ?k1 ?k2 ?k3 ?k4 ?k5 ?kK ?kd ?ku ?_; (case k1 => k_asm); (case k2 => k_asm); (case k3 => k_asm); (case k4 => k_asm); (case k5 => k_asm); (case kK => first | exact rfl | assumption); (case kd => ktr_room); (case ku => ktr_units)); intro r9 tl9 h' tk' F' N' ho9; (try dsimp only at ho9); (obtain ⟨e1, t9, e2⟩ := ho9); (subst e1); (subst e2); (try simp only [List.nil_append] at N'); (try dsimp only); (try k_fold); (try k_sweep)))
local macro_rules | `(tactic| walk_at "call ref") => `(tactic| (k_here; (with_reducible show wpAny _ _ (call (Value.ref 114) _) _ _ _); k_dflt (refine' Ctr.use (Mine.c_written _ _ _ _ _ _ ?h0 ?h1 _) ?k1 ?k2 ?k3 ?k4 ?k5 ?kK ?kd ?ku ?_; (case h0 => assumption); (case h1 => assumption); (case k1 => k_asm); (case k2 => k_asm); (case k3 => k_asm); (case k4 => k_asm); (case k5 => k_asm); (case kK => first | exact rfl | assumption); (case kd => ktr_room); (case ku => ktr_units)); intro r9 tl9 h' tk' F' N' ho9; (try dsimp only at ho9); (obtain ⟨e1, t9, e2⟩ := ho9); (subst e1); (subst e2); (try simp only [List.nil_append] at N'); (try dsimp only); (try k_fold); (try k_sweep)))
local macro_rules | `(tactic| walk_at "subscriptTail Name Slice ref ref") => `(tactic| (k_here; (with_reducible show wpAny _ _ (subscriptTail _ (PySem.Expr.Slice _ _ (some _) _) (Value.ref _) (Value.ref _)) _ _ _); k_dflt (refine' Mine.slice_step ?sF9 ?sN9 ?sl9 ?sp9 ?sq9 ?sk9 ?so9 ?sm9 ?sz9 ?_ ?ss9 ?st9; (case sF9 => k_asm); (case sN9 => k_asm); (case sl9 => kmk_list); (case sp9 => kmk_part); (case sq9 => kmk_part); (case sk9 => kmk_part); (case so9 => decide); (case sm9 => first | exact Mine.pick_odd (by assumption) | exact Mine.pick_even (by assumption)); (case sz9 => omega); (case ss9 => with_unfolding_all rfl); (case st9 => kmk_pure)); intro D' ws' h' F' N' l1 hI'; (try k_lt l1); (try k_sweep)))
local macro_rules | `(tactic| k_steps) => `(tactic| repeat' ((fail_if_success (with_reducible show wpAny _ _ (eval (PySem.Expr.ListComp _ _ _ _) _) _ _ _)); (fail_if_success (with_reducible show wpAny _ _ (call (Value.builtin "str.join") _) _ _ _)); (fail_if_success (with_reducible show LCg.CompSrc _ _ _ _ _ _ _ (PySem.Expr.Call (PySem.Expr.Name (PySem.Str.ofString "_law_written") _) _ _ _) _ _ _ _ _ _)); (fail_if_success (with_reducible show LCg.CompSrc _ _ _ _ _ _ _ (PySem.Expr.Call (PySem.Expr.Name (PySem.Str.ofString "chr") _) _ _ _) _ _ _ _ _ _)); (fail_if_success (with_reducible show LCg.CompSrc _ _ _ _ _ _ _ (PySem.Expr.Call (PySem.Expr.Name (PySem.Str.ofString "_law_read") _) _ _ _) _ _ _ _ _ _)); (fail_if_success (with_reducible show wpAny _ _ (call (Value.ref 121) _) _ _ _)); (fail_if_success (with_reducible show wpAny _ _ (call (Value.ref 67) _) _ _ _)); (fail_if_success (with_reducible show wpAny _ _ (call (Value.ref 100) _) _ _ _)); (fail_if_success (with_reducible show wpAny _ _ (call (Value.ref 133) _) _ _ _)); (fail_if_success (with_reducible show wpAny _ _ (call (Value.ref 126) _) _ _ _)); (fail_if_success (with_reducible show wpAny _ _ (call (Value.ref 86) _) _ _ _)); first | (k_unfold; (try dsimp only)) | (k_end; wrow_close) | walk1 | (dsimp only; walk1) | (leave1; walk_say "STEP leave1"; try dsimp only) | fail "no step"))
theorem PySem.Challenge.cw_rl0039_01_holds : PySem.Challenge.rw_rl0039_01.Holds := by
  refine Mine.hd ?_
  k_go0
  (all_goals try k_fold)
  k_steps
  obtain ⟨octs, hO, hO1, hO2, hO3⟩ := octs_ex (by assumption)
  have hOl := hO.length
  k_dflt (refine LCg.CompSrc.ledger (by rfl) (by k_asm) (by k_asm) (by k_mem) (by rw [sizeLine_eq, List.size_toArray]; omega) ?_)
  intro g'
  refine comp_rest octs (fun a v => ∃ t, v = .int a t) (fun a v => ∃ t, v = .str (wrS a) t) (by rw [List.size_toArray]; omega) (ints_src hO) ?_ (Or.inr ⟨_, by k_mem, rfl, _, rfl⟩) ?_
  · intro a' v' I' oI' C' oC' D' m' ys' h' tk' E' hc' hv' hC' hx' F' N' off' hS'
    obtain ⟨t', rfl⟩ := hv'
    obtain ⟨ha0, ha1⟩ := hO1 _ hc'
    k_steps
    exact ⟨_, _, _, rfl, by k_asm, by k_asm, by assumption, by assumption, rfl, _, rfl⟩
  intro ys' hys'
  have hU : StrsAre ys' (octs.map wrS) := AllR.strs hys'
  k_steps
  obtain ⟨us, hU, hus0, hus1, hUn, hU3⟩ := units_ex hO1 hU
  have hUl := hU.length
  have hN9 := news_units (by assumption)
  k_dflt (refine' Ctr.use (Mine.c_slip _ _ _ _ _ _ ys' us hU (by omega) (by omega) hU3 _ _ _ _ _) ?k1 ?k2 ?k3 ?k4 ?k5 ?kK ?kd ?ku ?_)
  case k1 => k_asm
  case k2 => k_asm
  case k3 => k_asm
  case k4 => exact hN9
  case k5 => k_asm
  case kK => first | exact rfl | assumption
  case kd => ktr_room
  case ku => ktr_units
  intro r9 tl9 h9 tk9 hF9 hN8 ho9
  obtain ⟨D1, vs1, c1, e1, e2, hV1⟩ := ho9
  subst e1
  subst e2
  simp only [List.cons_append, List.nil_append] at hN8
  (try dsimp only)
  (try k_fold)
  clear hN9
  obtain ⟨us1, hV1, hs1, hus2, hUn1, hU31⟩ := slip_ex (by omega) hUn hV1
  have hVl1 := hV1.length
  k_steps
  k_dflt (refine' Ctr.use (Mine.c_slip _ _ _ _ _ _ vs1 us1 hV1 (by omega) (by omega) hU31 _ _ _ _ _) ?k1 ?k2 ?k3 ?k4 ?k5 ?kK ?kd ?ku ?_)
  case k1 => k_asm
  case k2 => k_asm
  case k3 => k_asm
  case k4 => exact hN8
  case k5 => k_asm
  case kK => first | exact rfl | assumption
  case kd => ktr_room
  case ku => ktr_units
  clear hF9 hN8
  intro r9 tl9 h9 tk9 hF9 hN8 ho9
  obtain ⟨D2, vs2, c2, e1, e2, hV2⟩ := ho9
  subst e1
  subst e2
  simp only [List.cons_append, List.nil_append] at hN8
  (try dsimp only)
  (try k_fold)
  obtain ⟨us2, hV2, hs2, hus3, hUn2, hU32⟩ := slip_ex (by omega) hUn1 hV2
  have hVl2 := hV2.length
  k_steps
  k_dflt (refine Mine.join_units (by kmk_list) hV2 (by omega) hU32 ?_)
  intro slipped tS kS hS1 hS2
  (try dsimp only)
  (try k_fold)
  k_steps
  k_dflt (refine LCg.ListComp_U (F₀ := by k_asm) (by with_unfolding_all rfl) (by decide) (by rfl) (by decide) (by rfl) ?_)
  k_steps
  k_dflt (refine LCg.CompSrc.ledger (by rfl) (by k_asm) (by k_asm) (by k_mem) (by rw [sizeLine_eq, List.size_toArray]; omega) ?_)
  intro g'
  refine comp_rest octs (fun a v => ∃ t, v = .int a t) (fun a v => ∃ t, v = .str ⟨#[a.toNat]⟩ t) (by rw [List.size_toArray]; omega) (ints_src hO) ?_ (Or.inr ⟨_, by k_mem, rfl, _, rfl⟩) ?_
  · intro a' v' I' oI' C' oC' D' m' ys' h' tk' E' hc' hv' hC' hx' F' N' off' hS'
    obtain ⟨t', rfl⟩ := hv'
    obtain ⟨ha0, ha1⟩ := hO1 _ hc'
    k_steps
    exact ⟨_, _, _, rfl, by k_asm, by k_asm, by assumption, by assumption, rfl, _, rfl⟩
  intro ym' hym'
  have hM : StrsAre ym' (octs.map fun a => ⟨#[a.toNat]⟩) := AllR.strs hym'
  k_steps
  k_dflt (refine Mine.join_units (by kmk_list) hM (by simpa using hO3) (by simp [PySem.Str.length]) ?_)
  intro meant tM kM hM1 hM2
  (try dsimp only)
  (try k_fold)
  k_steps
  k_dflt (refine' Ctr.use (Mine.c_henc _ _ _ _ (Mine.bytesL octs) _ _ (by intro e; simp [Mine.bytesL] at e; subst e; simp at hO2) (by simpa [Mine.bytesL] using hO3) _) ?k1 ?k2 ?k3 ?k4 ?k5 ?kK ?kd ?ku ?_)
  case k1 => k_asm
  case k2 => k_asm
  case k3 => k_asm
  case k4 => k_asm
  case k5 => k_asm
  case kK => first | exact rfl | assumption
  case kd => ktr_room
  case ku => ktr_units
  intro r9 tl9 h9 tk9 hF7 hN7 ho9
  obtain ⟨e1, word, tw, e2, hW⟩ : tl9 = [] ∧ ∃ word t, r9 = Value.str word t ∧ word = Mine.wrapS ⟨(cat us).toArray⟩ := ⟨ho9.1, _, ho9.2.choose, ho9.2.choose_spec, by rw [Mine.word_eq hus0 hO1]⟩
  subst e1
  subst e2
  simp only [List.nil_append] at hN7
  (try dsimp only)
  (try k_fold)
  k_steps
  obtain ⟨hA1, hA2, hA3, hA4, hA5⟩ := Mine.lev_a (by omega) (by omega) hUn hs1 hs2 hW hS1 rfl
  k_dflt (refine' Ctr.use (Mine.c_lev _ _ _ _ word (Mine.wrapS slipped) _ _ _ hA1 hA2 hA3 _) ?k1 ?k2 ?k3 ?k4 ?k5 ?kK ?kd ?ku ?_)
  case k1 => k_asm
  case k2 => k_asm
  case k3 => k_asm
  case k4 => k_asm
  case k5 => k_asm
  case kK => first | exact rfl | assumption
  case kd => ktr_room
  case ku => ktr_units
  intro r9 tl9 h9 tk9 hF7 hN7 ho9
  obtain ⟨e1, lv, tlv, e2, hlv⟩ : tl9 = [] ∧ ∃ lv t, r9 = Value.int lv t ∧ lv = Mine.priceF ⟨(cat us).toArray⟩ slipped (⟨(cat us).toArray⟩ : PySem.Str).length := ⟨ho9.1, _, ho9.2.choose, ho9.2.choose_spec, hA5⟩
  subst e1
  subst e2
  simp only [List.nil_append] at hN7
  (try dsimp only)
  (try k_fold)
  k_steps
  k_dflt (refine Mine.join_units (by kmk_list) hU (by omega) hU3 ?_)
  intro units tU kU hu1 hu2
  rw [← hu1] at hlv hA4
  (try dsimp only)
  (try k_fold)
  k_steps
  k_dflt (refine' Ctr.use (Mine.c_price _ _ _ _ units slipped _ _ (by omega) hA4 _) ?k1 ?k2 ?k3 ?k4 ?k5 ?kK ?kd ?ku ?_)
  case k1 => k_asm
  case k2 => k_asm
  case k3 => k_asm
  case k4 => k_asm
  case k5 => k_asm
  case kK => first | exact rfl | assumption
  case kd => ktr_room
  case ku => ktr_units
  intro r9 tl9 h9 tk9 hF7 hN7 ho9
  obtain ⟨e1, tpv, e2⟩ : tl9 = [] ∧ ∃ t, r9 = Value.int lv t := ⟨ho9.1, ho9.2.choose, by rw [hlv]; exact ho9.2.choose_spec⟩
  subst e1
  subst e2
  simp only [List.nil_append] at hN7
  (try dsimp only)
  (try k_fold)
  walk1
  rw [show (lv != lv) = false from bne_self_eq_false lv]
  k_steps
  clear ho9
  k_dflt (refine LCg.ListComp_U (F₀ := by k_asm) (by with_unfolding_all rfl) (by decide) (by rfl) (by decide) (by rfl) ?_)
  k_steps
  k_dflt (refine LCg.CompSrc.ledger (by rfl) (by k_asm) (by k_asm) (by k_mem) (by rw [sizeLine_eq, List.size_toArray]; omega) ?_)
  intro g'
  refine comp_rest us2 (fun a v => ∃ t, v = .str a t) (fun a v => ∃ t, v = .str (readF a) t) (by rw [List.size_toArray]; omega) (strs_src hV2) ?_ (Or.inr ⟨_, by k_mem, rfl, _, rfl⟩) ?_
  · intro a' v' I' oI' C' oC' D' m' ys' h' tk' E' hc' hv' hC' hx' F' N' off' hS'
    obtain ⟨t', rfl⟩ := hv'
    have hua := hUn2 _ hc'
    k_steps
    k_dflt (refine' Ctr.use (Mine.c_read _ _ _ _ a' _ (hU32 _ hc') (Mine.read_hex hua) _) ?k1 ?k2 ?k3 ?k4 ?k5 ?kK ?kd ?ku ?_)
    case k1 => k_asm
    case k2 => k_asm
    case k3 => k_asm
    case k4 => k_asm
    case k5 => k_asm
    case kK => first | exact rfl | assumption
    case kd => ktr_room
    case ku => ktr_units
    intro r9 tl9 h9 tk9 hF7 hN7 ho9
    obtain ⟨e1, t9, e2⟩ := ho9
    subst e1
    subst e2
    simp only [List.nil_append] at hN7
    (try dsimp only)
    (try k_fold)
    k_steps
    exact ⟨_, _, _, rfl, by k_asm, by k_asm, by assumption, by assumption, rfl, _, rfl⟩
  intro yr' hyr'
  have hR : StrsAre yr' (us2.map readF) := AllR.strs hyr'
  k_steps
  k_dflt (refine Mine.join_units (by kmk_list) hR (by rw [List.length_map]; omega) (by intro u hu; obtain ⟨v, hv, rfl⟩ := List.mem_map.mp hu; rw [Mine.read_len (hUn2 _ hv)]; decide) ?_)
  intro under tR kR hR1 hR2
  (try dsimp only)
  (try k_fold)
  k_steps
  obtain ⟨segs, z, hD1, hD2, hD3, hD4⟩ := Mine.dec_a hUn2 hS1 hS2
  k_dflt (refine' Ctr.use (Mine.c_hdec _ _ _ _ slipped _ segs z (by omega) hD1 hD2 hD3 _) ?k1 ?k2 ?k3 ?k4 ?k5 ?kK ?kd ?ku ?_)
  case k1 => k_asm
  case k2 => k_asm
  case k3 => k_asm
  case k4 => k_asm
  case k5 => k_asm
  case kK => first | exact rfl | assumption
  case kd => ktr_room
  case ku => ktr_units
  intro r9 tl9 h9 tk9 hF7 hN7 ho9
  obtain ⟨e1, tdv, e2⟩ : tl9 = [] ∧ ∃ t, r9 = Value.str under t := ⟨ho9.1, ho9.2.choose, by rw [hR1, ← hD4]; exact ho9.2.choose_spec⟩
  subst e1
  subst e2
  clear ho9
  simp only [List.nil_append] at hN7
  (try dsimp only)
  (try k_fold)
  k_steps
  obtain ⟨hB1, hB2, hB3⟩ := Mine.lev_b hus0 hO1 (by omega) (by omega) hUn hs1 hs2 hM1 hR1
  k_dflt (refine' Ctr.use (Mine.c_lev _ _ _ _ meant under _ _ _ (by omega) hB1 hB2 _) ?k1 ?k2 ?k3 ?k4 ?k5 ?kK ?kd ?ku ?_)
  case k1 => k_asm
  case k2 => k_asm
  case k3 => k_asm
  case k4 => k_asm
  case k5 => k_asm
  case kK => first | exact rfl | assumption
  case kd => ktr_room
  case ku => ktr_units
  intro r9 tl9 h9 tk9 hF7 hN7 ho9
  obtain ⟨e1, lb, tlb, e2, hlb⟩ : tl9 = [] ∧ ∃ lv t, r9 = Value.int lv t ∧ lv = Mine.priceF meant under meant.length := ⟨ho9.1, _, ho9.2.choose, ho9.2.choose_spec, hB3⟩
  subst e1
  subst e2
  clear ho9
  simp only [List.nil_append] at hN7
  (try dsimp only)
  (try k_fold)
  k_steps
  k_dflt (refine' Ctr.use (Mine.c_price _ _ _ _ meant under _ _ (by omega) hB1 _) ?k1 ?k2 ?k3 ?k4 ?k5 ?kK ?kd ?ku ?_)
  case k1 => k_asm
  case k2 => k_asm
  case k3 => k_asm
  case k4 => k_asm
  case k5 => k_asm
  case kK => first | exact rfl | assumption
  case kd => ktr_room
  case ku => ktr_units
  intro r9 tl9 h9 tk9 hF7 hN7 ho9
  obtain ⟨e1, tpv, e2⟩ : tl9 = [] ∧ ∃ t, r9 = Value.int lb t := ⟨ho9.1, ho9.2.choose, by rw [hlb]; exact ho9.2.choose_spec⟩
  subst e1
  subst e2
  clear ho9
  simp only [List.nil_append] at hN7
  (try dsimp only)
  (try k_fold)
  walk1
  rw [show (lb == lb) = true from beq_self_eq_true lb]
  refine PySem.W.goodW_bool (by with_reducible assumption) (by with_reducible assumption) (raisesW_false ?_) ?_
  · wrow_none_raised
  · with_unfolding_all exact rfl
