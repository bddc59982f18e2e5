/-
  The plain laws of a segment's course: what lies where in its bytes, what its map holds; padded against unpadded.
-/
import Derived.Test.Qxb6608607aPlain
namespace Go.Proofs.Qxb6608607a

/-- How many of the first k types are x. -/
def occ (t : Nat → Int) (x : Int) : Nat → Nat
  | 0 => 0
  | k + 1 => occ t x k + if t k = x then 1 else 0
/-- How many different ones there are among the first k. -/
def dis (t : Nat → Int) : Nat → Nat
  | 0 => 0
  | k + 1 => dis t k + if occ t (t k) k = 0 then 1 else 0

section
variable {u : Bool} {pre : List Int} {t : Nat → Int} {dd : Nat → List Int}

theorem occ_hit {x : Int} {k : Nat} (h : t k = x) : occ t x (k + 1) = occ t x k + 1 := by simp [occ, h]
theorem occ_miss {x : Int} {k : Nat} (h : t k ≠ x) : occ t x (k + 1) = occ t x k := by simp [occ, h]
theorem occ_le (x : Int) : ∀ k, occ t x k ≤ k
  | 0 => Nat.le_refl _
  | k + 1 => by
    have := occ_le x k
    by_cases h : t k = x
    · rw [occ_hit h]; omega
    · rw [occ_miss h]; omega
theorem occ_mono {x : Int} {j k : Nat} (h : j ≤ k) : occ t x j ≤ occ t x k := by
  induction k with
  | zero => rw [Nat.le_zero.1 h]; exact Nat.le_refl _
  | succ k ih =>
    by_cases e : j = k + 1
    · rw [e]; exact Nat.le_refl _
    · have := ih (by omega); simp only [occ]; omega
theorem occ_lt {j k : Nat} (h : j < k) : occ t (t j) j < occ t (t j) k := by
  have h1 : occ t (t j) (j + 1) = occ t (t j) j + 1 := occ_hit rfl
  have h2 := occ_mono (t := t) (x := t j) (show j + 1 ≤ k by omega)
  omega
theorem dis_le : ∀ k, dis t k ≤ k
  | 0 => Nat.le_refl _
  | k + 1 => by
    have := dis_le k
    simp only [dis]; split <;> omega

theorem bG_length : ∀ (k : Nat) (x : Int), (bG u pre t dd k x).length = occ t x k
  | 0, _ => rfl
  | k + 1, x => by
    by_cases h : t k = x
    · subst h; rw [occ_hit rfl]; simp [bG, addG, bG_length k]
    · have h' : ¬ x = t k := fun e => h e.symm
      rw [occ_miss h]; simp [bG, addG, h', bG_length k]
theorem bG_get : ∀ {k j : Nat}, j < k → (bG u pre t dd k (t j)).getD (occ t (t j) j) 0 = ((bP u pre dd j : Nat) : Int)
  | 0, _, h => absurd h (Nat.not_lt_zero _)
  | k + 1, j, h => by
    by_cases e : j = k
    · subst e
      have hl := bG_length (u := u) (pre := pre) (t := t) (dd := dd) j (t j)
      simp [bG, addG, List.getD, ← hl]
    · have hlt : j < k := by omega
      have ih := bG_get hlt
      by_cases h2 : t j = t k
      · have hl := bG_length (u := u) (pre := pre) (t := t) (dd := dd) k (t j)
        have hlo := occ_lt (t := t) hlt
        have e1 : bG u pre t dd (k + 1) (t j) = bG u pre t dd k (t j) ++ [((bP u pre dd k : Nat) : Int)] := by simp [bG, addG, h2]
        rw [e1]
        rw [← ih]
        simp [List.getD, List.getElem?_append_left (show occ t (t j) j < (bG u pre t dd k (t j)).length by omega)]
      · have e1 : bG u pre t dd (k + 1) (t j) = bG u pre t dd k (t j) := by simp [bG, addG, h2]
        rw [e1]; exact ih
theorem bC_eq : ∀ k, bC u pre t dd k = dis t k
  | 0 => rfl
  | k + 1 => by
    have hl := bG_length (u := u) (pre := pre) (t := t) (dd := dd) k (t k)
    simp only [bC, addC, dis, bC_eq k]
    by_cases h : occ t (t k) k = 0
    · rw [if_pos (List.eq_nil_of_length_eq_zero (by omega)), if_pos h]
    · rw [if_neg (fun e => h (by rw [← hl, e]; rfl)), if_neg h]; rfl

theorem bN_mono {j k : Nat} (h : j ≤ k) : bN u pre dd j ≤ bN u pre dd k := by
  induction k with
  | zero => rw [Nat.le_zero.1 h]; exact Nat.le_refl _
  | succ k ih =>
    by_cases e : j = k + 1
    · rw [e]; exact Nat.le_refl _
    · have := ih (by omega); simp only [bN]; omega
theorem bN_pre (k : Nat) : pre.length ≤ bN u pre dd k := bN_mono (u := u) (pre := pre) (dd := dd) (Nat.zero_le k)
theorem bP_lo (k : Nat) : pre.length ≤ bP u pre dd k := by have := bN_pre (u := u) (pre := pre) (dd := dd) k; unfold bP; omega
theorem bP_hi {k m : Nat} (h : k < m) : bP u pre dd k + 64 ≤ bN u pre dd m := bN_mono (u := u) (pre := pre) (dd := dd) (show k + 1 ≤ m by omega)

theorem bB_ext {k m : Nat} (h : k ≤ m) : ∃ r, bB u pre t dd m = bB u pre t dd k ++ r := by
  induction m with
  | zero => rw [Nat.le_zero.1 h]; exact ⟨[], by simp⟩
  | succ m ih =>
    by_cases e : k = m + 1
    · rw [e]; exact ⟨[], by simp⟩
    · obtain ⟨r, hr⟩ := ih (by omega)
      exact ⟨r ++ dd m ++ List.replicate (padU u (dd m).length) 0 ++ bD u pre t dd m, by simp [bB, hr]⟩
theorem getD_left {l r : List Int} {i : Nat} (h : i < l.length) : (l ++ r).getD i 0 = l.getD i 0 := by simp [List.getD, List.getElem?_append_left h]
theorem getD_right {l r : List Int} {i : Nat} : (l ++ r).getD (l.length + i) 0 = r.getD i 0 := by
  unfold List.getD
  rw [List.getElem?_append_right (Nat.le_add_right _ _), Nat.add_sub_cancel_left]
theorem bB_get {k m i : Nat} (h : k ≤ m) (hi : i < bN u pre dd k) : (bB u pre t dd m).getD i 0 = (bB u pre t dd k).getD i 0 := by
  obtain ⟨r, hr⟩ := bB_ext (u := u) (pre := pre) (t := t) (dd := dd) h
  rw [hr, getD_left (by rw [bB_length]; exact hi)]
theorem bB_pre {m i : Nat} (hi : i < pre.length) : (bB u pre t dd m).getD i 0 = pre.getD i 0 := bB_get (k := 0) (Nat.zero_le _) hi
theorem bB_data {k m j : Nat} (h : k < m) (hj : j < (dd k).length) : (bB u pre t dd m).getD (bN u pre dd k + j) 0 = (dd k).getD j 0 := by
  rw [bB_get (k := k + 1) (by omega) (by rw [bN_succ]; unfold bP; omega)]
  have e : bB u pre t dd (k + 1) = bB u pre t dd k ++ (dd k ++ (List.replicate (padU u (dd k).length) 0 ++ bD u pre t dd k)) := by simp [bB]
  rw [e, ← bB_length (t := t), getD_right, getD_left hj]
theorem bB_zero {k m j : Nat} (h : k < m) (hj : j < padU u (dd k).length) : (bB u pre t dd m).getD (bN u pre dd k + (dd k).length + j) 0 = 0 := by
  rw [bB_get (k := k + 1) (by omega) (by rw [bN_succ]; unfold bP; omega)]
  have e : bB u pre t dd (k + 1) = (bB u pre t dd k ++ dd k) ++ (List.replicate (padU u (dd k).length) 0 ++ bD u pre t dd k) := by simp [bB]
  have el : bN u pre dd k + (dd k).length = (bB u pre t dd k ++ dd k).length := by rw [List.length_append, bB_length]
  rw [e, el, getD_right, getD_left (by simpa using hj)]
  simp [List.getD, hj]
theorem bB_desc {k m j : Nat} (h : k < m) (hj : j < 64) : (bB u pre t dd m).getD (bP u pre dd k + j) 0 = (bD u pre t dd k).getD j 0 := by
  rw [bB_get (k := k + 1) (by omega) (by rw [bN_succ]; omega)]
  have e : bB u pre t dd (k + 1) = (bB u pre t dd k ++ dd k ++ List.replicate (padU u (dd k).length) 0) ++ bD u pre t dd k := by simp [bB]
  have el : bP u pre dd k = (bB u pre t dd k ++ dd k ++ List.replicate (padU u (dd k).length) 0).length := by unfold bP; rw [List.length_append, List.length_append, bB_length]; simp
  rw [e, el, getD_right]

/-- The size, as the descriptor spells it. -/
theorem bD_size (k j : Nat) (hj : j < 8) : (bD u pre t dd k).getD (16 + j) 0 = (le64 (((dd k).length : Int) + (padU u (dd k).length : Int))).getD j 0 := by
  have hc : j = 0 ∨ j = 1 ∨ j = 2 ∨ j = 3 ∨ j = 4 ∨ j = 5 ∨ j = 6 ∨ j = 7 := by omega
  rcases hc with rfl | rfl | rfl | rfl | rfl | rfl | rfl | rfl <;> rfl
end

/-! ### Padded against unpadded -/
section
variable {pre : List Int} {dd : Nat → List Int}
def shf (dd : Nat → List Int) : Nat → Nat
  | 0 => 0
  | k + 1 => shf dd k + padOf (dd k).length
theorem bN_shift : ∀ k, bN false pre dd k = bN true pre dd k + shf dd k
  | 0 => rfl
  | k + 1 => by simp only [bN, shf, bN_shift k, padU]; simp; omega
theorem bP_shift (k : Nat) : bP false pre dd k = bP true pre dd k + shf dd (k + 1) := by
  unfold bP; rw [bN_shift]; simp [padU, shf]; omega
theorem bN_grid : ∀ k, (bN false pre dd k - pre.length) % 16 = 0
  | 0 => by simp [bN]
  | k + 1 => by
    have h1 := bN_grid k
    have h2 := bN_pre (u := false) (pre := pre) (dd := dd) k
    have h3 : ((dd k).length + padOf (dd k).length) % 16 = 0 := by unfold padOf; omega
    simp only [bN, padU]
    simp
    omega
theorem bP_grid (k : Nat) : (bP false pre dd k - pre.length) % 16 = 0 := by
  have h := bN_grid (pre := pre) (dd := dd) (k + 1)
  have h2 := bP_lo (u := false) (pre := pre) (dd := dd) k
  rw [bN_succ] at h
  omega
end
end Go.Proofs.Qxb6608607a
