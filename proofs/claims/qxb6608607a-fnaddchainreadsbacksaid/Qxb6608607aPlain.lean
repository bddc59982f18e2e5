/-
  The plain course of a segment: its bytes, its places, its map, after k sections.
-/
import Derived.Test.Qxb6608607aDesc
namespace Go.Proofs.Qxb6608607a

section
variable (u : Bool) (pre : List Int) (t : Nat → Int) (dd : Nat → List Int)

/-- The length of the bytes after k sections. -/
def bN : Nat → Nat
  | 0 => pre.length
  | k + 1 => bN k + (dd k).length + padU u (dd k).length + 64
/-- Where the descriptor of section k lies. -/
def bP (k : Nat) : Nat := bN u pre dd k + (dd k).length + padU u (dd k).length
/-- 'last' after k sections. -/
def bL : Nat → Int
  | 0 => 0
  | k + 1 => (bP u pre dd k : Nat)
/-- The descriptor of section k. -/
def bD (k : Nat) : List Int := desc64 (t k) (bL u pre dd k) (((dd k).length : Int) + (padU u (dd k).length : Int)) (padU u (dd k).length : Int)
/-- The bytes after k sections. -/
def bB : Nat → List Int
  | 0 => pre
  | k + 1 => bB k ++ dd k ++ List.replicate (padU u (dd k).length) 0 ++ bD u pre t dd k
/-- The map after k sections. -/
def bG : Nat → Int → List Int
  | 0 => fun _ => []
  | k + 1 => addG (bG k) (t k) (bP u pre dd k : Nat)
def bC : Nat → Nat
  | 0 => 0
  | k + 1 => addC (bG u pre t dd k) (t k) (bC k)
end

section
variable {u : Bool} {pre : List Int} {t : Nat → Int} {dd : Nat → List Int}

theorem padU_le (u : Bool) (n : Nat) : padU u n ≤ 15 := by unfold padU padOf; split <;> omega

theorem bB_length : ∀ k, (bB u pre t dd k).length = bN u pre dd k
  | 0 => rfl
  | k + 1 => by simp [bB, bN, bB_length k, bD, desc64_length]; omega
theorem bN_succ (k : Nat) : bN u pre dd (k + 1) = bP u pre dd k + 64 := rfl
theorem bN_le (tot : Nat) : ∀ k, (∀ j, j < k → (dd j).length ≤ tot) → bN u pre dd k ≤ pre.length + k * (tot + 79)
  | 0, _ => by simp [bN]
  | k + 1, h => by
    have h1 := bN_le tot k (fun j hj => h j (by omega))
    have h2 := h k (by omega)
    have h3 := padU_le u (dd k).length
    simp only [bN]
    rw [Nat.succ_mul]
    omega
/-- The sum of the lengths. -/
def sumL (dd : Nat → List Int) : Nat → Nat
  | 0 => 0
  | k + 1 => sumL dd k + (dd k).length
theorem sumL_mono {j k : Nat} (h : j ≤ k) : sumL dd j ≤ sumL dd k := by
  induction k with
  | zero => rw [Nat.le_zero.1 h]; exact Nat.le_refl _
  | succ k ih =>
    by_cases e : j = k + 1
    · rw [e]; exact Nat.le_refl _
    · have := ih (by omega); simp only [sumL]; omega
theorem bN_sum : ∀ k, bN u pre dd k ≤ pre.length + sumL dd k + k * 79
  | 0 => by simp [bN, sumL]
  | k + 1 => by
    have h1 := bN_sum k
    have h3 := padU_le u (dd k).length
    simp only [bN, sumL]
    rw [Nat.succ_mul]
    omega
theorem bL_bd (k : Nat) : 0 ≤ bL u pre dd k ∧ bL u pre dd k ≤ (bN u pre dd k : Nat) := by
  cases k with
  | zero => simp [bL]
  | succ k => simp only [bL, bN_succ]; omega
end
end Go.Proofs.Qxb6608607a
