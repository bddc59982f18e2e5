/-
  What the chain's reader finds: the descriptor's fields, and the two rows that he fills.
-/
import Derived.Test.Qxb6608607aChain1
namespace Go.Proofs.Qxb6608607a
open Go.RowKit Go.Maps

section
variable {u : Bool} {pre : List Int} {t : Nat → Int} {dd : Nat → List Int}

/-- 'last' ahead of section k, as a count. -/
def bQ (u : Bool) (pre : List Int) (dd : Nat → List Int) : Nat → Nat
  | 0 => 0
  | k + 1 => bP u pre dd k
theorem bL_eq : ∀ k, bL u pre dd k = ((bQ u pre dd k : Nat) : Int)
  | 0 => rfl
  | _ + 1 => rfl

/-- The sixty bytes ahead of the descriptor's checksum. -/
def bE (u : Bool) (pre : List Int) (t : Nat → Int) (dd : Nat → List Int) (k : Nat) : List Int := desc (t k) (bL u pre dd k) (((dd k).length : Int) + (padU u (dd k).length : Int)) (padU u (dd k).length : Int)
def bA (u : Bool) (pre : List Int) (t : Nat → Int) (dd : Nat → List Int) (k : Nat) : Int := adler (fun j => (bE u pre t dd k).getD j 0) 60

theorem four {j : Nat} (h : j < 4) : j = 0 ∨ j = 1 ∨ j = 2 ∨ j = 3 := by omega
theorem eight {j : Nat} (h : j < 8) : j = 0 ∨ j = 1 ∨ j = 2 ∨ j = 3 ∨ j = 4 ∨ j = 5 ∨ j = 6 ∨ j = 7 := by omega

theorem bD_typ (k j : Nat) (hj : j < 4) : (bD u pre t dd k).getD (0 + j) 0 = (le32 (t k)).getD j 0 := by
  rcases four hj with rfl | rfl | rfl | rfl <;> rfl
theorem bD_nil (k j : Nat) (hj : j < 4) : (bD u pre t dd k).getD (4 + j) 0 = (le32 0).getD j 0 := by
  rcases four hj with rfl | rfl | rfl | rfl <;> rfl
theorem bD_prev (k j : Nat) (hj : j < 8) : (bD u pre t dd k).getD (8 + j) 0 = (le64 (bL u pre dd k)).getD j 0 := by
  rcases eight hj with rfl | rfl | rfl | rfl | rfl | rfl | rfl | rfl <;> rfl
theorem bD_64 (k j : Nat) (hj : j < 4) : (bD u pre t dd k).getD (24 + j) 0 = (le32 64).getD j 0 := by
  rcases four hj with rfl | rfl | rfl | rfl <;> rfl
theorem bD_pad (k j : Nat) (hj : j < 4) : (bD u pre t dd k).getD (28 + j) 0 = (le32 (padU u (dd k).length : Int)).getD j 0 := by
  rcases four hj with rfl | rfl | rfl | rfl <;> rfl
theorem bD_sum (k j : Nat) : (bD u pre t dd k).getD (60 + j) 0 = (le32 (bA u pre t dd k)).getD j 0 := by
  have e : bD u pre t dd k = bE u pre t dd k ++ le32 (bA u pre t dd k) := rfl
  have el : (bE u pre t dd k).length = 60 := desc_length _ _ _ _
  rw [e, ← el, getD_right]
theorem bD_head (k j : Nat) (hj : j < 60) : (bD u pre t dd k).getD j 0 = (bE u pre t dd k).getD j 0 := by
  have e : bD u pre t dd k = bE u pre t dd k ++ le32 (bA u pre t dd k) := rfl
  rw [e, getD_left (by rw [show (bE u pre t dd k).length = 60 from desc_length _ _ _ _]; exact hj)]
theorem bE_zero (k j : Nat) (hj : j < 28) : (bE u pre t dd k).getD (32 + j) 0 = 0 := by
  have e : bE u pre t dd k = (le32 (t k) ++ le32 0 ++ le64 (bL u pre dd k) ++ le64 (((dd k).length : Int) + (padU u (dd k).length : Int)) ++ le32 64 ++ le32 (padU u (dd k).length : Int)) ++ List.replicate 28 0 := rfl
  have el : 32 = (le32 (t k) ++ le32 0 ++ le64 (bL u pre dd k) ++ le64 (((dd k).length : Int) + (padU u (dd k).length : Int)) ++ le32 64 ++ le32 (padU u (dd k).length : Int)).length := rfl
  rw [e, el, getD_right, List.getD, List.getElem?_replicate, if_pos hj]
  rfl
theorem bD_zero (k j : Nat) (hj : j < 28) : (bD u pre t dd k).getD (32 + j) 0 = 0 := by rw [bD_head k _ (by omega), bE_zero k j hj]
end

theorem u32_bd {x : Int} (h : (Lit.int .u32 x).wf = true) : 0 ≤ x ∧ x < 4294967296 := by
  have e1 : IntKind.u32.min = 0 := rfl
  have e2 : IntKind.u32.max = 4294967295 := rfl
  have h2 : 0 ≤ x ∧ x ≤ 4294967295 := by simpa [Lit.wf, e1, e2] using h
  omega

/-- A row of ints of the call's own, from place k on filled with f. -/
def Got (w : World) (b m k : Nat) (f : Nat → Nat) : Prop :=
  ∀ j, j < m → ∃ x : Int, w.cell? ⟨b, j, none⟩ = some (.int .i64 x) ∧ w.frozen? ⟨b, j, none⟩ = false ∧ (k ≤ j → x = (f j : Nat))

theorem Got.drewN {w : World} {b m k : Nat} {f : Nat → Nat} (h : Got w b m k f) (n : Nat) : Got (w.drewN n) b m k f := h
theorem Got.other {w : World} {b m k : Nat} {f : Nat → Nat} (h : Got w b m k f) {b' o : Nat} {v : Value} (hne : b' ≠ b) : Got (w.setCell ⟨b', o, none⟩ v) b m k f := fun j hj => by
  obtain ⟨x, hc, hf, hx⟩ := h j hj
  have hg := grown_set w b' o v
  exact ⟨x, (grown_cell hg (cell_lt hc) (fun e => hne (by cases e; rfl))).trans hc, (grown_frozen hg (cell_lt hc) (fun e => hne (by cases e; rfl))).trans hf, hx⟩
theorem Got.set {w : World} {b m k : Nat} {f : Nat → Nat} (h : Got w b m (k + 1) f) : Got (w.setCell ⟨b, k, none⟩ (.int .i64 (f k : Nat))) b m k f := fun j hj => by
  obtain ⟨x, hc, hf, hx⟩ := h j hj
  by_cases e : k = j
  · subst e
    exact ⟨_, sc_eq hc, by rw [World.frozen?_setCell]; exact hf, fun _ => rfl⟩
  · exact ⟨x, (sc_ne e).trans hc, by rw [World.frozen?_setCell]; exact hf, fun hk => hx (by omega)⟩
theorem Got.cell {w : World} {b m k : Nat} {f : Nat → Nat} (h : Got w b m k f) {j : Nat} (hj : j < m) (hk : k ≤ j) : w.cell? ⟨b, j, none⟩ = some (.int .i64 (f j : Nat)) := by
  obtain ⟨x, hc, _, hx⟩ := h j hj
  rw [hc, hx hk]

/-- A store beside what lay before. -/
theorem below_set {B : Nat} {a w : World} (h : Below B a w) {b o : Nat} {v : Value} (hb : B ≤ b) : Below B a (w.setCell ⟨b, o, none⟩ v) :=
  h.trans ⟨rfl, rfl, rfl, by simp, fun k hk => Below.heap_setCell _ _ _ _ (fun e => by have e' : k = b := e; omega)⟩

/-- The chain's loop, y sections to go: nothing of old is changed, the two rows are filled from y on. -/
def R5 (W : World) (A Bk m : Nat) (P S : Nat → Nat) (y : Nat) (w : World) : Prop := Below W.heap.size W w ∧ Got w A m y P ∧ Got w Bk m y S
theorem R5.next {W : World} {A Bk m : Nat} {P S : Nat → Nat} {x : Nat} {w : World} (h : R5 W A Bk m P S (x + 1) w) (hA : W.heap.size ≤ A) (hB : W.heap.size ≤ Bk) (hAB : A ≠ Bk) (n : Nat) :
    R5 W A Bk m P S x (((w.drewN n).setCell ⟨A, x, none⟩ (.int .i64 (P x : Nat))).setCell ⟨Bk, x, none⟩ (.int .i64 (S x : Nat))) :=
  ⟨below_set (below_set (below_drewn h.1 n) hA) hB, ((h.2.1.drewN n).set).other (Ne.symm hAB), ((h.2.2.drewN n).other hAB).set⟩
end Go.Proofs.Qxb6608607a
