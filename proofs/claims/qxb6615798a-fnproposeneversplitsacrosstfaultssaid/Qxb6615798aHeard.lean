/-
  'ZZnewCycleIndexAt' and '(*CycleIndex).heard', each by a contract.
-/
import Derived.Test.Qxb6615798aQuorum
namespace Go.Proofs.Qxb6615798a
open Go.RowKit

/-- The index's block, as far as 'propose' reads it. -/
def Idx (w : World) (c : Nat) (n t id st idx : Int) : Prop :=
  w.cell? ⟨c, 0, none⟩ = some (.int .i64 n) ∧ w.cell? ⟨c, 1, none⟩ = some (.int .i64 t) ∧ w.cell? ⟨c, 2, none⟩ = some (.int .i64 id) ∧ w.cell? ⟨c, 4, none⟩ = some (.int .u32 st) ∧ w.cell? ⟨c, 6, none⟩ = some (.int .u32 idx)
theorem Idx.drewN {w : World} {c : Nat} {n t id st idx : Int} (h : Idx w c n t id st idx) (m : Nat) : Idx (w.drewN m) c n t id st idx := h

def idxObj5 (n t id st idx : Int) : Obj := .cells #[.int .i64 n, .int .i64 t, .int .i64 id, .int .i64 0, .int .u32 st, .pointer none, .int .u32 idx, .int .u32 0, .int .u32 0, .slice none 0 0] 46
theorem newIdx_any (n t id st idx : Int) (w : World) :
    Calls Try.prog 8 #[.int .i64 n, .int .i64 t, .int .i64 id, .int .u32 st, .int .u32 idx] w fun e w' => e = .returned (.pointer (some ⟨w.heap.size, 0, none⟩)) ∧ w' = w.alloc (idxObj5 n t id st idx) := by
  go_enter Try.func8, Try.ntmps8
  go_wp2
  go_ret
  exact ⟨rfl, rfl⟩
theorem idx_new (n t id st idx : Int) (w : World) : Idx (w.alloc (idxObj5 n t id st idx)) w.heap.size n t id st idx := by
  refine ⟨?_, ?_, ?_, ?_, ?_⟩ <;> simp [idxObj5, go_sem]

/-- The messages as 'propose' reads them: a row of five cells each, from the head of block g on. -/
def Recv (w : World) (g len : Nat) (ph vl : Nat → Int) : Prop :=
  ∀ j, j < len → w.cell? ⟨g, j * 5 + 2, none⟩ = some (.int .u8 (ph j)) ∧ w.cell? ⟨g, j * 5 + 3, none⟩ = some (.int .u32 (vl j))
theorem Recv.drewN {w : World} {g len : Nat} {ph vl : Nat → Int} (h : Recv w g len ph vl) (m : Nat) : Recv (w.drewN m) g len ph vl := h

theorem heard_near (c g len cap : Nat) (ph vl : Nat → Int) (n t st idx : Int) (j id : Nat) (w : World) (_hl : len ≤ 4096) (_hj : j < 4096) (e : j ≠ id) (h : j < len) (hI : Idx w c n t id st idx)
    (c0 : w.cell? ⟨g, j * 5 + 2, none⟩ = some (.int .u8 (ph j))) (c1 : w.cell? ⟨g, j * 5 + 3, none⟩ = some (.int .u32 (vl j))) :
    Calls Try.prog 20 #[.pointer (some ⟨c, 0, none⟩), .slice (some ⟨g, 0, none⟩) len cap, .int .i64 j, .int .u8 1, .int .u32 idx] w fun e w' => e = .returned (.tuple #[.int .u32 (sayV len id idx ph vl j), .bool (sayO len id st idx ph vl j)]) ∧ ∃ m, w' = w.drewN m := by
  obtain ⟨i0, i1, i2, i4, i6⟩ := hI
  have h1 : ((j : Int) != (id : Int)) = true := by simp; omega
  have hlt : (j : Int) < (len : Int) := by omega
  have hd : decide (len ≤ j) = false := by simp; omega
  by_cases hp : ph j = 1
  · have e1 : sayV len id idx ph vl j = vl j := by simp [sayV, e, h, hp]
    have e2 : sayO len id st idx ph vl j = decide (vl j < st) := by simp [sayO, e, h, hp]
    rw [e1, e2]
    clear e1 e2
    go_enter Try.func20, Try.ntmps20
    go_wp2
    go_quiet (fail)
    go_wp2
    go_ret2
    exact ⟨rfl, nq, rfl⟩
  · have e1 : sayV len id idx ph vl j = 0 := by simp [sayV, e, h, hp]
    have e2 : sayO len id st idx ph vl j = false := by simp [sayO, e, h, hp]
    rw [e1, e2]
    clear e1 e2
    have hp' : (ph j != 1) = true := by simpa using hp
    go_enter Try.func20, Try.ntmps20
    go_wp2
    go_ret2
    exact ⟨rfl, 0, rfl⟩
theorem heard_far (c g len cap : Nat) (ph vl : Nat → Int) (n t st idx : Int) (j id : Nat) (w : World) (_hl : len ≤ 4096) (_hj : j < 4096) (e : j ≠ id) (h : len ≤ j) (hI : Idx w c n t id st idx) :
    Calls Try.prog 20 #[.pointer (some ⟨c, 0, none⟩), .slice (some ⟨g, 0, none⟩) len cap, .int .i64 j, .int .u8 1, .int .u32 idx] w fun e w' => e = .returned (.tuple #[.int .u32 (sayV len id idx ph vl j), .bool (sayO len id st idx ph vl j)]) ∧ ∃ m, w' = w.drewN m := by
  obtain ⟨i0, i1, i2, i4, i6⟩ := hI
  have e1 : sayV len id idx ph vl j = 0 := by simp [sayV, e]; omega
  have e2 : sayO len id st idx ph vl j = false := by simp [sayO, e]; omega
  rw [e1, e2]
  clear e1 e2
  have h1 : ((j : Int) != (id : Int)) = true := by simp; omega
  go_enter Try.func20, Try.ntmps20
  go_wp2
  go_ret2
  exact ⟨rfl, 0, rfl⟩
theorem heard_own (c g len cap : Nat) (ph vl : Nat → Int) (n t st idx : Int) (j id : Nat) (w : World) (_hl : len ≤ 4096) (_hj : j < 4096) (e : j = id) (hI : Idx w c n t id st idx) :
    Calls Try.prog 20 #[.pointer (some ⟨c, 0, none⟩), .slice (some ⟨g, 0, none⟩) len cap, .int .i64 j, .int .u8 1, .int .u32 idx] w fun e w' => e = .returned (.tuple #[.int .u32 (sayV len id idx ph vl j), .bool (sayO len id st idx ph vl j)]) ∧ ∃ m, w' = w.drewN m := by
  obtain ⟨i0, i1, i2, i4, i6⟩ := hI
  have e1 : sayV len id idx ph vl j = idx := by simp [sayV, e]
  have e2 : sayO len id st idx ph vl j = decide (idx < st) := by simp [sayO, e]
  rw [e1, e2]
  subst e
  clear e1 e2
  go_enter Try.func20, Try.ntmps20
  go_wp2
  go_quiet (fail)
  go_wp2
  go_ret2
  exact ⟨rfl, nq, rfl⟩

/-- 'heard': what node j said, and whether it counts. -/
theorem heard_any (c g len cap : Nat) (ph vl : Nat → Int) (n t st idx : Int) (j id : Nat) (w : World) (hl : len ≤ 4096) (hj : j < 4096) (hI : Idx w c n t id st idx) (hR : Recv w g len ph vl) :
    Calls Try.prog 20 #[.pointer (some ⟨c, 0, none⟩), .slice (some ⟨g, 0, none⟩) len cap, .int .i64 j, .int .u8 1, .int .u32 idx] w fun e w' => e = .returned (.tuple #[.int .u32 (sayV len id idx ph vl j), .bool (sayO len id st idx ph vl j)]) ∧ ∃ m, w' = w.drewN m := by
  by_cases e : j = id
  · exact heard_own c g len cap ph vl n t st idx j id w hl hj e hI
  · by_cases h : j < len
    · exact heard_near c g len cap ph vl n t st idx j id w hl hj e h hI (hR j h).1 (hR j h).2
    · exact heard_far c g len cap ph vl n t st idx j id w hl hj e (by omega) hI
end Go.Proofs.Qxb6615798a
