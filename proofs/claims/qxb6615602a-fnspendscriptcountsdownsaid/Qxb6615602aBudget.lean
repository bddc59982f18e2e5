/-
  The budget's functions of this seat, each by a contract of its own.
-/
import Derived.Test.Qxb6615602aRows
import Derived.WalkKit
import Derived.WalkSpells
import Derived.RowKit3
namespace Go.Proofs.Qxb6615602a
open Go.RowKit

/-- 'ZZNewBudget': one new block, with the number in it. -/
theorem new_any (l : Int) (w : World) :
    Calls Try.prog 7 #[.int .i64 l] w fun e w' => e = .returned (.pointer (some ⟨w.heap.size, 0, none⟩)) ∧ w' = w.alloc (.cells #[.int .i64 l] 35) := by
  go_enter Try.func7, Try.ntmps7
  go_wp2
  go_ret
  exact ⟨rfl, rfl⟩

/-- '(*budget).take', where enough is left. -/
theorem take_yes (b : Nat) (l n : Int) (w : World) (h0 : 0 ≤ n) (hl : l ≤ 9223372036854775807) (h : n ≤ l)
    (hc : w.cell? ⟨b, 0, none⟩ = some (.int .i64 l)) (hf : w.frozen? ⟨b, 0, none⟩ = false) :
    Calls Try.prog 17 #[.pointer (some ⟨b, 0, none⟩), .int .i64 n] w fun e w' => e = .returned (.bool true) ∧ w' = w.setCell ⟨b, 0, none⟩ (.int .i64 (l - n)) := by
  go_enter Try.func17, Try.ntmps17
  go_wp2
  go_ret
  exact ⟨rfl, rfl⟩

/-- '(*budget).take', where too little is left. -/
theorem take_no (b : Nat) (l n : Int) (w : World) (h : l < n)
    (hc : w.cell? ⟨b, 0, none⟩ = some (.int .i64 l)) :
    Calls Try.prog 17 #[.pointer (some ⟨b, 0, none⟩), .int .i64 n] w fun e w' => e = .returned (.bool false) ∧ w' = w := by
  go_enter Try.func17, Try.ntmps17
  go_wp2
  go_ret
  exact ⟨rfl, rfl⟩

/-- 'ZZTake', where enough is left. -/
theorem zztake_yes (b : Nat) (l n : Int) (w : World) (h0 : 0 ≤ n) (hl : l ≤ 9223372036854775807) (h : n ≤ l)
    (hc : w.cell? ⟨b, 0, none⟩ = some (.int .i64 l)) (hf : w.frozen? ⟨b, 0, none⟩ = false) :
    Calls Try.prog 10 #[.pointer (some ⟨b, 0, none⟩), .int .i64 n] w fun e w' => e = .returned (.bool true) ∧ w' = w.setCell ⟨b, 0, none⟩ (.int .i64 (l - n)) := by
  go_enter Try.func10, Try.ntmps10
  go_wp2_with (go_at_call 17; refine (take_yes b l n _ h0 hl h hc hf).mono ?_; rintro e w' ⟨rfl, rfl⟩)
  go_ret
  exact ⟨rfl, rfl⟩

/-- 'ZZTake', where too little is left. -/
theorem zztake_no (b : Nat) (l n : Int) (w : World) (h : l < n)
    (hc : w.cell? ⟨b, 0, none⟩ = some (.int .i64 l)) :
    Calls Try.prog 10 #[.pointer (some ⟨b, 0, none⟩), .int .i64 n] w fun e w' => e = .returned (.bool false) ∧ w' = w := by
  go_enter Try.func10, Try.ntmps10
  go_wp2_with (go_at_call 17; refine (take_no b l n _ h hc).mono ?_; rintro e w' ⟨rfl, rfl⟩)
  go_ret
  exact ⟨rfl, rfl⟩

/-- 'ZZSpend', where one is left. -/
theorem spend_yes (b : Nat) (l : Int) (w : World) (hl : l ≤ 9223372036854775807) (h : 1 ≤ l)
    (hc : w.cell? ⟨b, 0, none⟩ = some (.int .i64 l)) (hf : w.frozen? ⟨b, 0, none⟩ = false) :
    Calls Try.prog 8 #[.pointer (some ⟨b, 0, none⟩)] w fun e w' => e = .returned (.bool true) ∧ w' = w.setCell ⟨b, 0, none⟩ (.int .i64 (l - 1)) := by
  go_enter Try.func8, Try.ntmps8
  go_wp2
  go_ret
  exact ⟨rfl, rfl⟩

/-- 'ZZSpend', where none is left. -/
theorem spend_no (b : Nat) (l : Int) (w : World) (h : l < 1)
    (hc : w.cell? ⟨b, 0, none⟩ = some (.int .i64 l)) :
    Calls Try.prog 8 #[.pointer (some ⟨b, 0, none⟩)] w fun e w' => e = .returned (.bool false) ∧ w' = w := by
  go_enter Try.func8, Try.ntmps8
  go_wp2
  go_ret
  exact ⟨rfl, rfl⟩

/-- 'ZZBudgetLeft'. -/
theorem left_any (b : Nat) (l : Int) (w : World) (hc : w.cell? ⟨b, 0, none⟩ = some (.int .i64 l)) :
    Calls Try.prog 9 #[.pointer (some ⟨b, 0, none⟩)] w fun e w' => e = .returned (.int .i64 l) ∧ w' = w := by
  go_enter Try.func9, Try.ntmps9
  go_wp2
  go_ret
  exact ⟨rfl, rfl⟩
end Go.Proofs.Qxb6615602a
