/-
  'zzBytes_FnAddChainReadsBack', by a contract.
-/
import Derived.Test.Qxb6608607aBytes6
namespace Go.Proofs.Qxb6608607a
open Go.RowKit Go.Maps

set_option maxHeartbeats 1000000 in
/-- 'zzBytes_FnAddChainReadsBack': it answers something, and turns nothing. -/
theorem bytes5_any (ap : Option Addr) (pl cp : Nat) (u : Bool) (ta : Option Addr) (tl tc : Nat) (da : Option Addr) (dl dc : Nat) (dd : Nat → List Int) (w : World) (hD : RdRows w da dl dd) :
    Calls Try.prog 13 #[.slice ap pl cp, .bool u, .slice ta tl tc, .slice da dl dc] w fun e w' => BoolIf e (Short dl dd) ∧ w = w' := by
  by_cases h1 : 1048576 < pl
  · go_enter Try.func13, Try.ntmps13
    go_wp2
    go_ret
    first | exact ⟨⟨_, rfl, by simp⟩, rfl⟩ | exact ⟨_, rfl, by simp⟩
  by_cases h2 : 1048576 < tl
  · go_enter Try.func13, Try.ntmps13
    go_wp2
    go_ret
    first | exact ⟨⟨_, rfl, by simp⟩, rfl⟩ | exact ⟨_, rfl, by simp⟩
  by_cases h3 : 1048576 < pl + tl
  · go_enter Try.func13, Try.ntmps13
    go_wp2
    go_ret
    first | exact ⟨⟨_, rfl, by simp⟩, rfl⟩ | exact ⟨_, rfl, by simp⟩
  by_cases h4 : 1048576 < dl
  · go_enter Try.func13, Try.ntmps13
    go_wp2
    go_ret
    first | exact ⟨⟨_, rfl, by simp⟩, rfl⟩ | exact ⟨_, rfl, by simp⟩
  by_cases h5 : 1048576 < pl + tl + dl
  · go_enter Try.func13, Try.ntmps13
    go_wp2
    go_ret
    first | exact ⟨⟨_, rfl, by simp⟩, rfl⟩ | exact ⟨_, rfl, by simp⟩
  go_enter Try.func13, Try.ntmps13
  go_wp2
  go_loop [9, 10] (fun z i => ∃ (k : Nat) (x : Int), k ≤ dl ∧ i = .int .i64 k ∧ z = .int .i64 x ∧ 0 ≤ x ∧ x ≤ 1048576 ∧ Short k dd) (fun _ i => dl - (intOf i).toNat)
  case atStart => exact ⟨0, _, Nat.zero_le _, rfl, rfl, by omega, by omega, fun j hj => absurd hj (Nat.not_lt_zero _)⟩
  case round =>
    obtain ⟨k, x, hk, rfl, rfl, hx0, hx1, hsh⟩ := hrel
    by_cases hlt : k < dl
    · obtain ⟨b, off, aj, cj, rfl, hc, _, _⟩ := hD k hlt
      have hlt' : (k : Int) < (dl : Int) := by omega
      by_cases g1 : 1048576 < (dd k).length
      · go_wp2
        go_ret
        first | exact ⟨⟨_, rfl, by simp⟩, rfl⟩ | exact ⟨_, rfl, by simp⟩
      by_cases g2 : 1048576 < x + ((dd k).length : Int)
      · go_wp2
        go_ret
        first | exact ⟨⟨_, rfl, by simp⟩, rfl⟩ | exact ⟨_, rfl, by simp⟩
      go_wp2
      go_round
      case rel => exact ⟨k + 1, _, by omega, by go_num, rfl, by omega, by omega, fun j hj => by
        by_cases e : j = k
        · subst e; omega
        · exact hsh j (by omega)⟩
      case measure => simp [intOf]; omega
    · obtain rfl : k = dl := by omega
      go_wp2
      go_ret
      exact ⟨⟨_, rfl, fun _ => by first | exact hsh | trivial⟩, rfl⟩
end Go.Proofs.Qxb6608607a
