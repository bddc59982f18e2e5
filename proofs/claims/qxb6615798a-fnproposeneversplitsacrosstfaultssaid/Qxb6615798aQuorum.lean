/-
  'zzSaid' and 'zzQuorumValue', each by a contract.
-/
import Derived.Test.Qxb6615798aRows
import Derived.Test.Qxb6615798aPlain
import Derived.WalkKit
import Derived.WalkSpells
import Derived.RowKit3
import Derived.Deep.QuietTactic
import Derived.BigQuiet
namespace Go.Proofs.Qxb6615798a
open Go.RowKit

/-- The messages handed in: the cells of those below the length. -/
def Msgs (w : World) (a : Option Addr) (len : Nat) (ph vl : Nat → Int) : Prop :=
  ∀ j, j < len → ∃ b off, a = some ⟨b, off, none⟩ ∧ w.cell? ⟨b, off + j * 2, none⟩ = some (.int .u8 (ph j)) ∧ w.cell? ⟨b, off + j * 2 + 1, none⟩ = some (.int .u32 (vl j))

theorem said_own (a : Option Addr) (len cap : Nat) (ph vl : Nat → Int) (j id : Nat) (st idx : Int) (w : World) (_hl : len ≤ 4096) (_hj : j < 4096) (e : j = id) :
    Calls Try.prog 17 #[.slice a len cap, .int .i64 j, .int .i64 id, .int .u32 st, .int .u32 idx] w fun e w' => e = .returned (.tuple #[.int .u32 (sayV len id idx ph vl j), .bool (sayO len id st idx ph vl j)]) ∧ w' = w := by
  have e1 : sayV len id idx ph vl j = idx := by simp [sayV, e]
  have e2 : sayO len id st idx ph vl j = decide (idx < st) := by simp [sayO, e]
  rw [e1, e2]
  subst e
  clear e1 e2
  go_enter Try.func17, Try.ntmps17
  go_wp2
  go_ret2
  exact ⟨rfl, rfl⟩

theorem said_far (a : Option Addr) (len cap : Nat) (ph vl : Nat → Int) (j id : Nat) (st idx : Int) (w : World) (_hl : len ≤ 4096) (_hj : j < 4096) (e : j ≠ id) (h : len ≤ j) :
    Calls Try.prog 17 #[.slice a len cap, .int .i64 j, .int .i64 id, .int .u32 st, .int .u32 idx] w fun e w' => e = .returned (.tuple #[.int .u32 (sayV len id idx ph vl j), .bool (sayO len id st idx ph vl j)]) ∧ w' = w := by
  have e1 : sayV len id idx ph vl j = 0 := by simp [sayV, e]; omega
  have e2 : sayO len id st idx ph vl j = false := by simp [sayO, e]; omega
  rw [e1, e2]
  clear e1 e2
  have h1 : ((j : Int) == (id : Int)) = false := by simp; omega
  go_enter Try.func17, Try.ntmps17
  go_wp2
  go_ret2
  exact ⟨rfl, rfl⟩

theorem said_near (b off len cap : Nat) (ph vl : Nat → Int) (j id : Nat) (st idx : Int) (w : World) (_hl : len ≤ 4096) (_hj : j < 4096) (e : j ≠ id) (h : j < len)
    (c0 : w.cell? ⟨b, off + j * 2, none⟩ = some (.int .u8 (ph j))) (c1 : w.cell? ⟨b, off + j * 2 + 1, none⟩ = some (.int .u32 (vl j))) :
    Calls Try.prog 17 #[.slice (some ⟨b, off, none⟩) len cap, .int .i64 j, .int .i64 id, .int .u32 st, .int .u32 idx] w fun e w' => e = .returned (.tuple #[.int .u32 (sayV len id idx ph vl j), .bool (sayO len id st idx ph vl j)]) ∧ w' = w := by
  have h1 : ((j : Int) == (id : Int)) = false := by simp; omega
  have hlt : (j : Int) < (len : Int) := by omega
  have hd : decide (len ≤ j) = false := by simp; omega
  by_cases hp : ph j = 1
  · have e1 : sayV len id idx ph vl j = vl j := by simp [sayV, e, h, hp]
    have e2 : sayO len id st idx ph vl j = decide (vl j < st) := by simp [sayO, e, h, hp]
    rw [e1, e2]
    clear e1 e2
    go_enter Try.func17, Try.ntmps17
    go_wp2
    go_ret2
    exact ⟨rfl, rfl⟩
  · have e1 : sayV len id idx ph vl j = 0 := by simp [sayV, e, h, hp]
    have e2 : sayO len id st idx ph vl j = false := by simp [sayO, e, h, hp]
    rw [e1, e2]
    clear e1 e2
    have hp' : (ph j != 1) = true := by simpa using hp
    go_enter Try.func17, Try.ntmps17
    go_wp2
    go_ret2
    exact ⟨rfl, rfl⟩

/-- 'zzSaid': what node j said, and whether it counts. -/
theorem said_any (a : Option Addr) (len cap : Nat) (ph vl : Nat → Int) (j id : Nat) (st idx : Int) (w : World) (hl : len ≤ 4096) (hj : j < 4096) (hM : Msgs w a len ph vl) :
    Calls Try.prog 17 #[.slice a len cap, .int .i64 j, .int .i64 id, .int .u32 st, .int .u32 idx] w fun e w' => e = .returned (.tuple #[.int .u32 (sayV len id idx ph vl j), .bool (sayO len id st idx ph vl j)]) ∧ w' = w := by
  by_cases e : j = id
  · exact said_own a len cap ph vl j id st idx w hl hj e
  · by_cases h : j < len
    · obtain ⟨b, off, rfl, c0, c1⟩ := hM j h
      exact said_near b off len cap ph vl j id st idx w hl hj e h c0 c1
    · exact said_far a len cap ph vl j id st idx w hl hj e (by omega)

/-- 'zzQuorumValue'. -/
theorem quorum_any (a : Option Addr) (len cap : Nat) (ph vl : Nat → Int) (n id : Nat) (t st idx : Int) (w : World) (hl : len ≤ 4096) (hn : n ≤ 4096) (ht0 : 0 ≤ t) (ht : 3 * t < n) (hM : Msgs w a len ph vl)
    (V : Nat → Int) (O : Nat → Bool) (hV : ∀ j, sayV len id idx ph vl j = V j) (hO : ∀ j, sayO len id st idx ph vl j = O j) :
    Calls Try.prog 11 #[.slice a len cap, .int .i64 n, .int .i64 t, .int .i64 id, .int .u32 st, .int .u32 idx] w fun e w' => ∃ r : Int, e = .returned (.int .u32 r) ∧ Quor V O n t r ∧ w' = w := by
  go_enter Try.func11, Try.ntmps11
  go_wp2
  go_loop [13, 14, 15] (fun c vt i => ∃ (k : Nat) (x y : Int), k ≤ n ∧ i = .int .i64 k ∧ c = .int .u32 x ∧ vt = .int .i64 y ∧ Bm V O k x y) (fun _ _ i => n - (intOf i).toNat)
  case atStart => exact ⟨0, 0, 0, Nat.zero_le _, rfl, rfl, rfl, bm_start⟩
  case round =>
    obtain ⟨k, x, y, hk, rfl, rfl, rfl, hB⟩ := hrel
    have hy0 := hB.1
    have hy1 := hB.2.1
    by_cases hlt : k < n
    · have hlt' : (k : Int) < (n : Int) := by omega
      cases ho : O k with
      | false =>
        go_wp2_with (go_at_call 17; refine (said_any a len cap ph vl k id st idx _ hl (by omega) hM).mono ?_; rw [hV, hO, ho]; rintro e w' ⟨rfl, rfl⟩)
        go_round
        case rel => exact ⟨k + 1, x, y, by omega, by go_num, rfl, rfl, bm_skip hB ho⟩
        case measure => simp [intOf]; omega
      | true =>
        have hy : y = 0 ∨ (y == 0) = false := by
          by_cases e : y = 0
          · exact .inl e
          · exact .inr (by simpa using e)
        rcases hy with rfl | hy
        · go_wp2_with (go_at_call 17; refine (said_any a len cap ph vl k id st idx _ hl (by omega) hM).mono ?_; rw [hV, hO, ho]; rintro e w' ⟨rfl, rfl⟩)
          go_round
          case rel => exact ⟨k + 1, V k, 1, by omega, by go_num, rfl, rfl, bm_new hB ho⟩
          case measure => simp [intOf]; omega
        · by_cases hx : V k = x
          · have hx' : (V k == x) = true := by simpa using hx
            have HX : Hid (V k = x) := hx
            clear hx
            go_wp2_with (go_at_call 17; refine (said_any a len cap ph vl k id st idx _ hl (by omega) hM).mono ?_; rw [hV, hO, ho]; rintro e w' ⟨rfl, rfl⟩)
            go_round
            case rel => exact ⟨k + 1, x, y + 1, by omega, by go_num, rfl, rfl, bm_up hB ho HX.out⟩
            case measure => simp [intOf]; omega
          · have hx' : (V k == x) = false := by simpa using hx
            go_wp2_with (go_at_call 17; refine (said_any a len cap ph vl k id st idx _ hl (by omega) hM).mono ?_; rw [hV, hO, ho]; rintro e w' ⟨rfl, rfl⟩)
            go_round
            case rel => exact ⟨k + 1, x, y - 1, by omega, by go_num, rfl, rfl, bm_down hB ho hx (by simpa using hy)⟩
            case measure => simp [intOf]; omega
    · have hkn : k = n := by omega
      subst hkn
      clear hk
      go_wp2
      go_loop [18, 19] (fun c i => ∃ (m : Nat), m ≤ k ∧ i = .int .i64 m ∧ c = .int .i64 (cnt V O x m)) (fun _ i => k - (intOf i).toNat)
      case atStart => exact ⟨0, Nat.zero_le _, rfl, rfl⟩
      case round =>
        obtain ⟨m, hm, rfl, rfl⟩ := hrel
        have hcl := cnt_le_self (V := V) (O := O) x m
        by_cases hlt2 : m < k
        · have hlt' : (m : Int) < (k : Int) := by omega
          cases ho : O m with
          | false =>
            go_wp2_with (go_at_call 17; refine (said_any a len cap ph vl m id st idx _ hl (by omega) hM).mono ?_; rw [hV, hO, ho]; rintro e w' ⟨rfl, rfl⟩)
            go_round
            case rel => exact ⟨m + 1, by omega, by go_num, by rw [cnt_miss (by simp [ho])]⟩
            case measure => simp [intOf]; omega
          | true =>
            by_cases hx : V m = x
            · have hx' : (V m == x) = true := by simpa using hx
              have HX : Hid (V m = x) := hx
              clear hx
              go_wp2_with (go_at_call 17; refine (said_any a len cap ph vl m id st idx _ hl (by omega) hM).mono ?_; rw [hV, hO, ho]; rintro e w' ⟨rfl, rfl⟩)
              go_round
              case rel => exact ⟨m + 1, by omega, by go_num, by rw [cnt_hit ho HX.out]; go_num⟩
              case measure => simp [intOf]; omega
            · have hx' : (V m == x) = false := by simpa using hx
              go_wp2_with (go_at_call 17; refine (said_any a len cap ph vl m id st idx _ hl (by omega) hM).mono ?_; rw [hV, hO, ho]; rintro e w' ⟨rfl, rfl⟩)
              go_round
              case rel => exact ⟨m + 1, by omega, by go_num, by rw [cnt_miss (fun q => hx q.2)]⟩
              case measure => simp [intOf]; omega
        · have hmk : m = k := by omega
          subst hmk
          by_cases hq : (m : Int) - t ≤ (cnt V O x m : Int)
          · go_wp2
            go_ret
            exact ⟨x, rfl, .inl hq, rfl⟩
          · go_wp2
            go_ret
            exact ⟨4294967295, rfl, quor_none_of_bm hB (by omega) (by omega), rfl⟩
end Go.Proofs.Qxb6615798a
