/-
  'count', 'plurality', 'propose' (through 'ZZpropose'), each by a contract.
-/
import Derived.Test.Qxb6615798aHeard
namespace Go.Proofs.Qxb6615798a
open Go.RowKit

/-- '(*CycleIndex).count'. -/
theorem count_any (c g len cap : Nat) (ph vl : Nat → Int) (n : Nat) (t st idx : Int) (id : Nat) (x : Int) (w : World) (hl : len ≤ 4096) (hn : n ≤ 4096) (hI : Idx w c n t id st idx) (hR : Recv w g len ph vl)
    (V : Nat → Int) (O : Nat → Bool) (hV : ∀ j, sayV len id idx ph vl j = V j) (hO : ∀ j, sayO len id st idx ph vl j = O j) :
    Calls Try.prog 21 #[.pointer (some ⟨c, 0, none⟩), .slice (some ⟨g, 0, none⟩) len cap, .int .u8 1, .int .u32 idx, .int .u32 x] w fun e w' => e = .returned (.int .i64 (cnt V O x n)) ∧ ∃ m, w' = w.drewN m := by
  have i0 := hI.1
  go_enter Try.func21, Try.ntmps21
  go_wp2
  go_loopw [11, 21] (fun s i wr => ∃ (k m : Nat), k ≤ n ∧ i = .int .i64 k ∧ s = .int .i64 (cnt V O x k) ∧ wr = w.drewN m) (fun _ i _ => n - (intOf i).toNat)
  case atStart => exact ⟨0, 0, Nat.zero_le _, rfl, rfl, rfl⟩
  case round =>
    obtain ⟨k, m, hk, rfl, rfl, rfl⟩ := hrel
    clear i0
    have hcl := cnt_le_self (V := V) (O := O) x k
    by_cases hlt : k < n
    · have hlt' : (k : Int) < (n : Int) := by omega
      cases ho : O k with
      | false =>
        go_wp2_with (go_at_call 20; refine (heard_any c g len cap ph vl n t st idx k id _ hl (by omega) (hI.drewN _) (hR.drewN _)).mono ?_; rw [hV, hO, ho]; rintro e w' ⟨rfl, m', rfl⟩)
        go_roundw
        case rel => exact ⟨k + 1, m + m', by omega, by go_num, by rw [cnt_miss (by simp [ho])], rfl⟩
        case measure => simp [intOf]; omega
      | true =>
        by_cases hx : V k = x
        · have hx' : (V k == x) = true := by simpa using hx
          have HX : Hid (V k = x) := hx
          clear hx
          go_wp2_with (go_at_call 20; refine (heard_any c g len cap ph vl n t st idx k id _ hl (by omega) (hI.drewN _) (hR.drewN _)).mono ?_; rw [hV, hO, ho]; rintro e w' ⟨rfl, m', rfl⟩)
          go_roundw
          case rel => exact ⟨k + 1, m + m', by omega, by go_num, by rw [cnt_hit ho HX.out]; go_num, rfl⟩
          case measure => simp [intOf]; omega
        · have hx' : (V k == x) = false := by simpa using hx
          go_wp2_with (go_at_call 20; refine (heard_any c g len cap ph vl n t st idx k id _ hl (by omega) (hI.drewN _) (hR.drewN _)).mono ?_; rw [hV, hO, ho]; rintro e w' ⟨rfl, m', rfl⟩)
          go_roundw
          case rel => exact ⟨k + 1, m + m', by omega, by go_num, by rw [cnt_miss (fun q => hx q.2)], rfl⟩
          case measure => simp [intOf]; omega
    · have hkn : k = n := by omega
      subst hkn
      go_wp2
      go_ret
      exact ⟨rfl, m, rfl⟩

/-- '(*CycleIndex).plurality'. -/
theorem plur_any (c g len cap : Nat) (ph vl : Nat → Int) (n : Nat) (t st idx : Int) (id : Nat) (w : World) (hl : len ≤ 4096) (hn : n ≤ 4096) (hI : Idx w c n t id st idx) (hR : Recv w g len ph vl)
    (V : Nat → Int) (O : Nat → Bool) (hV : ∀ j, sayV len id idx ph vl j = V j) (hO : ∀ j, sayO len id st idx ph vl j = O j) :
    Calls Try.prog 19 #[.pointer (some ⟨c, 0, none⟩), .slice (some ⟨g, 0, none⟩) len cap, .int .u8 1, .int .u32 idx] w fun e w' => ∃ v s : Int, e = .returned (.tuple #[.int .u32 v, .int .i64 s]) ∧ Pl V O n n v s ∧ ∃ m, w' = w.drewN m := by
  have i0 := hI.1
  go_enter Try.func19, Try.ntmps19
  go_wp2
  go_loopw [8, 9, 20] (fun a s i wr => ∃ (k m : Nat) (v y : Int), k ≤ n ∧ i = .int .i64 k ∧ a = .int .u32 v ∧ s = .int .i64 y ∧ Pl V O n k v y ∧ wr = w.drewN m) (fun _ _ i _ => n - (intOf i).toNat)
  case atStart => exact ⟨0, 0, 0, 0, Nat.zero_le _, rfl, rfl, rfl, pl_start, rfl⟩
  case round =>
    obtain ⟨k, m, v, y, hk, rfl, rfl, rfl, hP, rfl⟩ := hrel
    clear i0
    have hy0 := hP.1
    have hy1 := hP.2.1
    by_cases hlt : k < n
    · have hlt' : (k : Int) < (n : Int) := by omega
      cases ho : O k with
      | false =>
        go_wp2_with (go_at_call 20; refine (heard_any c g len cap ph vl n t st idx k id _ hl (by omega) (hI.drewN _) (hR.drewN _)).mono ?_; rw [hV, hO, ho]; rintro e w' ⟨rfl, m', rfl⟩)
        go_roundw
        case rel => exact ⟨k + 1, m + m', v, y, by omega, by go_num, rfl, rfl, pl_skip hP ho, rfl⟩
        case measure => simp [intOf]; omega
      | true =>
        have hcl := cnt_le_self (V := V) (O := O) (V k) n
        by_cases h1 : y < (cnt V O (V k) n : Int)
        · go_wp2_with (first
            | (go_at_call 20; refine (heard_any c g len cap ph vl n t st idx k id _ hl (by omega) (hI.drewN _) (hR.drewN _)).mono ?_; rw [hV, hO, ho]; rintro e w' ⟨rfl, m', rfl⟩)
            | (go_at_call 21; refine (count_any c g len cap ph vl n t st idx id _ _ hl hn (hI.drewN _) (hR.drewN _) V O hV hO).mono ?_; rintro e w' ⟨rfl, m2, rfl⟩))
          go_roundw
          case rel => exact ⟨k + 1, _, V k, cnt V O (V k) n, by omega, by go_num, rfl, rfl, pl_take hP (by omega), rfl⟩
          case measure => simp [intOf]; omega
        · by_cases h2 : (cnt V O (V k) n : Int) = y
          · have h2' : ((cnt V O (V k) n : Int) == y) = true := by simpa using h2
            have HX : Hid ((cnt V O (V k) n : Int) = y) := h2
            clear h2
            by_cases h3 : V k < v
            · go_wp2_with (first
                  | (go_at_call 20; refine (heard_any c g len cap ph vl n t st idx k id _ hl (by omega) (hI.drewN _) (hR.drewN _)).mono ?_; rw [hV, hO, ho]; rintro e w' ⟨rfl, m', rfl⟩)
                  | (go_at_call 21; refine (count_any c g len cap ph vl n t st idx id _ _ hl hn (hI.drewN _) (hR.drewN _) V O hV hO).mono ?_; rintro e w' ⟨rfl, m2, rfl⟩))
              go_roundw
              case rel => exact ⟨k + 1, _, V k, cnt V O (V k) n, by omega, by go_num, rfl, rfl, pl_take hP (by have := HX.out; omega), rfl⟩
              case measure => simp [intOf]; omega
            · go_wp2_with (first
                  | (go_at_call 20; refine (heard_any c g len cap ph vl n t st idx k id _ hl (by omega) (hI.drewN _) (hR.drewN _)).mono ?_; rw [hV, hO, ho]; rintro e w' ⟨rfl, m', rfl⟩)
                  | (go_at_call 21; refine (count_any c g len cap ph vl n t st idx id _ _ hl hn (hI.drewN _) (hR.drewN _) V O hV hO).mono ?_; rintro e w' ⟨rfl, m2, rfl⟩))
              go_roundw
              case rel => exact ⟨k + 1, _, v, y, by omega, by go_num, rfl, rfl, pl_keep hP (by omega), rfl⟩
              case measure => simp [intOf]; omega
          · have h2' : ((cnt V O (V k) n : Int) == y) = false := by simpa using h2
            go_wp2_with (first
                | (go_at_call 20; refine (heard_any c g len cap ph vl n t st idx k id _ hl (by omega) (hI.drewN _) (hR.drewN _)).mono ?_; rw [hV, hO, ho]; rintro e w' ⟨rfl, m', rfl⟩)
                | (go_at_call 21; refine (count_any c g len cap ph vl n t st idx id _ _ hl hn (hI.drewN _) (hR.drewN _) V O hV hO).mono ?_; rintro e w' ⟨rfl, m2, rfl⟩))
            go_roundw
            case rel => exact ⟨k + 1, _, v, y, by omega, by go_num, rfl, rfl, pl_keep hP (by omega), rfl⟩
            case measure => simp [intOf]; omega
    · have hkn : k = n := by omega
      subst hkn
      go_wp2
      go_ret2
      exact ⟨v, y, rfl, hP, m, rfl⟩

/-- '(*CycleIndex).propose'. -/
theorem prop_any (c g len cap : Nat) (ph vl : Nat → Int) (n : Nat) (t st idx : Int) (id : Nat) (w : World) (hl : len ≤ 4096) (hn : n ≤ 4096) (ht0 : 0 ≤ t) (ht : 3 * t < n) (hI : Idx w c n t id st idx) (hR : Recv w g len ph vl)
    (V : Nat → Int) (O : Nat → Bool) (hV : ∀ j, sayV len id idx ph vl j = V j) (hO : ∀ j, sayO len id st idx ph vl j = O j) :
    Calls Try.prog 9 #[.pointer (some ⟨c, 0, none⟩), .slice (some ⟨g, 0, none⟩) len cap] w fun e w' => ∃ r : Int, e = .returned (.int .u32 r) ∧ Quor V O n t r ∧ ∃ m, w' = w.drewN m := by
  have i0 := hI.1
  have i1 := hI.2.1
  have i6 := hI.2.2.2.2
  go_enter Try.func9, Try.ntmps9
  go_wp2_with (first
    | (go_at_call 19; refine (plur_any c g len cap ph vl n t st idx id _ hl hn hI hR V O hV hO).mono ?_; rintro e w' ⟨v, s, rfl, hP, m, rfl⟩)
    | (go_at_call 16; go_in))
  have hy0 := hP.1
  have hy1 := hP.2.1
  by_cases hq : s < (n : Int) - t
  · go_quiet (fail)
    go_wp2
    go_ret
    exact ⟨_, rfl, quor_none_of_pl hP (by omega) hq, m + nq, by simp [go_sem]⟩
  · go_quiet (fail)
    go_wp2
    go_ret
    exact ⟨_, rfl, quor_of_pl hP (by omega) (by omega), m + nq, by simp [go_sem]⟩
end Go.Proofs.Qxb6615798a
