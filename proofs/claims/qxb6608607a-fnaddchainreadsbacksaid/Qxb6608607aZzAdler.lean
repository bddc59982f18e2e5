/-
  'zzAdler' of sixty bytes: the closed form is the sum of sums.
-/
import Derived.Test.Qxb6608607aDesc
import Derived.Deep.QuietTactic
import Derived.Lib.EndianBits
namespace Go.Proofs.Qxb6608607a
open Go.RowKit Go.Maps

/-- The closed form's second sum, up to place i. -/
def sc (z : Nat → Int) : Nat → Int
  | 0 => 60
  | i + 1 => sc z i + (60 - (i : Int)) * z i
theorem sc_ad2 (z : Nat → Int) : ∀ i, ad2 z i + (60 - (i : Int)) * ad1 z i = sc z i
  | 0 => by simp [ad1, ad2, sc]
  | i + 1 => by
    have h := sc_ad2 z i
    simp only [ad1, ad2, sc]
    rw [← h]
    have e : (60 - ((i + 1 : Nat) : Int)) = (60 - (i : Int)) - 1 := by omega
    rw [e, Int.sub_mul, Int.mul_add]
    omega
theorem sc_60 (z : Nat → Int) : sc z 60 = ad2 z 60 := by rw [← sc_ad2 z 60]; simp

theorem u64_or16' (x y : Int) (hx0 : 0 ≤ x) (hx : x < 65521) (hy0 : 0 ≤ y) (hy : y < 65521) : bits .or .u64 (x * 65536) y = x * 65536 + y :=
  bits_join .u64 64 (by decide) wraps_u64 16 (x * 65536) y (by omega) (by omega) (by omega) hy0 (by omega) (by omega)

set_option maxHeartbeats 1000000 in
/-- 'zzAdler' of sixty bytes. -/
theorem zzadler60 (b off cap : Nat) (z : Nat → Int) (w : World) (hz : ∀ j, j < 60 → 0 ≤ z j ∧ z j ≤ 255) (hc : ∀ j, j < 60 → w.cell? ⟨b, off + j, none⟩ = some (.int .u8 (z j))) :
    Calls Try.prog 17 #[.slice (some ⟨b, off, none⟩) 60 cap] w fun e w' => e = .returned (.int .u32 (adler z 60)) ∧ ∃ k, w' = w.drewN k := by
  go_enter Try.func17, Try.ntmps17
  go_wp2
  go_loopw [5, 6, 7] (fun a s i wz => ∃ k n : Nat, k ≤ 60 ∧ i = .int .i64 k ∧ a = .int .u64 (ad1 z k % 65521) ∧ s = .int .u64 (sc z k % 65521) ∧ wz = w.drewN n) (fun _ _ i _ => 60 - (intOf i).toNat)
  case atStart => exact ⟨0, 0, Nat.zero_le _, rfl, rfl, rfl, rfl⟩
  case round =>
    obtain ⟨k, n, hk, rfl, rfl, rfl, rfl⟩ := hrel
    have m1 := Int.emod_nonneg (ad1 z k) (show (65521 : Int) ≠ 0 by omega)
    have m2 := Int.emod_lt_of_pos (ad1 z k) (show (0 : Int) < 65521 by omega)
    have m3 := Int.emod_nonneg (sc z k) (show (65521 : Int) ≠ 0 by omega)
    have m4 := Int.emod_lt_of_pos (sc z k) (show (0 : Int) < 65521 by omega)
    by_cases hlt : k < 60
    · have hlt' : (k : Int) < 60 := by omega
      have ck := hc k hlt
      have zk := hz k hlt
      have E1 : Hid (ad1 z (k + 1) = ad1 z k + z k) := rfl
      have E2 : Hid (sc z (k + 1) = sc z k + (60 - (k : Int)) * z k) := rfl
      obtain ⟨P, hP⟩ : ∃ P, P = (60 - (k : Int)) * z k := ⟨_, rfl⟩
      have p0 : 0 ≤ P := by rw [hP]; exact Int.mul_nonneg (by omega) zk.1
      have p1 : P ≤ 60 * 255 := by rw [hP]; exact Int.mul_le_mul (by omega) zk.2 zk.1 (by omega)
      have w1 : IntKind.u64.wrap ((60 - (k : Int)) * z k) = P := by rw [← hP, IntKind.wrap_u64]; omega
      have HP : Hid (P = (60 - (k : Int)) * z k) := hP
      clear hP
      generalize ad1 z k = A at *
      generalize sc z k = S at *
      go_wp2
      go_quiet (fail)
      go_wp2
      go_roundw
      case rel =>
        refine ⟨k + 1, n + nq, by omega, by go_num, ?_, ?_, by simp [go_sem]⟩
        · rw [E1.out]; congr 1; omega
        · rw [E2.out, ← HP.out, Int.emod_eq_of_lt (show (0 : Int) ≤ 60 - (k : Int) by omega) (show 60 - (k : Int) < 65521 by omega), w1, IntKind.wrap_u64, Int.tmod_eq_emod_of_nonneg (by omega)]; congr 1; omega
      case measure => simp [intOf]; omega
    · obtain rfl : k = 60 := by omega
      clear hc hz
      rw [sc_60] at m3 m4 ⊢
      have hA : Hid (adler z 60 = ad2 z 60 % 65521 * 65536 + ad1 z 60 % 65521) := rfl
      generalize ad2 z 60 % 65521 = S at *
      generalize ad1 z 60 % 65521 = A at *
      go_wp2
      go_ret
      have hj := u64_or16' S A m3 m4 m1 m2
      refine ⟨?_, _, rfl⟩
      show Ending.returned (.int .u32 (bits .or .u64 (S * 65536) A % 4294967296)) = _
      rw [hj, hA.out]
      congr 2; omega
end Go.Proofs.Qxb6608607a
