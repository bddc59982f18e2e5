/-
  'adler32.Checksum' of sixty bytes, by a contract.
-/
import Derived.Test.Qxb6608607aBytes
import Derived.Lib.EndianBits
import Derived.Deep.Light
namespace Go.Proofs.Qxb6608607a
open Go.RowKit

/-- Adler-32's two sums over the first k bytes, as they stand ahead of the last remainder. -/
def ad1 (z : Nat → Int) : Nat → Int
  | 0 => 1
  | k + 1 => ad1 z k + z k
def ad2 (z : Nat → Int) : Nat → Int
  | 0 => 0
  | k + 1 => ad2 z k + ad1 z (k + 1)
/-- Adler-32. -/
def adler (z : Nat → Int) (n : Nat) : Int := ad2 z n % 65521 * 65536 + ad1 z n % 65521

theorem ad1_bd {z : Nat → Int} : ∀ k, (∀ j, j < k → 0 ≤ z j ∧ z j ≤ 255) → 1 ≤ ad1 z k ∧ ad1 z k ≤ 1 + 255 * k
  | 0, _ => ⟨by simp [ad1], by simp [ad1]⟩
  | k + 1, h => by
    have h1 := ad1_bd k (fun j hj => h j (by omega))
    have h2 := h k (by omega)
    simp only [ad1]; omega
theorem ad2_bd {z : Nat → Int} : ∀ k, k ≤ 60 → (∀ j, j < k → 0 ≤ z j ∧ z j ≤ 255) → 0 ≤ ad2 z k ∧ ad2 z k ≤ 15301 * k
  | 0, _, _ => ⟨by simp [ad2], by simp [ad2]⟩
  | k + 1, hk, h => by
    have h1 := ad2_bd k (by omega) (fun j hj => h j (by omega))
    have h2 := ad1_bd (k + 1) h
    simp only [ad2]; omega

def lenV : Value → Nat
  | .slice _ n _ => n
  | _ => 0

theorem or_join (x y : Int) (hx0 : 0 ≤ x) (hx : x < 65536) (hy0 : 0 ≤ y) (hy : y < 65536) : bits .or .u32 (x * 65536) y = x * 65536 + y :=
  bits_join .u32 32 (by decide) wraps_u32 16 (x * 65536) y (by omega) (by omega) (by omega) hy0 (by omega) (by omega)

set_option maxHeartbeats 1000000 in
set_option maxRecDepth 100000 in
theorem update60_core (b off cap : Nat) (z F1 F2 : Nat → Int) (w : World) (hcap : 60 ≤ cap) (hcm : cap ≤ maxLen) (hz : ∀ j, j < 60 → 0 ≤ z j ∧ z j ≤ 255) (hc : ∀ j, j < 60 → w.cell? ⟨b, off + j, none⟩ = some (.int .u8 (z j)))
    (h10 : Hid (F1 0 = 1)) (h1s : Hid (∀ k, F1 (k + 1) = F1 k + z k)) (h20 : Hid (F2 0 = 0)) (h2s : Hid (∀ k, F2 (k + 1) = F2 k + F1 (k + 1))) (hb : ∀ k, k ≤ 60 → 1 ≤ F1 k ∧ F1 k ≤ 15301 ∧ 0 ≤ F2 k ∧ F2 k ≤ 918060) :
    Calls Try.prog 29 #[.int .u32 1, .slice (some ⟨b, off, none⟩) 60 cap] w fun e w' => e = .returned (.int .u32 (F2 60 % 65521 * 65536 + F1 60 % 65521)) ∧ w = w' := by
  unfold maxLen at hcm
  have B := hb 60 (Nat.le_refl _)
  go_enter Try.func29, Try.ntmps29
  go_wp2
  go_loop [1, 5, 6, 7] (fun p s1 s2 _ => (p = .slice (some ⟨b, off, none⟩) 60 cap ∧ s1 = .int .u32 1 ∧ s2 = .int .u32 0) ∨ (p = .slice none 0 0 ∧ s1 = .int .u32 (F1 60 % 65521) ∧ s2 = .int .u32 (F2 60 % 65521))) (fun p _ _ _ => lenV p)
  case atStart => exact .inl ⟨rfl, rfl, rfl⟩
  case round =>
    rcases hrel with ⟨rfl, rfl, rfl⟩ | ⟨rfl, rfl, rfl⟩
    · go_wp2
      go_loop [1, 5, 6] (fun p s1 s2 => ∃ (r o c : Nat) (a : Addr), o + 4 * r = 60 ∧ 4 * r ≤ c ∧ c ≤ cap ∧ p = .slice (some a) (4 * r) c ∧ (0 < r → a = ⟨b, off + o, none⟩) ∧ s1 = .int .u32 (F1 o) ∧ s2 = .int .u32 (F2 o)) (fun p _ _ => lenV p)
      case atStart => exact ⟨15, 0, cap, _, rfl, by omega, by omega, rfl, fun _ => rfl, by rw [h10.out], by rw [h20.out]⟩
      case round =>
        obtain ⟨r, o, c, a, ho, hrc, hcc, rfl, ha, rfl, rfl⟩ := hrel
        have bo := hb o (by omega)
        cases r with
        | zero =>
          obtain rfl : o = 60 := by omega
          clear ha hb hc hz ho
          go_wp2
          go_loop [5, 6, 67] (fun s1 s2 t => s1 = .int .u32 (F1 60) ∧ s2 = .int .u32 (F2 60) ∧ t = .int .i64 0) (fun _ _ _ => 0)
          case atStart => exact ⟨rfl, rfl, rfl⟩
          case round =>
            obtain ⟨rfl, rfl, rfl⟩ := hrel
            go_wp2
            go_round
            case rel => exact .inr ⟨rfl, rfl, rfl⟩
            case measure => simp [lenV]
        | succ r =>
          obtain rfl := ha (by omega)
          have z0 := hz o (by omega)
          have z1 := hz (o + 1) (by omega)
          have z2 := hz (o + 2) (by omega)
          have z3 := hz (o + 3) (by omega)
          have c0 := hc o (by omega)
          have c1 : w.cell? ⟨b, off + o + 1, none⟩ = some (.int .u8 (z (o + 1))) := hc (o + 1) (by omega)
          have c2 : w.cell? ⟨b, off + o + 2, none⟩ = some (.int .u8 (z (o + 2))) := hc (o + 2) (by omega)
          have c3 : w.cell? ⟨b, off + o + 3, none⟩ = some (.int .u8 (z (o + 3))) := hc (o + 3) (by omega)
          clear hc hz ha hb
          go_wp2
          go_round
          case rel =>
            have s := h1s.out
            have t := h2s.out
            refine ⟨r, o + 4, c - 4, if c = 4 then ⟨b, off + o, none⟩ else ⟨b, off + o + 4, none⟩, by omega, by omega, by omega, ?_, fun hr => ?_, ?_, ?_⟩
            · rw [show 4 * (r + 1) - 4 = 4 * r by omega]
              split <;> rfl
            · rw [if_neg (by omega), Nat.add_assoc]
            · rw [s (o + 3), s (o + 2), s (o + 1), s o]
            · rw [t (o + 3), t (o + 2), t (o + 1), t o, s (o + 3), s (o + 2), s (o + 1), s o]
          case measure => simp [lenV]; omega
    · have m1 := Int.emod_nonneg (F1 60) (show (65521 : Int) ≠ 0 by omega)
      have m2 := Int.emod_lt_of_pos (F1 60) (show (0 : Int) < 65521 by omega)
      have m3 := Int.emod_nonneg (F2 60) (show (65521 : Int) ≠ 0 by omega)
      have m4 := Int.emod_lt_of_pos (F2 60) (show (0 : Int) < 65521 by omega)
      have hj := or_join (F2 60 % 65521) (F1 60 % 65521) m3 (by omega) m1 (by omega)
      clear hb hc hz
      go_wp2
      go_ret
      exact ⟨rfl, rfl⟩

/-- 'adler32.Checksum' of sixty bytes. -/
theorem checksum60 (b off cap : Nat) (z : Nat → Int) (w : World) (hcap : 60 ≤ cap) (hcm : cap ≤ maxLen) (hz : ∀ j, j < 60 → 0 ≤ z j ∧ z j ≤ 255) (hc : ∀ j, j < 60 → w.cell? ⟨b, off + j, none⟩ = some (.int .u8 (z j))) :
    Calls Try.prog 24 #[.slice (some ⟨b, off, none⟩) 60 cap] w fun e w' => e = .returned (.int .u32 (adler z 60)) ∧ w = w' := by
  have hu := update60_core b off cap z (ad1 z) (ad2 z) w hcap hcm hz hc rfl (fun _ => rfl) rfl (fun _ => rfl) (fun k hk => by
    have h1 := ad1_bd (z := z) k (fun j hj => hz j (by omega))
    have h2 := ad2_bd (z := z) k hk (fun j hj => hz j (by omega))
    omega)
  unfold adler
  generalize ad2 z 60 % 65521 * 65536 + ad1 z 60 % 65521 = A at hu
  go_enter Try.func24, Try.ntmps24
  go_wp2_with (go_at_call 29; refine hu.mono ?_; rintro e w' ⟨rfl, rfl⟩)
  go_ret
  exact ⟨rfl, rfl⟩
end Go.Proofs.Qxb6608607a
