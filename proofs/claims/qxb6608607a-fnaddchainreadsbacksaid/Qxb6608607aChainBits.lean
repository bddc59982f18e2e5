/-
  'zzLE32', 'zzLE64', 'ZZlast', each by a contract.
-/
import Derived.Test.Qxb6608607aDesc
import Derived.Deep.QuietTactic
import Derived.BigQuiet
import Derived.Lib.EndianBits
namespace Go.Proofs.Qxb6608607a
open Go.RowKit Go.Maps

theorem zle32_raw (b o n c off : Nat) (z0 z1 z2 z3 : Int) (w : World) (hn : off + 4 ≤ n) (ho : off ≤ 100000000)
    (h0 : 0 ≤ z0 ∧ z0 < 256) (h1 : 0 ≤ z1 ∧ z1 < 256) (h2 : 0 ≤ z2 ∧ z2 < 256) (h3 : 0 ≤ z3 ∧ z3 < 256)
    (c0 : w.cell? ⟨b, o + off, none⟩ = some (.int .u8 z0)) (c1 : w.cell? ⟨b, o + (off + 1), none⟩ = some (.int .u8 z1)) (c2 : w.cell? ⟨b, o + (off + 2), none⟩ = some (.int .u8 z2)) (c3 : w.cell? ⟨b, o + (off + 3), none⟩ = some (.int .u8 z3)) :
    Calls Try.prog 10 #[.slice (some ⟨b, o, none⟩) n c, .int .i64 off] w fun e w' => e = .returned (.int .u32 (z0 + z1 * 256 + z2 * 65536 + z3 * 16777216)) ∧ ∃ k, w' = w.drewN k := by
  have e1 : IntKind.i64.wrap ((off : Int) + 1) = ((off + 1 : Nat) : Int) := by rw [IntKind.wrap_i64]; omega
  have e2 : IntKind.i64.wrap ((off : Int) + 2) = ((off + 2 : Nat) : Int) := by rw [IntKind.wrap_i64]; omega
  have e3 : IntKind.i64.wrap ((off : Int) + 3) = ((off + 3 : Nat) : Int) := by rw [IntKind.wrap_i64]; omega
  obtain ⟨p1, hp1⟩ : ∃ p, p = off + 1 := ⟨_, rfl⟩
  obtain ⟨p2, hp2⟩ : ∃ p, p = off + 2 := ⟨_, rfl⟩
  obtain ⟨p3, hp3⟩ : ∃ p, p = off + 3 := ⟨_, rfl⟩
  rw [← hp1] at e1 c1
  rw [← hp2] at e2 c2
  rw [← hp3] at e3 c3
  have q0 : (off : Int) < (n : Int) := by omega
  have q1 : (p1 : Int) < (n : Int) := by omega
  have q2 : (p2 : Int) < (n : Int) := by omega
  have q3 : (p3 : Int) < (n : Int) := by omega
  clear hp1 hp2 hp3 hn
  go_enter Try.func10, Try.ntmps10
  go_wp2
  go_quiet (fail)
  go_wp2
  go_ret
  refine ⟨?_, _, rfl⟩
  simp (disch := omega) only [u32_or8, u32_or16, u32_or24]
  rfl

theorem le32_sum (x : Int) : x % 256 + x / 256 % 256 * 256 + x / 65536 % 256 * 65536 + x / 16777216 * 16777216 = x := by omega

/-- 'zzLE32' of four bytes that spell x. -/
theorem zle32_any (b o n c off : Nat) (x : Int) (w : World) (hn : off + 4 ≤ n) (ho : off ≤ 100000000) (h0 : 0 ≤ x) (h1 : x < 4294967296) (hc : ∀ j, j < 4 → w.cell? ⟨b, o + (off + j), none⟩ = some (.int .u8 ((le32 x).getD j 0))) :
    Calls Try.prog 10 #[.slice (some ⟨b, o, none⟩) n c, .int .i64 off] w fun e w' => e = .returned (.int .u32 x) ∧ ∃ k, w' = w.drewN k := by
  have := zle32_raw b o n c off (x % 256) (x / 256 % 256) (x / 65536 % 256) (x / 16777216) w hn ho (by omega) (by omega) (by omega) (by omega) (hc 0 (by omega)) (hc 1 (by omega)) (hc 2 (by omega)) (hc 3 (by omega))
  rw [le32_sum x] at this
  exact this

/-- 'zzLE64' of eight bytes that spell x. -/
theorem zle64_any (b o n c off : Nat) (x : Int) (w : World) (hn : off + 8 ≤ n) (ho : off ≤ 1000) (h0 : 0 ≤ x) (h1 : x ≤ 1000000000) (hc : ∀ j, j < 8 → w.cell? ⟨b, o + (off + j), none⟩ = some (.int .u8 ((le64 x).getD j 0))) :
    Calls Try.prog 18 #[.slice (some ⟨b, o, none⟩) n c, .int .i64 off] w fun e w' => e = .returned (.int .u64 x) ∧ ∃ k, w' = w.drewN k := by
  have A := zle32_raw b o n c off (x % 256) (x / 256 % 256) (x / 65536 % 256) (x / 16777216 % 256) w (by omega) (by omega) (by omega) (by omega) (by omega) (by omega) (hc 0 (by omega)) (hc 1 (by omega)) (hc 2 (by omega)) (hc 3 (by omega))
  have B := fun k => zle32_raw b o n c (off + 4) (x / 4294967296 % 256) (x / 1099511627776 % 256) (x / 281474976710656 % 256) (x / 72057594037927936) (w.drewN k) (by omega) (by omega) (by omega) (by omega) (by omega) (by omega) (hc 4 (by omega)) (hc 5 (by omega)) (hc 6 (by omega)) (hc 7 (by omega))
  have ea : x % 256 + x / 256 % 256 * 256 + x / 65536 % 256 * 65536 + x / 16777216 % 256 * 16777216 = x := by omega
  have eb : x / 4294967296 % 256 + x / 1099511627776 % 256 * 256 + x / 281474976710656 % 256 * 65536 + x / 72057594037927936 * 16777216 = 0 := by omega
  rw [ea] at A
  simp only [eb] at B
  have e1 : IntKind.i64.wrap ((off : Int) + 4) = ((off + 4 : Nat) : Int) := by rw [IntKind.wrap_i64]; omega
  obtain ⟨p1, hp1⟩ : ∃ p, p = off + 4 := ⟨_, rfl⟩
  simp only [← hp1] at e1 B
  clear hp1 hc ea eb
  go_enter Try.func18, Try.ntmps18
  go_wp2_with fail
  refine A.mono ?_
  rintro e w' ⟨rfl, k, rfl⟩
  go_wp2_with fail
  refine (B k).mono ?_
  rintro e w' ⟨rfl, k', rfl⟩
  go_wp2
  go_ret
  refine ⟨?_, k + k', by simp [go_sem]⟩
  simp (disch := omega) only [u64_or32, Int.add_zero]
  rfl

/-- 'ZZlast'. -/
theorem zzlast_any (M : Nat) (l : Int) (w : World) (h : w.cell? ⟨M + 1, 2, none⟩ = some (.int .i64 l)) :
    Calls Try.prog 16 #[.pointer (some ⟨M + 1, 0, none⟩)] w fun e w' => e = .returned (.int .i64 l) ∧ w = w' := by
  go_enter Try.func16, Try.ntmps16
  go_wp2
  go_ret
  exact ⟨rfl, rfl⟩
end Go.Proofs.Qxb6608607a
