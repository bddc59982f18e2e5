/-
  'WithAdler' of sixty bytes, by a contract.
-/
import Derived.Test.Qxb6608607aAdler
import Derived.Deep.RegionHeld3
namespace Go.Proofs.Qxb6608607a
open Go.RowKit

theorem adler_bd {z : Nat → Int} {n : Nat} : 0 ≤ adler z n ∧ adler z n < 4294967296 := by
  unfold adler
  have := Int.emod_nonneg (ad1 z n) (show (65521 : Int) ≠ 0 by omega)
  have := Int.emod_lt_of_pos (ad1 z n) (show (0 : Int) < 65521 by omega)
  have := Int.emod_nonneg (ad2 z n) (show (65521 : Int) ≠ 0 by omega)
  have := Int.emod_lt_of_pos (ad2 z n) (show (0 : Int) < 65521 by omega)
  omega

/-- 'WithAdler' of sixty bytes. -/
theorem withAdler60 (b off cap : Nat) (zs : List Int) (w : World) (hlen : zs.length = 60) (hcap : 60 ≤ cap) (hcm : cap ≤ maxLen) (hz : ∀ j, j < 60 → 0 ≤ zs.getD j 0 ∧ zs.getD j 0 ≤ 255) (hR : Rd .u8 w (some ⟨b, off, none⟩) zs) :
    Calls Try.prog 8 #[.slice (some ⟨b, off, none⟩) 60 cap] w fun e w' => ∃ v', e = .returned v' ∧ Own w' w.heap.size v' (zs ++ le32 (adler (fun j => zs.getD j 0) 60)) ∧ Below w.heap.size w w' := by
  have hA := adler_bd (z := fun j => zs.getD j 0) (n := 60)
  have hck : ∀ W, Below w.heap.size w W → Calls Try.prog 24 #[.slice (some ⟨b, off, none⟩) 60 cap] W fun e w' => e = .returned (.int .u32 (adler (fun j => zs.getD j 0) 60)) ∧ W = w' := fun W hW => by
    refine checksum60 b off cap (fun j => zs.getD j 0) W hcap hcm hz (fun j hj => ?_)
    rcases hR.below hW with h | ⟨b', off', e, h⟩
    · subst h; simp at hlen
    · cases e; exact h j (by omega)
  have hcl : ∀ W, Below w.heap.size w W → Calls Try.prog 23 #[.slice (some ⟨b, off, none⟩) 60 cap] W fun e w' => ∃ v', e = .returned v' ∧ Own w' w.heap.size v' zs ∧ Below w.heap.size w w' := fun W hW => by
    have := clone_any ⟨b, off, none⟩ cap zs W (hR.below hW) (by omega)
    rw [hlen] at this
    refine this.mono ?_
    rintro e w' ⟨v', rfl, ho, hb⟩
    exact ⟨v', rfl, ho.mono hW.size, hW.trans (hb.mono hW.size)⟩
  generalize adler (fun j => zs.getD j 0) 60 = A at hA hck
  have hap : ∀ W v, Below w.heap.size w W → Own W w.heap.size v zs → Calls Try.prog 22 #[.agg #[], v, .int .u32 A] W fun e w' => ∃ v', e = .returned v' ∧ Own w' w.heap.size v' (zs ++ le32 A) ∧ Below w.heap.size w w' := fun W v hW ho => by
    refine (le32_any w.heap.size v zs A W hA.1 hA.2 ho hW.size (by omega)).mono ?_
    rintro e w' ⟨v', rfl, ho', hg, _⟩
    exact ⟨v', rfl, ho', hW.grown hg hW.size (fun k hk => (ho.lt k hk).1)⟩
  have Hck : Hid (∀ W, Below w.heap.size w W → Calls Try.prog 24 #[.slice (some ⟨b, off, none⟩) 60 cap] W fun e w' => e = .returned (.int .u32 A) ∧ W = w') := hck
  have Hcl : Hid (∀ W, Below w.heap.size w W → Calls Try.prog 23 #[.slice (some ⟨b, off, none⟩) 60 cap] W fun e w' => ∃ v', e = .returned v' ∧ Own w' w.heap.size v' zs ∧ Below w.heap.size w w') := hcl
  have Hap : Hid (∀ W v, Below w.heap.size w W → Own W w.heap.size v zs → Calls Try.prog 22 #[.agg #[], v, .int .u32 A] W fun e w' => ∃ v', e = .returned v' ∧ Own w' w.heap.size v' (zs ++ le32 A) ∧ Below w.heap.size w w') := hap
  have hB0 : Below w.heap.size w w.drew := (Below.refl _ _).drew
  clear hck hcl hap hz hR hA
  go_enter Try.func8, Try.ntmps8
  go_wp2
  go_region_held3 (fun w' => Below w.heap.size w w') (assumption)
    (first
      | (go_at_call 24; refine (Hck.out _ (by assumption)).mono ?_; rintro e w' ⟨rfl, rfl⟩)
      | (go_at_call 23; refine (Hcl.out _ (by assumption)).mono ?_; rintro e w' ⟨v1, rfl, ho1, hb1⟩)
      | (go_at_call 22; refine (Hap.out _ _ (by assumption) (by assumption)).mono ?_; rintro e w' ⟨v2, rfl, ho2, hb2⟩))
  all_goals
    go_wp2
    go_ret
    exact ⟨_, rfl, by assumption, by assumption⟩
end Go.Proofs.Qxb6608607a
