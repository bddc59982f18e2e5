/-
  The slices that came in, opened: their cells.
-/
import Derived.Test.Qxb6608607aBuild
import Derived.ProofKit
import Derived.OpenShut
import Derived.Deep.Slices
namespace Go.Proofs.Qxb6608607a
open Go.ChangeShapes Go.WideShapes Go.ChangeAt Go.RowKit

theorem Try.cells5 : Try.prog.cellsOf 5 = 1 := by kernel_rfl
theorem Try.cells22 : Try.prog.cellsOf 22 = 1 := by kernel_rfl
theorem Try.cells26 : Try.prog.cellsOf 26 = 1 := by kernel_rfl

theorem open_bytes {H : Type} {enc : TypeId × Value → H} {W : World} {fuel : Nat} {v : Value} {x : DataW H × List MemPlace}
    (h : DataW.trod enc Try.prog W 0 (fun _ => true) true fuel 22 [v] = some x) : ∃ (a : Option Addr) (cap : Nat) (zs : List Int), v = .slice a zs.length cap ∧ (a = none → cap = 0) ∧ Rd .u8 W a zs := by
  rcases open_ints Try.underlying22 Try.underlying5 Try.cells5 h with ⟨hcs, _⟩ | ⟨a, len, cap, zs, hcs, _, hl, hm, hz, _, hcell, _⟩
  · simp only [List.cons.injEq, and_true] at hcs
    exact ⟨none, 0, [], by rw [hcs]; rfl, fun _ => rfl, .inl rfl⟩
  · simp only [List.cons.injEq, and_true] at hcs
    simp only [if_true] at hz
    have hlen : (zs.take len).length = len := by simp; omega
    refine ⟨some a, cap, zs.take len, by rw [hlen]; exact hcs, by simp, ?_⟩
    by_cases e : len = 0
    · exact .inl (by simp [e])
    · obtain ⟨b, off, spot⟩ := a
      have hspot : spot = none := by simpa [Addr.add] using World.cell?_spot (hcell 0 (by omega))
      subst hspot
      refine .inr ⟨b, off, rfl, fun j hj => ?_⟩
      rw [hlen] at hj
      rw [← add_plain, hcell j (by omega)]
      simp [List.getD, hj]

theorem open_types {H : Type} {enc : TypeId × Value → H} {W : World} {fuel : Nat} {a : Option Addr} {len cap : Nat} {x : DataW H × List MemPlace}
    (h : DataW.trod enc Try.prog W 0 (fun _ => true) true fuel 33 [.slice a len cap] = some x) : ∃ t, RdT W a len t := by
  rcases open_ints Try.underlying33 Try.underlying26 Try.cells26 h with ⟨hcs, _⟩ | ⟨a', len', cap', zs, hcs, _, hl, hm, hz, _, hcell, hwf⟩
  · simp at hcs
    obtain ⟨rfl, rfl, rfl⟩ := hcs
    exact ⟨fun _ => 0, fun j hj => absurd hj (Nat.not_lt_zero _)⟩
  · simp at hcs
    obtain ⟨rfl, rfl, rfl⟩ := hcs
    simp only [if_true] at hz
    refine ⟨fun j => zs.getD j 0, fun j hj => ?_⟩
    obtain ⟨b, off, spot⟩ := a'
    have hspot : spot = none := by simpa [Addr.add] using World.cell?_spot (hcell 0 (by omega))
    subst hspot
    have hj' : j < zs.length := by omega
    refine ⟨b, off, rfl, by rw [← add_plain, hcell j (by omega)], hwf _ ?_⟩
    simp [List.getD, hj']

theorem open_rows {H : Type} {enc : TypeId × Value → H} {W : World} {fuel : Nat} {a : Option Addr} {len cap : Nat} {x : DataW H × List MemPlace}
    (h : DataW.trod enc Try.prog W 0 (fun _ => true) true fuel 34 [.slice a len cap] = some x) : ∃ dd, RdRows W a len dd := by
  rcases Deep.open_slice1 Try.underlying34 Try.cells22 h with ⟨hcs, _⟩ | ⟨a', len', cap', m, n, V, D, Pl, hcs, _, hl, hm, hmm, _, hx⟩
  · simp at hcs
    obtain ⟨rfl, rfl, rfl⟩ := hcs
    exact ⟨fun _ => [], fun j hj => absurd hj (Nat.not_lt_zero _)⟩
  · simp at hcs
    obtain ⟨rfl, rfl, rfl⟩ := hcs
    simp only [if_true] at hmm
    have hz : ∀ i, ∃ zs : List Int, i < m → ∃ (aj : Option Addr) (cj : Nat), V i = .slice aj zs.length cj ∧ (aj = none → cj = 0) ∧ Rd .u8 W aj zs := fun i => by
      by_cases hi : i < m
      · obtain ⟨aj, cj, zs, e, h1, h2⟩ := open_bytes (hx i hi).2
        exact ⟨zs, fun _ => ⟨aj, cj, e, h1, h2⟩⟩
      · exact ⟨[], fun h => absurd h hi⟩
    obtain ⟨dd, hdd⟩ := Classical.skolem.1 hz
    refine ⟨dd, fun j hj => ?_⟩
    obtain ⟨b, off, spot⟩ := a'
    have hspot : spot = none := by simpa [Addr.add] using World.cell?_spot (hx 0 (by omega)).1
    subst hspot
    obtain ⟨aj, cj, e, h1, h2⟩ := hdd j (by omega)
    exact ⟨b, off, aj, cj, rfl, by rw [← add_plain, (hx j (by omega)).1, e], h1, h2⟩
end Go.Proofs.Qxb6608607a
