/-
  A slice of messages that came in, opened: its cells.
-/
import Derived.Test.Qxb6615798aQuorum
import Derived.ProofKit
import Derived.OpenShut
import Derived.Deep.SlicePairs
namespace Go.Proofs.Qxb6615798a
open Go.ChangeShapes Go.WideShapes Go.ChangeAt Go.RowKit

theorem Try.cells50 : Try.prog.cellsOf 50 = 2 := by kernel_rfl
theorem Try.cells5 : Try.prog.cellsOf 5 = 1 := by kernel_rfl
theorem Try.cells22 : Try.prog.cellsOf 22 = 1 := by kernel_rfl

theorem open_msgs {H : Type} {enc : TypeId × Value → H} {W : World} {a : Option Addr} {len cap : Nat} {d : DataW H} {p : List MemPlace}
    (h : DataW.Trod enc Try.prog W 0 (fun _ => true) true 23 (.slice a len cap) d p) : ∃ ph vl, Msgs W a len ph vl := by
  obtain ⟨fuel, hf⟩ := h
  rcases Deep.open_slice_pairs Try.underlying23 Try.underlying50 Try.cells50 rfl rfl Try.cells5 Try.cells22 hf with ⟨hcs, _⟩ | ⟨x, l, c, m, n, V0, V1, D0, D1, P0, P1, hcs, _, hl, hm, hmm, _, hx⟩
  · simp [Value.cells] at hcs
    obtain ⟨rfl, rfl, rfl⟩ := hcs
    exact ⟨fun _ => 0, fun _ => 0, fun j hj => absurd hj (Nat.not_lt_zero _)⟩
  · simp [Value.cells] at hcs
    obtain ⟨rfl, rfl, rfl⟩ := hcs
    refine ⟨fun i => intOf (V0 i), fun i => intOf (V1 i), fun j hj => ?_⟩
    obtain ⟨g0, g1, t0, t1⟩ := hx j (by rw [hmm]; simp; omega)
    obtain ⟨q0, e0, _⟩ := DataW.trod_int Try.underlying5 t0
    obtain ⟨q1, e1, _⟩ := DataW.trod_int Try.underlying22 t1
    simp only [List.cons.injEq, and_true] at e0 e1
    obtain ⟨b, off, spot⟩ := x
    have hspot : spot = none := by simpa [Addr.add] using World.cell?_spot (hx 0 (by rw [hmm]; simp; omega)).1
    subst hspot
    rw [add_plain, e0] at g0
    rw [add_plain, e1] at g1
    refine ⟨b, off, rfl, ?_, ?_⟩
    · show W.cell? _ = some (.int .u8 (intOf (V0 j)))
      rw [e0]; exact g0
    · show W.cell? _ = some (.int .u32 (intOf (V1 j)))
      rw [e1]; exact g1
end Go.Proofs.Qxb6615798a
