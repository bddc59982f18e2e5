/-
  'zzReceived', by a contract: a new row of messages, five cells each.
-/
import Derived.Test.Qxb6615798aQuorum
import Derived.RegionTactic
import Derived.Laws.MakeOwn
namespace Go.Proofs.Qxb6615798a
open Go.RowKit

/-- The zero 'SyncMessage'. -/
def zeroMsg : Value := .agg #[.int .u32 0, .slice none 0 0, .int .u8 0, .int .u32 0, .slice none 0 0]
theorem Try.info58 : (Try.prog.info? 58).map (fun i => (i.zero, i.size, i.bytes)) = some (some zeroMsg, 5, 64) := by kernel_rfl
def rowObj (n : Nat) : Obj := .cells (madeCells zeroMsg.cells (n * 5)) 58

theorem make_any (n : Nat) (hn : n ≤ 4096) (w : World) :
    (Instr.makeSlice 28 (.int .i64 (n : Int)) (.int .i64 (n : Int))).run Try.prog w = .ok (.slice (some ⟨w.heap.size, 0, none⟩) n n) (w.alloc (rowObj n)) := by
  obtain ⟨i, hi, hzz⟩ := Option.map_eq_some_iff.1 Try.info58
  simp only [Prod.mk.injEq] at hzz
  obtain ⟨hz, hs, hb⟩ := hzz
  have hr := run_make (P := Try.prog) w 28 58 i zeroMsg Try.underlying28 hi hz .i64 .i64 n n (by omega) (by omega) (by rw [hb]; omega) (by omega)
  simp only [Int.toNat_natCast, hs] at hr
  exact hr

theorem row_cell (n : Nat) (w : World) (o : Nat) (ho : o < n * 5) : ∃ v, (w.alloc (rowObj n)).cell? ⟨w.heap.size, o, none⟩ = some v := by
  refine ⟨(madeCells zeroMsg.cells (n * 5))[o]'(by rw [size_madeCells]; exact ho), ?_⟩
  unfold rowObj
  rw [World.cell?_alloc_at _ _ _ _ rfl]
  exact Array.getElem?_eq_getElem _

theorem sc_ne {w : World} {b o o' : Nat} {v : Value} (h : o ≠ o') : (w.setCell ⟨b, o, none⟩ v).cell? ⟨b, o', none⟩ = w.cell? ⟨b, o', none⟩ := by
  apply World.cell?_setCell_other
  intro q; cases q; exact h rfl
theorem sc_eq {w : World} {b o : Nat} {v u : Value} (h : w.cell? ⟨b, o, none⟩ = some u) : (w.setCell ⟨b, o, none⟩ v).cell? ⟨b, o, none⟩ = some v := by
  apply World.cell?_setCell_same
  exact h

/-- What holds of the new row behind k rounds. -/
def Fill (w : World) (len : Nat) (ph vl : Nat → Int) (k : Nat) (wr : World) : Prop :=
  (∀ o, o < len * 5 → ∃ v, wr.cell? ⟨w.heap.size, o, none⟩ = some v) ∧ (∀ o, wr.frozen? ⟨w.heap.size, o, none⟩ = false) ∧
  (∀ j, j < k → wr.cell? ⟨w.heap.size, j * 5 + 2, none⟩ = some (.int .u8 (ph j)) ∧ wr.cell? ⟨w.heap.size, j * 5 + 3, none⟩ = some (.int .u32 (vl j))) ∧ w.heap.size < wr.heap.size ∧ Below w.heap.size w wr

theorem fill_start (w : World) (len : Nat) (ph vl : Nat → Int) : Fill w len ph vl 0 (w.alloc (rowObj len)) :=
  ⟨row_cell len w, fun o => by simp [go_sem, rowObj], fun j h => absurd h (Nat.not_lt_zero _), by simp, (Below.refl _ _).alloc (Nat.le_refl _) _⟩

theorem fill_step {w wr : World} {len k : Nat} {ph vl : Nat → Int} (h : Fill w len ph vl k wr) (hk : k < len) :
    Fill w len ph vl (k + 1) ((wr.setCell ⟨w.heap.size, k * 5 + 2, none⟩ (.int .u8 (ph k))).setCell ⟨w.heap.size, k * 5 + 2 + 1, none⟩ (.int .u32 (vl k))).drew := by
  obtain ⟨h1, h2, h3, h4, h5⟩ := h
  refine ⟨fun o ho => ?_, fun o => ?_, fun j hj => ?_, by simpa using h4, ?_⟩
  · obtain ⟨v, hv⟩ := h1 o ho
    obtain ⟨v', hv'⟩ := cell?_setCell_some (p := ⟨w.heap.size, k * 5 + 2, none⟩) (x := .int .u8 (ph k)) hv
    exact cell?_setCell_some hv'
  · show ((wr.setCell _ _).setCell _ _).frozen? _ = false
    rw [World.frozen?_setCell, World.frozen?_setCell]; exact h2 o
  · show ((wr.setCell _ _).setCell _ _).cell? _ = _ ∧ ((wr.setCell _ _).setCell _ _).cell? _ = _
    obtain ⟨v2, n2⟩ := h1 (k * 5 + 2) (by omega)
    obtain ⟨v3, n3⟩ := h1 (k * 5 + 3) (by omega)
    by_cases e : j = k
    · subst e
      exact ⟨(sc_ne (by omega)).trans (sc_eq n2), sc_eq ((sc_ne (by omega)).trans n3)⟩
    · obtain ⟨g2, g3⟩ := h3 j (by omega)
      exact ⟨(sc_ne (by omega)).trans ((sc_ne (by omega)).trans g2), (sc_ne (by omega)).trans ((sc_ne (by omega)).trans g3)⟩
  · exact ((h5.setCell (p := ⟨w.heap.size, k * 5 + 2, none⟩) (Nat.le_refl _) _).setCell (p := ⟨w.heap.size, k * 5 + 2 + 1, none⟩) (Nat.le_refl _) _).drew

theorem cell_lt {w : World} {a : Addr} {v : Value} (h : w.cell? a = some v) : a.block < w.heap.size := by
  by_cases hb : a.block < w.heap.size
  · exact hb
  · simp [World.cell?, Array.getElem?_eq_none (Nat.le_of_not_lt hb)] at h

/-- 'zzReceived'. -/
theorem recv_any (a : Option Addr) (len cap : Nat) (ph vl : Nat → Int) (w : World) (hl : len ≤ 4096) (hM : Msgs w a len ph vl) :
    Calls Try.prog 10 #[.slice a len cap] w fun e w' => e = .returned (.slice (some ⟨w.heap.size, 0, none⟩) len len) ∧ Fill w len ph vl len w' := by
  have hmk := make_any len hl
  go_enter Try.func10, Try.ntmps10
  go_wp2
  go_loopw [4] (fun i wr => ∃ k : Nat, k ≤ len ∧ i = .int .i64 k ∧ Fill w len ph vl k wr) (fun i _ => len - (intOf i).toNat)
  case atStart => exact ⟨0, Nat.zero_le _, rfl, fill_start w len ph vl⟩
  case round =>
    obtain ⟨k, hk, rfl, hF⟩ := hrel
    clear hmk
    by_cases hlt : k < len
    · have hlt' : (k : Int) < (len : Int) := by omega
      obtain ⟨b, off, rfl, c0, c1⟩ := hM k hlt
      have hb : b < w.heap.size := cell_lt c0
      have hbw := hF.2.2.2.2
      have m0 : wr.cell? ⟨b, off + k * 2, none⟩ = some (.int .u8 (ph k)) := (hbw.cell (p := ⟨b, off + k * 2, none⟩) hb).trans c0
      have m1 : wr.cell? ⟨b, off + k * 2 + 1, none⟩ = some (.int .u32 (vl k)) := (hbw.cell (p := ⟨b, off + k * 2 + 1, none⟩) hb).trans c1
      obtain ⟨v2, n2⟩ := hF.1 (k * 5 + 2) (by omega)
      obtain ⟨v3, n3⟩ := hF.1 (k * 5 + 3) (by omega)
      have f2 := hF.2.1 (k * 5 + 2)
      have f3 := hF.2.1 (k * 5 + 3)
      clear hM c0 c1
      go_wp2
      go_region
      go_wp2
      go_roundw
      case rel => exact ⟨k + 1, by omega, by go_num, fill_step hF hlt⟩
      case measure => simp [intOf]; omega
    · have hkl : k = len := by omega
      subst hkl
      go_wp2
      go_ret
      exact ⟨rfl, hF⟩
end Go.Proofs.Qxb6615798a
