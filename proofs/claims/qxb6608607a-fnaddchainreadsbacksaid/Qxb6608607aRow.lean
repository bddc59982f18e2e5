/-
  A row of bytes of the call's own: what it is, and what the two kinds of append make of it.
-/
import Derived.Test.Qxb6608607aRows
import Derived.WalkKit
import Derived.WalkSpells
import Derived.OpenShut
import Derived.Maps.AppendAt
import Derived.Lib.AppendZerosOnto
import Derived.Laws.OwnMore
namespace Go.Proofs.Qxb6608607a
open Go.RowKit

/-- What a slice of numbers that is only read leads to: its numbers, a cell each. -/
def Rd (k : IntKind) (w : World) (a : Option Addr) (zs : List Int) : Prop :=
  zs = [] ∨ ∃ b off, a = some ⟨b, off, none⟩ ∧ ∀ j, j < zs.length → w.cell? ⟨b, off + j, none⟩ = some (.int k (zs.getD j 0))

/-- 'v' is a slice of bytes over a row of the call's own (from block B on), and holds 'bs'. -/
def Own (w : World) (B : Nat) (v : Value) (bs : List Int) : Prop := w.ownsRow B 5 1 v bs.length (bs.map (Value.int .u8))

theorem cell_lt {w : World} {a : Addr} {v : Value} (h : w.cell? a = some v) : a.block < w.heap.size := World.block_lt_of_cell? w a h

theorem Rd.below {k : IntKind} {w w' : World} {a : Option Addr} {zs : List Int} (h : Rd k w a zs) (hb : Below w.heap.size w w') : Rd k w' a zs := by
  rcases h with h | ⟨b, off, e, h⟩
  · exact .inl h
  · exact .inr ⟨b, off, e, fun j hj => (hb.cell (p := ⟨b, off + j, none⟩) (cell_lt (h j hj))).trans (h j hj)⟩

theorem Own.nil (w : World) (B : Nat) : Own w B (.slice none 0 0) [] := World.ownsRow_nil _ _ _ _
theorem Own.kept {w w' : World} {B : Nat} {v : Value} {bs : List Int} {row : Option Nat} (h : Own w B v bs) (hg : w.grownBy w' row) (hne : v.ownBlock = none ∨ v.ownBlock ≠ row) : Own w' B v bs := World.ownsRow.kept h hg hne
theorem Own.lt {w : World} {B : Nat} {v : Value} {bs : List Int} (h : Own w B v bs) : ∀ k, v.ownBlock = some k → B ≤ k ∧ k < w.heap.size := World.ownsRow.lt h
theorem Own.mono {w : World} {B B' : Nat} {v : Value} {bs : List Int} (h : Own w B v bs) (hB : B' ≤ B) : Own w B' v bs := by
  refine ⟨h.1, ?_⟩
  rcases h.2 with hn | ⟨g, cap, cur, e, hb, rest⟩
  · exact .inl hn
  · exact .inr ⟨g, cap, cur, e, Nat.le_trans hB hb, rest⟩

/-- Its shape: nil and nothing in it, or the head of its block. -/
theorem Own.shape {w : World} {B : Nat} {v : Value} {bs : List Int} (h : Own w B v bs) :
    (v = .slice none 0 0 ∧ bs = []) ∨ ∃ g cap, v = .slice (some ⟨g, 0, none⟩) bs.length cap ∧ B ≤ g ∧ g < w.heap.size ∧ bs.length ≤ cap ∧ cap ≤ maxLen ∧
      ∀ j, j < bs.length → w.cell? ⟨g, j, none⟩ = some (.int .u8 (bs.getD j 0)) := by
  rcases h.2 with ⟨e, hn⟩ | ⟨g, cap, cur, e, hb, hg, hn, hm, hs, ht⟩
  · exact .inl ⟨e, List.eq_nil_of_length_eq_zero hn⟩
  · refine .inr ⟨g, cap, e, hb, (Array.getElem?_eq_some_iff.1 hg).1, hn, hm, fun j hj => ?_⟩
    have := World.ownsRow.cells h (g := g) (by rw [e]; rfl) j (.int .u8 (bs.getD j 0)) (by simp [List.getD, hj])
    rwa [Addr.add_lit, Nat.zero_add] at this

theorem Own.rd {w : World} {B : Nat} {v : Value} {bs : List Int} (h : Own w B v bs) : ∃ a cap, v = .slice a bs.length cap ∧ (a = none → cap = 0) ∧ bs.length ≤ cap ∧ Rd .u8 w a bs := by
  rcases h.shape with ⟨e, hb⟩ | ⟨g, cap, e, _, _, hc, _, hcell⟩
  · subst hb; exact ⟨none, 0, e, fun _ => rfl, Nat.le_refl _, .inl rfl⟩
  · exact ⟨_, cap, e, by simp, hc, .inr ⟨g, 0, rfl, fun j hj => by rw [Nat.zero_add]; exact hcell j hj⟩⟩

theorem Try.info5 : (Try.prog.info? 5).map (fun i => (i.zero, i.size, i.bytes)) = some (some (.int .u8 0), 1, 1) := by kernel_rfl

/-- 'append(v, xs...)', xs whatever slice of bytes. -/
theorem Own.append {w : World} {B : Nat} {v : Value} {bs : List Int} (h : Own w B v bs) (hB : B ≤ w.heap.size) (ty : TypeId) (a : Option Addr) (cap : Nat) (zs : List Int) (ha : a = none → cap = 0) (hz : Rd .u8 w a zs) (hl : bs.length + zs.length ≤ 1073741824) :
    ∃ v' w', (Builtin.append_ #[22, 22] ty #[v, .slice a zs.length cap]).run Try.prog w = .ok v' w' ∧ Own w' B v' (bs ++ zs) ∧ w.grownBy w' v.ownBlock ∧ (v'.ownBlock = v.ownBlock ∨ v'.ownBlock = some w.heap.size) := by
  obtain ⟨i, hi, hz0, hz1, hz2⟩ := info_parts Try.info5
  cases a with
  | none =>
    obtain rfl := ha rfl
    have hzs : zs = [] := by
      rcases hz with hz | ⟨b, off, e, _⟩
      · exact hz
      · cases e
    subst hzs
    have hr := run_append_owned_none (P := Try.prog) w B 22 ty 5 i 1 Try.underlying22 hi v _ _ h
    exact ⟨v, w, hr, by simpa using h, World.grownBy.refl _ _, .inl rfl⟩
  | some ad =>
    have hnews : ∀ j u, (zs.map (Value.int .u8))[j]? = some u → w.cell? (ad.add j) = some u := by
      intro j u hu
      rcases hz with hz | ⟨b, off, e, hc⟩
      · subst hz; simp at hu
      · cases e
        have hj : j < zs.length := by
          have := (List.getElem?_eq_some_iff.1 hu).1
          simpa using this
        rw [Addr.add_lit, hc j hj, ← hu]
        simp [List.getD, hj]
    obtain ⟨v', w', hr, ho, hg, _, hat⟩ := run_append_own_at (P := Try.prog) w B 22 ty 5 i (.int .u8 0) 1 1 Try.underlying22 hi hz0 hz1 hz2 rfl (by decide) v _ _ h ad zs.length cap (zs.map (Value.int .u8)) (by simp) hnews (ints_oneCell .u8 zs)
      (by unfold maxLen; omega) (by omega) hB
    exact ⟨v', w', hr, by unfold Own; simpa using ho, hg, hat⟩

theorem zeros_list (n : Nat) : (Builtin.zeroCells #[Value.int .u8 0] n).toList = List.replicate n (Value.int .u8 0) := by
  apply List.ext_getElem
  · simp [Builtin.zeroCells]
  · intro j h1 h2
    simp [Builtin.zeroCells, Nat.mod_one]
theorem zeros_size (n : Nat) : (Builtin.zeroCells #[Value.int .u8 0] n).size = n := by simp [Builtin.zeroCells]

/-- The new row behind an append that had no room. -/
theorem own_new {w : World} {B : Nat} (bs : List Int) (k cap : Nat) (hB : B ≤ w.heap.size) (hc : bs.length + k ≤ cap) (hm : cap ≤ maxLen) (row : Option Nat) :
    let W := w.drew.alloc (.cells ((bs.map (Value.int .u8)).toArray ++ Builtin.zeroCells #[Value.int .u8 0] k ++ Builtin.zeroCells #[Value.int .u8 0] (cap - (bs.length + k))) 5)
    Own W B (.slice (some ⟨w.heap.size, 0, none⟩) (bs.length + k) cap) (bs ++ List.replicate k 0) ∧ w.grownBy W row := by
  intro W
  refine ⟨⟨by simp, .inr ⟨w.heap.size, cap, _, by simp, hB, heap_alloc_new w.drew _, by simpa using hc, hm, ?_, ?_⟩⟩, ⟨rfl, rfl, rfl, by simp [W], fun j hj _ => Below.heap_alloc w.drew _ j hj⟩⟩
  · simp [zeros_size]; omega
  · rw [Array.toList_append, Array.toList_append, zeros_list, zeros_list]
    rw [List.take_left' (by simp)]
    simp

/-- 'append(v, make([]byte, k)...)'. -/
theorem Own.zeros {w : World} {B : Nat} {v : Value} {bs : List Int} (h : Own w B v bs) (hB : B ≤ w.heap.size) (ty : TypeId) (k : Nat) (hl : bs.length + k ≤ 1073741824) :
    ∃ v' w', (Builtin.append_ #[22, 3] ty #[v, .int .i64 k]).run Try.prog w = .ok v' w' ∧ Own w' B v' (bs ++ List.replicate k 0) ∧ w.grownBy w' v.ownBlock ∧ (v'.ownBlock = v.ownBlock ∨ v'.ownBlock = some w.heap.size) := by
  obtain ⟨i, hi, hz0, hz1, hz2⟩ := info_parts Try.info5
  have hw : IntKind.i64.wrap (k : Int) = k := by rw [IntKind.wrap_i64]; omega
  have hneg : ¬ ((k : Int) < 0) := by omega
  have h48 : ¬ (281474976710656 < (k : Int)) := by omega
  have hlen := h.1
  simp only [List.length_map, Nat.mul_one] at hlen
  rcases h.2 with ⟨rfl, hn⟩ | ⟨g, cap, cur, rfl, hb, hg, hnc, hm, hs, ht⟩
  · have hbs : bs = [] := List.eq_nil_of_length_eq_zero hn
    subst hbs
    by_cases hk : k = 0
    · subst hk
      refine ⟨.slice none 0 0, w, ?_, by simpa using h, World.grownBy.refl _ _, .inl rfl⟩
      simp [Builtin.append_, run_underlying Try.underlying22, run_underlying Try.underlying3, sizeOf, typeInfo, hi, hz2, asInt, asIntOf, IntKind.wrap_i64]
    · have hr := Lib.run_append_nil_zeros (P := Try.prog) w 22 3 ty 5 i (.int .u8 0) .i64 .i64 Try.underlying22 Try.underlying3 hi hz0 k (by omega) (by omega) (by omega) (by rw [hz2]; omega)
      have hge := grownCap_ge w k 0 5
      have hcm := grownCap_le_maxLen w k 0 5 (by unfold maxLen; omega)
      have hnew := own_new (w := w) (B := B) [] k (grownCap w k 0 5) hB (by simpa using hge) hcm (Value.ownBlock (.slice none 0 0))
      simp only [List.length_nil, Nat.zero_add, List.map_nil, List.nil_append, Array.empty_append] at hnew
      exact ⟨_, _, hr, hnew.1, hnew.2, .inr rfl⟩
  · by_cases hroom : bs.length + k ≤ cap
    · have hst := run_storeCells_at Try.prog g bs.length 5 (List.replicate k (Value.int .u8 0)) 0 cur w hg (by simp; omega) (fun u hu => by rw [List.eq_of_mem_replicate hu]; rfl)
      simp only [Nat.add_zero] at hst
      refine ⟨.slice (some ⟨g, 0, none⟩) (bs.length + k) cap, w.setRow g (cur.toList.take bs.length ++ List.replicate k (Value.int .u8 0) ++ cur.toList.drop (bs.length + (List.replicate k (Value.int .u8 0)).length)).toArray, ?_, ⟨by simp, .inr ⟨g, cap, _, by simp, hb, setRow_heap w g cur _ 5 _ hg, by simpa using hroom, hm, ?_, ?_⟩⟩, ⟨rfl, rfl, rfl, by simp, fun j _ hj => setRow_other w g j _ (fun e => hj (by simp [Value.ownBlock, e]))⟩, .inl rfl⟩
      · by_cases hk : k = 0
        · subst hk
          simp only [List.replicate_zero] at hst
          simp [Builtin.append_, run_underlying Try.underlying22, run_underlying Try.underlying3, sizeOf, typeInfo, hi, hz1, hz2, asInt, asIntOf, IntKind.wrap_i64, hnc, Addr.add_lit, hst]
        · have hk' : ¬ (k * 1 = 0) := by omega
          simp [Builtin.append_, run_underlying Try.underlying22, run_underlying Try.underlying3, sizeOf, typeInfo, zeroValue, hi, hz0, hz1, hz2, asInt, asIntOf, hw, hneg, hk, hroom, Addr.add_lit]
          rw [if_neg h48, show (Value.int .u8 0).cells = #[Value.int .u8 0] from rfl, zeros_list, hst]
          simp
      · simp; omega
      · rw [Nat.mul_one] at ht
        rw [ht, List.toList_toArray, List.take_left' (by simp)]
        simp
    · have hold : (Builtin.firstCells i.size bs.length (.slice (some ⟨g, 0, none⟩) bs.length cap)).run Try.prog w.drew = .ok (bs.map (Value.int .u8)).toArray w.drew :=
        run_firstCells_some w.drew i.size bs.length ⟨g, 0, none⟩ bs.length cap (bs.map (Value.int .u8)) (by simp [hz1]) (fun j u hu => World.ownsRow.cells h (g := g) rfl j u hu)
      have hr := Lib.run_append_grow_zeros (P := Try.prog) w 22 3 ty 5 i (.int .u8 0) .i64 .i64 Try.underlying22 Try.underlying3 hi hz0 (some ⟨g, 0, none⟩) bs.length cap (bs.map (Value.int .u8)) hold k (by omega) (by omega) (by omega) (by omega) (by rw [hz2]; omega)
        (growslice_fits (by omega) (by rw [hz2]; omega))
      have hge := grownCap_ge w (bs.length + k) cap 5
      have hcm := grownCap_le_maxLen w (bs.length + k) cap 5 (by unfold maxLen; omega)
      have hnew := own_new (w := w) (B := B) bs k (grownCap w (bs.length + k) cap 5) hB hge hcm (Value.ownBlock (.slice (some ⟨g, 0, none⟩) bs.length cap))
      exact ⟨_, _, hr, hnew.1, hnew.2, .inr rfl⟩
end Go.Proofs.Qxb6608607a
