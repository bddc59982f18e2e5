/-
  The small functions of bytes, each by a contract: AppendUint32, AppendUint64, slices.Clone, zzClone, zzEq, zzPad.
-/
import Derived.Test.Qxb6608607aRow
import Derived.Lib.SliceRun
import Derived.Laws.CopyOwn
import Derived.Deep.QuietTactic
import Derived.BigQuiet
namespace Go.Proofs.Qxb6608607a
open Go.RowKit

/-- Where the new slice lies: in the old one's row, or in a block that is new. -/
def Loc (w : World) (v v' : Value) : Prop := v'.ownBlock = v.ownBlock ∨ ∃ g, v'.ownBlock = some g ∧ w.heap.size ≤ g

/-- What an append leaves: the new slice, over what was there and what is new. -/
def Grew (w w' : World) (B : Nat) (v v' : Value) (bs : List Int) : Prop := Own w' B v' bs ∧ w.grownBy w' v.ownBlock ∧ Loc w v v'

theorem Own.alloc {w : World} {B : Nat} {v : Value} {bs : List Int} (h : Own w B v bs) (o : Obj) : Own (w.alloc o) B v bs := World.ownsRow.alloc h o

def le32 (x : Int) : List Int := [x % 256, x / 256 % 256, x / 65536 % 256, x / 16777216]
def le64 (x : Int) : List Int := [x % 256, x / 256 % 256, x / 65536 % 256, x / 16777216 % 256, x / 4294967296 % 256, x / 1099511627776 % 256, x / 281474976710656 % 256, x / 72057594037927936]

theorem rd_new (w : World) (zs : List Int) (t : TypeId) : Rd .u8 (w.alloc (.cells (zs.map (Value.int .u8)).toArray t)) (some ⟨w.heap.size, 0, none⟩) zs := by
  refine .inr ⟨w.heap.size, 0, rfl, fun j hj => ?_⟩
  rw [Nat.zero_add, World.cell?_alloc_at _ _ _ _ rfl]
  simp [List.getD, hj]

theorem le32_any (B : Nat) (v : Value) (bs : List Int) (x : Int) (w : World) (hx : 0 ≤ x) (hx' : x < 4294967296) (h : Own w B v bs) (hB : B ≤ w.heap.size) (hl : bs.length ≤ 100000000) :
    Calls Try.prog 22 #[.agg #[], v, .int .u32 x] w fun e w' => ∃ v', e = .returned v' ∧ Grew w w' B v v' (bs ++ le32 x) := by
  have h2 := (h.alloc (.cells #[] 49)).alloc (.cells ((le32 x).map (Value.int .u8)).toArray 5)
  obtain ⟨v', w', hr, ho, hg, hat⟩ := h2.append (by simp; omega) 22 (some ⟨w.heap.size + 1, 0, none⟩) 4 (le32 x) (by simp) (by have := rd_new (w.alloc (.cells #[] 49)) (le32 x) 5; simpa using this) (by simp [le32]; omega)
  have hg2 : w.grownBy w' v.ownBlock := ((World.grownBy_alloc w _ _).trans (World.grownBy_alloc _ _ _)).trans hg
  have hL : Loc w v v' := hat.imp id (fun e => ⟨_, e, by simp; omega⟩)
  clear hg hat h2
  go_enter Try.func22, Try.ntmps22
  go_wp2_with (at_builtin; refine Lib.wpList_append_run _ rfl _ _ _ _ rfl _ _ rfl rfl _ _ hr ?_)
  go_ret
  exact ⟨v', rfl, ho, hg2, hL⟩
theorem le64_any (B : Nat) (v : Value) (bs : List Int) (x : Int) (w : World) (hx : 0 ≤ x) (hx' : x < 9223372036854775807) (h : Own w B v bs) (hB : B ≤ w.heap.size) (hl : bs.length ≤ 100000000) :
    Calls Try.prog 31 #[.agg #[], v, .int .u64 x] w fun e w' => ∃ v', e = .returned v' ∧ Grew w w' B v v' (bs ++ le64 x) := by
  have h2 := (h.alloc (.cells #[] 49)).alloc (.cells ((le64 x).map (Value.int .u8)).toArray 5)
  obtain ⟨v', w', hr, ho, hg, hat⟩ := h2.append (by simp; omega) 22 (some ⟨w.heap.size + 1, 0, none⟩) 8 (le64 x) (by simp) (by have := rd_new (w.alloc (.cells #[] 49)) (le64 x) 5; simpa using this) (by simp [le64]; omega)
  have hg2 : w.grownBy w' v.ownBlock := ((World.grownBy_alloc w _ _).trans (World.grownBy_alloc _ _ _)).trans hg
  have hL : Loc w v v' := hat.imp id (fun e => ⟨_, e, by simp; omega⟩)
  clear hg hat h2
  go_enter Try.func31, Try.ntmps31
  go_wp2_with (at_builtin; refine Lib.wpList_append_run _ rfl _ _ _ _ rfl _ _ rfl rfl _ _ hr ?_)
  go_ret
  exact ⟨v', rfl, ho, hg2, hL⟩

theorem below_of_grown {w w' : World} (h : w.grownBy w' none) : Below w.heap.size w w' := ⟨h.os, h.tape, h.output, h.size, fun k hk => h.block k hk (by simp)⟩

/-- 'slices.Clone' of a slice of bytes that is not nil. -/
theorem clone_any (ad : Addr) (cap : Nat) (zs : List Int) (w : World) (hz : Rd .u8 w (some ad) zs) (hl : zs.length ≤ 100000000) :
    Calls Try.prog 23 #[.slice (some ad) zs.length cap] w fun e w' => ∃ v', e = .returned v' ∧ Own w' w.heap.size v' zs ∧ Below w.heap.size w w' := by
  have h0 : Own (w.alloc (.cells #[] 5)) w.heap.size (.slice (some ⟨w.heap.size, 0, none⟩) 0 0) [] := World.ownsRow_made w #[] 0 (Nat.le_refl _) (Nat.zero_le _) rfl
  obtain ⟨v', w', hr, ho, hg, hat⟩ := h0.append (by simp) 22 (some ad) cap zs (by simp) (hz.below ((Below.refl _ _).alloc (Nat.le_refl _) _)) (by simp; omega)
  have hb : Below w.heap.size w w' := ((Below.refl _ _).alloc (Nat.le_refl _) _).grown hg (by simp) (fun k hk => by simp [Value.ownBlock] at hk; omega)
  have he := fun W => Lib.run_eql_slice_nil (P := Try.prog) W 22 5 (some ad) zs.length cap 0 0 Try.underlying22
  clear hg hat h0
  go_enter Try.func23, Try.ntmps23
  go_wp2_with (at_builtin; refine Lib.wpList_append_run _ rfl _ _ _ _ rfl _ _ rfl rfl _ _ hr ?_)
  go_ret
  exact ⟨v', rfl, by simpa using ho, hb⟩

/-- 'zzClone'. -/
theorem zzclone_nil (w : World) : Calls Try.prog 14 #[.slice none 0 0] w fun e w' => e = .returned (.slice none 0 0) ∧ w = w' := by
  have he := fun W => Lib.run_eql_slice_nil (P := Try.prog) W 22 5 none 0 0 0 0 Try.underlying22
  go_enter Try.func14, Try.ntmps14
  go_wp2
  go_ret
  exact ⟨rfl, rfl⟩
def madeObj (n : Nat) : Obj := .cells (madeCells (Value.int .u8 0).cells n) 5
theorem make_bytes (n : Nat) (hn : n ≤ 100000000) (w : World) : (Instr.makeSlice 22 (.int .i64 (n : Int)) (.int .i64 (n : Int))).run Try.prog w = .ok (.slice (some ⟨w.heap.size, 0, none⟩) n n) (w.alloc (madeObj n)) := by
  obtain ⟨i, hi, hz0, hz1, hz2⟩ := info_parts Try.info5
  have hmk := run_make (P := Try.prog) w 22 5 i (.int .u8 0) Try.underlying22 hi hz0 .i64 .i64 n n (by omega) (Int.le_refl _) (by rw [hz2]; omega) (by omega)
  simp only [Int.toNat_natCast, hz1, Nat.mul_one] at hmk
  exact hmk
theorem copy_bytes (ad : Addr) (cap : Nat) (zs : List Int) (w : World) (hz : Rd .u8 w (some ad) zs) (hl : zs.length ≤ 100000000) :
    ∃ W2, (Builtin.copy_ #[22, 22] 3 #[.slice (some ⟨w.heap.size, 0, none⟩) zs.length zs.length, .slice (some ad) zs.length cap]).run Try.prog (w.alloc (madeObj zs.length)) = .ok (goInt zs.length) W2 ∧
      Own W2 w.heap.size (.slice (some ⟨w.heap.size, 0, none⟩) zs.length zs.length) zs ∧ Below w.heap.size w W2 := by
  obtain ⟨i, hi, hz0, hz1, hz2⟩ := info_parts Try.info5
  have hz' : Rd .u8 (w.alloc (.cells (madeCells (Value.int .u8 0).cells zs.length) 5)) (some ad) zs := hz.below ((Below.refl _ _).alloc (Nat.le_refl _) _)
  have hcp := run_copy_row (P := Try.prog) (w.alloc (.cells (madeCells (Value.int .u8 0).cells zs.length) 5)) 22 22 3 5 w.heap.size 0 zs.length zs.length ad zs.length cap _ 5 (zs.map (Value.int .u8)) Try.underlying22 (by rw [hi]; simp [hz1]) (heap_alloc_new w _) (by simp)
    (by
      intro j u hu
      rcases hz' with hz | ⟨b, off, e, hc⟩
      · subst hz; simp at hu
      · cases e
        have hj : j < zs.length := by
          have := (List.getElem?_eq_some_iff.1 hu).1
          simpa using this
        rw [Addr.add_lit, hc j hj, ← hu]
        simp [List.getD, hj]) (by simp [size_madeCells]) (ints_oneCell .u8 zs)
  have hg1 : (goInt (zs.map (Value.int .u8)).length) = goInt zs.length := by simp
  rw [hg1] at hcp
  refine ⟨_, hcp, ?_, below_setRow ((Below.refl _ _).alloc (Nat.le_refl _) _) (Nat.le_refl _) _⟩
  refine ⟨by simp, .inr ⟨w.heap.size, zs.length, _, rfl, Nat.le_refl _, setRow_heap _ _ _ _ 5 _ (heap_alloc_new w _), Nat.le_refl _, by unfold maxLen; omega, by simp [size_madeCells], ?_⟩⟩
  rw [List.toList_toArray, Nat.mul_one, List.take_zero, List.nil_append, List.take_left' (by simp)]

theorem zzclone_some (ad : Addr) (cap : Nat) (zs : List Int) (w : World) (hz : Rd .u8 w (some ad) zs) (hl : zs.length ≤ 100000000) :
    Calls Try.prog 14 #[.slice (some ad) zs.length cap] w fun e w' => e = .returned (.slice (some ⟨w.heap.size, 0, none⟩) zs.length zs.length) ∧ Own w' w.heap.size (.slice (some ⟨w.heap.size, 0, none⟩) zs.length zs.length) zs ∧ Below w.heap.size w w' := by
  have he := fun W => Lib.run_eql_slice_nil (P := Try.prog) W 22 5 (some ad) zs.length cap 0 0 Try.underlying22
  have hmk := make_bytes zs.length hl
  obtain ⟨W2, hcp, ho, hb⟩ := copy_bytes ad cap zs w hz hl
  go_enter Try.func14, Try.ntmps14
  go_wp2
  go_ret
  exact ⟨rfl, ho, hb⟩

/-- 'zzEq' of two slices that hold the same bytes. -/
theorem eq_same (a a' : Option Addr) (cap cap' : Nat) (zs : List Int) (w : World) (h : Rd .u8 w a zs) (h' : Rd .u8 w a' zs) (hl : zs.length ≤ 100000000) :
    Calls Try.prog 9 #[.slice a zs.length cap, .slice a' zs.length cap'] w fun e w' => e = .returned (.bool true) ∧ ∃ n, w' = w.drewN n := by
  go_enter Try.func9, Try.ntmps9
  go_wp2
  go_loopw [5] (fun i wr => ∃ k m : Nat, k ≤ zs.length ∧ i = .int .i64 k ∧ wr = w.drewN m) (fun i _ => zs.length - (intOf i).toNat)
  case atStart => exact ⟨0, 0, Nat.zero_le _, rfl, rfl⟩
  case round =>
    obtain ⟨k, m, hk, rfl, rfl⟩ := hrel
    by_cases hlt : k < zs.length
    · have hlt' : (k : Int) < (zs.length : Int) := by omega
      rcases h with h | ⟨b, off, rfl, hc⟩
      · subst h; simp at hlt
      rcases h' with h' | ⟨b', off', rfl, hc'⟩
      · subst h'; simp at hlt
      have c0 : w.cell? ⟨b, off + k, none⟩ = some (.int .u8 (zs.getD k 0)) := hc k hlt
      have c1 : w.cell? ⟨b', off' + k, none⟩ = some (.int .u8 (zs.getD k 0)) := hc' k hlt
      clear hc hc'
      generalize zs.getD k 0 = z at c0 c1
      go_wp2
      go_quiet (fail)
      go_wp2
      go_roundw
      case rel => exact ⟨k + 1, m + nq, by omega, by go_num, by simp [go_sem]⟩
      case measure => simp [intOf]; omega
    · have hkn : k = zs.length := by omega
      go_wp2
      go_ret
      exact ⟨rfl, m, rfl⟩

/-- 'zzPad'. -/
def padOf (n : Nat) : Nat := (16 - n % 16) % 16
theorem pad_any (n : Nat) (w : World) (hn : n ≤ 100000000) : Calls Try.prog 21 #[.int .i64 n] w fun e w' => e = .returned (.int .i64 (padOf n)) ∧ w = w' := by
  have e1 : (padOf n : Int) = (16 - (n : Int) % 16) % 16 := by unfold padOf; omega
  rw [e1]
  clear e1
  go_enter Try.func21, Try.ntmps21
  go_wp2
  go_ret
  exact ⟨rfl, rfl⟩
end Go.Proofs.Qxb6608607a
