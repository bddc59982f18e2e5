/-
  The recycler's window: 'ZZnewRecyclerAt', 'Index', 'InWindow', each by a contract; and the plain law of the window.
-/
import Derived.Test.Qxb6615798aRows
import Derived.WalkKit
import Derived.WalkSpells
import Derived.RowKit3
import Derived.Deep.QuietTactic
import Derived.BigQuiet
namespace Go.Proofs.Qxb6615798a
open Go.RowKit

/-- The recycler's block and its index's block, as far as 'InWindow' reads them. -/
def Rec (w : World) (b c : Nat) (s l i : Int) : Prop :=
  w.cell? ⟨b, 4, none⟩ = some (.int .u32 s) ∧ w.cell? ⟨b, 7, none⟩ = some (.int .u32 l) ∧ w.cell? ⟨b, 8, none⟩ = some (.pointer (some ⟨c, 0, none⟩)) ∧ w.cell? ⟨c, 6, none⟩ = some (.int .u32 i)

def idxObj (s i : Int) : Obj := .cells #[.int .i64 0, .int .i64 0, .int .i64 0, .int .i64 0, .int .u32 s, .pointer none, .int .u32 i, .int .u32 0, .int .u32 0, .slice none 0 0] 46
def recObj (s l : Int) (c : Nat) : Obj := .cells #[.int .i64 0, .int .i64 0, .int .i64 0, .int .i64 0, .int .u32 s, .int .u32 0, .nilIface, .int .u32 l, .pointer (some ⟨c, 0, none⟩), .slice none 0 0, .slice none 0 0] 67

theorem new_any (s l i : Int) (w : World) :
    Calls Try.prog 14 #[.int .u32 s, .int .u32 l, .int .u32 i] w fun e w' => e = .returned (.pointer (some ⟨w.heap.size + 1, 0, none⟩)) ∧ w' = (w.alloc (idxObj s i)).alloc (recObj s l w.heap.size) := by
  go_enter Try.func14, Try.ntmps14
  go_wp2
  go_ret
  exact ⟨rfl, rfl⟩

theorem rec_new (s l i : Int) (w : World) : Rec ((w.alloc (idxObj s i)).alloc (recObj s l w.heap.size)) (w.heap.size + 1) w.heap.size s l i := by
  refine ⟨?_, ?_, ?_, ?_⟩ <;> simp [idxObj, recObj, go_sem, World.cell?_alloc_past, World.cell?_alloc_at]

theorem index_any (c : Nat) (i : Int) (w : World) (h : w.cell? ⟨c, 6, none⟩ = some (.int .u32 i)) :
    Calls Try.prog 18 #[.pointer (some ⟨c, 0, none⟩)] w fun e w' => e = .returned (.int .u32 i) ∧ w' = w := by
  go_enter Try.func18, Try.ntmps18
  go_wp2
  go_ret
  exact ⟨rfl, rfl⟩

/-- What 'InWindow' answers. -/
def inW (s l i x : Int) : Bool := decide ((i + s - x) % s ≤ l)

theorem in_any (b c : Nat) (s l i x : Int) (w : World) (hs : 0 < s) (hs' : s < 4294967296) (hi : 0 ≤ i) (hi' : i < 4294967296) (hx : 0 ≤ x) (hx' : x < 4294967296) (hl : 0 ≤ l) (hl' : l < 4294967296)
    (h : Rec w b c s l i) :
    Calls Try.prog 15 #[.pointer (some ⟨b, 0, none⟩), .int .u32 x] w fun e w' => e = .returned (.bool (inW s l i x)) ∧ ∃ n, w' = w.drewN n := by
  obtain ⟨h1, h2, h3, h4⟩ := h
  have hm0 := Int.emod_nonneg x (show s ≠ 0 by omega)
  have hm1 := Int.emod_lt_of_pos x hs
  have hs0 : (s == 0) = false := by simp; omega
  go_enter Try.func15, Try.ntmps15
  go_wp2_with fail
  go_quiet ((go_at_call 18; exact Calls.quiet_of_same (index_any _ _ _ (by simpa using h4))))
  go_wp2
  go_ret
  exact ⟨rfl, nq, rfl⟩

theorem Rec.drewN {w : World} {b c : Nat} {s l i : Int} (h : Rec w b c s l i) (n : Nat) : Rec (w.drewN n) b c s l i := h

theorem Grown_drewN {W w : World} (h : Grown W w) (n : Nat) : Grown W (w.drewN n) := h

theorem grown_new {W w : World} (h : Grown W w) (s l i : Int) (c : Nat) : Grown W ((w.alloc (idxObj s i)).alloc (recObj s l c)) := (h.alloc _ _).alloc _ _

theorem rec_past {w : World} {b c : Nat} {s l i : Int} (h : Rec w b c s l i) (hb : b < w.heap.size) (hc : c < w.heap.size) (s' l' i' : Int) (n : Nat) :
    Rec ((w.alloc (idxObj s' i')).alloc (recObj s' l' n)) b c s l i := by
  obtain ⟨h1, h2, h3, h4⟩ := h
  have e : ∀ (d o : Nat), d < w.heap.size → ((w.alloc (idxObj s' i')).alloc (recObj s' l' n)).cell? ⟨d, o, none⟩ = w.cell? ⟨d, o, none⟩ := fun d o hd => by
    rw [World.cell?_alloc_past _ _ _ (by simp; omega), World.cell?_alloc_past _ _ _ hd]
  exact ⟨(e _ _ hb).trans h1, (e _ _ hb).trans h2, (e _ _ hb).trans h3, (e _ _ hc).trans h4⟩

/-! ### The plain law: walking back from the index -/
theorem emod_small {s k : Int} (h0 : 0 ≤ k) (h1 : k < s) : k % s = k := Int.emod_eq_of_lt h0 h1
theorem emod_small' {s k : Int} (h0 : 0 ≤ k) (h1 : k < s) : (k + s) % s = k := by rw [Int.add_emod_right]; exact Int.emod_eq_of_lt h0 h1

theorem inW_at (s l i p k : Int) (h0 : 0 ≤ k) (h1 : k < s) (hp : p = i - k ∨ p = i - k + s) : inW s l i p = decide (k ≤ l) := by
  unfold inW
  rcases hp with rfl | rfl
  · rw [show i + s - (i - k) = k + s from by omega, emod_small' h0 h1]
  · rw [show i + s - (i - k + s) = k from by omega, emod_small h0 h1]

/-! ### The plain law: turning with the index -/
theorem inW_home (s l i x : Int) : inW s l i (x % s) = inW s l i x := by
  unfold inW; rw [Int.sub_emod_emod]
theorem inW_turn (s l i x : Int) : inW s l ((i + 1) % s) ((x + 1) % s) = inW s l i x := by
  unfold inW
  rw [Int.sub_emod_emod, show (i + 1) % s + s - (x + 1) = (i + 1) % s + (s - x - 1) from by omega, Int.emod_add_emod, show i + 1 + (s - x - 1) = i + s - x from by omega]
theorem inW_own (s l i : Int) (hl : 0 ≤ l) : inW s l i i = true := by
  unfold inW; rw [show i + s - i = s from by omega, Int.emod_self]; simpa using hl
theorem inW_old (s l i : Int) (h0 : 0 ≤ l) (h1 : l < s) : inW s l i ((i + s - l) % s) = true := by
  unfold inW; rw [Int.sub_emod_emod, show i + s - (i + s - l) = l from by omega, Int.emod_eq_of_lt h0 h1]; simp
theorem inW_next (s l i : Int) (h2 : 2 ≤ s) (h1 : l ≤ s - 2) : inW s l i ((i + 1) % s) = false := by
  unfold inW; rw [Int.sub_emod_emod, show i + s - (i + 1) = s - 1 from by omega, Int.emod_eq_of_lt (by omega) (by omega)]; simp; omega
theorem inW_seen (s l i : Int) (h2 : 2 ≤ s) : inW s l ((i + 1) % s) i = decide (1 ≤ l) := by
  unfold inW; rw [show (i + 1) % s + s - i = (i + 1) % s + (s - i) from by omega, Int.emod_add_emod, show i + 1 + (s - i) = 1 + s from by omega, Int.add_emod_right, Int.emod_eq_of_lt (by omega) (by omega)]

/-- Two recyclers, the one behind the other. -/
theorem rec_two (s l i j : Int) (w : World) (W : World) (hW : W = (((w.alloc (idxObj s i)).alloc (recObj s l w.heap.size)).alloc (idxObj s j)).alloc (recObj s l (w.heap.size + 1 + 1))) :
    Rec W (w.heap.size + 1) w.heap.size s l i ∧ Rec W (w.heap.size + 1 + 1 + 1) (w.heap.size + 1 + 1) s l j ∧ Grown w W := by
  subst hW
  refine ⟨rec_past (rec_new s l i w) (by simp) (by simp; omega) s l j _, ?_, grown_new (grown_new (Grown.refl w) s l i _) s l j _⟩
  have := rec_new s l j ((w.alloc (idxObj s i)).alloc (recObj s l w.heap.size))
  simpa using this
end Go.Proofs.Qxb6615798a
