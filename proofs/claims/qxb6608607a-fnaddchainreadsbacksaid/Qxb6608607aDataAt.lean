/-
  '(littleEndian).Uint64' and '(*Segment).DataAt', each by a contract.
-/
import Derived.Test.Qxb6608607aBuild
namespace Go.Proofs.Qxb6608607a
open Go.RowKit Go.Maps

/-- '(littleEndian).Uint64' of eight bytes that spell x. -/
theorem uint64_raw (b o n c : Nat) (z0 z1 z2 z3 z4 z5 z6 z7 : Int) (w : World) (hn : 8 ≤ n)
    (h0 : 0 ≤ z0 ∧ z0 < 256) (h1 : 0 ≤ z1 ∧ z1 < 256) (h2 : 0 ≤ z2 ∧ z2 < 256) (h3 : 0 ≤ z3 ∧ z3 < 256) (h4 : 0 ≤ z4 ∧ z4 < 256) (h5 : 0 ≤ z5 ∧ z5 < 256) (h6 : 0 ≤ z6 ∧ z6 < 256) (h7 : 0 ≤ z7 ∧ z7 < 128)
    (c0 : w.cell? ⟨b, o, none⟩ = some (.int .u8 z0)) (c1 : w.cell? ⟨b, o + 1, none⟩ = some (.int .u8 z1)) (c2 : w.cell? ⟨b, o + 2, none⟩ = some (.int .u8 z2)) (c3 : w.cell? ⟨b, o + 3, none⟩ = some (.int .u8 z3))
    (c4 : w.cell? ⟨b, o + 4, none⟩ = some (.int .u8 z4)) (c5 : w.cell? ⟨b, o + 5, none⟩ = some (.int .u8 z5)) (c6 : w.cell? ⟨b, o + 6, none⟩ = some (.int .u8 z6)) (c7 : w.cell? ⟨b, o + 7, none⟩ = some (.int .u8 z7)) :
    Calls Try.prog 28 #[.agg #[], .slice (some ⟨b, o, none⟩) n c] w fun e w' => e = .returned (.int .u64 (z0 + z1 * 256 + z2 * 65536 + z3 * 16777216 + z4 * 4294967296 + z5 * 1099511627776 + z6 * 281474976710656 + z7 * 72057594037927936)) ∧ Below w.heap.size w w' := by
  have hb := cell_lt c0
  have hb' : b < w.heap.size := hb
  have q0 : 0 < n := by omega
  have q1 : (1 : Int) < (n : Int) := by omega
  have q2 : (2 : Int) < (n : Int) := by omega
  have q3 : (3 : Int) < (n : Int) := by omega
  have q4 : (4 : Int) < (n : Int) := by omega
  have q5 : (5 : Int) < (n : Int) := by omega
  have q6 : (6 : Int) < (n : Int) := by omega
  have q7 : (7 : Int) < (n : Int) := by omega
  clear hb
  go_enter Try.func28, Try.ntmps28
  go_wp2
  go_quiet (fail)
  go_wp2
  go_ret
  refine ⟨?_, ((Below.refl _ w).alloc (Nat.le_refl _) _).trans ⟨rfl, rfl, rfl, Nat.le_refl _, fun _ _ => rfl⟩⟩
  simp (disch := omega) only [u64_or8, u64_or16, u64_or24, u64_or32, u64_or40, u64_or48, u64_or56]
  rfl

theorem le64_sum (x : Int) : x % 256 + x / 256 % 256 * 256 + x / 65536 % 256 * 65536 + x / 16777216 % 256 * 16777216 + x / 4294967296 % 256 * 4294967296 + x / 1099511627776 % 256 * 1099511627776 + x / 281474976710656 % 256 * 281474976710656 + x / 72057594037927936 * 72057594037927936 = x := by
  omega

/-- '(littleEndian).Uint64' of eight bytes that spell x. -/
theorem uint64_any (b o n c : Nat) (x : Int) (w : World) (hn : 8 ≤ n) (h0 : 0 ≤ x) (h1 : x < 9223372036854775808) (hc : ∀ j, j < 8 → w.cell? ⟨b, o + j, none⟩ = some (.int .u8 ((le64 x).getD j 0))) :
    Calls Try.prog 28 #[.agg #[], .slice (some ⟨b, o, none⟩) n c] w fun e w' => e = .returned (.int .u64 x) ∧ Below w.heap.size w w' := by
  have := uint64_raw b o n c (x % 256) (x / 256 % 256) (x / 65536 % 256) (x / 16777216 % 256) (x / 4294967296 % 256) (x / 1099511627776 % 256) (x / 281474976710656 % 256) (x / 72057594037927936) w hn
    (by omega) (by omega) (by omega) (by omega) (by omega) (by omega) (by omega) (by omega) (hc 0 (by omega)) (hc 1 (by omega)) (hc 2 (by omega)) (hc 3 (by omega)) (hc 4 (by omega)) (hc 5 (by omega)) (hc 6 (by omega)) (hc 7 (by omega))
  rw [le64_sum x] at this
  exact this

/-- The shape of a slice of ints of the call's own. -/
theorem ints_shape {w : World} {base : Nat} {u : Value} {zs : List Int} (h : w.ownsInts base 3 .i64 u zs) :
    (u = .slice none 0 0 ∧ zs = []) ∨ ∃ g cap, u = .slice (some ⟨g, 0, none⟩) zs.length cap ∧ base ≤ g ∧ g < w.heap.size ∧ zs.length ≤ cap ∧ cap ≤ maxLen ∧
      ∀ j, j < zs.length → w.cell? ⟨g, j, none⟩ = some (.int .i64 (zs.getD j 0)) := by
  rcases h.1.2 with ⟨e, hn⟩ | ⟨g, cap, cur, e, hb, hg, hn, hm, hs, ht⟩
  · exact .inl ⟨e, List.eq_nil_of_length_eq_zero hn⟩
  · refine .inr ⟨g, cap, e, hb, (Array.getElem?_eq_some_iff.1 hg).1, hn, hm, fun j hj => ?_⟩
    have := World.ownsRow.cells h.1 (g := g) (by rw [e]; rfl) j (.int .i64 (zs.getD j 0)) (by simp [List.getD, hj])
    rwa [Addr.add_lit, Nat.zero_add] at this

set_option maxRecDepth 100000 in
/-- '(*Segment).DataAt'. -/
theorem dataAt_any {w : World} {B M : Nat} {v : Value} {bs : List Int} {last : Int} {n : Nat} {G : Int → List Int} {c : Nat} (hS : Seg w B M v bs last n G c (.slice none 0 0) []) (hn : n < 100000) (typ : Int) (hw : (Lit.int .u32 typ).wf = true)
    (i o : Nat) (x : Int) (hi : i < (G typ).length) (ho : (G typ).getD i 0 = (o : Int)) (hol : o + 24 ≤ bs.length) (hbl : bs.length ≤ 100000000) (hx0 : 0 ≤ x) (hx1 : x ≤ 1000000000) (hb : ∀ j, j < 8 → bs.getD (o + 16 + j) 0 = (le64 x).getD j 0) :
    Calls Try.prog 19 #[.pointer (some ⟨M + 1, 0, none⟩), .int .u32 typ, .int .i64 i] w fun e w' => e = .returned (.int .i64 ((o : Int) - x)) ∧ Below w.heap.size w w' := by
  obtain ⟨D, hD, hm⟩ := hS.grp
  obtain ⟨u, hlook, hoi, hzl, _, _⟩ := groups_look hD hm (by omega) typ hw
  have hlk := hlook w rfl
  rcases ints_shape hoi with ⟨_, e0⟩ | ⟨g, cu, rfl, _, hgl, hlc, hcm, hcell⟩
  · rw [e0] at hi; simp at hi
  have hci := hcell i hi
  rw [ho] at hci
  rcases hS.own.shape with ⟨_, e0⟩ | ⟨gb, cv, rfl, _, hgb, hvc, hvm, hcb⟩
  · rw [e0] at hol; simp at hol
  have c0 := hS.c0
  have c1 := hS.c1
  have hc28 : ∀ W, Below w.heap.size w W → Calls Try.prog 28 #[.agg #[], .slice (some ⟨gb, o + 16, none⟩) (bs.length - (o + 16)) (cv - (o + 16))] W fun e w' => e = .returned (.int .u64 x) ∧ w'.cell? ⟨M + 1, 0, none⟩ = some (.slice (some ⟨gb, 0, none⟩) bs.length cv) ∧ Below w.heap.size w w' := fun W hW => by
    refine (uint64_any gb (o + 16) _ _ x W (by omega) hx0 (by omega) (fun j hj => ?_)).mono ?_
    · rw [← hb j hj]
      exact (hW.cell (p := ⟨gb, o + 16 + j, none⟩) hgb).trans (hcb (o + 16 + j) (by omega))
    · rintro e w' ⟨he, hb'⟩
      have hbw : Below w.heap.size w w' := hW.trans (hb'.mono hW.size)
      exact ⟨he, (hbw.cell (p := ⟨M + 1, 0, none⟩) hS.lt).trans c0, hbw⟩
  have H28 : Hid (∀ W, Below w.heap.size w W → Calls Try.prog 28 #[.agg #[], .slice (some ⟨gb, o + 16, none⟩) (bs.length - (o + 16)) (cv - (o + 16))] W fun e w' => e = .returned (.int .u64 x) ∧ w'.cell? ⟨M + 1, 0, none⟩ = some (.slice (some ⟨gb, 0, none⟩) bs.length cv) ∧ Below w.heap.size w w') := hc28
  obtain ⟨q, hq⟩ : ∃ q, q = o + 16 := ⟨_, rfl⟩
  rw [← hq] at H28
  have wr : IntKind.i64.wrap ((o : Int) + 16) = (q : Int) := by rw [IntKind.wrap_i64]; omega
  have wr2 : IntKind.i64.wrap x = x := by rw [IntKind.wrap_i64]; omega
  have wr3 : IntKind.i64.wrap ((o : Int) - x) = (o : Int) - x := by rw [IntKind.wrap_i64]; omega
  have hi' : (i : Int) < ((G typ).length : Int) := by omega
  have hq0 : (0 : Int) ≤ (q : Int) := by omega
  have hol' : (q : Int) ≤ (bs.length : Int) := by omega
  have hol2 : q ≤ bs.length := by omega
  have hcv : (q : Int) < (cv : Int) := by omega
  have hcv2 : q < cv := by omega
  have hcv3 : ¬ cv = q := by omega
  have hB0 : Below w.heap.size w w.drew := (Below.refl _ _).drew
  unfold maxLen at hcm hvm
  clear hq
  clear hc28 hlook hD hm hoi hcb hb hcell ho
  go_enter Try.func19, Try.ntmps19
  go_wp2
  go_region_held3 (fun W => W.cell? ⟨M + 1, 0, none⟩ = some (.slice (some ⟨gb, 0, none⟩) bs.length cv)) (first | exact c0 | assumption)
    (first
      | (go_at_call 28; refine (H28.out _ (by assumption)).mono ?_; rintro e w' ⟨rfl, hK, hB'⟩))
  go_wp2
  go_ret
  exact ⟨rfl, hB'⟩
end Go.Proofs.Qxb6608607a
