/-
  'g.Descriptors[typ] = append(g.Descriptors[typ], g.last)', upon a segment in memory.
-/
import Derived.Test.Qxb6608607aSeg
namespace Go.Proofs.Qxb6608607a
open Go.RowKit Go.Maps
open Go.WideElems (Fit)

theorem Try.info3 : (Try.prog.info? 3).map (fun i => (i.zero, i.size, i.bytes)) = some (some (.int .i64 0), 1, 8) := by kernel_rfl

section
variable {w : World} {B M : Nat} {v : Value} {bs : List Int} {last : Int} {n : Nat} {G : Int → List Int} {c : Nat} {d : Value} {zs : List Int}

theorem Seg.group (h : Seg w B M v bs last n G c d zs) (typ : Int) (hw : (Lit.int .u32 typ).wf = true) (x : Int) (hx : (Lit.int .i64 x).wf = true) (hn : n < 100000) :
    ∃ u, (∀ W : World, W.heap[M]? = w.heap[M]? → (Instr.lookup 38 (.map (some M)) (.int .u32 typ) false).run Try.prog W = .ok u W) ∧
      ∃ u' w1 w2, (Builtin.append_ #[42, 42] 42 #[u, .slice (some ⟨w.heap.size, 0, none⟩) 1 1]).run Try.prog (w.alloc (.cells #[.int .i64 x] 3)) = .ok u' w1 ∧
        (Instr.mapUpdate 38 (.map (some M)) (.int .u32 typ) u').run Try.prog w1 = .ok () w2 ∧ (∀ o, w1.cell? ⟨M + 1, o, none⟩ = w.cell? ⟨M + 1, o, none⟩) ∧ (∀ o, w2.cell? ⟨M + 1, o, none⟩ = w.cell? ⟨M + 1, o, none⟩) ∧
        Seg w2 B M v bs last (n + 1) (addG G typ x) (addC G typ c) d zs ∧ Below B w w2 := by
  have hl := h.lt
  have hbM := h.bM
  obtain ⟨D, hD, hm⟩ := h.grp
  obtain ⟨u, hlook, hoi, hzl, hback, hsh⟩ := groups_look hD hm (by omega) typ hw
  refine ⟨u, hlook, ?_⟩
  obtain ⟨i, hi, hz0, hz1, hz2⟩ := info_parts Try.info3
  obtain ⟨u', w1, hr, ho', hg, _, hat⟩ := run_append_own_at (P := Try.prog) (w.alloc (.cells #[.int .i64 x] 3)) (M + 2) 42 42 3 i (.int .i64 0) 1 8 Try.underlying42 hi hz0 hz1 hz2 rfl (by decide) u _ _ (hoi.1.alloc _) ⟨w.heap.size, 0, none⟩ 1 1 [.int .i64 x] rfl
    (cell_one_new _ _ _) (ints_oneCell .i64 [x]) (by unfold maxLen; omega) (by omega) (by simp; omega)
  have hall : w.grownBy w1 u.ownBlock := (World.grownBy_alloc w _ _).trans hg
  have hoi' : w1.ownsInts (M + 2) 3 .i64 u' (G typ ++ [x]) := hoi.appended ho' hx
  have hloc : u'.ownBlock = u.ownBlock ∨ ∃ g, u'.ownBlock = some g ∧ w.heap.size ≤ g := hat.imp id (fun e => ⟨_, e, by simp⟩)
  obtain ⟨w2, hr2, hD2, hg2⟩ := hback w1 u' (G typ ++ [x]) hall hoi' (by simp; omega) hloc
  rw [hoi'.datum_pos (by simp)] at hD2
  have hm2 := hm.put hw x
  have uM : some (M + 1) ≠ u.ownBlock := fun e => by have := (hoi.1.lt _ e.symm).1; omega
  have uM0 : some M ≠ u.ownBlock := fun e => by have := (hoi.1.lt _ e.symm).1; omega
  have hs1 : w.heap.size ≤ w1.heap.size := hall.size
  have cell1 : ∀ o, w1.cell? ⟨M + 1, o, none⟩ = w.cell? ⟨M + 1, o, none⟩ := fun o => grown_cell hall hl uM
  have cell2 : ∀ o, w2.cell? ⟨M + 1, o, none⟩ = w.cell? ⟨M + 1, o, none⟩ := fun o => (grown_cell hg2 (by omega) (by simp)).trans (cell1 o)
  have fz2 : ∀ o, w2.frozen? ⟨M + 1, o, none⟩ = w.frozen? ⟨M + 1, o, none⟩ := fun o => (grown_frozen hg2 (by omega) (by simp)).trans (grown_frozen hall hl uM)
  -- the other slices lie apart from the group's row
  have apart : ∀ y : Value, (∀ g, y.ownBlock = some g → v.ownBlock = some g ∨ d.ownBlock = some g) → y.ownBlock = none ∨ y.ownBlock ≠ u.ownBlock := fun y hy => by
    cases hyb : y.ownBlock with
    | none => exact .inl rfl
    | some g => exact .inr (fun e => hsh _ h.shun g e.symm (hy g hyb))
  have keepOwn : ∀ (y : Value) (ys : List Int), Own w B y ys → y.ownBlock ≠ some M → (∀ g, y.ownBlock = some g → v.ownBlock = some g ∨ d.ownBlock = some g) → Own w2 B y ys := fun y ys ho hne hy =>
    (ho.kept hall (apart y hy)).kept hg2 (.inr hne)
  have hno : ∀ g, u'.ownBlock = some g → ¬ (v.ownBlock = some g ∨ d.ownBlock = some g) := fun g e hN => by
    rcases hloc with h1 | ⟨g', h1, h2⟩
    · exact hsh _ h.shun g (by rw [← h1, e]) hN
    · rw [e] at h1; cases h1
      rcases hN with hN | hN
      · have := (h.own.lt g hN).2; omega
      · have := (h.tmp.lt g hN).2; omega
  have hkey : keyOf Try.prog 26 (.int .u32 typ) = some (.int .u32 typ) := keyOf_int_mk Try.underlying26 hw
  have sh2 : w2.Shuns M (fun g => v.ownBlock = some g ∨ d.ownBlock = some g) := by
    obtain ⟨es, clock, hb, F, hs, _, hbb, _⟩ := hD
    have hb1 : w1.heap[M]? = some (.map es clock) := (hall.block M (by omega) uM0).trans hb
    obtain ⟨es', clock', hb2, hwho⟩ := stored_who law Try.underlying38 hb1 F (by unfold maxLen; omega) hkey hr2
    intro es2 clock2 hb2' y hy g hyg
    obtain ⟨rfl, rfl⟩ : es' = es2 ∧ clock' = clock2 := by rw [hb2] at hb2'; simpa using hb2'
    rcases hwho y hy with ⟨hy0, _⟩ | ⟨_, hval⟩
    · exact h.shun es clock hb y hy0 g hyg
    · exact hno g (hval ▸ hyg)
  have hBel : Below B w w2 := ((Below.refl B w).grown hall h.hB (fun k hk => by have := (hoi.1.lt k hk).1; omega)).grown hg2 (by have := h.hB; omega) (fun k hk => by cases hk; exact hbM)
  exact ⟨u', w1, w2, hr, hr2, cell1, cell2, ⟨hbM, Nat.lt_of_lt_of_le (Nat.lt_of_lt_of_le hl hs1) hg2.size, (cell2 0).trans h.c0, (cell2 1).trans h.c1, (cell2 2).trans h.c2, fun o => (fz2 o).trans (h.fz o),
    keepOwn v bs h.own h.vM (fun g e => .inl e), h.vM, h.vG, ⟨_, hD2, hm2⟩, keepOwn d zs h.tmp h.dM (fun g e => .inr e), h.dM, h.dG, h.dv, sh2⟩, hBel⟩
end
end Go.Proofs.Qxb6608607a
