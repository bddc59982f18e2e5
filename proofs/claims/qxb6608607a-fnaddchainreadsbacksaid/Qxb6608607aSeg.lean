/-
  A segment in memory: its struct, its bytes, its map of descriptors, and a slice that is being built beside it; what each step of 'add' makes of it.
-/
import Derived.Test.Qxb6608607aGroups
namespace Go.Proofs.Qxb6608607a
open Go.RowKit Go.Maps

/-- The segment whose map lies in block M and whose struct in block M + 1: its bytes 'bs' behind 'v', 'last', its map: to type t the places 'G t', c entries; beside it the slice 'd', which holds 'zs'. All of it from block B on. -/
structure Seg (w : World) (B M : Nat) (v : Value) (bs : List Int) (last : Int) (n : Nat) (G : Int → List Int) (c : Nat) (d : Value) (zs : List Int) : Prop where
  bM : B ≤ M
  lt : M + 1 < w.heap.size
  c0 : w.cell? ⟨M + 1, 0, none⟩ = some v
  c1 : w.cell? ⟨M + 1, 1, none⟩ = some (.map (some M))
  c2 : w.cell? ⟨M + 1, 2, none⟩ = some (.int .i64 last)
  fz : ∀ o, w.frozen? ⟨M + 1, o, none⟩ = false
  own : Own w B v bs
  vM : v.ownBlock ≠ some M
  vG : v.ownBlock ≠ some (M + 1)
  grp : ∃ D, w.ownsGroups Try.prog 26 (M + 2) 3 .i64 M n D ∧ MapIs D G c
  tmp : Own w B d zs
  dM : d.ownBlock ≠ some M
  dG : d.ownBlock ≠ some (M + 1)
  dv : d.ownBlock = none ∨ d.ownBlock ≠ v.ownBlock
  shun : w.Shuns M (fun g => v.ownBlock = some g ∨ d.ownBlock = some g)

section
variable {w w' : World} {B M : Nat} {v : Value} {bs : List Int} {last : Int} {n : Nat} {G : Int → List Int} {c : Nat} {d : Value} {zs : List Int}

theorem Seg.hB (h : Seg w B M v bs last n G c d zs) : B ≤ w.heap.size := by have := h.bM; have := h.lt; omega

theorem grown_cell {row : Option Nat} (hg : w.grownBy w' row) {b o : Nat} (hb : b < w.heap.size) (hne : some b ≠ row) : w'.cell? ⟨b, o, none⟩ = w.cell? ⟨b, o, none⟩ := World.cell?_of_block (hg.block b hb hne)
theorem grown_frozen {row : Option Nat} (hg : w.grownBy w' row) {b o : Nat} (hb : b < w.heap.size) (hne : some b ≠ row) : w'.frozen? ⟨b, o, none⟩ = w.frozen? ⟨b, o, none⟩ := World.frozen?_of_block (hg.block b hb hne)

/-- Over whatever turns another block. -/
theorem Seg.kept {row : Option Nat} (h : Seg w B M v bs last n G c d zs) (hg : w.grownBy w' row) (rM : some M ≠ row) (rG : some (M + 1) ≠ row) (rv : v.ownBlock = none ∨ v.ownBlock ≠ row) (rd : d.ownBlock = none ∨ d.ownBlock ≠ row)
    (rg : ∀ es clock, w.heap[M]? = some (.map es clock) → ∀ x ∈ es.toList, x.val.ownBlock = none ∨ x.val.ownBlock ≠ row) : Seg w' B M v bs last n G c d zs := by
  have hl := h.lt
  obtain ⟨D, hD, hm⟩ := h.grp
  exact ⟨h.bM, Nat.lt_of_lt_of_le hl hg.size, (grown_cell hg hl rG).trans h.c0, (grown_cell hg hl rG).trans h.c1, (grown_cell hg hl rG).trans h.c2, fun o => (grown_frozen hg hl rG).trans (h.fz o), h.own.kept hg rv, h.vM, h.vG,
    ⟨D, hD.kept hg rM rg, hm⟩, h.tmp.kept hg rd, h.dM, h.dG, h.dv, h.shun.kept hg (by omega) rM⟩

/-- Over whatever leaves all that was there alone. -/
theorem Seg.below (h : Seg w B M v bs last n G c d zs) (hb : Below w.heap.size w w') : Seg w' B M v bs last n G c d zs := by
  have hg : w.grownBy w' none := ⟨hb.os, hb.tape, hb.output, hb.size, fun k hk _ => hb.block k hk⟩
  refine h.kept hg (by simp) (by simp) ?_ ?_ (fun es clock _ x _ => ?_)
  · cases v.ownBlock <;> simp
  · cases d.ownBlock <;> simp
  · cases x.val.ownBlock <;> simp

/-- The slice beside it is let go. -/
theorem Seg.drop (h : Seg w B M v bs last n G c d zs) : Seg w B M v bs last n G c (.slice none 0 0) [] :=
  ⟨h.bM, h.lt, h.c0, h.c1, h.c2, h.fz, h.own, h.vM, h.vG, h.grp, Own.nil _ _, by simp [Value.ownBlock], by simp [Value.ownBlock], .inl rfl, fun es clock hb x hx g hg hN => h.shun es clock hb x hx g hg (hN.imp id (fun e => by simp [Value.ownBlock] at e))⟩

/-- The slice beside it has grown. -/
theorem Seg.dgrow {d' : Value} {zs' : List Int} (h : Seg w B M v bs last n G c d zs) (hg : Grew w w' B d d' zs') : Seg w' B M v bs last n G c d' zs' := by
  obtain ⟨ho, hgr, hloc⟩ := hg
  have hl := h.lt
  have rM : some M ≠ d.ownBlock := fun e => h.dM e.symm
  have rG : some (M + 1) ≠ d.ownBlock := fun e => h.dG e.symm
  obtain ⟨D, hD, hm⟩ := h.grp
  have hvl := h.own.lt
  have new : ∀ g, d'.ownBlock = some g → d.ownBlock = some g ∨ w.heap.size ≤ g := fun g e => by
    rcases hloc with h1 | ⟨g', h1, h2⟩
    · exact .inl (by rw [← h1, e])
    · rw [e] at h1; cases h1; exact .inr h2
  have sh : w.Shuns M (fun g => v.ownBlock = some g ∨ d'.ownBlock = some g) := h.shun.reno hD (fun g hN => by
    rcases hN with hN | hN
    · exact .inl (.inl hN)
    · exact (new g hN).imp .inr id)
  refine ⟨h.bM, Nat.lt_of_lt_of_le hl hgr.size, (grown_cell hgr hl rG).trans h.c0, (grown_cell hgr hl rG).trans h.c1, (grown_cell hgr hl rG).trans h.c2, fun o => (grown_frozen hgr hl rG).trans (h.fz o), h.own.kept hgr ?_, h.vM, h.vG,
    ⟨D, hD.kept hgr rM (h.shun.rowsOff (fun j e => .inr e)), hm⟩, ho, fun e => ?_, fun e => ?_, ?_, sh.kept hgr (by omega) rM⟩
  · rcases h.dv with e | e
    · rw [e]; cases v.ownBlock <;> simp
    · exact .inr (fun q => e q.symm)
  · rcases new _ e with h1 | h1
    · exact h.dM h1
    · omega
  · rcases new _ e with h1 | h1
    · exact h.dG h1
    · omega
  · cases hd : d'.ownBlock with
    | none => exact .inl rfl
    | some g =>
      refine .inr (fun e => ?_)
      rcases new g hd with h1 | h1
      · rcases h.dv with q | q
        · rw [h1] at q; cases q
        · exact q (by rw [h1, e])
      · have := (hvl g e.symm).2; omega

theorem grown_set (w : World) (b o : Nat) (x : Value) : w.grownBy (w.setCell ⟨b, o, none⟩ x) (some b) :=
  ⟨rfl, rfl, rfl, by simp, fun k _ hk => Below.heap_setCell _ _ _ _ (fun e => hk (by rw [e]))⟩

theorem sc_ne {w : World} {b o o' : Nat} {v : Value} (h : o ≠ o') : (w.setCell ⟨b, o, none⟩ v).cell? ⟨b, o', none⟩ = w.cell? ⟨b, o', none⟩ := by
  apply World.cell?_setCell_other
  intro q; cases q; exact h rfl
theorem sc_eq {w : World} {b o : Nat} {v u : Value} (h : w.cell? ⟨b, o, none⟩ = some u) : (w.setCell ⟨b, o, none⟩ v).cell? ⟨b, o, none⟩ = some v := by
  apply World.cell?_setCell_same
  exact h

/-- A store into the struct's third field. -/
theorem Seg.setLast (h : Seg w B M v bs last n G c d zs) (l : Int) : Seg (w.setCell ⟨M + 1, 2, none⟩ (.int .i64 l)) B M v bs l n G c d zs := by
  have hg := grown_set w (M + 1) 2 (.int .i64 l)
  obtain ⟨D, hD, hm⟩ := h.grp
  exact ⟨h.bM, by simpa using h.lt, (sc_ne (by omega)).trans h.c0, (sc_ne (by omega)).trans h.c1, sc_eq h.c2, fun o => by rw [World.frozen?_setCell]; exact h.fz o, h.own.kept hg (.inr h.vG), h.vM, h.vG,
    ⟨D, hD.kept hg (by simp) (hD.rowsAbove (fun j e => by cases e; omega)), hm⟩, h.tmp.kept hg (.inr h.dG), h.dM, h.dG, h.dv, h.shun.kept hg (by have := h.lt; omega) (by simp)⟩

/-- The bytes have grown, and the new slice is stored. -/
theorem Seg.vgrow {v' : Value} {bs' : List Int} (h : Seg w B M v bs last n G c d zs) (hg : Grew w w' B v v' bs') : Seg (w'.setCell ⟨M + 1, 0, none⟩ v') B M v' bs' last n G c d zs ∧ w'.cell? ⟨M + 1, 0, none⟩ = some v ∧ w'.frozen? ⟨M + 1, 0, none⟩ = false ∧ Below B w w' ∧ Below B w (w'.setCell ⟨M + 1, 0, none⟩ v') := by
  obtain ⟨ho, hgr, hloc⟩ := hg
  have hl := h.lt
  have rM : some M ≠ v.ownBlock := fun e => h.vM e.symm
  have rG : some (M + 1) ≠ v.ownBlock := fun e => h.vG e.symm
  obtain ⟨D, hD, hm⟩ := h.grp
  have hdl := h.tmp.lt
  have new : ∀ g, v'.ownBlock = some g → v.ownBlock = some g ∨ w.heap.size ≤ g := fun g e => by
    rcases hloc with h1 | ⟨g', h1, h2⟩
    · exact .inl (by rw [← h1, e])
    · rw [e] at h1; cases h1; exact .inr h2
  have sh : w.Shuns M (fun g => v'.ownBlock = some g ∨ d.ownBlock = some g) := h.shun.reno hD (fun g hN => by
    rcases hN with hN | hN
    · exact (new g hN).imp .inl id
    · exact .inl (.inr hN))
  have vM' : v'.ownBlock ≠ some M := fun e => by
    rcases new _ e with h1 | h1
    · exact h.vM h1
    · omega
  have vG' : v'.ownBlock ≠ some (M + 1) := fun e => by
    rcases new _ e with h1 | h1
    · exact h.vG h1
    · omega
  have c0 := (grown_cell (o := 0) hgr hl rG).trans h.c0
  have hD' := hD.kept hgr rM (h.shun.rowsOff (fun j e => .inl e))
  have sh' := sh.kept hgr (by omega) rM
  have tmp' : Own w' B d zs := h.tmp.kept hgr h.dv
  have hs := grown_set w' (M + 1) 0 v'
  have hb : Below B w w' := (Below.refl B w).grown hgr h.hB (fun k hk => (h.own.lt k hk).1)
  refine ⟨⟨h.bM, by simpa using Nat.lt_of_lt_of_le hl hgr.size, sc_eq c0, (sc_ne (by omega)).trans ((grown_cell hgr hl rG).trans h.c1), (sc_ne (by omega)).trans ((grown_cell hgr hl rG).trans h.c2), fun o => by rw [World.frozen?_setCell]; exact (grown_frozen hgr hl rG).trans (h.fz o),
    ho.kept hs (.inr vG'), vM', vG', ⟨D, hD'.kept hs (by simp) (hD'.rowsAbove (fun j e => by cases e; omega)), hm⟩, tmp'.kept hs (.inr h.dG), h.dM, h.dG, ?_, sh'.kept hs (by have := hgr.size; omega) (by simp)⟩,
    c0, (grown_frozen hgr hl rG).trans (h.fz 0), hb, hb.setCell (p := ⟨M + 1, 0, none⟩) (by have := h.bM; show B ≤ M + 1; omega) _⟩
  cases hd : d.ownBlock with
  | none => exact .inl rfl
  | some g =>
    refine .inr (fun e => ?_)
    rcases new g e.symm with h1 | h1
    · rcases h.dv with q | q
      · rw [hd] at q; cases q
      · exact q (by rw [h1, hd])
    · have := (hdl g hd).2; omega
end
end Go.Proofs.Qxb6608607a
