/-
  The chain's loop of 'FnAddChainReadsBack': each round, out of the segment.
-/
import Derived.Test.Qxb6608607aChainPlain
import Derived.Test.Qxb6608607aRoundAny
namespace Go.Proofs.Qxb6608607a
open Go.RowKit Go.Maps

set_option maxHeartbeats 4000000 in
set_option maxRecDepth 1000000 in
theorem chainAny {a' : Option Addr} {u : Bool} {pl c' tb toff tl tc db doff dl dc m M g L cv A Bk : Nat} {t : Nat → Int} {dd : Nat → List Int} {pre : List Int} {W : World} {B e1 : Nat} {la : Int}
    (hpl : pl = pre.length) (hL : L = bN u pre dd m)
    (hS : Seg W B M (.slice (some ⟨g, 0, none⟩) L cv) (bB u pre t dd m) la m (bG u pre t dd m) e1 (.slice none 0 0) [])
    (hT : RdT W (some ⟨tb, toff, none⟩) m t) (hD : RdRows W (some ⟨db, doff, none⟩) m dd) (hmt : m ≤ tl) (hmd : m ≤ dl) (hm : m ≤ 4096) (hsum : sumL dd m ≤ 524288) (hpre : pre.length ≤ 65536) (hcv : L ≤ cv)
    (hA : W.heap.size ≤ A) (hBk : W.heap.size ≤ Bk) (hAB : A ≠ Bk) :
    ∀ x a w (Q0 : Exit → Act → World → Prop), x < m → Kc (.slice a' pl c') (.bool u) (.slice (some ⟨tb, toff, none⟩) tl tc) (.slice (some ⟨db, doff, none⟩) dl dc) (.int .i64 (m : Nat)) (.pointer (some ⟨M + 1, 0, none⟩)) (.slice (some ⟨g, 0, none⟩) L cv) (.slice (some ⟨A, 0, none⟩) m m) (.slice (some ⟨Bk, 0, none⟩) m m) (.int .i64 (bP u pre dd x : Nat)) (.int .i64 ((x : Nat) : Int)) a → R5 W A Bk m (bP u pre dd) (bN u pre dd) (x + 1) w →
      (∀ b w', Kc (.slice a' pl c') (.bool u) (.slice (some ⟨tb, toff, none⟩) tl tc) (.slice (some ⟨db, doff, none⟩) dl dc) (.int .i64 (m : Nat)) (.pointer (some ⟨M + 1, 0, none⟩)) (.slice (some ⟨g, 0, none⟩) L cv) (.slice (some ⟨A, 0, none⟩) m m) (.slice (some ⟨Bk, 0, none⟩) m m) (.int .i64 (bP u pre dd (x - 1) : Nat)) (.int .i64 ((x : Nat) - 1 : Int)) b → R5 W A Bk m (bP u pre dd) (bN u pre dd) x w' → Q0 .normal b w') → Code.wp Try.prog (((Try.f5.body.map loopsOf).getD []).getD 1 Code.skip) Q0 a w := by
  intro x a w Q0 hx hk hr hE
  obtain ⟨hb, hga, hgb⟩ := id hr
  have S1 := hS.below hb
  obtain ⟨_, _, eT, cx, hw⟩ := hT.below hb x hx
  cases eT
  obtain ⟨_, _, aj, cj, eD, cd, _, hRj⟩ := hD.below hb x hx
  cases eD
  obtain ⟨xa, ca, fa, _⟩ := hga x hx
  obtain ⟨xb, cb, fb, _⟩ := hgb x hx
  have l1 := bB_length (u := u) (pre := pre) (t := t) (dd := dd) m
  have u1 := bP_hi (u := u) (pre := pre) (dd := dd) hx
  have u3 := bN_sum (u := u) (pre := pre) (dd := dd) m
  have u5 := bN_pre (u := u) (pre := pre) (dd := dd) x
  have u7 : bP u pre dd x = bN u pre dd x + (dd x).length + padU u (dd x).length := rfl
  have u8 := padU_le u (dd x).length
  have u9 := bL_bd (u := u) (pre := pre) (dd := dd) x
  rw [bL_eq] at u9
  have hlen : (dd x).length ≤ 524288 := by have h1 := sumL_mono (dd := dd) (show x + 1 ≤ m by omega); simp only [sumL] at h1; omega
  have tb2 := u32_bd hw
  have cD : ∀ j, j < 64 → w.cell? ⟨g, bP u pre dd x + j, none⟩ = some (.int .u8 ((bD u pre t dd x).getD j 0)) := fun j hj => by rw [S1.cells _ (by omega), bB_desc hx hj]
  have Z32 : ∀ (o : Nat) (v : Int), o + 4 ≤ 64 → 0 ≤ v → v < 4294967296 → (∀ j, j < 4 → (bD u pre t dd x).getD (o + j) 0 = (le32 v).getD j 0) → ∀ w', Below w.heap.size w w' →
      Calls Try.prog 10 #[.slice (some ⟨g, bP u pre dd x, none⟩) 64 (cv - bP u pre dd x), .int .i64 o] w' fun e w'' => e = .returned (.int .u32 v) ∧ ∃ n, w'' = w'.drewN n := fun o v ho h0 h1 hd w' hb' =>
    zle32_any g (bP u pre dd x) 64 _ o v w' ho (by omega) h0 h1 (fun j hj => by rw [← hd j hj]; exact (hb'.cell (p := ⟨g, bP u pre dd x + (o + j), none⟩) (cell_lt (cD (o + j) (by omega)))).trans (cD (o + j) (by omega)))
  have Z64 : ∀ (o : Nat) (v : Int), o + 8 ≤ 64 → 0 ≤ v → v ≤ 1000000000 → (∀ j, j < 8 → (bD u pre t dd x).getD (o + j) 0 = (le64 v).getD j 0) → ∀ w', Below w.heap.size w w' →
      Calls Try.prog 18 #[.slice (some ⟨g, bP u pre dd x, none⟩) 64 (cv - bP u pre dd x), .int .i64 o] w' fun e w'' => e = .returned (.int .u64 v) ∧ ∃ n, w'' = w'.drewN n := fun o v ho h0 h1 hd w' hb' =>
    zle64_any g (bP u pre dd x) 64 _ o v w' ho (by omega) h0 h1 (fun j hj => by rw [← hd j hj]; exact (hb'.cell (p := ⟨g, bP u pre dd x + (o + j), none⟩) (cell_lt (cD (o + j) (by omega)))).trans (cD (o + j) (by omega)))
  have A1 := S1.part (bN u pre dd x) (dd x) (by omega) (fun j hj => bB_data hx hj)
  have Z : ∀ j, j < padU u (dd x).length → w.cell? ⟨g, bN u pre dd x + (dd x).length + j, none⟩ = some (.int .u8 0) := fun j hj => by
    rw [S1.cells _ (by omega), bB_zero hx hj]
  have hE' : ∀ a n, Kc (.slice a' pl c') (.bool u) (.slice (some ⟨tb, toff, none⟩) tl tc) (.slice (some ⟨db, doff, none⟩) dl dc) (.int .i64 (m : Nat)) (.pointer (some ⟨M + 1, 0, none⟩)) (.slice (some ⟨g, 0, none⟩) L cv) (.slice (some ⟨A, 0, none⟩) m m) (.slice (some ⟨Bk, 0, none⟩) m m) (.int .i64 ((if x = 0 then bP u pre dd x else bQ u pre dd x : Nat) : Int)) (.int .i64 ((x : Nat) - 1 : Int)) a → Q0 .normal a (((w.drewN n).setCell ⟨A, x, none⟩ (.int .i64 (bP u pre dd x : Nat))).setCell ⟨Bk, x, none⟩ (.int .i64 (bN u pre dd x : Nat))) := fun a n ha => by
    refine hE a _ ?_ (hr.next hA hBk hAB n)
    cases x with
    | zero => rw [if_pos rfl] at ha; exact ha
    | succ k => rw [if_neg (by omega)] at ha; exact ha
  have q0 : x = 0 → bQ u pre dd x = 0 ∧ bN u pre dd x = pl := fun e => by subst e; exact ⟨rfl, hpl.symm⟩
  have q1 : x ≠ 0 → bQ u pre dd x ≤ bP u pre dd x ∧ bQ u pre dd x + 64 = bN u pre dd x := fun e => by
    cases x with
    | zero => exact absurd rfl e
    | succ k => exact ⟨by show bP u pre dd k ≤ bP u pre dd (k + 1); have : bN u pre dd (k + 1) = bP u pre dd k + 64 := rfl; omega, rfl⟩
  have q2 : u = true → padU u (dd x).length = 0 := fun e => by subst e; rfl
  have q3 : u = false → ((dd x).length + padU u (dd x).length) % 16 = 0 := fun e => by subst e; show ((dd x).length + padOf (dd x).length) % 16 = 0; unfold padOf; omega
  rw [hk.lit]
  apply chain1 (tx := t x) (ad := bA u pre t dd x) (E := bP u pre dd x + 64) (S := bN u pre dd x) (pv := bQ u pre dd x) (hE := hE')
    (cx := cx) (hxt := by omega) (sL := by omega) (r1 := by omega) (r2 := by omega) (hx := by omega) (e1 := by rw [IntKind.wrap_i64]; omega) (e2 := by omega) (i2 := by omega) (i3 := by omega) (i7 := by omega) (i8 := by omega)
    (za := Z32 60 _ (by omega) adler_bd.1 adler_bd.2 (fun j _ => bD_sum x j)) (z0 := Z32 0 _ (by omega) tb2.1 tb2.2 (bD_typ x)) (z4 := Z32 4 _ (by omega) (by omega) (by omega) (bD_nil x)) (z24 := Z32 24 _ (by omega) (by omega) (by omega) (bD_64 x))
    (hz := fun j hj => by rw [cD _ (by omega), bD_zero x j hj])
  · intro z Q
    intros
    rename_i hQ
    apply tail47 (aj := aj) (cj := cj) (nn := (dd x).length) (pd := padU u (dd x).length) (sz := (dd x).length + padU u (dd x).length) (wr := w.drewN z) (cd := cd) (hxd := by omega) (sP := by omega) (sn := hlen) (sp := u8) (e1 := by omega) (e2 := by omega)
      (zs := fun w' hb' => Z64 16 _ (by omega) (by omega) (by omega) (fun j hj => by rw [bD_size x j hj]; rfl) w' ((below_drewn (Below.refl _ w) z).trans hb')) (zd := fun w' hb' => Z32 28 _ (by omega) (by omega) (by omega) (bD_pad x) w' ((below_drewn (Below.refl _ w) z).trans hb')) (hu := q2) (hf := q3)
    intro z2
    intros
    apply tail57 (aj := aj) (cj := cj) (nn := (dd x).length) (pd := padU u (dd x).length) (sz := (dd x).length + padU u (dd x).length) (S := bN u pre dd x) (F := bN u pre dd x + (dd x).length) (pv := bQ u pre dd x) (wr := (w.drewN z).drewN z2)
      (cd := cd) (hxd := by omega) (hxm := by omega) (ca := ca) (fa := fa) (cb := cb) (fb := fb) (hAB := hAB) (sL := by omega) (w1 := by rw [IntKind.wrap_i64]; omega) (w2 := by rw [IntKind.wrap_i64]; omega) (w3 := by rw [IntKind.wrap_i64]; omega)
      (i1 := by omega) (i2 := by omega) (i3 := by omega) (i4 := by omega) (hP := ⟨by omega, by omega⟩)
      (zq := fun w' hb' => eq_to hb' A1 hRj (by omega) (by omega)) (hz := Z) (zp := fun w' hb' => Z64 8 ((bQ u pre dd x : Nat) : Int) (by omega) (by omega) (by omega) (fun j hj => by rw [bD_prev x j hj, bL_eq]) w' ((below_drewn (below_drewn (Below.refl _ w) z) z2).trans hb')) (h0 := q0) (h1 := q1)
    intro a n ha
    rw [World.drewN_drewN, World.drewN_drewN]
    exact hQ _ _ ha
  · intro w' hb'
    refine zzadler60 g (bP u pre dd x) _ (fun j => (bE u pre t dd x).getD j 0) w' (fun j hj => desc_bd tb2.1 tb2.2 (by rw [bL_eq]; omega) (by rw [bL_eq]; omega) (by omega) (by omega) (by omega) (by omega) j hj) (fun j hj => ?_)
    rw [← bD_head x j hj]
    exact (hb'.cell (p := ⟨g, bP u pre dd x + j, none⟩) (cell_lt (cD j (by omega)))).trans (cD j (by omega))

end Go.Proofs.Qxb6608607a
