/-
  '(Ex01Set).add', padded, by a contract.
-/
import Derived.Test.Qxb6608607aDesc
namespace Go.Proofs.Qxb6608607a
open Go.RowKit Go.Maps

set_option maxHeartbeats 2000000 in
set_option maxRecDepth 100000 in
theorem add_pad (w : World) (B M : Nat) (v : Value) (bs : List Int) (last : Int) (n : Nat) (G : Int → List Int) (c : Nat) (typ : Int) (a : Option Addr) (cap : Nat) (ds : List Int)
    (hS : Seg w B M v bs last n G c (.slice none 0 0) []) (hw : (Lit.int .u32 typ).wf = true) (ha : a = none → cap = 0) (hR : Rd .u8 w a ds) (hl0 : 0 ≤ last) (hl1 : last ≤ 100000000) (hn : n < 100000) (hlen : bs.length + ds.length ≤ 10000000) (p : Nat) (hp : p = padOf ds.length) :
    Calls Try.prog 30 #[setVal false, .pointer (some ⟨M + 1, 0, none⟩), .int .u32 typ, .slice a ds.length cap] w fun e w' => e = .returned (.tuple #[]) ∧ ∃ v' bs', Hid (bs' = bs ++ ds ++ List.replicate p 0 ++ desc64 typ last ((ds.length : Int) + (p : Int)) (p : Int)) ∧ Seg w' B M v' bs' (((bs.length + ds.length + p : Nat)) : Int) (n + 1) (addG G typ (((bs.length + ds.length + p : Nat)) : Int)) (addC G typ c) (.slice none 0 0) [] ∧ Below B w w' := by
  obtain ⟨av, cv, rfl, _, _, _⟩ := hS.own.rd
  have hb0 : Below w.heap.size w (w.alloc (setObj false)) := (Below.refl _ _).alloc (Nat.le_refl _) _
  have hS0 := hS.below hb0
  obtain ⟨v1, W1, hr1, ho1, hg1, hat1⟩ := hS0.own.append hS0.hB 22 a cap ds ha (hR.below hb0) (by omega)
  obtain ⟨bs1, hbs1⟩ : ∃ x, x = bs ++ ds := ⟨_, rfl⟩
  have hle1 : bs1.length = bs.length + ds.length := by rw [hbs1]; simp
  rw [← hbs1] at ho1
  obtain ⟨a1, c1, rfl, _, _, _⟩ := ho1.rd
  obtain ⟨hSA, k0, f0, hB1, hBA⟩ := hS0.vgrow ⟨ho1, hg1, hat1.imp id (fun e => ⟨_, e, Nat.le_refl _⟩)⟩
  have hp15 : p ≤ 15 := by rw [hp]; unfold padOf; omega
  obtain ⟨v2, W2, hr2, ho2, hg2, hat2⟩ := hSA.own.zeros hSA.hB 22 p (by omega)
  obtain ⟨bs2, hbs2⟩ : ∃ x, x = bs1 ++ List.replicate p 0 := ⟨_, rfl⟩
  have hle2 : bs2.length = bs1.length + p := by rw [hbs2]; simp
  have hbs3 : bs2 = bs ++ ds ++ List.replicate p 0 := by rw [hbs2, hbs1]
  rw [← hbs2] at ho2
  obtain ⟨a2, c2, rfl, _, _, _⟩ := ho2.rd
  obtain ⟨hSB, k1, f1, hB2, hBB⟩ := hSA.vgrow ⟨ho2, hg2, hat2.imp id (fun e => ⟨_, e, Nat.le_refl _⟩)⟩
  have hBw : Below B w (w.alloc (setObj false)) := hb0.mono hS.hB
  have tw := bounds_u32 hw
  have hlt := hS.lt
  have cc0 := hS.c0
  have hfz := hS.fz 0
  have hpad : bits .and .i64 (-(ds.length : Int)) 15 = (p : Int) := by rw [hp]; exact pad_neg _
  have H2 : Hid (bs2 = bs ++ ds ++ List.replicate p 0) := hbs3
  have H5 : Hid (((bs2.length : Nat) : Int) = (((bs.length + ds.length + p : Nat)) : Int)) := by rw [hle2, hle1]; exact rfl
  have bd1 : bs2.length ≤ 10000015 := by omega
  have bd2 : ds.length ≤ 10000000 := by omega
  have wr1 : IntKind.u64.wrap last = last := wraps_u64 _ (by omega) (by omega)
  have wr2 : IntKind.i64.wrap ((ds.length : Int) + (p : Int)) = ((ds.length : Int) + (p : Int)) := by rw [IntKind.wrap_i64]; omega
  have wr3 : IntKind.u64.wrap ((ds.length : Int) + (p : Int)) = ((ds.length : Int) + (p : Int)) := wraps_u64 _ (by omega) (by omega)
  have wr4 : IntKind.u32.wrap (p : Int) = (p : Int) := wraps_u32 _ (by omega) (by omega)
  clear hbs1 hbs2 hbs3 hle1 hle2 hg1 hg2 hat1 hat2 hS0 hSA hR hb0 ho1 ho2 hB1 hB2 hp
  unfold setVal
  go_enter Try.func30, Try.ntmps30
  go_wp2_with (at_builtin; first | refine Lib.wpList_append_run _ rfl _ _ 22 22 rfl _ _ rfl rfl _ _ hr1 ?_ | refine Lib.wpList_append_run _ rfl _ _ 22 3 rfl _ _ rfl rfl _ _ hr2 ?_)
  clear hr1 hr2
  generalize hWB : W2.setCell ⟨M + 1, 0, none⟩ (.slice a2 bs2.length c2) = WB at hSB hBB
  clear hWB
  have hBD : Below B w WB := (hBw.trans hBA).trans hBB
  have hSC := hSB.drew
  have hBC : Below B w WB.drew := hBD.drew
  clear hSB hBB hBD hBw hBA
  go_region_held3 (fun _ => True) (trivial)
    (first
      | (go_at_call 22; refine (seg_le32 w _ _ _ _ (by assumption) (by assumption) (by omega) (by omega) (by simp [le32])).mono ?_; rintro e w6 ⟨d6, rfl, hS6, hB6⟩))
  clear hSC hBC
  have hS6' := hS6.drew
  have hB6' := hB6.drew
  have q2 := hS6.c2
  clear hS6 hB6
  go_wp2
  go_region_held3 (fun W => W.cell? ⟨M + 1, 2, none⟩ = some (.int .i64 last)) (exact Seg.c2 (by assumption))
    (first
      | (go_at_call 31; refine (seg_le64 w _ _ _ _ (by assumption) (by assumption) (by omega) (by omega) (by simp [le32, le64])).mono ?_; rintro e w7 ⟨d7, rfl, hS7, hB7⟩))
  clear hS6' hB6' q2
  have r0 := hS7.c0
  have r2 := hS7.c2
  have rf := hS7.fz 2
  go_wp2
  have hS8 := (hS7.setLast bs2.length).drew
  have hB8 : Below B w (w7.setCell ⟨M + 1, 2, none⟩ (.int .i64 (bs2.length : Int))) := hB7.setCell (p := ⟨M + 1, 2, none⟩) (by have := hS7.bM; show B ≤ M + 1; omega) _
  generalize hW8 : w7.setCell ⟨M + 1, 2, none⟩ (.int .i64 (bs2.length : Int)) = W8 at hS8 hB8
  clear hW8 hS7 hB7 r0 r2 rf
  obtain ⟨u9, hlook, u9', wa, wb, hap, hup, cel1, cel2, hS9, hB9⟩ := hS8.group typ hw bs2.length (WalkArith.wf_i64 (by omega)) hn
  have hlk1 := hlook W8.drew rfl
  have hlk2 : (Instr.lookup 38 (.map (some M)) (.int .u32 typ) false).run Try.prog ((W8.alloc (.cells #[.int .i64 (bs2.length : Int)] 3)).drew) = .ok u9 ((W8.alloc (.cells #[.int .i64 (bs2.length : Int)] 3)).drew) := hlook _ (Below.heap_alloc _ _ _ (by have := hS8.lt; show M < W8.heap.size; have e : W8.drew.heap.size = W8.heap.size := rfl; omega))
  have K1 : W8.drew.cell? ⟨M + 1, 1, none⟩ = some (.map (some M)) ∧ W8.drew.cell? ⟨M + 1, 2, none⟩ = some (.int .i64 (bs2.length : Int)) := ⟨hS8.c1, hS8.c2⟩
  have hS8' := hS8.below ((Below.refl _ _).alloc (Nat.le_refl _) (.cells #[.int .i64 (bs2.length : Int)] 3))
  have K2 : ((W8.alloc (.cells #[.int .i64 (bs2.length : Int)] 3)).drew).cell? ⟨M + 1, 1, none⟩ = some (.map (some M)) ∧ ((W8.alloc (.cells #[.int .i64 (bs2.length : Int)] 3)).drew).cell? ⟨M + 1, 2, none⟩ = some (.int .i64 (bs2.length : Int)) := ⟨hS8'.c1, hS8'.c2⟩
  have K3 : wa.cell? ⟨M + 1, 1, none⟩ = some (.map (some M)) ∧ wa.cell? ⟨M + 1, 2, none⟩ = some (.int .i64 (bs2.length : Int)) := ⟨(cel1 1).trans hS8.c1, (cel1 2).trans hS8.c2⟩
  have K4 : wb.cell? ⟨M + 1, 1, none⟩ = some (.map (some M)) ∧ wb.cell? ⟨M + 1, 2, none⟩ = some (.int .i64 (bs2.length : Int)) := ⟨hS9.c1, hS9.c2⟩
  have hap' : (Builtin.append_ #[42, 42] 42 #[u9, .slice (some ⟨W8.heap.size, 0, none⟩) 1 1]).run Try.prog ((W8.alloc (.cells #[.int .i64 (bs2.length : Int)] 3)).drew) = .ok u9' wa := hap
  have hB9' : Below B w wb := hB8.drew.trans hB9
  clear hlook hap cel1 cel2 hS8 hS8' hB8 hB9
  go_cut [63] (fun _ wz => wz = wb)
  case first =>
    go_region_held3 (fun W => W.cell? ⟨M + 1, 1, none⟩ = some (.map (some M)) ∧ W.cell? ⟨M + 1, 2, none⟩ = some (.int .i64 (bs2.length : Int))) (assumption)
      (first | refine step_append_by rfl _ _ 42 42 rfl _ _ rfl rfl _ _ hap' ?_)
    all_goals
      go_wp2_with fail
      go_meet
      exact rfl
  case rest =>
    subst hcut
    clear hlk1 hlk2 hap' hup K1 K2 K3 K4
    have hS9d := hS9.drew
    have hB9d := hB9'.drew
    go_wp2
    go_region_held3 (fun _ => True) (trivial)
      (first
        | (go_at_call 22; refine (seg_le32 w _ _ _ _ (by assumption) (by assumption) (by omega) (by omega) (by simp [le32, le64])).mono ?_; rintro e w10 ⟨d10, rfl, hS10, hB10⟩))
    clear hS9 hB9' hS9d hB9d
    have hS11 := hS10.drew
    have hB11 := hB10.drew
    clear hS10 hB10
    obtain ⟨d11, wc, hr11, ho11, hg11, hat11⟩ := hS11.tmp.zeros hS11.hB 22 28 (by simp [le32, le64])
    obtain ⟨zs, hzs⟩ : ∃ z, z = desc typ last ((ds.length : Int) + (p : Int)) (p : Int) := ⟨_, rfl⟩
    have ho11' : Own wc B d11 zs := by rw [hzs]; exact ho11
    have hSc := hS11.dgrow ⟨ho11', hg11, hat11.imp id (fun e => ⟨_, e, Nat.le_refl _⟩)⟩
    have hBc : Below B w wc := hB11.grown hg11 hS11.hB (fun k hk => (hS11.tmp.lt k hk).1)
    have hz60 : zs.length = 60 := by rw [hzs]; exact desc_length _ _ _ _
    have hzb : ∀ j, j < 60 → 0 ≤ zs.getD j 0 ∧ zs.getD j 0 ≤ 255 := fun j hj => by rw [hzs]; exact desc_bd (by omega) (by omega) (by omega) (by omega) (by omega) (by omega) (by omega) (by omega) j hj
    have q0 := hS11.c0
    have q1 := hSc.c0
    rcases ho11'.shape with ⟨_, e0⟩ | ⟨g11, cp11, rfl, _, _, hcp, hcm, hce⟩
    · rw [e0] at hz60; simp at hz60
    rw [hz60] at hr11 hcp hSc
    have hWA := withAdler60 g11 0 cp11 zs wc hz60 hcp hcm hzb (.inr ⟨g11, 0, rfl, fun j hj => by rw [Nat.zero_add]; exact hce j hj⟩)
    have hxl : (zs ++ le32 (adler (fun j => zs.getD j 0) 60)).length = 64 := by simp [hz60, le32]
    have H6 : Hid (zs ++ le32 (adler (fun j => zs.getD j 0) 60) = desc64 typ last ((ds.length : Int) + (p : Int)) (p : Int)) := by rw [hzs]; exact rfl
    generalize zs ++ le32 (adler (fun j => zs.getD j 0) 60) = xs at hWA hxl H6
    have hr11' : (Builtin.append_ #[22, 3] 22 #[d10, .int .i64 28]).run Try.prog w10.drew = .ok (.slice (some ⟨g11, 0, none⟩) 60 cp11) wc := hr11
    have HX : Hid (xs.length = 64) := hxl
    have HZ : Hid (zs.length = 60) := hz60
    clear hr11 ho11 ho11' hg11 hat11 hS11 hB11 hce hzb hzs hxl hz60
    go_wp2
    go_region_law
      (first
        | refine step_append_by rfl _ _ 22 3 rfl _ _ rfl rfl _ _ hr11' ?_
        | refine step_append_by rfl _ _ 22 22 rfl _ _ rfl rfl _ _ (by assumption) ?_
        | (go_simp; go_at_call 8; refine hWA.mono ?_; rintro e wd ⟨x, rfl, hox, hbx⟩; obtain ⟨bs', a', c', we, ax, cx, nx, hbs', rfl, hr12, cd0, ce0, cf0, hS12, hB12⟩ := seg_last hSc hBc hox hbx (by have := HX.out; omega)))
    all_goals
      go_wp2
      go_end0
      refine ⟨rfl, .slice a' bs'.length c', bs', ?_, ?_, hB12⟩
      · show bs' = _
        rw [hbs'.out, H2.out, H6.out]
      · have := hS12.drop
        rw [H5.out] at this
        exact this
end Go.Proofs.Qxb6608607a
