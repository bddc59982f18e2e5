/-
  The walk of 'FnAddPaddingShiftsOnlyByPad'.
-/
import Derived.Test.Qxb6608607aPadEnd
namespace Go.Proofs.Qxb6608607a
open Go.RowKit Go.Maps

theorem RdT.less {w : World} {a : Option Addr} {m m' : Nat} {t : Nat → Int} (h : RdT w a m t) (hm : m' ≤ m) : RdT w a m' t := fun j hj => h j (by omega)
theorem RdRows.less {w : World} {a : Option Addr} {m m' : Nat} {dd : Nat → List Int} (h : RdRows w a m dd) (hm : m' ≤ m) : RdRows w a m' dd := fun j hj => h j (by omega)


theorem padRound {a' ta da av1 av2 : Option Addr} {c' tl tc dl dc m M1 M2 cv1 cv2 : Nat} {t : Nat → Int} {dd : Nat → List Int} {pre : List Int} {W : World} {B1 B2 e1 e2 : Nat} {la1 la2 : Int}
    (hS1 : Seg W B1 M1 (.slice av1 (bN false pre dd m) cv1) (bB false pre t dd m) la1 m (bG false pre t dd m) e1 (.slice none 0 0) [])
    (hS2 : Seg W B2 M2 (.slice av2 (bN true pre dd m) cv2) (bB true pre t dd m) la2 m (bG true pre t dd m) e2 (.slice none 0 0) [])
    (hT : RdT W ta tl t) (hD : RdRows W da dl dd) (hmt : m ≤ tl) (hmd : m ≤ dl) (hm : m ≤ 4096) (hsum : sumL dd m ≤ 524288) (hpre : pre.length ≤ 65536) (hcv1 : bN false pre dd m ≤ cv1) (hcv2 : bN true pre dd m ≤ cv2) :
    ∀ x a w (Q0 : Exit → Act → World → Prop), x < m → Kp (.slice a' pre.length c') (.slice ta tl tc) (.slice da dl dc) (.int .i64 (m : Nat)) (.pointer (some ⟨M1 + 1, 0, none⟩)) (.pointer (some ⟨M2 + 1, 0, none⟩)) (.slice av1 (bN false pre dd m) cv1) (.slice av2 (bN true pre dd m) cv2) (.int .i64 (shf dd x : Nat)) (.int .i64 (dis t x : Nat)) (.int .i64 ((x : Nat) : Int)) a → Below W.heap.size W w →
      (∀ b w', Kp (.slice a' pre.length c') (.slice ta tl tc) (.slice da dl dc) (.int .i64 (m : Nat)) (.pointer (some ⟨M1 + 1, 0, none⟩)) (.pointer (some ⟨M2 + 1, 0, none⟩)) (.slice av1 (bN false pre dd m) cv1) (.slice av2 (bN true pre dd m) cv2) (.int .i64 (shf dd (x + 1) : Nat)) (.int .i64 (dis t (x + 1) : Nat)) (.int .i64 ((x + 1 : Nat) : Int)) b → Below W.heap.size W w' → Q0 .normal b w') → Code.wp Try.prog (((Try.f6.body.map loopsOf).getD []).getD 2 Code.skip) Q0 a w := by
  intro x a w Q0 hx hk hb hE
  obtain ⟨tb, toff, rfl, _, _⟩ := hT x (by omega)
  obtain ⟨db, doff, _, _, rfl, _⟩ := hD x (by omega)
  have l1 := bB_length (u := false) (pre := pre) (t := t) (dd := dd) m
  have l2 := bB_length (u := true) (pre := pre) (t := t) (dd := dd) m
  have u1 := bP_hi (u := false) (pre := pre) (dd := dd) hx
  have u2 := bP_hi (u := true) (pre := pre) (dd := dd) hx
  rcases hS1.own.shape with ⟨_, e0⟩ | ⟨g1, cap1, e1, _⟩
  · rw [e0] at l1; simp at l1; omega
  rcases hS2.own.shape with ⟨_, e0⟩ | ⟨g2, cap2, e2, _⟩
  · rw [e0] at l2; simp at l2; omega
  simp only [Value.slice.injEq] at e1 e2
  obtain ⟨rfl, _, rfl⟩ := e1
  obtain ⟨rfl, _, rfl⟩ := e2
  exact roundAny rfl rfl rfl hS1 hS2 (hT.less hmt) (hD.less hmd) hmt hmd hm hsum hpre hcv1 hcv2 x a w Q0 hx hk hb hE

set_option maxHeartbeats 4000000 in
set_option maxRecDepth 100000 in
theorem pad_walk (ap : Option Addr) (cp : Nat) (pre : List Int) (ta : Option Addr) (tl tc : Nat) (t : Nat → Int) (da : Option Addr) (dl dc : Nat) (dd : Nat → List Int) (w : World)
    (hap : ap = none → cp = 0) (hP : Rd .u8 w ap pre) (hT : RdT w ta tl t) (hD : RdRows w da dl dd) :
    Calls Try.prog 6 #[.slice ap pre.length cp, .slice ta tl tc, .slice da dl dc] w fun e w' => e = .returned (.bool true) ∧ Below w.heap.size w w' := by
  go_enter Try.func6, Try.ntmps6
  go_wp2_with fail
  refine (bytes6_any ap pre.length cp ta tl tc da dl dc dd w hD).mono ?_
  rintro e w' ⟨⟨r, rfl, hsh⟩, rfl⟩
  cases r with
  | false =>
    go_wp2
    go_ret
    exact ⟨rfl, Below.refl _ _⟩
  | true =>
  have hSh := hsh rfl
  clear hsh
  by_cases l1 : 65536 < pre.length
  · go_wp2
    go_ret
    exact ⟨rfl, Below.refl _ _⟩
  by_cases l2 : 4096 < tl
  · go_wp2
    go_ret
    exact ⟨rfl, Below.refl _ _⟩
  by_cases l3 : 4096 < dl
  · go_wp2
    go_ret
    exact ⟨rfl, Below.refl _ _⟩
  go_wp2
  go_loop [7, 8] (fun s i => ∃ (k : Nat), k ≤ dl ∧ i = .int .i64 k ∧ s = .int .i64 (sumL dd k) ∧ sumL dd k ≤ 524288) (fun _ i => dl - (intOf i).toNat)
  case atStart => exact ⟨0, Nat.zero_le _, rfl, rfl, Nat.zero_le _⟩
  case round =>
    obtain ⟨k, hk, rfl, rfl, hs⟩ := hrel
    by_cases hlt : k < dl
    · have hlt' : (k : Int) < (dl : Int) := by omega
      obtain ⟨b, off, aj, cj, rfl, hc, _, _⟩ := hD k hlt
      have hk1 := hSh k hlt
      by_cases g1 : 524288 < sumL dd k + (dd k).length
      · go_wp2
        go_ret
        exact ⟨rfl, Below.refl _ _⟩
      go_wp2
      go_round
      case rel => exact ⟨k + 1, by omega, by go_num, by simp only [sumL]; go_num, by simp only [sumL]; omega⟩
      case measure => simp [intOf]; omega
    · obtain rfl : k = dl := by omega
      clear hSh hk
      go_wp2_with fail
      refine (zzclone_any ap cp pre w hap hP (by omega)).mono ?_
      rintro e w1 ⟨a', c', rfl, ha', ho1, hb1⟩
      have hT1 := hT.below hb1
      have hD1 := hD.below hb1
      obtain ⟨_, _, e1, _, _, hP1⟩ := ho1.rd
      cases e1
      obtain ⟨m, hm⟩ : ∃ m, m = min tl k := ⟨_, rfl⟩
      have hm1 : m ≤ tl := by omega
      have hm2 : m ≤ k := by omega
      have hsm : sumL dd m ≤ 524288 := Nat.le_trans (sumL_mono hm2) hs
      have hbf := build_any false a' c' pre ta tl tc t da k dc dd m w1 ha' hP1 (hT1.less hm1) (hD1.less hm2) hm1 hm2 (by omega) (by omega) hsm
      have hM : Hid (m = min tl k) := hm
      clear hm
      go_upto_if 68 with fail
      go_cut [9] (fun s wz => s = .int .i64 m ∧ wz = w1)
      case first =>
        by_cases hmin : k < tl
        · have e : m = k := by have := hM.out; omega
          clear hM hbf
          go_wp2
          go_meet
          exact ⟨by rw [e], rfl⟩
        · have e : m = tl := by have := hM.out; omega
          clear hM hbf
          go_wp2
          go_meet
          exact ⟨by rw [e], rfl⟩
      case rest =>
        obtain ⟨rfl, rfl⟩ := hcut
        clear hM
        go_wp2_with fail
        refine hbf.mono ?_
        rintro e w2 ⟨M1, v1, rfl, hS1, hb2⟩
        have hT2 := hT1.below hb2
        have hD2 := hD1.below hb2
        have hP2 := hP1.below hb2
        clear hbf hT hD hP
        go_wp2_with fail
        refine (build_any true a' c' pre ta tl tc t da k dc dd m w2 ha' hP2 (hT2.less hm1) (hD2.less hm2) hm1 hm2 (by omega) (by omega) hsm).mono ?_
        rintro e w3 ⟨M2, v2, rfl, hS2, hb3⟩
        have hS1 := hS1.below hb3
        have hT3 := hT2.below hb3
        have hD3 := hD2.below hb3
        have hP3 := hP2.below hb3
        have hb4 : Below w.heap.size w w3 := hb1.trans ((hb2.mono hb1.size).trans (hb3.mono (Nat.le_trans hb1.size hb2.size)))
        have hl1 := bB_length (u := false) (pre := pre) (t := t) (dd := dd) m
        have hl2 := bB_length (u := true) (pre := pre) (t := t) (dd := dd) m
        have hn1 := bN_sum (u := false) (pre := pre) (dd := dd) m
        have hn2 := bN_sum (u := true) (pre := pre) (dd := dd) m
        obtain ⟨av1, cv1, rfl, hav1, hcv1, hR1⟩ := hS1.own.rd
        obtain ⟨av2, cv2, rfl, hav2, hcv2, hR2⟩ := hS2.own.rd
        rw [hl1] at hS1 hcv1
        rw [hl2] at hS2 hcv2
        have hE1 : Rd .u8 w3 av1 pre := hR1.sub (by rw [hl1]; exact bN_pre m) (fun j hj => (bB_pre hj).symm)
        have hE2 : Rd .u8 w3 av2 pre := hR2.sub (by rw [hl2]; exact bN_pre m) (fun j hj => (bB_pre hj).symm)
        have c10 := hS1.c0
        have c20 := hS2.c0
        have hpm1 := bN_pre (u := false) (pre := pre) (dd := dd) m
        have hpm2 := bN_pre (u := true) (pre := pre) (dd := dd) m
        clear hT1 hT2 hD1 hD2 hP1 hP2 hb1 hb2 hb3 ho1
        go_wp2
        go_loop [12, 13, 14] (fun p q i => ∃ j : Nat, j ≤ m ∧ i = .int .i64 j ∧ p = .int .i64 (bN false pre dd j : Nat) ∧ q = .int .i64 (bN true pre dd j : Nat)) (fun _ _ i => m - (intOf i).toNat)
        case atStart => exact ⟨0, Nat.zero_le _, rfl, rfl, rfl⟩
        case round =>
          obtain ⟨j, hj, rfl, rfl, rfl⟩ := hrel
          by_cases hlt2 : j < m
          · have hlt' : (j : Int) < (m : Int) := by omega
            have hlt'' : (j : Int) < (k : Int) := by omega
            obtain ⟨b, off, aj, cj, rfl, hc, _, _⟩ := hD3 j (by omega)
            have hq1 := bN_mono (u := false) (pre := pre) (dd := dd) (show j + 1 ≤ m by omega)
            have hq2 := bN_mono (u := true) (pre := pre) (dd := dd) (show j + 1 ≤ m by omega)
            have e1 : bN false pre dd (j + 1) = bN false pre dd j + (dd j).length + padOf (dd j).length + 64 := rfl
            have e2 : bN true pre dd (j + 1) = bN true pre dd j + (dd j).length + 64 := rfl
            rw [e1] at hq1
            rw [e2] at hq2
            have E1 : Hid (bN false pre dd (j + 1) = bN false pre dd j + (dd j).length + padOf (dd j).length + 64) := e1
            have E2 : Hid (bN true pre dd (j + 1) = bN true pre dd j + (dd j).length + 64) := e2
            clear e1 e2
            go_wp2_with (go_at_call 21; refine (pad_any (dd j).length _ (by omega)).mono ?_; rintro e w' ⟨rfl, rfl⟩)
            go_round
            case rel => exact ⟨j + 1, by omega, by go_num, by rw [E1.out]; go_num, by rw [E2.out]; go_num⟩
            case measure => simp [intOf]; omega
          · obtain rfl : j = m := by omega
            go_wp2_with fail
            refine (eq_same _ _ _ _ pre _ hE1 hP3 (by omega)).mono ?_
            rintro e w' ⟨rfl, n1, rfl⟩
            go_wp2_with fail
            refine (eq_same _ _ _ _ pre _ (hE2.drewN n1) (hP3.drewN n1) (by omega)).mono ?_
            rintro e w' ⟨rfl, n2, rfl⟩
            go_wp2_with fail
            clear hE1 hE2 hP3 c10 c20 hpm1 hpm2 hl1 hl2
            rename_i hK
            refine loop3 (s0 := .slice a' pre.length c') (s1 := .slice ta tl tc) (s2 := .slice da k dc) (s10 := .pointer (some ⟨M1 + 1, 0, none⟩)) (s11 := .pointer (some ⟨M2 + 1, 0, none⟩)) (s16 := .slice av1 (bN false pre dd j) cv1) (s17 := .slice av2 (bN true pre dd j) cv2) (m := j) (F := shf dd) (D := dis t) (W := w3)
              ⟨rfl, rfl, rfl, rfl, rfl, rfl, rfl, rfl, rfl, rfl, rfl, rfl, rfl⟩ (below_drewn (Below.refl _ _) _) (padRound hS1 hS2 hT3 hD3 hm1 hm2 (by omega) hsm (by omega) hcv1 hcv2) ?_
            intro a'' w' hk' hb'
            have S1 := hS1.below hb'
            have S2 := hS2.below hb'
            obtain ⟨D1, hG1, hi1⟩ := S1.grp
            obtain ⟨D2, hG2, hi2⟩ := S2.grp
            have L1 := len_world hG1 hi1 3 w' rfl
            have L2 := len_world hG2 hi2 3 w' rfl
            rw [bC_eq] at L1 L2
            refine hK _ _ ?_
            exact end73 hk' ⟨rfl, hb4.trans (hb'.mono hb4.size)⟩ S1.c1 S2.c1 L1 L2
end Go.Proofs.Qxb6608607a
