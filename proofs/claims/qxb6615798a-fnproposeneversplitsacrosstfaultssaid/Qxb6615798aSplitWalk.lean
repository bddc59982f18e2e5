/-
  'zzDiffer' by a contract, and 'FnProposeNeverSplitsAcrossTFaults', walked out of the callees' contracts.
-/
import Derived.Test.Qxb6615798aQuorumWalk
namespace Go.Proofs.Qxb6615798a
open Go.RowKit

/-- 'zzBytes_FnProposeNeverSplitsAcrossTFaults'. -/
theorem bytes4_yes (a b : Option Addr) (la ca lb cb : Nat) (n t id st idx : Int) (w : World) (h : la + lb ≤ 1048576) :
    Calls Try.prog 12 #[.int .i64 n, .int .i64 t, .int .i64 id, .int .u32 st, .int .u32 idx, .slice a la ca, .slice b lb cb] w fun e w' => e = .returned (.bool true) ∧ w = w' := by
  go_enter Try.func12, Try.ntmps12
  go_wp2
  go_ret
  exact ⟨rfl, rfl⟩
theorem bytes4_no (a b : Option Addr) (la ca lb cb : Nat) (n t id st idx : Int) (w : World) (h : 1048576 < la + lb) :
    Calls Try.prog 12 #[.int .i64 n, .int .i64 t, .int .i64 id, .int .u32 st, .int .u32 idx, .slice a la ca, .slice b lb cb] w fun e w' => e = .returned (.bool false) ∧ w = w' := by
  by_cases h1 : 1048576 < la
  · go_enter Try.func12, Try.ntmps12
    go_wp2
    go_ret
    exact ⟨rfl, rfl⟩
  by_cases h2 : 1048576 < lb
  · go_enter Try.func12, Try.ntmps12
    go_wp2
    go_ret
    exact ⟨rfl, rfl⟩
  · go_enter Try.func12, Try.ntmps12
    go_wp2
    go_ret
    exact ⟨rfl, rfl⟩

/-- 'zzDiffer'. -/
theorem differ_any (a b : Option Addr) (la ca lb cb : Nat) (ph vl ph' vl' : Nat → Int) (n id : Nat) (st idx : Int) (w : World) (hla : la ≤ 4096) (hlb : lb ≤ 4096) (hn : n ≤ 4096) (hM : Msgs w a la ph vl) (hM' : Msgs w b lb ph' vl')
    (V V' : Nat → Int) (O O' : Nat → Bool) (hV : ∀ j, sayV la id idx ph vl j = V j) (hO : ∀ j, sayO la id st idx ph vl j = O j) (hV' : ∀ j, sayV lb id idx ph' vl' j = V' j) (hO' : ∀ j, sayO lb id st idx ph' vl' j = O' j) :
    Calls Try.prog 13 #[.slice a la ca, .slice b lb cb, .int .i64 n, .int .i64 id, .int .u32 st, .int .u32 idx] w fun e w' => e = .returned (.int .i64 (dif V V' O O' n)) ∧ w = w' := by
  go_enter Try.func13, Try.ntmps13
  go_wp2
  go_loop [13, 14] (fun c i => ∃ (k : Nat), k ≤ n ∧ i = .int .i64 k ∧ c = .int .i64 (dif V V' O O' k)) (fun _ i => n - (intOf i).toNat)
  case atStart => exact ⟨0, Nat.zero_le _, rfl, rfl⟩
  case round =>
    obtain ⟨k, hk, rfl, rfl⟩ := hrel
    have hdl := dif_le V V' O O' k
    by_cases hlt : k < n
    · have hlt' : (k : Int) < (n : Int) := by omega
      have he : (O k = true ∧ O' k = true ∧ V k = V' k) ∨ (O k = true ∧ O' k = true ∧ V k ≠ V' k) ∨ (O k = true ∧ O' k = false) ∨ (O k = false ∧ O' k = true) ∨ (O k = false ∧ O' k = false) := by
        cases O k <;> cases O' k <;> simp
        exact Decidable.em _
      rcases he with ⟨ho, ho', hv⟩ | ⟨ho, ho', hv⟩ | ⟨ho, ho'⟩ | ⟨ho, ho'⟩ | ⟨ho, ho'⟩
      · have hv' : (V k != V' k) = false := by simpa using hv
        have HX : Hid (V k = V' k) := hv
        clear hv
        go_wp2_with fail
        refine (said_any a la ca ph vl k id st idx _ hla (by omega) hM).mono ?_
        rw [hV, hO, ho]
        rintro e w' ⟨rfl, rfl⟩
        go_wp2_with fail
        refine (said_any b lb cb ph' vl' k id st idx _ hlb (by omega) hM').mono ?_
        rw [hV', hO', ho']
        rintro e w' ⟨rfl, rfl⟩
        go_wp2
        go_round
        case rel => exact ⟨k + 1, by omega, by go_num, by rw [dif_miss (by simp [ho, ho', HX.out])]⟩
        case measure => simp [intOf]; omega
      · have hv' : (V k != V' k) = true := by simpa using hv
        go_wp2_with fail
        refine (said_any a la ca ph vl k id st idx _ hla (by omega) hM).mono ?_
        rw [hV, hO, ho]
        rintro e w' ⟨rfl, rfl⟩
        go_wp2_with fail
        refine (said_any b lb cb ph' vl' k id st idx _ hlb (by omega) hM').mono ?_
        rw [hV', hO', ho']
        rintro e w' ⟨rfl, rfl⟩
        go_wp2
        go_round
        case rel => exact ⟨k + 1, by omega, by go_num, by rw [dif_hit (.inr ⟨ho, hv⟩)]; go_num⟩
        case measure => simp [intOf]; omega
      · go_wp2_with fail
        refine (said_any a la ca ph vl k id st idx _ hla (by omega) hM).mono ?_
        rw [hV, hO, ho]
        rintro e w' ⟨rfl, rfl⟩
        go_wp2_with fail
        refine (said_any b lb cb ph' vl' k id st idx _ hlb (by omega) hM').mono ?_
        rw [hV', hO', ho']
        rintro e w' ⟨rfl, rfl⟩
        go_wp2
        go_round
        case rel => exact ⟨k + 1, by omega, by go_num, by rw [dif_hit (.inl (by simp [ho, ho']))]; go_num⟩
        case measure => simp [intOf]; omega
      · go_wp2_with fail
        refine (said_any a la ca ph vl k id st idx _ hla (by omega) hM).mono ?_
        rw [hV, hO, ho]
        rintro e w' ⟨rfl, rfl⟩
        go_wp2_with fail
        refine (said_any b lb cb ph' vl' k id st idx _ hlb (by omega) hM').mono ?_
        rw [hV', hO', ho']
        rintro e w' ⟨rfl, rfl⟩
        go_wp2
        go_round
        case rel => exact ⟨k + 1, by omega, by go_num, by rw [dif_hit (.inl (by simp [ho, ho']))]; go_num⟩
        case measure => simp [intOf]; omega
      · go_wp2_with fail
        refine (said_any a la ca ph vl k id st idx _ hla (by omega) hM).mono ?_
        rw [hV, hO, ho]
        rintro e w' ⟨rfl, rfl⟩
        go_wp2_with fail
        refine (said_any b lb cb ph' vl' k id st idx _ hlb (by omega) hM').mono ?_
        rw [hV', hO', ho']
        rintro e w' ⟨rfl, rfl⟩
        go_wp2
        go_round
        case rel => exact ⟨k + 1, by omega, by go_num, by rw [dif_miss (by simp [ho, ho'])]⟩
        case measure => simp [intOf]; omega
    · have hkn : k = n := by omega
      subst hkn
      go_wp2
      go_ret
      exact ⟨rfl, rfl⟩

/-- The three ways in which two answers do not split. -/
theorem three_ways {r r' : Int} (h : r ≠ 4294967295 → r' ≠ 4294967295 → r = r') : r = 4294967295 ∨ ((r != 4294967295) = true ∧ r' = 4294967295) ∨ ((r != 4294967295) = true ∧ r' = r) := by
  by_cases e : r = 4294967295
  · exact .inl e
  · by_cases e' : r' = 4294967295
    · exact .inr (.inl ⟨by simpa using e, e'⟩)
    · exact .inr (.inr ⟨by simpa using e, (h e e').symm⟩)

set_option maxHeartbeats 4000000 in
theorem split_walk (n t id st idx : Int) (a b : Option Addr) (la ca lb cb : Nat) (ph vl ph' vl' : Nat → Int) (w0 : (Lit.int .i64 n).wf = true) (w1 : (Lit.int .i64 t).wf = true) (w2 : (Lit.int .i64 id).wf = true) (w3 : (Lit.int .u32 st).wf = true) (w4 : (Lit.int .u32 idx).wf = true)
    (w : World) (hM : Msgs w a la ph vl) (hM' : Msgs w b lb ph' vl') :
    Calls Try.prog 4 #[.int .i64 n, .int .i64 t, .int .i64 id, .int .u32 st, .int .u32 idx, .slice a la ca, .slice b lb cb] w fun e w' => e = .returned (.bool true) ∧ Below w.heap.size w w' := by
  have b0 := bounds_i64 w0
  have b1 := bounds_i64 w1
  have b2 := bounds_i64 w2
  have b3 := bounds_u32 w3
  have b4 := bounds_u32 w4
  clear w0 w1 w2 w3 w4
  by_cases l1 : 1048576 < la + lb
  · go_enter Try.func4, Try.ntmps4
    go_wp2_with (go_at_call 12; refine (bytes4_no _ _ _ _ _ _ _ _ _ _ _ _ l1).mono ?_; rintro e w' ⟨rfl, rfl⟩)
    go_ret
    exact ⟨rfl, Below.refl _ _⟩
  have l1' : la + lb ≤ 1048576 := by omega
  by_cases c0 : 4096 < la
  · go_enter Try.func4, Try.ntmps4
    go_wp2_with (go_at_call 12; refine (bytes4_yes _ _ _ _ _ _ _ _ _ _ _ _ l1').mono ?_; rintro e w' ⟨rfl, rfl⟩)
    go_ret
    exact ⟨rfl, Below.refl _ _⟩
  by_cases c1 : 4096 < lb
  · go_enter Try.func4, Try.ntmps4
    go_wp2_with (go_at_call 12; refine (bytes4_yes _ _ _ _ _ _ _ _ _ _ _ _ l1').mono ?_; rintro e w' ⟨rfl, rfl⟩)
    go_ret
    exact ⟨rfl, Below.refl _ _⟩
  by_cases c2 : n < 1
  · go_enter Try.func4, Try.ntmps4
    go_wp2_with (go_at_call 12; refine (bytes4_yes _ _ _ _ _ _ _ _ _ _ _ _ l1').mono ?_; rintro e w' ⟨rfl, rfl⟩)
    go_ret
    exact ⟨rfl, Below.refl _ _⟩
  by_cases c3 : 4096 < n
  · go_enter Try.func4, Try.ntmps4
    go_wp2_with (go_at_call 12; refine (bytes4_yes _ _ _ _ _ _ _ _ _ _ _ _ l1').mono ?_; rintro e w' ⟨rfl, rfl⟩)
    go_ret
    exact ⟨rfl, Below.refl _ _⟩
  by_cases c4 : t < 0
  · go_enter Try.func4, Try.ntmps4
    go_wp2_with (go_at_call 12; refine (bytes4_yes _ _ _ _ _ _ _ _ _ _ _ _ l1').mono ?_; rintro e w' ⟨rfl, rfl⟩)
    go_ret
    exact ⟨rfl, Below.refl _ _⟩
  by_cases c5 : n < t
  · go_enter Try.func4, Try.ntmps4
    go_wp2_with (go_at_call 12; refine (bytes4_yes _ _ _ _ _ _ _ _ _ _ _ _ l1').mono ?_; rintro e w' ⟨rfl, rfl⟩)
    go_ret
    exact ⟨rfl, Below.refl _ _⟩
  by_cases c6 : n < 3 * t + 1
  · go_enter Try.func4, Try.ntmps4
    go_wp2_with (go_at_call 12; refine (bytes4_yes _ _ _ _ _ _ _ _ _ _ _ _ l1').mono ?_; rintro e w' ⟨rfl, rfl⟩)
    go_ret
    exact ⟨rfl, Below.refl _ _⟩
  by_cases c7 : id < 0
  · go_enter Try.func4, Try.ntmps4
    go_wp2_with (go_at_call 12; refine (bytes4_yes _ _ _ _ _ _ _ _ _ _ _ _ l1').mono ?_; rintro e w' ⟨rfl, rfl⟩)
    go_ret
    exact ⟨rfl, Below.refl _ _⟩
  by_cases c8 : n ≤ id
  · go_enter Try.func4, Try.ntmps4
    go_wp2_with (go_at_call 12; refine (bytes4_yes _ _ _ _ _ _ _ _ _ _ _ _ l1').mono ?_; rintro e w' ⟨rfl, rfl⟩)
    go_ret
    exact ⟨rfl, Below.refl _ _⟩
  by_cases c9 : st < 2
  · go_enter Try.func4, Try.ntmps4
    go_wp2_with (go_at_call 12; refine (bytes4_yes _ _ _ _ _ _ _ _ _ _ _ _ l1').mono ?_; rintro e w' ⟨rfl, rfl⟩)
    go_ret
    exact ⟨rfl, Below.refl _ _⟩
  by_cases c10 : st ≤ idx
  · go_enter Try.func4, Try.ntmps4
    go_wp2_with (go_at_call 12; refine (bytes4_yes _ _ _ _ _ _ _ _ _ _ _ _ l1').mono ?_; rintro e w' ⟨rfl, rfl⟩)
    go_ret
    exact ⟨rfl, Below.refl _ _⟩
  obtain ⟨m, rfl⟩ := Int.eq_ofNat_of_zero_le (show 0 ≤ n by omega)
  obtain ⟨d, rfl⟩ := Int.eq_ofNat_of_zero_le (show 0 ≤ id by omega)
  have hla : la ≤ 4096 := by omega
  have hlb : lb ≤ 4096 := by omega
  have hm : m ≤ 4096 := by omega
  have t0 : 0 ≤ t := by omega
  have t3 : 3 * t < m := by omega
  have hdl := dif_le (sayV la d idx ph vl) (sayV lb d idx ph' vl') (sayO la d st idx ph vl) (sayO lb d st idx ph' vl') m
  by_cases hd : t < (dif (sayV la d idx ph vl) (sayV lb d idx ph' vl') (sayO la d st idx ph vl) (sayO lb d st idx ph' vl') m : Int)
  · go_enter Try.func4, Try.ntmps4
    go_wp2_with (first
      | (go_at_call 12; refine (bytes4_yes _ _ _ _ _ _ _ _ _ _ _ _ l1').mono ?_; rintro e w' ⟨rfl, rfl⟩)
      | (go_at_call 13; refine (differ_any a b la ca lb cb ph vl ph' vl' m d st idx _ hla hlb hm hM hM' _ _ _ _ (fun _ => rfl) (fun _ => rfl) (fun _ => rfl) (fun _ => rfl)).mono ?_; rintro e w' ⟨rfl, rfl⟩))
    go_ret
    exact ⟨rfl, Below.refl _ _⟩
  have hI := idx_new m t d st idx w
  have hB0 : Below w.heap.size w (w.alloc (idxObj5 m t d st idx)) := (Below.refl _ _).alloc (Nat.le_refl _) _
  have hM1 := hM.below hB0
  have hM1' := hM'.below hB0
  go_enter Try.func4, Try.ntmps4
  go_wp2_with (first
    | (go_at_call 12; refine (bytes4_yes _ _ _ _ _ _ _ _ _ _ _ _ l1').mono ?_; rintro e w' ⟨rfl, rfl⟩)
    | (go_at_call 13; refine (differ_any a b la ca lb cb ph vl ph' vl' m d st idx _ hla hlb hm hM hM' _ _ _ _ (fun _ => rfl) (fun _ => rfl) (fun _ => rfl) (fun _ => rfl)).mono ?_; rintro e w' ⟨rfl, rfl⟩))
  refine (newIdx_any _ _ _ _ _ _).mono ?_
  rintro e w' ⟨rfl, rfl⟩
  go_wp2_with fail
  refine (recv_any a la ca ph vl _ hla hM1).mono ?_
  rintro e wb ⟨rfl, hF⟩
  have hz : w.heap.size + 1 ≤ wb.heap.size := by have := hF.less; simp at this; omega
  have hI2 := hI.below (by simp) hF.kept
  have hR2 : Recv wb (w.heap.size + 1) la ph vl := by simpa using hF.recv
  have hM2 := hM1.below hF.kept
  have hM2' := hM1'.below hF.kept
  have hB2 : Below w.heap.size w wb := hB0.trans (hF.kept.mono (by simp))
  clear hF hI hM1 hM1' hB0 hM hM'
  go_wp2_with fail
  refine (prop_any _ _ la la ph vl m t st idx d _ hla hm t0 t3 hI2 hR2 (sayV la d idx ph vl) (sayO la d st idx ph vl) (fun _ => rfl) (fun _ => rfl)).mono ?_
  rintro e w' ⟨r, rfl, hQ, k1, rfl⟩
  have hM3 := hM2.drewN k1
  have hM3' := hM2'.drewN k1
  have hI3 := hI2.drewN k1
  have hB3 := below_drw hB2 k1
  have hz3 : w.heap.size + 1 ≤ (wb.drewN k1).heap.size := hz
  clear hM2 hM2' hI2 hB2 hR2 hz
  generalize hwc : wb.drewN k1 = wc at hM3 hM3' hI3 hB3 hz3
  clear hwc
  go_wp2_with fail
  refine (recv_any b lb cb ph' vl' _ hlb hM3').mono ?_
  rintro e wd ⟨rfl, hF⟩
  have hI4 := hI3.below (by omega) hF.kept
  have hR4 : Recv wd wc.heap.size lb ph' vl' := hF.recv
  have hM4 := hM3.below hF.kept
  have hB4 : Below w.heap.size w wd := hB3.trans (hF.kept.mono (by omega))
  clear hF hI3 hM3 hM3' hB3
  go_wp2_with fail
  refine (prop_any _ _ lb lb ph' vl' m t st idx d _ hlb hm t0 t3 hI4 hR4 (sayV lb d idx ph' vl') (sayO lb d st idx ph' vl') (fun _ => rfl) (fun _ => rfl)).mono ?_
  rintro e w' ⟨r', rfl, hQ', k2, rfl⟩
  have hM5 := hM4.drewN k2
  have hB5 := below_drw hB4 k2
  clear hM4 hB4 hI4 hR4 hz3
  generalize hwe : wd.drewN k2 = we at hM5 hB5
  clear hwe
  have hns : r ≠ 4294967295 → r' ≠ 4294967295 → r = r' := no_split t3 (by omega) hQ hQ'
  rcases three_ways hns with rfl | ⟨hr, rfl⟩ | ⟨hr, rfl⟩
  all_goals
    clear hns hQ'
    go_wp2_with fail
    refine (quorum_any a la ca ph vl m d t st idx _ hla hm t0 t3 hM5 (sayV la d idx ph vl) (sayO la d st idx ph vl) (fun _ => rfl) (fun _ => rfl)).mono ?_
    rintro e w' ⟨r2, rfl, hQ2, rfl⟩
    obtain rfl := quor_one (by omega) hQ hQ2
    clear hQ hQ2
    go_wp2
    go_ret
    exact ⟨rfl, hB5⟩
end Go.Proofs.Qxb6615798a
