/-
  THE PROOF OF 'Rows.FnInWindowTurnsWithTheIndexSaid'. The frame is the guide's shell for this function; the walk is ours.
-/
import Derived.Test.Qxb6615798aRows
import Derived.Test.Qxb6615798aWindow
import Derived.WalkSpells
import Derived.WalkKit
import Derived.ProofKit
import Derived.OpenShut
import Derived.ShutString
namespace Go.Proofs.Qxb6615798a.fnInWindowTurnsWithTheIndex
open Go.ChangeShapes Go.WideShapes Go.ChangeAt Go.RowKit
open Go.ChangeMaps (open_string shut_string)
set_option linter.unusedVariables false      -- a walk need not use every 'w<i>' (that an integer argument fits its kind)

theorem own : ownKnob Try.prog.godebug = none := by kernel_rfl

/-! ### THE WALK -/
theorem walk (a0 : Int) (a1 : Int) (a2 : Int) (a3 : Int) (w0 : (Lit.int .u32 a0).wf = true) (w1 : (Lit.int .u32 a1).wf = true) (w2 : (Lit.int .u32 a2).wf = true) (w3 : (Lit.int .u32 a3).wf = true) (w : World) :
    Calls Try.prog 6 #[.int .u32 a0, .int .u32 a1, .int .u32 a2, .int .u32 a3] w fun e w' => e = .returned (.bool true) ∧ Grown w w' := by
  have b0 := bounds_u32 w0
  have b1 := bounds_u32 w1
  have b2 := bounds_u32 w2
  have b3 := bounds_u32 w3
  by_cases c0 : a0 < 2
  · go_enter Try.func6, Try.ntmps6
    go_wp2
    go_ret
    exact ⟨rfl, Grown.refl _⟩
  by_cases c2 : a0 - 2 < a1
  · go_enter Try.func6, Try.ntmps6
    go_wp2
    go_ret
    exact ⟨rfl, Grown.refl _⟩
  by_cases c3 : a0 ≤ a2
  · go_enter Try.func6, Try.ntmps6
    go_wp2
    go_ret
    exact ⟨rfl, Grown.refl _⟩
  have hz : (a0 == 0) = false := by simp; omega
  have n0 := Int.emod_nonneg (a2 + 1) (show a0 ≠ 0 by omega)
  have n1 := Int.emod_lt_of_pos (a2 + 1) (show 0 < a0 by omega)
  have t0 := Int.emod_nonneg (a3 + 1) (show a0 ≠ 0 by omega)
  have t1 := Int.emod_lt_of_pos (a3 + 1) (show 0 < a0 by omega)
  have o0 := Int.emod_nonneg (a2 + a0 - a1) (show a0 ≠ 0 by omega)
  have o1 := Int.emod_lt_of_pos (a2 + a0 - a1) (show 0 < a0 by omega)
  have m0 := Int.emod_nonneg a3 (show a0 ≠ 0 by omega)
  have m1 := Int.emod_lt_of_pos a3 (show 0 < a0 by omega)
  have f1 := inW_home a0 a1 a2 a3
  have f2 := inW_turn a0 a1 a2 a3
  have f3 := inW_own a0 a1 a2 (by omega)
  have f4 := inW_old a0 a1 a2 (by omega) (by omega)
  have f5 := inW_next a0 a1 a2 (by omega) (by omega)
  have f6 := inW_seen a0 a1 a2 (by omega)
  go_enter Try.func6, Try.ntmps6
  go_wp2_with fail
  refine (new_any _ _ _ _).mono ?_
  rintro e w' ⟨rfl, rfl⟩
  go_wp2_with fail
  refine (new_any _ _ _ _).mono ?_
  rintro e w' ⟨rfl, rfl⟩
  go_wp2_with fail
  generalize hW : (((w.alloc (idxObj a0 a2)).alloc (recObj a0 a1 w.heap.size)).alloc (idxObj a0 ((a2 + 1) % a0))).alloc (recObj a0 a1 (w.heap.size + 1 + 1)) = W
  obtain ⟨hr, hr2, hg⟩ := rec_two a0 a1 a2 ((a2 + 1) % a0) w W hW.symm
  clear hW
  refine (in_any _ _ a0 a1 a2 a3 _ (by omega) (by omega) (by omega) (by omega) (by omega) (by omega) (by omega) (by omega) hr).mono ?_
  rintro e w' ⟨rfl, k1, rfl⟩
  go_wp2_with fail
  refine (in_any _ _ a0 a1 a2 _ _ (by omega) (by omega) (by omega) (by omega) m0 (by omega) (by omega) (by omega) (hr.drewN _)).mono ?_
  rintro e w' ⟨rfl, k2, rfl⟩
  go_wp2_with fail
  refine (in_any _ _ a0 a1 _ _ _ (by omega) (by omega) n0 (by omega) t0 (by omega) (by omega) (by omega) (hr2.drewN _)).mono ?_
  rintro e w' ⟨rfl, k3, rfl⟩
  go_wp2_with fail
  refine (in_any _ _ a0 a1 a2 a2 _ (by omega) (by omega) (by omega) (by omega) (by omega) (by omega) (by omega) (by omega) (hr.drewN _)).mono ?_
  rintro e w' ⟨rfl, k4, rfl⟩
  go_wp2_with fail
  refine (in_any _ _ a0 a1 a2 _ _ (by omega) (by omega) (by omega) (by omega) o0 (by omega) (by omega) (by omega) (hr.drewN _)).mono ?_
  rintro e w' ⟨rfl, k5, rfl⟩
  go_wp2_with fail
  refine (in_any _ _ a0 a1 a2 _ _ (by omega) (by omega) (by omega) (by omega) n0 (by omega) (by omega) (by omega) (hr.drewN _)).mono ?_
  rintro e w' ⟨rfl, k6, rfl⟩
  go_wp2_with fail
  refine (in_any _ _ a0 a1 _ a2 _ (by omega) (by omega) n0 (by omega) (by omega) (by omega) (by omega) (by omega) (hr2.drewN _)).mono ?_
  rintro e w' ⟨rfl, k7, rfl⟩
  go_wp2
  go_ret
  exact ⟨rfl, Grown_drewN hg _⟩

/-! ### THE ROW's STEP -/
set_option maxRecDepth 100000 in
theorem lifted (os : Os) (started : os.Started) (H : Type) (enc : TypeId × Value → H) :
    ReturnsInHanded {} Try.checked os 6 .any (Rows.fnInWindowTurnsWithTheIndexSpec.pre6 enc Try.prog Try.f6 Rows.fnInWindowTurnsWithTheIndexRow.domain false) (Rows.fnInWindowTurnsWithTheIndexSpec.post enc Try.prog Try.f6 false true false false) := by
  refine returnsInHanded_of_change (C := Try.checked) own started (by kernel_rfl) Try.func6
    (ChangeSpec.witness6 (enc := enc) (C := Try.checked) false ⟨#[], #[.int .u32 0, .int .u32 0, .int .u32 0, .int .u32 0], []⟩ 8 (by kernel_rfl) (by kernel_rfl) (by kernel_rfl) (by kernel_rfl)) ?_
  intro W base args ds gs before hval0 hW hcnd _
  have hval : ∀ (j : Nat) t v, Try.f6.params[j]? = some t → args[j]? = some v → Value.okWide Try.prog W .any base t v := hval0
  have hW' := hW
  obtain ⟨p, q, hA0, hV, rfl, hfz, hnd⟩ := hW
  have hA : DataW.TrodAll enc Try.prog W 0 (fun _ => true) true Try.f6.params.toList args.toList ds p := hA0
  rw [Try.params6] at hA hval
  obtain ⟨v0, vs0, d0, ds0, p0, q0, hargs, rfl, rfl, h0, r0⟩ := trodAll_cons hA
  obtain ⟨v1, vs1, d1, ds1, p1, q1, rfl, rfl, rfl, h1, r1⟩ := trodAll_cons r0
  obtain ⟨v2, vs2, d2, ds2, p2, q2, rfl, rfl, rfl, h2, r2⟩ := trodAll_cons r1
  obtain ⟨v3, vs3, d3, ds3, p3, q3, rfl, rfl, rfl, h3, r3⟩ := trodAll_cons r2
  obtain ⟨rfl, rfl, rfl⟩ := trodAll_nil r3
  obtain rfl : args = #[v0, v1, v2, v3] := by cases args; simp_all
  obtain ⟨rfl, rfl⟩ := trodVars_none hV
  obtain ⟨a0, rfl, rfl, rfl, w0⟩ := open_int Try.underlying22 (hval 0 22 v0 rfl rfl) h0
  obtain ⟨a1, rfl, rfl, rfl, w1⟩ := open_int Try.underlying22 (hval 1 22 v1 rfl rfl) h1
  obtain ⟨a2, rfl, rfl, rfl, w2⟩ := open_int Try.underlying22 (hval 2 22 v2 rfl rfl) h2
  obtain ⟨a3, rfl, rfl, rfl, w3⟩ := open_int Try.underlying22 (hval 3 22 v3 rfl rfl) h3
  clear hA0 hval0
  simp only [List.append_nil] at hW'
  refine (walk a0 a1 a2 a3 w0 w1 w2 w3 W).mono fun e W' ⟨he, hg⟩ => ?_
  subst he
  exact ⟨_, rfl, post_of_same (pa := []) (pv := []) hW' (fun _ _ _ => (trodAll_cons_mk (shut_bool Try.underlying4 _) trodAll_mk0)) (fun sp _ => (trodAll_cons_mk (shut_int Try.underlying22 w0) (trodAll_cons_mk (shut_int Try.underlying22 w1) (trodAll_cons_mk (shut_int Try.underlying22 w2) (trodAll_cons_mk (shut_int Try.underlying22 w3) trodAll_mk0))))) (fun _ _ => rfl) rfl
    (hg.frame _) hg.2.1 (ok_one (by kernel_rfl) rfl (okWide_bool_mk Try.underlying4 _))⟩

theorem over : Rows.fnInWindowTurnsWithTheIndexRow.holds Try.pinned (OpenSpec.ofChange Rows.fnInWindowTurnsWithTheIndexSpec) :=
  OpenClaim.holds_of_wide 6 Try.f6 rfl rfl rfl rfl rfl rfl rfl ⟨rfl, rfl, rfl, rfl, rfl⟩ rfl rfl rfl rfl rfl (by kernel_rfl) Try.func6 (by kernel_rfl)
    (of_decide_eq_true (by kernel_rfl)) (by unfold Func.isWrapper; first | (rw [if_pos (by decide +kernel)]; kernel_rfl) | (rw [if_neg (by decide +kernel)]; exact ⟨rfl, rfl⟩))
    (fun os started H enc _ => lifted os started H enc)

/-- ████ THE STATEMENT ████ -/
theorem proved : Rows.FnInWindowTurnsWithTheIndexSaid :=
  over
#print axioms proved
end Go.Proofs.Qxb6615798a.fnInWindowTurnsWithTheIndex
