/-
  THE PROOF OF 'Rows.FnInWindowIsTheLastLogSizePlusOneSlotsSaid'. The frame is the guide's shell for this function; the walk is ours.
-/
import Derived.Test.Qxb6615798aRows
import Derived.Test.Qxb6615798aWindow
import Derived.WalkSpells
import Derived.WalkKit
import Derived.ProofKit
import Derived.OpenShut
import Derived.ShutString
namespace Go.Proofs.Qxb6615798a.fnInWindowIsTheLastLogSizePlusOneSlots
open Go.ChangeShapes Go.WideShapes Go.ChangeAt Go.RowKit
open Go.ChangeMaps (open_string shut_string)
set_option linter.unusedVariables false      -- a walk need not use every 'w<i>' (that an integer argument fits its kind)

theorem own : ownKnob Try.prog.godebug = none := by kernel_rfl

/-! ### THE WALK -/
theorem walk (a0 : Int) (a1 : Int) (a2 : Int) (w0 : (Lit.int .u32 a0).wf = true) (w1 : (Lit.int .u32 a1).wf = true) (w2 : (Lit.int .u32 a2).wf = true) (w : World) :
    Calls Try.prog 5 #[.int .u32 a0, .int .u32 a1, .int .u32 a2] w fun e w' => e = .returned (.bool true) ∧ Grown w w' := by
  have b0 := bounds_u32 w0
  have b1 := bounds_u32 w1
  have b2 := bounds_u32 w2
  by_cases c0 : a0 < 2
  · go_enter Try.func5, Try.ntmps5
    go_wp2
    go_ret
    exact ⟨rfl, Grown.refl _⟩
  by_cases c1 : 65536 < a0
  · go_enter Try.func5, Try.ntmps5
    go_wp2
    go_ret
    exact ⟨rfl, Grown.refl _⟩
  by_cases c2 : a0 - 2 < a1
  · go_enter Try.func5, Try.ntmps5
    go_wp2
    go_ret
    exact ⟨rfl, Grown.refl _⟩
  by_cases c3 : a0 ≤ a2
  · go_enter Try.func5, Try.ntmps5
    go_wp2
    go_ret
    exact ⟨rfl, Grown.refl _⟩
  have hR := rec_new a0 a1 a2 w
  have hG := grown_new (Grown.refl w) a0 a1 a2 w.heap.size
  go_enter Try.func5, Try.ntmps5
  go_wp2_with (go_at_call 14; refine (new_any _ _ _ _).mono ?_; rintro e w' ⟨rfl, rfl⟩)
  go_loopw [8, 9] (fun s d wr => ∃ (k : Nat) (p : Int), (k : Int) ≤ a0 ∧ d = .int .u32 k ∧ s = .int .u32 p ∧ 0 ≤ p ∧ p < a0 ∧ (p = a2 - k ∨ p = a2 - k + a0) ∧
      Rec wr (w.heap.size + 1) w.heap.size a0 a1 a2 ∧ Grown w wr) (fun _ d _ => (a0 - intOf d).toNat)
  case atStart => exact ⟨0, a2, by omega, rfl, rfl, by omega, by omega, by omega, hR, hG⟩
  case round =>
    obtain ⟨k, p, hk, rfl, rfl, hp0, hp1, hp, hr, hg⟩ := hrel
    have HP : Hid (p = a2 - k ∨ p = a2 - k + a0) := hp
    clear hp hR hG
    by_cases hlt : (k : Int) < a0
    · have hin := inW_at a0 a1 a2 p k (by omega) hlt HP.out
      have hcase : (p = 0) ∨ ((p == 0) = false) := by
        by_cases e : p = 0
        · exact .inl e
        · exact .inr (by simpa using e)
      rcases hcase with rfl | hpz
      · go_wp2_with (go_at_call 15; refine (in_any _ _ a0 a1 a2 0 _ (by omega) (by omega) (by omega) (by omega) (by omega) (by omega) (by omega) (by omega) hr).mono ?_; rintro e w' ⟨rfl, n, rfl⟩)
        go_roundw
        case rel =>
          have hp := HP.out
          exact ⟨k + 1, a0 - 1, by omega, by go_num, rfl, by omega, by omega, by omega, hr.drewN n, Grown_drewN hg n⟩
        case measure => simp [intOf]; omega
      · have hpz' : p ≠ 0 := by simpa using hpz
        have hp1' : 1 ≤ p := by omega
        clear hpz'
        go_wp2_with (go_at_call 15; refine (in_any _ _ a0 a1 a2 p _ (by omega) (by omega) (by omega) (by omega) (by omega) (by omega) (by omega) (by omega) hr).mono ?_; rintro e w' ⟨rfl, n, rfl⟩)
        go_roundw
        case rel =>
          have hp := HP.out
          exact ⟨k + 1, p - 1, by omega, by go_num, rfl, by omega, by omega, by omega, hr.drewN n, Grown_drewN hg n⟩
        case measure => simp [intOf]; omega
    · go_wp2
      go_ret
      exact ⟨rfl, hg⟩

/-! ### THE ROW's STEP -/
set_option maxRecDepth 100000 in
theorem lifted (os : Os) (started : os.Started) (H : Type) (enc : TypeId × Value → H) :
    ReturnsInHanded {} Try.checked os 5 .any (Rows.fnInWindowIsTheLastLogSizePlusOneSlotsSpec.pre6 enc Try.prog Try.f5 Rows.fnInWindowIsTheLastLogSizePlusOneSlotsRow.domain false) (Rows.fnInWindowIsTheLastLogSizePlusOneSlotsSpec.post enc Try.prog Try.f5 false true false false) := by
  refine returnsInHanded_of_change (C := Try.checked) own started (by kernel_rfl) Try.func5
    (ChangeSpec.witness6 (enc := enc) (C := Try.checked) false ⟨#[], #[.int .u32 0, .int .u32 0, .int .u32 0], []⟩ 8 (by kernel_rfl) (by kernel_rfl) (by kernel_rfl) (by kernel_rfl)) ?_
  intro W base args ds gs before hval0 hW hcnd _
  have hval : ∀ (j : Nat) t v, Try.f5.params[j]? = some t → args[j]? = some v → Value.okWide Try.prog W .any base t v := hval0
  have hW' := hW
  obtain ⟨p, q, hA0, hV, rfl, hfz, hnd⟩ := hW
  have hA : DataW.TrodAll enc Try.prog W 0 (fun _ => true) true Try.f5.params.toList args.toList ds p := hA0
  rw [Try.params5] at hA hval
  obtain ⟨v0, vs0, d0, ds0, p0, q0, hargs, rfl, rfl, h0, r0⟩ := trodAll_cons hA
  obtain ⟨v1, vs1, d1, ds1, p1, q1, rfl, rfl, rfl, h1, r1⟩ := trodAll_cons r0
  obtain ⟨v2, vs2, d2, ds2, p2, q2, rfl, rfl, rfl, h2, r2⟩ := trodAll_cons r1
  obtain ⟨rfl, rfl, rfl⟩ := trodAll_nil r2
  obtain rfl : args = #[v0, v1, v2] := by cases args; simp_all
  obtain ⟨rfl, rfl⟩ := trodVars_none hV
  obtain ⟨a0, rfl, rfl, rfl, w0⟩ := open_int Try.underlying22 (hval 0 22 v0 rfl rfl) h0
  obtain ⟨a1, rfl, rfl, rfl, w1⟩ := open_int Try.underlying22 (hval 1 22 v1 rfl rfl) h1
  obtain ⟨a2, rfl, rfl, rfl, w2⟩ := open_int Try.underlying22 (hval 2 22 v2 rfl rfl) h2
  clear hA0 hval0
  simp only [List.append_nil] at hW'
  refine (walk a0 a1 a2 w0 w1 w2 W).mono fun e W' ⟨he, hg⟩ => ?_
  subst he
  exact ⟨_, rfl, post_of_same (pa := []) (pv := []) hW' (fun _ _ _ => (trodAll_cons_mk (shut_bool Try.underlying4 _) trodAll_mk0)) (fun sp _ => (trodAll_cons_mk (shut_int Try.underlying22 w0) (trodAll_cons_mk (shut_int Try.underlying22 w1) (trodAll_cons_mk (shut_int Try.underlying22 w2) trodAll_mk0)))) (fun _ _ => rfl) rfl
    (hg.frame _) hg.2.1 (ok_one (by kernel_rfl) rfl (okWide_bool_mk Try.underlying4 _))⟩

theorem over : Rows.fnInWindowIsTheLastLogSizePlusOneSlotsRow.holds Try.pinned (OpenSpec.ofChange Rows.fnInWindowIsTheLastLogSizePlusOneSlotsSpec) :=
  OpenClaim.holds_of_wide 5 Try.f5 rfl rfl rfl rfl rfl rfl rfl ⟨rfl, rfl, rfl, rfl, rfl⟩ rfl rfl rfl rfl rfl (by kernel_rfl) Try.func5 (by kernel_rfl)
    (of_decide_eq_true (by kernel_rfl)) (by unfold Func.isWrapper; first | (rw [if_pos (by decide +kernel)]; kernel_rfl) | (rw [if_neg (by decide +kernel)]; exact ⟨rfl, rfl⟩))
    (fun os started H enc _ => lifted os started H enc)

/-- ████ THE STATEMENT ████ -/
theorem proved : Rows.FnInWindowIsTheLastLogSizePlusOneSlotsSaid :=
  over
#print axioms proved
end Go.Proofs.Qxb6615798a.fnInWindowIsTheLastLogSizePlusOneSlots
