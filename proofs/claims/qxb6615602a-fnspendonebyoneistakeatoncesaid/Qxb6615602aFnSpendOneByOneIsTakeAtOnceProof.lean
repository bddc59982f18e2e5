/-
  THE PROOF OF 'Rows.FnSpendOneByOneIsTakeAtOnceSaid'. The frame is the guide's shell for this function; the walk is ours.
-/
import Derived.Test.Qxb6615602aRows
import Derived.Test.Qxb6615602aBudget
import Derived.WalkSpells
import Derived.WalkKit
import Derived.ProofKit
import Derived.OpenShut
import Derived.ShutString
namespace Go.Proofs.Qxb6615602a.fnSpendOneByOneIsTakeAtOnce
open Go.ChangeShapes Go.WideShapes Go.ChangeAt Go.RowKit
open Go.ChangeMaps (open_string shut_string)
set_option linter.unusedVariables false      -- a walk need not use every 'w<i>' (that an integer argument fits its kind)

theorem own : ownKnob Try.prog.godebug = none := by kernel_rfl

/-! ### THE WALK -/
theorem walk (a0 : Int) (a1 : Int) (w0 : (Lit.int .i64 a0).wf = true) (w1 : (Lit.int .i64 a1).wf = true) (w : World) :
    Calls Try.prog 4 #[.int .i64 a0, .int .i64 a1] w fun e w' => e = .returned (.bool true) ∧ Grown w w' := by
  have b0 := bounds_i64 w0
  have b1 := bounds_i64 w1
  by_cases hk0 : a1 < 0
  · go_enter Try.func4, Try.ntmps4
    go_wp2
    go_ret
    exact ⟨rfl, Grown.refl _⟩
  by_cases hk1 : 65536 < a1
  · go_enter Try.func4, Try.ntmps4
    go_wp2
    go_ret
    exact ⟨rfl, Grown.refl _⟩
  go_enter Try.func4, Try.ntmps4
  go_wp2_with (go_at_call 7; refine (new_any _ _).mono ?_; rintro e w' ⟨rfl, rfl⟩)
  go_loopw [6, 7] (fun f i wr => ∃ (k : Nat) (x : Int) (y : Bool), (k : Int) ≤ a1 ∧ i = .int .i64 k ∧ f = .bool y ∧ 0 ≤ x ∧ x ≤ k ∧ (x ≤ a0 ∨ x = 0) ∧ (y = true → x = k) ∧ (y = false → x < k ∧ a0 - x ≤ 0) ∧
      wr.cell? ⟨w.heap.size, 0, none⟩ = some (.int .i64 (a0 - x)) ∧ wr.frozen? ⟨w.heap.size, 0, none⟩ = false ∧ w.heap.size < wr.heap.size ∧ Grown w wr) (fun _ i _ => (a1 - intOf i).toNat)
  case atStart => exact ⟨0, 0, true, by omega, rfl, rfl, by omega, by omega, by omega, by simp, by simp, by simp [go_sem], by simp [go_sem], by simp, (Grown.refl _).alloc _ _⟩
  case round =>
    obtain ⟨k, x, y, hk, rfl, rfl, hx0, hxk, hxa, hyt, hyf, hc, hf, hz, hg⟩ := hrel
    by_cases hlt : (k : Int) < a1
    · by_cases hs : 1 ≤ a0 - x
      · have hy : y = true := by
          cases y with
          | true => rfl
          | false => have := hyf rfl; omega
        subst hy
        have HX : Hid (x = (k : Int)) := hyt rfl
        clear hyf hyt
        go_wp2_with (go_at_call 8; refine (spend_yes _ (a0 - x) _ (by omega) hs hc hf).mono ?_; rintro e w' ⟨rfl, rfl⟩)
        go_roundw
        case rel =>
          have hx := HX.out
          refine ⟨k + 1, x + 1, true, by omega, by go_num, rfl, by omega, by omega, by omega, fun _ => by omega, by simp, ?_, ?_, by simpa using hz, hg.setCell (Nat.le_refl _) _⟩
          · rw [show a0 - (x + 1) = a0 - x - 1 from by omega]
            simp [go_sem, hc]
          · simpa [go_sem] using hf
        case measure => simp [intOf]; omega
      · have hs' : a0 - x < 1 := by omega
        go_wp2_with (go_at_call 8; refine (spend_no _ (a0 - x) _ hs' hc).mono ?_; rintro e w' ⟨rfl, rfl⟩)
        go_roundw
        case rel =>
          exact ⟨k + 1, x, false, by omega, by go_num, rfl, by omega, by omega, by omega, by simp, fun _ => by omega, hc, hf, hz, hg⟩
        case measure => simp [intOf]; omega
    · have hc2 : ∀ v, (wr.alloc v).cell? ⟨w.heap.size, 0, none⟩ = some (.int .i64 (a0 - x)) := fun v => (World.cell?_alloc_past v _ _ hz).trans hc
      have hnew : (wr.alloc (.cells #[.int .i64 a0] 35)).cell? ⟨wr.heap.size, 0, none⟩ = some (.int .i64 a0) := by simp
      have hnf : (wr.alloc (.cells #[.int .i64 a0] 35)).frozen? ⟨wr.heap.size, 0, none⟩ = false := by simp [go_sem]
      have hn2 : ∀ z, (wr.alloc (.cells #[.int .i64 z] 35)).cell? ⟨wr.heap.size, 0, none⟩ = some (.int .i64 z) := fun z => by simp
      by_cases hle : a1 ≤ a0
      · obtain ⟨rfl, rfl⟩ : y = true ∧ x = a1 := by
          cases y with
          | true => have := hyt rfl; exact ⟨rfl, by omega⟩
          | false => have := hyf rfl; omega
        clear hyf hyt hxa
        have hx1 : x = 0 ∨ (x == 0) = false := by
          by_cases e : x = 0
          · exact .inl e
          · exact .inr (by simpa using e)
        have hd : decide (x ≤ a0) = true := by simpa using hle
        rcases hx1 with rfl | hx1
        all_goals
          go_wp2_with fail
          refine (new_any _ _).mono ?_
          rintro e w' ⟨rfl, rfl⟩
          go_wp2_with fail
          refine (zztake_yes _ a0 _ _ (by omega) (by omega) hle hnew hnf).mono ?_
          rintro e w' ⟨rfl, rfl⟩
          go_wp2_with (go_at_call 9; refine (left_any _ _ _ (by first | exact hc2 _ | exact hn2 _)).mono ?_; rintro e w' ⟨rfl, rfl⟩)
          go_ret
          exact ⟨rfl, hg.alloc _ _⟩
      · have hd : decide (a1 ≤ a0) = false := by simpa using hle
        by_cases h0 : a1 = 0
        · obtain ⟨rfl, rfl⟩ : y = true ∧ x = 0 := by
            cases y with
            | true => have := hyt rfl; exact ⟨rfl, by omega⟩
            | false => have := hyf rfl; omega
          clear hyf hyt hxa
          subst h0
          go_wp2_with fail
          refine (new_any _ _).mono ?_
          rintro e w' ⟨rfl, rfl⟩
          go_wp2_with fail
          refine (zztake_no _ a0 _ _ (by omega) hnew).mono ?_
          rintro e w' ⟨rfl, rfl⟩
          go_wp2_with (go_at_call 9; refine (left_any _ _ _ (by first | exact hc2 _ | exact hn2 _)).mono ?_; rintro e w' ⟨rfl, rfl⟩)
          go_ret
          exact ⟨rfl, hg.alloc _ _⟩
        · have h0' : (a1 == 0) = false := by simpa using h0
          by_cases hp : 0 < a0
          · obtain ⟨rfl, rfl⟩ : y = false ∧ x = a0 := by
              cases y with
              | true => have := hyt rfl; omega
              | false => have := hyf rfl; exact ⟨rfl, by omega⟩
            clear hyf hyt hxa
            go_wp2_with fail
            refine (new_any _ _).mono ?_
            rintro e w' ⟨rfl, rfl⟩
            go_wp2_with fail
            refine (zztake_no _ x _ _ (by omega) hnew).mono ?_
            rintro e w' ⟨rfl, rfl⟩
            go_wp2_with (go_at_call 9; refine (left_any _ _ _ (by first | exact hc2 _ | exact hn2 _)).mono ?_; rintro e w' ⟨rfl, rfl⟩)
            go_ret
            exact ⟨rfl, hg.alloc _ _⟩
          · obtain ⟨rfl, rfl⟩ : y = false ∧ x = 0 := by
              cases y with
              | true => have := hyt rfl; omega
              | false => have := hyf rfl; exact ⟨rfl, by omega⟩
            clear hyf hyt hxa
            go_wp2_with fail
            refine (new_any _ _).mono ?_
            rintro e w' ⟨rfl, rfl⟩
            go_wp2_with fail
            refine (zztake_no _ a0 _ _ (by omega) hnew).mono ?_
            rintro e w' ⟨rfl, rfl⟩
            go_wp2_with (go_at_call 9; refine (left_any _ _ _ (by first | exact hc2 _ | exact hn2 _)).mono ?_; rintro e w' ⟨rfl, rfl⟩)
            go_ret
            exact ⟨rfl, hg.alloc _ _⟩

/-! ### THE ROW's STEP -/
set_option maxRecDepth 100000 in
theorem lifted (os : Os) (started : os.Started) (H : Type) (enc : TypeId × Value → H) :
    ReturnsInHanded {} Try.checked os 4 .any (Rows.fnSpendOneByOneIsTakeAtOnceSpec.pre6 enc Try.prog Try.f4 Rows.fnSpendOneByOneIsTakeAtOnceRow.domain false) (Rows.fnSpendOneByOneIsTakeAtOnceSpec.post enc Try.prog Try.f4 false true false false) := by
  refine returnsInHanded_of_change (C := Try.checked) own started (by kernel_rfl) Try.func4
    (ChangeSpec.witness6 (enc := enc) (C := Try.checked) false ⟨#[], #[.int .i64 0, .int .i64 0], []⟩ 8 (by kernel_rfl) (by kernel_rfl) (by kernel_rfl) (by kernel_rfl)) ?_
  intro W base args ds gs before hval0 hW hcnd _
  have hval : ∀ (j : Nat) t v, Try.f4.params[j]? = some t → args[j]? = some v → Value.okWide Try.prog W .any base t v := hval0
  have hW' := hW
  obtain ⟨p, q, hA0, hV, rfl, hfz, hnd⟩ := hW
  have hA : DataW.TrodAll enc Try.prog W 0 (fun _ => true) true Try.f4.params.toList args.toList ds p := hA0
  rw [Try.params4] at hA hval
  obtain ⟨v0, vs0, d0, ds0, p0, q0, hargs, rfl, rfl, h0, r0⟩ := trodAll_cons hA
  obtain ⟨v1, vs1, d1, ds1, p1, q1, rfl, rfl, rfl, h1, r1⟩ := trodAll_cons r0
  obtain ⟨rfl, rfl, rfl⟩ := trodAll_nil r1
  obtain rfl : args = #[v0, v1] := by cases args; simp_all
  obtain ⟨rfl, rfl⟩ := trodVars_none hV
  obtain ⟨a0, rfl, rfl, rfl, w0⟩ := open_int Try.underlying3 (hval 0 3 v0 rfl rfl) h0
  obtain ⟨a1, rfl, rfl, rfl, w1⟩ := open_int Try.underlying3 (hval 1 3 v1 rfl rfl) h1
  clear hA0 hval0
  simp only [List.append_nil] at hW'
  refine (walk a0 a1 w0 w1 W).mono fun e W' ⟨he, hg⟩ => ?_
  subst he
  exact ⟨_, rfl, post_of_same (pa := []) (pv := []) hW' (fun _ _ _ => (trodAll_cons_mk (shut_bool Try.underlying4 _) trodAll_mk0)) (fun sp _ => (trodAll_cons_mk (shut_int Try.underlying3 w0) (trodAll_cons_mk (shut_int Try.underlying3 w1) trodAll_mk0))) (fun _ _ => rfl) rfl
    (hg.frame _) hg.2.1 (ok_one (by kernel_rfl) rfl (okWide_bool_mk Try.underlying4 _))⟩

theorem over : Rows.fnSpendOneByOneIsTakeAtOnceRow.holds Try.pinned (OpenSpec.ofChange Rows.fnSpendOneByOneIsTakeAtOnceSpec) :=
  OpenClaim.holds_of_wide 4 Try.f4 rfl rfl rfl rfl rfl rfl rfl ⟨rfl, rfl, rfl, rfl, rfl⟩ rfl rfl rfl rfl rfl (by kernel_rfl) Try.func4 (by kernel_rfl)
    (of_decide_eq_true (by kernel_rfl)) (by unfold Func.isWrapper; first | (rw [if_pos (by decide +kernel)]; kernel_rfl) | (rw [if_neg (by decide +kernel)]; exact ⟨rfl, rfl⟩))
    (fun os started H enc _ => lifted os started H enc)

/-- ████ THE STATEMENT ████ -/
theorem proved : Rows.FnSpendOneByOneIsTakeAtOnceSaid :=
  over
#print axioms proved
end Go.Proofs.Qxb6615602a.fnSpendOneByOneIsTakeAtOnce
