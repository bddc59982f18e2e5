/-
  'FnProposeIsTheQuorumValue', walked out of the callees' contracts.
-/
import Derived.Test.Qxb6615798aReceived
import Derived.Test.Qxb6615798aPropose
import Derived.OpenShut
namespace Go.Proofs.Qxb6615798a
open Go.RowKit

theorem Msgs.below {w w' : World} {a : Option Addr} {len : Nat} {ph vl : Nat → Int} (h : Msgs w a len ph vl) (hb : Below w.heap.size w w') : Msgs w' a len ph vl := by
  intro j hj
  obtain ⟨b, off, e, c0, c1⟩ := h j hj
  exact ⟨b, off, e, (hb.cell (p := ⟨b, _, none⟩) (cell_lt c0)).trans c0, (hb.cell (p := ⟨b, _, none⟩) (cell_lt c1)).trans c1⟩
theorem Msgs.drewN {w : World} {a : Option Addr} {len : Nat} {ph vl : Nat → Int} (h : Msgs w a len ph vl) (m : Nat) : Msgs (w.drewN m) a len ph vl := h
theorem Idx.below {w w' : World} {c : Nat} {n t id st idx : Int} (h : Idx w c n t id st idx) (hc : c < w.heap.size) (hb : Below w.heap.size w w') : Idx w' c n t id st idx := by
  obtain ⟨h0, h1, h2, h4, h6⟩ := h
  exact ⟨(hb.cell (p := ⟨c, _, none⟩) hc).trans h0, (hb.cell (p := ⟨c, _, none⟩) hc).trans h1, (hb.cell (p := ⟨c, _, none⟩) hc).trans h2, (hb.cell (p := ⟨c, _, none⟩) hc).trans h4, (hb.cell (p := ⟨c, _, none⟩) hc).trans h6⟩
theorem Recv.below {w w' : World} {g len : Nat} {ph vl : Nat → Int} (h : Recv w g len ph vl) (hc : g < w.heap.size) (hb : Below w.heap.size w w') : Recv w' g len ph vl := by
  intro j hj
  exact ⟨(hb.cell (p := ⟨g, _, none⟩) hc).trans (h j hj).1, (hb.cell (p := ⟨g, _, none⟩) hc).trans (h j hj).2⟩
theorem below_drw {B : Nat} {a w : World} (h : Below B a w) (n : Nat) : Below B a (w.drewN n) := ⟨h.os, h.tape, h.output, h.size, h.block⟩
theorem Fill.recv {w wr : World} {len : Nat} {ph vl : Nat → Int} (h : Fill w len ph vl len wr) : Recv wr w.heap.size len ph vl := h.2.2.1
theorem Fill.less {w wr : World} {len k : Nat} {ph vl : Nat → Int} (h : Fill w len ph vl k wr) : w.heap.size < wr.heap.size := h.2.2.2.1
theorem Fill.kept {w wr : World} {len k : Nat} {ph vl : Nat → Int} (h : Fill w len ph vl k wr) : Below w.heap.size w wr := h.2.2.2.2

/-- 'zzBytes_FnProposeIsTheQuorumValue'. -/
theorem bytes3_yes (a : Option Addr) (len cap : Nat) (n t id st idx : Int) (w : World) (h : len ≤ 1048576) :
    Calls Try.prog 7 #[.int .i64 n, .int .i64 t, .int .i64 id, .int .u32 st, .int .u32 idx, .slice a len cap] w fun e w' => e = .returned (.bool true) ∧ w = w' := by
  go_enter Try.func7, Try.ntmps7
  go_wp2
  go_ret
  exact ⟨rfl, rfl⟩
theorem bytes3_no (a : Option Addr) (len cap : Nat) (n t id st idx : Int) (w : World) (h : 1048576 < len) :
    Calls Try.prog 7 #[.int .i64 n, .int .i64 t, .int .i64 id, .int .u32 st, .int .u32 idx, .slice a len cap] w fun e w' => e = .returned (.bool false) ∧ w = w' := by
  go_enter Try.func7, Try.ntmps7
  go_wp2
  go_ret
  exact ⟨rfl, rfl⟩

set_option maxHeartbeats 2000000 in
theorem quorum_walk (n t id st idx : Int) (a : Option Addr) (len cap : Nat) (ph vl : Nat → Int) (w0 : (Lit.int .i64 n).wf = true) (w1 : (Lit.int .i64 t).wf = true) (w2 : (Lit.int .i64 id).wf = true) (w3 : (Lit.int .u32 st).wf = true) (w4 : (Lit.int .u32 idx).wf = true)
    (w : World) (hM : Msgs w a len ph vl) :
    Calls Try.prog 3 #[.int .i64 n, .int .i64 t, .int .i64 id, .int .u32 st, .int .u32 idx, .slice a len cap] w fun e w' => e = .returned (.bool true) ∧ Below w.heap.size w w' := by
  have b0 := bounds_i64 w0
  have b1 := bounds_i64 w1
  have b2 := bounds_i64 w2
  have b3 := bounds_u32 w3
  have b4 := bounds_u32 w4
  clear w0 w1 w2 w3 w4
  by_cases l1 : 1048576 < len
  · go_enter Try.func3, Try.ntmps3
    go_wp2_with (go_at_call 7; refine (bytes3_no _ _ _ _ _ _ _ _ _ l1).mono ?_; rintro e w' ⟨rfl, rfl⟩)
    go_ret
    exact ⟨rfl, Below.refl _ _⟩
  have l1' : len ≤ 1048576 := by omega
  by_cases l2 : 4096 < len
  · go_enter Try.func3, Try.ntmps3
    go_wp2_with (go_at_call 7; refine (bytes3_yes _ _ _ _ _ _ _ _ _ l1').mono ?_; rintro e w' ⟨rfl, rfl⟩)
    go_ret
    exact ⟨rfl, Below.refl _ _⟩
  by_cases c0 : n < 1
  · go_enter Try.func3, Try.ntmps3
    go_wp2_with (go_at_call 7; refine (bytes3_yes _ _ _ _ _ _ _ _ _ l1').mono ?_; rintro e w' ⟨rfl, rfl⟩)
    go_ret
    exact ⟨rfl, Below.refl _ _⟩
  by_cases c1 : 4096 < n
  · go_enter Try.func3, Try.ntmps3
    go_wp2_with (go_at_call 7; refine (bytes3_yes _ _ _ _ _ _ _ _ _ l1').mono ?_; rintro e w' ⟨rfl, rfl⟩)
    go_ret
    exact ⟨rfl, Below.refl _ _⟩
  by_cases c2 : t < 0
  · go_enter Try.func3, Try.ntmps3
    go_wp2_with (go_at_call 7; refine (bytes3_yes _ _ _ _ _ _ _ _ _ l1').mono ?_; rintro e w' ⟨rfl, rfl⟩)
    go_ret
    exact ⟨rfl, Below.refl _ _⟩
  by_cases c3 : n < t
  · go_enter Try.func3, Try.ntmps3
    go_wp2_with (go_at_call 7; refine (bytes3_yes _ _ _ _ _ _ _ _ _ l1').mono ?_; rintro e w' ⟨rfl, rfl⟩)
    go_ret
    exact ⟨rfl, Below.refl _ _⟩
  by_cases c4 : n < 3 * t + 1
  · go_enter Try.func3, Try.ntmps3
    go_wp2_with (go_at_call 7; refine (bytes3_yes _ _ _ _ _ _ _ _ _ l1').mono ?_; rintro e w' ⟨rfl, rfl⟩)
    go_ret
    exact ⟨rfl, Below.refl _ _⟩
  by_cases c5 : id < 0
  · go_enter Try.func3, Try.ntmps3
    go_wp2_with (go_at_call 7; refine (bytes3_yes _ _ _ _ _ _ _ _ _ l1').mono ?_; rintro e w' ⟨rfl, rfl⟩)
    go_ret
    exact ⟨rfl, Below.refl _ _⟩
  by_cases c6 : n ≤ id
  · go_enter Try.func3, Try.ntmps3
    go_wp2_with (go_at_call 7; refine (bytes3_yes _ _ _ _ _ _ _ _ _ l1').mono ?_; rintro e w' ⟨rfl, rfl⟩)
    go_ret
    exact ⟨rfl, Below.refl _ _⟩
  by_cases c7 : st < 2
  · go_enter Try.func3, Try.ntmps3
    go_wp2_with (go_at_call 7; refine (bytes3_yes _ _ _ _ _ _ _ _ _ l1').mono ?_; rintro e w' ⟨rfl, rfl⟩)
    go_ret
    exact ⟨rfl, Below.refl _ _⟩
  by_cases c8 : st ≤ idx
  · go_enter Try.func3, Try.ntmps3
    go_wp2_with (go_at_call 7; refine (bytes3_yes _ _ _ _ _ _ _ _ _ l1').mono ?_; rintro e w' ⟨rfl, rfl⟩)
    go_ret
    exact ⟨rfl, Below.refl _ _⟩
  obtain ⟨m, rfl⟩ := Int.eq_ofNat_of_zero_le (show 0 ≤ n by omega)
  obtain ⟨d, rfl⟩ := Int.eq_ofNat_of_zero_le (show 0 ≤ id by omega)
  have l2' : len ≤ 4096 := by omega
  have hm : m ≤ 4096 := by omega
  have t0 : 0 ≤ t := by omega
  have t3 : 3 * t < m := by omega
  have hI := idx_new m t d st idx w
  have hB0 : Below w.heap.size w (w.alloc (idxObj5 m t d st idx)) := (Below.refl _ _).alloc (Nat.le_refl _) _
  have hM1 := hM.below hB0
  go_enter Try.func3, Try.ntmps3
  go_wp2_with (go_at_call 7; refine (bytes3_yes _ _ _ _ _ _ _ _ _ l1').mono ?_; rintro e w' ⟨rfl, rfl⟩)
  refine (newIdx_any _ _ _ _ _ _).mono ?_
  rintro e w' ⟨rfl, rfl⟩
  go_wp2_with fail
  refine (recv_any a len cap ph vl _ l2' hM1).mono ?_
  rintro e wb ⟨rfl, hF⟩
  have hI2 := hI.below (by simp) hF.kept
  have hR2 : Recv wb (w.heap.size + 1) len ph vl := by simpa using hF.recv
  have hM2 := hM1.below hF.kept
  have hB2 : Below w.heap.size w wb := hB0.trans (hF.kept.mono (by simp))
  clear hF hI hM1 hB0 hM
  go_wp2_with fail
  refine (prop_any _ _ len len ph vl m t st idx d _ l2' hm t0 t3 hI2 hR2 (sayV len d idx ph vl) (sayO len d st idx ph vl) (fun _ => rfl) (fun _ => rfl)).mono ?_
  rintro e w' ⟨r, rfl, hQ, k1, rfl⟩
  go_wp2_with fail
  refine (quorum_any a len cap ph vl m d t st idx _ l2' hm t0 t3 (hM2.drewN k1) (sayV len d idx ph vl) (sayO len d st idx ph vl) (fun _ => rfl) (fun _ => rfl)).mono ?_
  rintro e w' ⟨r', rfl, hQ', rfl⟩
  obtain rfl := quor_one (by omega) hQ hQ'
  clear hQ hQ'
  go_wp2
  go_ret
  exact ⟨rfl, below_drw hB2 k1⟩
end Go.Proofs.Qxb6615798a
