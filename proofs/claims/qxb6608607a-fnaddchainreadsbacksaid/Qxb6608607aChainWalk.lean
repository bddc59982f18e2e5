/-
  The walk of 'FnAddChainReadsBack'.
-/
import Derived.Test.Qxb6608607aChainMid
namespace Go.Proofs.Qxb6608607a
open Go.RowKit Go.Maps

theorem types_less {w : World} {a : Option Addr} {m m' : Nat} {t : Nat → Int} (h : RdT w a m t) (hm : m' ≤ m) : RdT w a m' t := fun j hj => h j (by omega)
theorem rows_less {w : World} {a : Option Addr} {m m' : Nat} {dd : Nat → List Int} (h : RdRows w a m dd) (hm : m' ≤ m) : RdRows w a m' dd := fun j hj => h j (by omega)

def madeInts (n : Nat) : Obj := .cells (madeCells (Value.int .i64 0).cells n) 3
theorem make_ints (n : Nat) (hn : n ≤ 4096) (w : World) : (Instr.makeSlice 42 (.int .i64 (n : Int)) (.int .i64 (n : Int))).run Try.prog w = .ok (.slice (some ⟨w.heap.size, 0, none⟩) n n) (w.alloc (madeInts n)) := by
  obtain ⟨i, hi, hz0, hz1, hz2⟩ := info_parts Try.info3
  have hmk := run_make (P := Try.prog) w 42 3 i (.int .i64 0) Try.underlying42 hi hz0 .i64 .i64 n n (by omega) (Int.le_refl _) (by rw [hz2]; omega) (by omega)
  simp only [Int.toNat_natCast, hz1, Nat.mul_one] at hmk
  exact hmk
theorem got_new (w : World) (m : Nat) (f : Nat → Nat) : Got (w.alloc (madeInts m)) w.heap.size m m f := fun j hj => by
  refine ⟨0, ?_, by simp [go_sem, madeInts], fun h => by omega⟩
  simp [go_sem, madeInts, madeCells, hj, Nat.mod_one]
theorem Got.alloc {w : World} {b m k : Nat} {f : Nat → Nat} (h : Got w b m k f) (o : Obj) : Got (w.alloc o) b m k f := fun j hj => by
  obtain ⟨x, hc, hf, hx⟩ := h j hj
  have hg := World.grownBy_alloc w o none
  exact ⟨x, (grown_cell hg (cell_lt hc) (by simp)).trans hc, (grown_frozen hg (cell_lt hc) (by simp)).trans hf, hx⟩

set_option maxHeartbeats 4000000 in
set_option maxRecDepth 100000 in
theorem chain_walk (ap : Option Addr) (cp : Nat) (pre : List Int) (u : Bool) (ta : Option Addr) (tl tc : Nat) (t : Nat → Int) (da : Option Addr) (dl dc : Nat) (dd : Nat → List Int) (w : World)
    (hap : ap = none → cp = 0) (hP : Rd .u8 w ap pre) (hT : RdT w ta tl t) (hD : RdRows w da dl dd) :
    Calls Try.prog 5 #[.slice ap pre.length cp, .bool u, .slice ta tl tc, .slice da dl dc] w fun e w' => e = .returned (.bool true) ∧ Below w.heap.size w w' := by
  go_enter Try.func5, Try.ntmps5
  go_wp2_with fail
  refine (bytes5_any ap pre.length cp u ta tl tc da dl dc dd w hD).mono ?_
  rintro e w' ⟨⟨r, rfl, hsh⟩, rfl⟩
  cases r with
  | false =>
    go_wp2
    go_ret
    exact ⟨rfl, Below.refl _ _⟩
  | true =>
  have hSh := hsh rfl
  clear hsh
  by_cases l1 : 65536 < pre.length
  · go_wp2
    go_ret
    exact ⟨rfl, Below.refl _ _⟩
  by_cases l2 : 4096 < tl
  · go_wp2
    go_ret
    exact ⟨rfl, Below.refl _ _⟩
  by_cases l3 : 4096 < dl
  · go_wp2
    go_ret
    exact ⟨rfl, Below.refl _ _⟩
  go_wp2
  go_loop [9, 10] (fun s i => ∃ (k : Nat), k ≤ dl ∧ i = .int .i64 k ∧ s = .int .i64 (sumL dd k) ∧ sumL dd k ≤ 524288) (fun _ i => dl - (intOf i).toNat)
  case atStart => exact ⟨0, Nat.zero_le _, rfl, rfl, Nat.zero_le _⟩
  case round =>
    obtain ⟨k, hk, rfl, rfl, hs⟩ := hrel
    by_cases hlt : k < dl
    · have hlt' : (k : Int) < (dl : Int) := by omega
      obtain ⟨b, off, aj, cj, rfl, hc, _, _⟩ := hD k hlt
      have hk1 := hSh k hlt
      by_cases g1 : 524288 < sumL dd k + (dd k).length
      · go_wp2
        go_ret
        exact ⟨rfl, Below.refl _ _⟩
      go_wp2
      go_round
      case rel => exact ⟨k + 1, by omega, by go_num, by simp only [sumL]; go_num, by simp only [sumL]; omega⟩
      case measure => simp [intOf]; omega
    · obtain rfl : k = dl := by omega
      clear hSh hk
      go_wp2_with fail
      refine (zzclone_any ap cp pre w hap hP (by omega)).mono ?_
      rintro e w1 ⟨a', c', rfl, ha', ho1, hb1⟩
      have hT1 := hT.below hb1
      have hD1 := hD.below hb1
      obtain ⟨_, _, e1, _, _, hP1⟩ := ho1.rd
      cases e1
      obtain ⟨m, hm⟩ : ∃ m, m = min tl k := ⟨_, rfl⟩
      have hm1 : m ≤ tl := by omega
      have hm2 : m ≤ k := by omega
      have hsm : sumL dd m ≤ 524288 := Nat.le_trans (sumL_mono hm2) hs
      have hbf := build_any u a' c' pre ta tl tc t da k dc dd m w1 ha' hP1 (types_less hT1 hm1) (rows_less hD1 hm2) hm1 hm2 (by omega) (by omega) hsm
      have hM : Hid (m = min tl k) := hm
      clear hm
      go_upto_if 70 with fail
      go_cut [11] (fun s wz => s = .int .i64 m ∧ wz = w1)
      case first =>
        by_cases hmin : k < tl
        · have e : m = k := by have := hM.out; omega
          clear hM hbf
          go_wp2
          go_meet
          exact ⟨by rw [e], rfl⟩
        · have e : m = tl := by have := hM.out; omega
          clear hM hbf
          go_wp2
          go_meet
          exact ⟨by rw [e], rfl⟩
      case rest =>
        obtain ⟨rfl, rfl⟩ := hcut
        clear hM
        go_wp2_with fail
        refine hbf.mono ?_
        rintro e w2 ⟨M, v, rfl, hS, hb2⟩
        have hT2 := hT1.below hb2
        have hD2 := hD1.below hb2
        have hP2 := hP1.below hb2
        have hb4 : Below w.heap.size w w2 := hb1.trans (hb2.mono hb1.size)
        clear hbf hT hD hP
        have hl1 := bB_length (u := u) (pre := pre) (t := t) (dd := dd) m
        have hn1 := bN_sum (u := u) (pre := pre) (dd := dd) m
        obtain ⟨av, cv, rfl, hav, hcv, hR⟩ := hS.own.rd
        rw [hl1] at hS hcv
        have hE1 : Rd .u8 w2 av pre := hR.sub (by rw [hl1]; exact bN_pre m) (fun j hj => (bB_pre hj).symm)
        have c0 := hS.c0
        have hpm := bN_pre (u := u) (pre := pre) (dd := dd) m
        clear hT1 hD1 hP1 hb1 hb2 ho1
        go_wp2_with fail
        refine (zzlast_any M _ _ hS.c2).mono ?_
        rintro e w' ⟨rfl, rfl⟩
        go_wp2_with fail
        refine (eq_same _ _ _ _ pre _ hE1 hP2 (by omega)).mono ?_
        rintro e w' ⟨rfl, n1, rfl⟩
        clear hE1 hP2 c0 hR
        have hbd : Below w2.heap.size w2 (w2.drewN n1) := below_drewn (Below.refl _ _) n1
        by_cases hm0 : m = 0
        · have S1 := hS.below hbd
          obtain ⟨D1, hG1, hi1⟩ := S1.grp
          have L1 := len_world hG1 hi1 3 (w2.drewN n1) rfl
          have f1 := S1.c1
          rw [bC_eq] at L1
          have e1 : dis t m = 0 := by rw [hm0]; rfl
          have e2 : bN u pre dd m = pre.length := by rw [hm0]; rfl
          have e3 : bL u pre dd m = 0 := by rw [hm0]; rfl
          rw [e1] at L1
          rw [e2, e3]
          subst hm0
          clear hn1 hpm hG1 hi1 e1 e2 e3
          go_wp2
          go_ret
          exact ⟨rfl, hb4.trans (hbd.mono hb4.size)⟩
        · obtain ⟨tb, toff, rfl, -, -⟩ := hT2 0 (by omega)
          obtain ⟨db, doff, -, -, rfl, -⟩ := hD2 0 (by omega)
          obtain ⟨P0, hP0⟩ : ∃ P, P = bP u pre dd (m - 1) := ⟨_, rfl⟩
          obtain ⟨eL, eN⟩ : bL u pre dd m = ((P0 : Nat) : Int) ∧ bN u pre dd m = P0 + 64 := by
            rw [hP0]
            cases m with
            | zero => exact absurd rfl hm0
            | succ j => exact ⟨rfl, rfl⟩
          have eP : pre.length ≤ P0 := by rw [hP0]; exact bP_lo (m - 1)
          rcases hS.own.shape with ⟨_, e0⟩ | ⟨g, cap1, e1, -⟩
          · rw [e0] at hl1; simp at hl1; omega
          simp only [Value.slice.injEq] at e1
          obtain ⟨rfl, -, rfl⟩ := e1
          rw [eL]
          have k1 := make_ints m (by omega)
          have p1 : (pre.length : Int) ≤ (P0 : Int) := by omega
          have p2 : (P0 : Int) + 64 = ((bN u pre dd m : Nat) : Int) := by omega
          have p3 : (P0 : Int) ≤ ((bN u pre dd m : Nat) : Int) - 64 := by omega
          have p4 : ¬ (m : Int) = 0 := by omega
          have HN : Hid (bN u pre dd m = P0 + 64) := eN
          have HH : Hid (P0 = bP u pre dd (m - 1)) := hP0
          clear eN eP hl1 hP0 hm0 eL
          go_wp2_with fail
          rename_i hK _
          have hsz : ((w2.drewN n1).alloc (madeInts m)).heap.size = w2.heap.size + 1 := by simp
          have hbm : Below w2.heap.size w2 (((w2.drewN n1).alloc (madeInts m)).alloc (madeInts m)) := (hbd.alloc (Nat.le_refl _) _).alloc (by rw [hsz]; omega) _
          have hg2 : Got (((w2.drewN n1).alloc (madeInts m)).alloc (madeInts m)) (w2.heap.size + 1) m m (bN u pre dd) := by rw [← hsz]; exact got_new _ _ _
          refine loopc (s0 := .slice a' pre.length c') (s1 := .bool u) (s2 := .slice (some ⟨tb, toff, none⟩) tl tc) (s3 := .slice (some ⟨db, doff, none⟩) k dc) (s11 := .int .i64 (m : Nat)) (s12 := .pointer (some ⟨M + 1, 0, none⟩)) (s13 := .slice (some ⟨g, 0, none⟩) (bN u pre dd m) cv) (s15 := .slice (some ⟨w2.heap.size, 0, none⟩) m m) (s16 := .slice (some ⟨w2.heap.size + 1, 0, none⟩) m m) (m := m) (C := bP u pre dd) (R := R5 w2 w2.heap.size (w2.heap.size + 1) m (bP u pre dd) (bN u pre dd))
            ?_ ⟨hbm, (got_new (w2.drewN n1) m (bP u pre dd)).alloc _, hg2⟩ (chainAny rfl rfl hS (types_less hT2 hm1) (rows_less hD2 hm2) hm1 hm2 (by omega) hsm (by omega) hcv (Nat.le_refl _) (by omega) (by omega)) ?_
          · rw [← HH.out]
            exact ⟨rfl, rfl, rfl, rfl, rfl, rfl, rfl, rfl, rfl, rfl, rfl, rfl, rfl⟩
          intro a'' w4 hk' hr'
          obtain ⟨hb5, hga, hgb⟩ := hr'
          refine hK _ _ ?_
          refine mid74 (D := dis t) hk' rfl (roundDAny (hS.below hb5) ((types_less hT2 hm1).below hb5) hm1 (by omega) hsm (by omega) hga hgb) ?_
          intro w' hb'
          have S1 := (hS.below hb5).below hb'
          obtain ⟨D1, hG1, hi1⟩ := S1.grp
          have L1 := len_world hG1 hi1 3 w' rfl
          rw [bC_eq] at L1
          exact ⟨⟨rfl, hb4.trans ((hb5.trans (hb'.mono hb5.size)).mono hb4.size)⟩, S1.c1, L1⟩
end Go.Proofs.Qxb6608607a
