/-
  'ZZadd', 'ZZnewSegment', 'zzBuildSegment', each by a contract.
-/
import Derived.Test.Qxb6608607aPlain
import Derived.Test.Qxb6608607aAddBare
import Derived.Test.Qxb6608607aAddPad
namespace Go.Proofs.Qxb6608607a
open Go.RowKit Go.Maps

/-- '(Ex01Set).add'. -/
theorem add_any (u : Bool) (w : World) (B M : Nat) (v : Value) (bs : List Int) (last : Int) (n : Nat) (G : Int → List Int) (c : Nat) (typ : Int) (a : Option Addr) (cap : Nat) (ds : List Int)
    (hS : Seg w B M v bs last n G c (.slice none 0 0) []) (hw : (Lit.int .u32 typ).wf = true) (ha : a = none → cap = 0) (hR : Rd .u8 w a ds) (hl0 : 0 ≤ last) (hl1 : last ≤ 100000000) (hn : n < 100000) (hlen : bs.length + ds.length ≤ 10000000) :
    Calls Try.prog 30 #[setVal u, .pointer (some ⟨M + 1, 0, none⟩), .int .u32 typ, .slice a ds.length cap] w fun e w' => e = .returned (.tuple #[]) ∧ ∃ v',
      Seg w' B M v' (bs ++ ds ++ List.replicate (padU u ds.length) 0 ++ desc64 typ last ((ds.length : Int) + (padU u ds.length : Int)) (padU u ds.length : Int)) ((bs.length + ds.length + padU u ds.length : Nat) : Int) (n + 1) (addG G typ ((bs.length + ds.length + padU u ds.length : Nat) : Int)) (addC G typ c) (.slice none 0 0) [] ∧ Below B w w' := by
  cases u with
  | true =>
    refine (add_bare w B M v bs last n G c typ a cap ds hS hw ha hR hl0 hl1 hn hlen).mono ?_
    rintro e w' ⟨he, v', bs', hb, hS', hB⟩
    refine ⟨he, v', ?_, hB⟩
    have hb' := hb.out
    subst hb'
    simpa [padU] using hS'
  | false =>
    refine (add_pad w B M v bs last n G c typ a cap ds hS hw ha hR hl0 hl1 hn hlen (padOf ds.length) rfl).mono ?_
    rintro e w' ⟨he, v', bs', hb, hS', hB⟩
    refine ⟨he, v', ?_, hB⟩
    have hb' := hb.out
    subst hb'
    simpa [padU] using hS'

/-- 'ZZadd'. -/
theorem zzadd_any (u : Bool) (w : World) (B M : Nat) (v : Value) (bs : List Int) (last : Int) (n : Nat) (G : Int → List Int) (c : Nat) (typ : Int) (a : Option Addr) (cap : Nat) (ds : List Int)
    (hS : Seg w B M v bs last n G c (.slice none 0 0) []) (hw : (Lit.int .u32 typ).wf = true) (ha : a = none → cap = 0) (hR : Rd .u8 w a ds) (hl0 : 0 ≤ last) (hl1 : last ≤ 100000000) (hn : n < 100000) (hlen : bs.length + ds.length ≤ 10000000) :
    Calls Try.prog 27 #[.bool u, .pointer (some ⟨M + 1, 0, none⟩), .int .u32 typ, .slice a ds.length cap] w fun e w' => e = .returned (.tuple #[]) ∧ ∃ v',
      Seg w' B M v' (bs ++ ds ++ List.replicate (padU u ds.length) 0 ++ desc64 typ last ((ds.length : Int) + (padU u ds.length : Int)) (padU u ds.length : Int)) ((bs.length + ds.length + padU u ds.length : Nat) : Int) (n + 1) (addG G typ ((bs.length + ds.length + padU u ds.length : Nat) : Int)) (addC G typ c) (.slice none 0 0) [] ∧ Below B w w' := by
  have hA := add_any u w B M v bs last n G c typ a cap ds hS hw ha hR hl0 hl1 hn hlen
  generalize ((ds.length : Int) + (padU u ds.length : Int)) = q1 at hA
  go_enter Try.func27, Try.ntmps27
  go_wp2_with fail
  refine hA.mono ?_
  rintro e w' ⟨rfl, v', hS', hB⟩
  go_wp2
  go_end0
  exact ⟨rfl, v', hS', hB⟩

/-- 'zzClone', of whatever slice of bytes. -/
theorem zzclone_any (a : Option Addr) (cap : Nat) (zs : List Int) (w : World) (ha : a = none → cap = 0) (hz : Rd .u8 w a zs) (hl : zs.length ≤ 100000000) :
    Calls Try.prog 14 #[.slice a zs.length cap] w fun e w' => ∃ a' c', e = .returned (.slice a' zs.length c') ∧ (a' = none → c' = 0) ∧ Own w' w.heap.size (.slice a' zs.length c') zs ∧ Below w.heap.size w w' := by
  cases a with
  | none =>
    obtain rfl := ha rfl
    have hzs : zs = [] := by
      rcases hz with hz | ⟨b, off, e, _⟩
      · exact hz
      · cases e
    subst hzs
    refine (zzclone_nil w).mono ?_
    rintro e w' ⟨rfl, rfl⟩
    exact ⟨none, 0, rfl, fun _ => rfl, Own.nil _ _, Below.refl _ _⟩
  | some ad =>
    refine (zzclone_some ad cap zs w hz hl).mono ?_
    rintro e w' ⟨rfl, ho, hb⟩
    exact ⟨_, _, rfl, by simp, ho, hb⟩

theorem seg_new {w : World} {B : Nat} {v : Value} {bs : List Int} (ho : Own w B v bs) (hB : B ≤ w.heap.size) :
    Seg ((w.alloc (.map #[] 0)).alloc (.cells #[v, .map (some w.heap.size), .int .i64 0] 40)) B w.heap.size v bs 0 0 (fun _ => []) 0 (.slice none 0 0) [] := by
  have hl := ho.lt
  have g1 : (w.alloc (.map #[] 0)).ownsGroups (H := Unit) Try.prog 26 (w.heap.size + 2) 3 .i64 w.heap.size 0 (.map []) :=
    ⟨#[], 0, (MapKept.heap_alloc w _).1, ⟨by simp, MapKept.stamped_empty 0, by simp⟩, Nat.le_refl _, rfl, by omega, by simp, by simp⟩
  have gr := World.grownBy_alloc (w.alloc (.map #[] 0)) (.cells #[v, .map (some w.heap.size), .int .i64 0] 40) none
  refine ⟨hB, by simp, by simp [go_sem], by simp [go_sem], by simp [go_sem], fun o => by simp [go_sem], (ho.alloc _).alloc _, fun e => ?_, fun e => ?_, ⟨_, g1.kept gr (by simp) (fun es clock hb x hx => by cases x.val.ownBlock <;> simp), mapIs_empty⟩, Own.nil _ _, by simp [Value.ownBlock], by simp [Value.ownBlock], .inl rfl,
    (World.Shuns_made w _).kept gr (by simp) (by simp)⟩
  · have := (hl _ e).2; omega
  · have := (hl _ e).2; omega

theorem newSeg_any (a : Option Addr) (len cap : Nat) (w : World) :
    Calls Try.prog 26 #[.slice a len cap] w fun e w' => e = .returned (.pointer (some ⟨w.heap.size + 1, 0, none⟩)) ∧ w' = (w.alloc (.map #[] 0)).alloc (.cells #[.slice a len cap, .map (some w.heap.size), .int .i64 0] 40) := by
  have hmm := @run_makeMap Try.prog
  go_enter Try.func26, Try.ntmps26
  go_wp2
  go_ret
  exact ⟨rfl, rfl⟩

/-- A slice of slices of bytes that is only read. -/
def RdRows (w : World) (a : Option Addr) (m : Nat) (dd : Nat → List Int) : Prop :=
  ∀ j, j < m → ∃ b off aj cj, a = some ⟨b, off, none⟩ ∧ w.cell? ⟨b, off + j, none⟩ = some (.slice aj (dd j).length cj) ∧ (aj = none → cj = 0) ∧ Rd .u8 w aj (dd j)
/-- A slice of types that is only read. -/
def RdT (w : World) (a : Option Addr) (m : Nat) (t : Nat → Int) : Prop :=
  ∀ j, j < m → ∃ b off, a = some ⟨b, off, none⟩ ∧ w.cell? ⟨b, off + j, none⟩ = some (.int .u32 (t j)) ∧ (Lit.int .u32 (t j)).wf = true
theorem RdRows.below {w w' : World} {a : Option Addr} {m : Nat} {dd : Nat → List Int} (h : RdRows w a m dd) (hb : Below w.heap.size w w') : RdRows w' a m dd := fun j hj => by
  obtain ⟨b, off, aj, cj, e, hc, hn, hr⟩ := h j hj
  exact ⟨b, off, aj, cj, e, (hb.cell (p := ⟨b, off + j, none⟩) (cell_lt hc)).trans hc, hn, hr.below hb⟩
theorem RdT.below {w w' : World} {a : Option Addr} {m : Nat} {t : Nat → Int} (h : RdT w a m t) (hb : Below w.heap.size w w') : RdT w' a m t := fun j hj => by
  obtain ⟨b, off, e, hc, hw⟩ := h j hj
  exact ⟨b, off, e, (hb.cell (p := ⟨b, off + j, none⟩) (cell_lt hc)).trans hc, hw⟩

set_option maxHeartbeats 1000000 in
/-- 'zzBuildSegment'. -/
theorem build_any (u : Bool) (ap : Option Addr) (cp : Nat) (pre : List Int) (ta : Option Addr) (tl tc : Nat) (t : Nat → Int) (da : Option Addr) (dl dc : Nat) (dd : Nat → List Int) (m : Nat) (w : World)
    (hap : ap = none → cp = 0) (hP : Rd .u8 w ap pre) (hT : RdT w ta m t) (hD : RdRows w da m dd) (htl : m ≤ tl) (hdl : m ≤ dl) (hpl : pre.length ≤ 65536) (hm : m ≤ 4096) (hsum : sumL dd m ≤ 524288) :
    Calls Try.prog 15 #[.slice ap pre.length cp, .bool u, .slice ta tl tc, .slice da dl dc, .int .i64 m] w fun e w' => ∃ M v, e = .returned (.pointer (some ⟨M + 1, 0, none⟩)) ∧
      Seg w' w.heap.size M v (bB u pre t dd m) (bL u pre dd m) m (bG u pre t dd m) (bC u pre t dd m) (.slice none 0 0) [] ∧ Below w.heap.size w w' := by
  go_enter Try.func15, Try.ntmps15
  go_wp2_with fail
  refine (zzclone_any ap cp pre w hap hP (by omega)).mono ?_
  rintro e w1 ⟨a', c', rfl, _, ho, hb1⟩
  go_wp2_with fail
  refine (newSeg_any _ _ _ _).mono ?_
  rintro e w2 ⟨rfl, rfl⟩
  have hS0 := seg_new ho hb1.size
  have hb2 : Below w.heap.size w ((w1.alloc (.map #[] 0)).alloc (.cells #[.slice a' pre.length c', .map (some w1.heap.size), .int .i64 0] 40)) := (hb1.alloc hb1.size _).alloc (by simpa using Nat.le_succ_of_le hb1.size) _
  generalize (w1.alloc (.map #[] 0)).alloc (.cells #[.slice a' pre.length c', .map (some w1.heap.size), .int .i64 0] 40) = W2 at hS0 hb2
  generalize w1.heap.size = M at hS0
  clear ho hb1
  go_wp2
  go_loopw [12] (fun i wr => ∃ (k : Nat) (v : Value), k ≤ m ∧ i = .int .i64 k ∧ Seg wr w.heap.size M v (bB u pre t dd k) (bL u pre dd k) k (bG u pre t dd k) (bC u pre t dd k) (.slice none 0 0) [] ∧ Below w.heap.size w wr) (fun i _ => m - (intOf i).toNat)
  case atStart => exact ⟨0, _, Nat.zero_le _, rfl, hS0, hb2⟩
  case round =>
    obtain ⟨k, v, hk, rfl, hS, hb⟩ := hrel
    clear hS0 hb2
    by_cases hlt : k < m
    · have hlt' : (k : Int) < (m : Int) := by omega
      have hlt1 : (k : Int) < (tl : Int) := by omega
      have hlt2 : (k : Int) < (dl : Int) := by omega
      obtain ⟨b, off, rfl, hc, hw⟩ := hT k hlt
      obtain ⟨b', off', aj, cj, rfl, hc', hnj, hrj⟩ := hD k hlt
      have e1 : wr.drew.cell? ⟨b, off + k, none⟩ = some (.int .u32 (t k)) := (hb.cell (p := ⟨b, off + k, none⟩) (cell_lt hc)).trans hc
      have e2 : wr.drew.cell? ⟨b', off' + k, none⟩ = some (.slice aj (dd k).length cj) := (hb.cell (p := ⟨b', off' + k, none⟩) (cell_lt hc')).trans hc'
      have hln := bB_length (u := u) (pre := pre) (t := t) (dd := dd) k
      have hns := bN_sum (u := u) (pre := pre) (dd := dd) k
      have hsm := sumL_mono (dd := dd) (show k + 1 ≤ m by omega)
      simp only [sumL] at hsm
      have hLb := bL_bd (u := u) (pre := pre) (dd := dd) k
      have hA := zzadd_any u wr.drew w.heap.size M v _ _ k _ _ (t k) aj cj (dd k) hS.drew hw hnj ((hrj.below hb).below (Below.refl _ _).drew) hLb.1 (by omega) (by omega) (by omega)
      have hA' : Calls Try.prog 27 #[.bool u, .pointer (some ⟨M + 1, 0, none⟩), .int .u32 (t k), .slice aj (dd k).length cj] wr.drew fun e w' => e = .returned (.tuple #[]) ∧ (w'.cell? ⟨b, off + k, none⟩ = some (.int .u32 (t k)) ∧ w'.cell? ⟨b', off' + k, none⟩ = some (.slice aj (dd k).length cj)) ∧ (∃ v',
          Seg w' w.heap.size M v' (bB u pre t dd (k + 1)) (bL u pre dd (k + 1)) (k + 1) (bG u pre t dd (k + 1)) (bC u pre t dd (k + 1)) (.slice none 0 0) []) ∧ Below w.heap.size w w' := by
        refine hA.mono ?_
        rintro e w' ⟨he, v', hS', hB⟩
        have hbw : Below w.heap.size w w' := hb.drew.trans hB
        refine ⟨he, ⟨(hbw.cell (p := ⟨b, off + k, none⟩) (cell_lt hc)).trans hc, (hbw.cell (p := ⟨b', off' + k, none⟩) (cell_lt hc')).trans hc'⟩, ⟨v', ?_⟩, hbw⟩
        rw [hln] at hS'
        exact hS'
      clear hA hln hns hsm hLb hT hD hrj hc hc'
      go_wp2
      go_region_held3 (fun W => W.cell? ⟨b, off + k, none⟩ = some (.int .u32 (t k)) ∧ W.cell? ⟨b', off' + k, none⟩ = some (.slice aj (dd k).length cj)) (first | exact ⟨e1, e2⟩ | assumption)
        (first
          | (go_at_call 27; refine hA'.mono ?_; rintro e w' ⟨rfl, hK', ⟨v', hS'⟩, hB'⟩))
      go_wp2
      go_roundw
      case rel => exact ⟨k + 1, v', by omega, by go_num, hS', hB'⟩
      case measure => simp [intOf]; omega
    · have hkm : k = m := by omega
      subst hkm
      go_wp2
      go_ret
      exact ⟨M, v, rfl, hS, hb⟩
end Go.Proofs.Qxb6608607a
