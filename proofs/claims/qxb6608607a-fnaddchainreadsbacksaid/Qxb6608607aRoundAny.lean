/-
  The main loop of 'FnAddPaddingShiftsOnlyByPad': each round, out of the two segments.
-/
import Derived.Test.Qxb6608607aLoop
namespace Go.Proofs.Qxb6608607a
open Go.RowKit Go.Maps

theorem Rd.sub {k : IntKind} {w : World} {a : Option Addr} {zs ys : List Int} (h : Rd k w a zs) (hl : ys.length ≤ zs.length) (he : ∀ j, j < ys.length → ys.getD j 0 = zs.getD j 0) : Rd k w a ys := by
  by_cases e : ys = []
  · exact .inl e
  · rcases h with h | ⟨b, off, ea, hc⟩
    · subst h; exact .inl (List.eq_nil_of_length_eq_zero (by simpa using hl))
    · exact .inr ⟨b, off, ea, fun j hj => by rw [he j hj]; exact hc j (by omega)⟩
theorem Rd.drewN {k : IntKind} {w : World} {a : Option Addr} {zs : List Int} (h : Rd k w a zs) (n : Nat) : Rd k (w.drewN n) a zs := h

theorem Seg.cells {w : World} {B M g L cv : Nat} {bs : List Int} {last : Int} {n : Nat} {G : Int → List Int} {c : Nat} {d : Value} {zs : List Int} (h : Seg w B M (.slice (some ⟨g, 0, none⟩) L cv) bs last n G c d zs) : ∀ j, j < bs.length → w.cell? ⟨g, j, none⟩ = some (.int .u8 (bs.getD j 0)) := by
  rcases h.own.shape with ⟨e, _⟩ | ⟨g', cap, e, _, _, _, _, hc⟩
  · cases e
  · cases e; exact hc
theorem Seg.part {w : World} {B M g L cv : Nat} {bs : List Int} {last : Int} {n : Nat} {G : Int → List Int} {c : Nat} {d : Value} {zs : List Int} (h : Seg w B M (.slice (some ⟨g, 0, none⟩) L cv) bs last n G c d zs) (q : Nat) (ys : List Int) (hl : q + ys.length ≤ bs.length) (he : ∀ j, j < ys.length → bs.getD (q + j) 0 = ys.getD j 0) : Rd .u8 w (some ⟨g, q, none⟩) ys :=
  .inr ⟨g, q, rfl, fun j hj => by rw [← he j hj]; exact h.cells _ (by omega)⟩

theorem dataAt_to {w w0 : World} {B M : Nat} {v : Value} {bs : List Int} {last : Int} {n : Nat} {G : Int → List Int} {c : Nat} (hS : Seg w0 B M v bs last n G c (.slice none 0 0) []) (hw0 : Below w0.heap.size w0 w) (hn : n < 100000) (typ : Int) (hw : (Lit.int .u32 typ).wf = true)
    (i o q : Nat) (x : Int) (hi : i < (G typ).length) (ho : (G typ).getD i 0 = (o : Int)) (hol : o + 24 ≤ bs.length) (hbl : bs.length ≤ 100000000) (hx0 : 0 ≤ x) (hx1 : x ≤ 1000000000) (hb : ∀ j, j < 8 → bs.getD (o + (16 + j)) 0 = (le64 x).getD j 0) (hq : (o : Int) - x = (q : Int)) :
    Calls Try.prog 19 #[.pointer (some ⟨M + 1, 0, none⟩), .int .u32 typ, .int .i64 i] w fun e w' => e = .returned (.int .i64 (q : Int)) ∧ Below w0.heap.size w0 w' := by
  refine (dataAt_any (hS.below hw0) hn typ hw i o x hi ho hol hbl hx0 hx1 (fun j hj => by rw [Nat.add_assoc]; exact hb j hj)).mono ?_
  rintro e w' ⟨he, hb'⟩
  exact ⟨by rw [he, hq], hw0.trans (hb'.mono hw0.size)⟩

theorem eq_to {w w0 : World} {a a' : Option Addr} {cap cap' n : Nat} {zs : List Int} (hw0 : Below w0.heap.size w0 w) (h : Rd .u8 w0 a zs) (h' : Rd .u8 w0 a' zs) (hl : zs.length ≤ 100000000) (hn : n = zs.length) :
    Calls Try.prog 9 #[.slice a n cap, .slice a' zs.length cap'] w fun e w' => e = .returned (.bool true) ∧ ∃ k, w' = w.drewN k := by
  subst hn
  exact eq_same a a' cap cap' zs w (h.below hw0) (h'.below hw0) hl

theorem shf_le {dd : Nat → List Int} : ∀ k, shf dd k ≤ k * 15
  | 0 => Nat.le_refl _
  | k + 1 => by
    have h1 := shf_le (dd := dd) k
    have h2 : padOf (dd k).length ≤ 15 := by unfold padOf; omega
    simp only [shf]
    omega

set_option maxHeartbeats 4000000 in
set_option maxRecDepth 1000000 in
theorem roundAny {a' : Option Addr} {pl c' tb toff tl tc db doff dl dc m M1 M2 g1 L1 cv1 g2 L2 cv2 : Nat} {t : Nat → Int} {dd : Nat → List Int} {pre : List Int} {W : World} {B1 B2 e1 e2 : Nat} {la1 la2 : Int}
    (hpl : pl = pre.length) (hL1 : L1 = bN false pre dd m) (hL2 : L2 = bN true pre dd m)
    (hS1 : Seg W B1 M1 (.slice (some ⟨g1, 0, none⟩) L1 cv1) (bB false pre t dd m) la1 m (bG false pre t dd m) e1 (.slice none 0 0) [])
    (hS2 : Seg W B2 M2 (.slice (some ⟨g2, 0, none⟩) L2 cv2) (bB true pre t dd m) la2 m (bG true pre t dd m) e2 (.slice none 0 0) [])
    (hT : RdT W (some ⟨tb, toff, none⟩) m t) (hD : RdRows W (some ⟨db, doff, none⟩) m dd) (hmt : m ≤ tl) (hmd : m ≤ dl) (hm : m ≤ 4096) (hsum : sumL dd m ≤ 524288) (hpre : pre.length ≤ 65536) (hcv1 : L1 ≤ cv1) (hcv2 : L2 ≤ cv2) :
    ∀ x a w (Q0 : Exit → Act → World → Prop), x < m → Kp (.slice a' pl c') (.slice (some ⟨tb, toff, none⟩) tl tc) (.slice (some ⟨db, doff, none⟩) dl dc) (.int .i64 (m : Nat)) (.pointer (some ⟨M1 + 1, 0, none⟩)) (.pointer (some ⟨M2 + 1, 0, none⟩)) (.slice (some ⟨g1, 0, none⟩) L1 cv1) (.slice (some ⟨g2, 0, none⟩) L2 cv2) (.int .i64 (shf dd x : Nat)) (.int .i64 (dis t x : Nat)) (.int .i64 ((x : Nat) : Int)) a → Below W.heap.size W w →
      (∀ b w', Kp (.slice a' pl c') (.slice (some ⟨tb, toff, none⟩) tl tc) (.slice (some ⟨db, doff, none⟩) dl dc) (.int .i64 (m : Nat)) (.pointer (some ⟨M1 + 1, 0, none⟩)) (.pointer (some ⟨M2 + 1, 0, none⟩)) (.slice (some ⟨g1, 0, none⟩) L1 cv1) (.slice (some ⟨g2, 0, none⟩) L2 cv2) (.int .i64 (shf dd (x + 1) : Nat)) (.int .i64 (dis t (x + 1) : Nat)) (.int .i64 ((x + 1 : Nat) : Int)) b → Below W.heap.size W w' → Q0 .normal b w') → Code.wp Try.prog (((Try.f6.body.map loopsOf).getD []).getD 2 Code.skip) Q0 a w := by
  intro x a w Q0 hx hk hb hE
  have S1 := hS1.below hb
  have S2 := hS2.below hb
  have T := hT.below hb
  have T' : ∀ i, i < m → w.cell? ⟨tb, toff + i, none⟩ = some (.int .u32 (t i)) := fun i hi => by
    obtain ⟨_, _, e, h, _⟩ := T i hi; cases e; exact h
  have hw : (Lit.int .u32 (t x)).wf = true := by obtain ⟨_, _, _, _, h⟩ := T x hx; exact h
  obtain ⟨b, off, aj, cj, e, cd, _, hRj⟩ := hD.below hb x hx
  cases e
  obtain ⟨D1, hD1, hm1⟩ := S1.grp
  obtain ⟨D2, hD2, hm2⟩ := S2.grp
  obtain ⟨ua, hlka, hoa, _, _, _⟩ := groups_look hD1 hm1 (by omega) (t x) hw
  obtain ⟨ub, hlkb, hob, _, _, _⟩ := groups_look hD2 hm2 (by omega) (t x) hw
  have q1 : occ t (t x) x < (bG false pre t dd m (t x)).length := by rw [bG_length]; exact occ_lt hx
  have q2 : occ t (t x) x < (bG true pre t dd m (t x)).length := by rw [bG_length]; exact occ_lt hx
  have g1v : (bG false pre t dd m (t x)).getD (occ t (t x) x) 0 = ((bP false pre dd x : Nat) : Int) := bG_get hx
  have g2v : (bG true pre t dd m (t x)).getD (occ t (t x) x) 0 = ((bP true pre dd x : Nat) : Int) := bG_get hx
  rcases ints_shape hoa with ⟨_, e0⟩ | ⟨ga, ca, rfl, _, _, _, _, hcella⟩
  · rw [e0] at q1; simp at q1
  rcases ints_shape hob with ⟨_, e0⟩ | ⟨gb, cb, rfl, _, _, _, _, hcellb⟩
  · rw [e0] at q2; simp at q2
  have va := hcella _ q1
  have vb := hcellb _ q2
  rw [g1v] at va
  rw [g2v] at vb
  have l1 := bB_length (u := false) (pre := pre) (t := t) (dd := dd) m
  have l2 := bB_length (u := true) (pre := pre) (t := t) (dd := dd) m
  have u1 := bP_hi (u := false) (pre := pre) (dd := dd) hx
  have u2 := bP_hi (u := true) (pre := pre) (dd := dd) hx
  have u3 := bN_sum (u := false) (pre := pre) (dd := dd) m
  have u4 := bN_sum (u := true) (pre := pre) (dd := dd) m
  have u5 := bN_pre (u := false) (pre := pre) (dd := dd) x
  have u6 := bN_pre (u := true) (pre := pre) (dd := dd) x
  have u7 : bP false pre dd x = bN false pre dd x + (dd x).length + padOf (dd x).length := rfl
  have u8 : bP true pre dd x = bN true pre dd x + (dd x).length := rfl
  have u9 := bP_shift (pre := pre) (dd := dd) x
  have u10 := bP_grid (pre := pre) (dd := dd) x
  have u11 : shf dd (x + 1) = shf dd x + padOf (dd x).length := rfl
  have u12 := shf_le (dd := dd) x
  have u13 : padOf (dd x).length ≤ 15 := by unfold padOf; omega
  have u14 := occ_le (t := t) (t x) x
  have u15 := dis_le (t := t) x
  have z1 : ∀ j, j < 8 → (bB false pre t dd m).getD (bP false pre dd x + (16 + j)) 0 = (le64 (((dd x).length : Int) + (padOf (dd x).length : Int))).getD j 0 := fun j hj => by
    rw [bB_desc hx (by omega), bD_size x j hj]; rfl
  have z2 : ∀ j, j < 8 → (bB true pre t dd m).getD (bP true pre dd x + (16 + j)) 0 = (le64 (((dd x).length : Int) + ((0 : Nat) : Int))).getD j 0 := fun j hj => by
    rw [bB_desc hx (by omega), bD_size x j hj]; rfl
  have A1 := S1.part (bN false pre dd x) (dd x) (by omega) (fun j hj => bB_data hx hj)
  have A2 := S2.part (bN true pre dd x) (dd x) (by omega) (fun j hj => bB_data hx hj)
  have Z : ∀ j, j < padOf (dd x).length → w.cell? ⟨g1, bN false pre dd x + (dd x).length + j, none⟩ = some (.int .u8 0) := fun j hj => by
    rw [S1.cells _ (by omega), bB_zero hx hj]
  rw [hk.lit]
  have hlen : (dd x).length ≤ 524288 := by have h1 := sumL_mono (dd := dd) (show x + 1 ≤ m by omega); simp only [sumL] at h1; omega
  apply round3 (t := t) (aj := aj) (cj := cj) (nn := (dd x).length) (pd := padOf (dd x).length) (nk := occ t (t x) x) (sh := shf dd x) (ds := dis t x) (s18 := shf dd (x + 1)) (HT := T') (cx := T' x hx) (hD := cd)
    (hxm' := by omega) (hxt := by omega) (hxd := by omega) (hx := by omega) (hX := hx) (hnk := rfl) (hds := rfl) (hsh := by omega) (hpd := rfl) (b1 := hlen) (b2 := by omega) (b3 := u13) (b4 := by omega)
  · intro z Q p3 p4 p5 p6 p7 p8 p12 p13 p14 p15 p24 p25 p26 p27 p28 p29 p30 p31 p32 p33 p34 p35 p36 p37 p38 p39 p40 p41 p42 p43 p44 p45 p46 p47 p48 p49 p50 p51 p52 p53 p54 p55 p56 p57 p58 p59 p60 p61 p62 p63 p64 p65 p66 p67 p68 p69 p70 p71 p72 p73 p74 p75 p76 p77 p78 p79 p80 p81 p82 p83 p84 p85 p86 p87 p88 p89 p90 p91 p92 p93 p94 p95 p96 p97 p98 p99 p100 p101 p102 p103 p104 p105 p106 p107 p108 p109 p110 p111 p112 p113 p114 p115 p116 p117 p118 p119 p120 p121 p122 p123 p124 p125 p126 p127 p128 p129 p130 p131 p132 p133 p134 p135 p136 p137 p138 p139 p140 p141 p142 p143 p144 p145 p146 p147 p148 p149 p150 p151 p152 p153 p154 p155 p156 p157 p158 p159 p160 p161 p162 p163 p164 p165 p166 p167 p168 p169 p170 p171 p172 p173 p174 p175 p176 p177 p178 p179 p180 p181 p182 p183 p184 p185 p186 p187 p188 p189 p190 p191 p192 p193 p194 p195 p196 p197 p198 p199 p200 p201 p202 p203 p204 p205 p206 p207 p208 p209 p210 p211 p212 p213 p214 p215 p216 p217 p218 p219 p220 p221 p222 p223 p224 p225 p226 p227 p228 p229 p230 p231 p232 p233 p234 p235 p236 p237 p238 p239 p240 p241 p242 p243 p244 p245 p246 p247 p248 p249 p250 p251 p252 p253 p254 p255 p256 p257 p258 p259 p260 p261 p262 p263 p264 p265 p266 p267 p268 p269 p270 p271 p272 p273 p274 p275 p276 p277 p278 p279 p280 p281 p282 p283 p284 p285 p286 p287 p288 p289 p290 p291 p292 p293 p294 p295 p296 p297 p298 p299 p300 p301 p302 p303 p304 p305 p306 p307 p308 p309 p310 p311 p312 p313 p314 p315 p316 p317 p318 p319 p320 p321 p322 p323 p324 p325 p326 p327 p328 p329 p330 p331 p332 p333 p334 p335 p336 p337 p338 hQ
    apply tail52 (tx := t x) (wr := w.drewN z) (aj := aj) (cj := cj) (P := bP false pre dd x) (U := bP true pre dd x) (Q1 := bN false pre dd x) (Q2 := bN true pre dd x) (ga := ga) (K1 := (bG false pre t dd m (t x)).length) (ca := ca) (gb := gb) (K2 := (bG true pre t dd m (t x)).length) (cb := cb) (E1 := bN false pre dd x + (dd x).length) (E2 := bN true pre dd x + (dd x).length)
      (cx := T' x hx) (hxt := by omega) (hxd := by omega) (f1 := S1.c1) (f2 := S2.c1) (lka := fun n => hlka _ rfl) (lkb := fun n => hlkb _ rfl) (gk1 := by omega) (gk2 := by omega) (va := va) (vb := vb)
      (s1 := by omega) (s2 := by omega) (s3 := by omega) (s4 := by omega) (r1 := by omega) (r2 := by omega) (r3 := by omega) (r4 := by omega) (r5 := by omega) (r6 := by rw [Int.tmod_eq_emod_of_nonneg (by omega)]; omega)
      (p1 := by omega) (p2 := by omega) (p3 := hcv1) (p4 := hcv2) (p5 := ⟨u13, rfl, rfl⟩)
    · exact fun a w' ha hb' => hQ a w' ha ((below_drewn (Below.refl _ w) z).trans hb')
    · exact fun n => dataAt_to (w0 := w.drewN z) (S1.below (below_drewn (Below.refl _ w) z)) (below_drewn (Below.refl _ _) n) (by omega) (t x) hw _ _ (bN false pre dd x) _ q1 g1v (by omega) (by omega) (by omega) (by omega) z1 (by omega)
    · exact fun w' hb' => dataAt_to (w0 := w.drewN z) (S2.below (below_drewn (Below.refl _ w) z)) hb' (by omega) (t x) hw _ _ (bN true pre dd x) _ q2 g2v (by omega) (by omega) (by omega) (by omega) z2 (by omega)
    · exact fun w' hb' => ⟨(hb'.cell (p := ⟨tb, toff + x, none⟩) (cell_lt (T' x hx))).trans (T' x hx), (hb'.cell (p := ⟨_, _, none⟩) (cell_lt cd)).trans cd⟩
    · exact fun w' hb' => eq_to (w0 := w.drewN z) hb' A1 hRj (by omega) (by omega)
    · exact fun w' hb' => eq_to (w0 := w.drewN z) hb' A2 hRj (by omega) (by omega)
    · exact fun w' hb' j hj => (hb'.cell (p := ⟨g1, _, none⟩) (cell_lt (Z j hj))).trans (Z j hj)
  · exact fun a w' ha hb' => hE a w' ha (hb.trans (hb'.mono hb.size))

end Go.Proofs.Qxb6608607a
