/-
  The chain's loop of 'FnAddChainReadsBack': a round from the data's place on.
-/
import Derived.Test.Qxb6608607aBytes5
import Derived.Test.Qxb6608607aChainBits
import Derived.Test.Qxb6608607aZzAdler
import Derived.Test.Qxb6608607aRound
namespace Go.Proofs.Qxb6608607a
open Go.RowKit Go.Maps

/-- The slots that the chain's loop keeps. -/
def Kc (s0 s1 s2 s3 s11 s12 s13 s15 s16 s17 s18 : Value) (a : Act) : Prop :=
  a.defers = [] ∧ a.tmps.size = 370 ∧ a.tmps.getD 0 undef = s0 ∧ a.tmps.getD 1 undef = s1 ∧ a.tmps.getD 2 undef = s2 ∧ a.tmps.getD 3 undef = s3 ∧ a.tmps.getD 11 undef = s11 ∧ a.tmps.getD 12 undef = s12 ∧ a.tmps.getD 13 undef = s13 ∧ a.tmps.getD 15 undef = s15 ∧ a.tmps.getD 16 undef = s16 ∧ a.tmps.getD 17 undef = s17 ∧ a.tmps.getD 18 undef = s18

set_option maxHeartbeats 8000000 in
set_option maxRecDepth 1000000 in
theorem tail57 (a' : Option Addr) (u : Bool) (pl c' tb toff tl tc db doff dl dc m M g L cv A Bk P x : Nat) (wr : World) (Q : Exit → Act → World → Prop)
    (aj : Option Addr) (cj nn pd sz S F pv : Nat)
    (hQ : Hid (∀ a n, Kc (.slice a' pl c') (.bool u) (.slice (some ⟨tb, toff, none⟩) tl tc) (.slice (some ⟨db, doff, none⟩) dl dc) (.int .i64 (m : Nat)) (.pointer (some ⟨M + 1, 0, none⟩)) (.slice (some ⟨g, 0, none⟩) L cv) (.slice (some ⟨A, 0, none⟩) m m) (.slice (some ⟨Bk, 0, none⟩) m m) (.int .i64 ((if x = 0 then P else pv : Nat) : Int)) (.int .i64 (x : Nat)) a → Q .normal a (((wr.drewN n).setCell ⟨A, x, none⟩ (.int .i64 (P : Nat))).setCell ⟨Bk, x, none⟩ (.int .i64 (S : Nat)))))
    (cd : wr.cell? ⟨db, doff + x, none⟩ = some (.slice aj nn cj)) (hxd : (x : Int) < (dl : Int)) (hxm : (x : Int) < (m : Int))
    (va vb : Value) (ca : wr.cell? ⟨A, x, none⟩ = some va) (fa : wr.frozen? ⟨A, x, none⟩ = false) (cb : wr.cell? ⟨Bk, x, none⟩ = some vb) (fb : wr.frozen? ⟨Bk, x, none⟩ = false) 
    (hAB : Hid (A ≠ Bk)) (sL : P ≤ 10000000) (w1 : IntKind.i64.wrap (sz : Int) = (sz : Int)) (w2 : IntKind.i64.wrap ((P : Int) - (sz : Int)) = (S : Int)) (w3 : IntKind.i64.wrap ((S : Int) + (nn : Int)) = (F : Int))
    (i1 : (0 : Int) ≤ (S : Int)) (i2 : (S : Int) ≤ (F : Int)) (i3 : (F : Int) ≤ (cv : Int)) (i4 : ¬ cv = S) (hP : Hid (P = F + pd ∧ P ≤ L))
    (zq : Hid (∀ w, Below wr.heap.size wr w → Calls Try.prog 9 #[.slice (some ⟨g, S, none⟩) (F - S) (cv - S), .slice aj nn cj] w fun e w' => e = .returned (.bool true) ∧ ∃ n, w' = w.drewN n))
    (hz : Hid (∀ j, j < pd → wr.cell? ⟨g, F + j, none⟩ = some (.int .u8 0)))
    (zp : Hid (∀ w, Below wr.heap.size wr w → Calls Try.prog 18 #[.slice (some ⟨g, P, none⟩) 64 (cv - P), .int .i64 8] w fun e w' => e = .returned (.int .u64 (pv : Nat)) ∧ ∃ n, w' = w.drewN n))
    (h0 : Hid (x = 0 → pv = 0 ∧ S = pl)) (h1 : Hid (x ≠ 0 → pv ≤ P ∧ pv + 64 = S))
    (q4 q5 q6 q7 q8 q9 q10 q14 q20 q24 q25 q26 q27 q28 q29 q30 q31 q32 q33 q34 q35 q36 q37 q38 q39 q40 q41 q42 q43 q44 q45 q46 q47 q48 q49 q50 q51 q52 q53 q54 q55 q56 q57 q58 q59 q60 q61 q62 q63 q64 q65 q66 q67 q68 q69 q70 q71 q72 q73 q74 q75 q76 q77 q78 q79 q80 q81 q82 q83 q84 q85 q86 q87 q88 q89 q90 q91 q92 q93 q94 q95 q96 q97 q98 q99 q100 q101 q102 q103 q104 q105 q106 q107 q108 q109 q110 q111 q112 q113 q114 q115 q116 q117 q118 q119 q120 q121 q122 q123 q124 q125 q126 q127 q128 q129 q130 q131 q132 q133 q134 q135 q136 q137 q138 q139 q140 q141 q142 q143 q144 q145 q146 q147 q148 q149 q150 q151 q152 q153 q154 q155 q156 q157 q158 q159 q160 q161 q162 q163 q164 q165 q166 q167 q168 q169 q170 q171 q172 q173 q174 q175 q176 q177 q178 q179 q180 q181 q182 q183 q184 q185 q186 q187 q188 q189 q190 q191 q192 q193 q194 q195 q196 q197 q198 q199 q200 q201 q202 q203 q204 q205 q206 q207 q208 q209 q210 q211 q212 q213 q214 q215 q216 q217 q218 q219 q220 q221 q222 q223 q224 q225 q226 q227 q228 q229 q230 q231 q232 q233 q234 q235 q236 q237 q238 q239 q240 q241 q242 q243 q244 q245 q246 q247 q248 q249 q250 q251 q252 q253 q254 q255 q256 q257 q258 q259 q260 q261 q262 q263 q264 q265 q266 q267 q268 q269 q270 q271 q272 q273 q274 q275 q276 q277 q278 q279 q280 q281 q282 q283 q284 q285 q286 q287 q288 q289 q290 q291 q292 q293 q294 q295 q296 q297 q298 q299 q300 q301 q302 q303 q304 q305 q306 q307 q308 q309 q310 q311 q312 q313 q314 q315 q316 q317 q318 q319 q320 q321 q322 q323 q324 q325 q326 q327 q328 q329 q330 q331 q332 q333 q334 q335 q336 q337 q338 q339 q340 q341 q342 q343 q344 q345 q346 q347 q348 q349 q350 q351 q352 q353 q354 q355 q356 q357 q358 q359 q360 q361 q362 q363 q364 q365 q366 q367 q368 q369 : Value) :
    Code.wp Try.prog ((tailAt 57 (((Try.f5.body.map loopsOf).getD []).getD 1 Code.skip)).getD Code.skip) Q
      ⟨List.toArray ((.slice a' pl c') :: (.bool u) :: (.slice (some ⟨tb, toff, none⟩) tl tc) :: (.slice (some ⟨db, doff, none⟩) dl dc) :: q4 :: q5 :: q6 :: q7 :: q8 :: q9 :: q10 :: (.int .i64 (m : Nat)) :: (.pointer (some ⟨M + 1, 0, none⟩)) :: (.slice (some ⟨g, 0, none⟩) L cv) :: q14 :: (.slice (some ⟨A, 0, none⟩) m m) :: (.slice (some ⟨Bk, 0, none⟩) m m) :: (.int .i64 (P : Nat)) :: (.int .i64 (x : Nat)) :: (.slice (some ⟨g, P, none⟩) 64 (cv - P)) :: q20 :: (.int .u64 ((sz : Nat) : Int)) :: (.int .u64 ((pd : Nat) : Int)) :: (.int .u64 ((nn : Nat) : Int)) :: q24 :: q25 :: q26 :: q27 :: q28 :: q29 :: q30 :: q31 :: q32 :: q33 :: q34 :: q35 :: q36 :: q37 :: q38 :: q39 :: q40 :: q41 :: q42 :: q43 :: q44 :: q45 :: q46 :: q47 :: q48 :: q49 :: q50 :: q51 :: q52 :: q53 :: q54 :: q55 :: q56 :: q57 :: q58 :: q59 :: q60 :: q61 :: q62 :: q63 :: q64 :: q65 :: q66 :: q67 :: q68 :: q69 :: q70 :: q71 :: q72 :: q73 :: q74 :: q75 :: q76 :: q77 :: q78 :: q79 :: q80 :: q81 :: q82 :: q83 :: q84 :: q85 :: q86 :: q87 :: q88 :: q89 :: q90 :: q91 :: q92 :: q93 :: q94 :: q95 :: q96 :: q97 :: q98 :: q99 :: q100 :: q101 :: q102 :: q103 :: q104 :: q105 :: q106 :: q107 :: q108 :: q109 :: q110 :: q111 :: q112 :: q113 :: q114 :: q115 :: q116 :: q117 :: q118 :: q119 :: q120 :: q121 :: q122 :: q123 :: q124 :: q125 :: q126 :: q127 :: q128 :: q129 :: q130 :: q131 :: q132 :: q133 :: q134 :: q135 :: q136 :: q137 :: q138 :: q139 :: q140 :: q141 :: q142 :: q143 :: q144 :: q145 :: q146 :: q147 :: q148 :: q149 :: q150 :: q151 :: q152 :: q153 :: q154 :: q155 :: q156 :: q157 :: q158 :: q159 :: q160 :: q161 :: q162 :: q163 :: q164 :: q165 :: q166 :: q167 :: q168 :: q169 :: q170 :: q171 :: q172 :: q173 :: q174 :: q175 :: q176 :: q177 :: q178 :: q179 :: q180 :: q181 :: q182 :: q183 :: q184 :: q185 :: q186 :: q187 :: q188 :: q189 :: q190 :: q191 :: q192 :: q193 :: q194 :: q195 :: q196 :: q197 :: q198 :: q199 :: q200 :: q201 :: q202 :: q203 :: q204 :: q205 :: q206 :: q207 :: q208 :: q209 :: q210 :: q211 :: q212 :: q213 :: q214 :: q215 :: q216 :: q217 :: q218 :: q219 :: q220 :: q221 :: q222 :: q223 :: q224 :: q225 :: q226 :: q227 :: q228 :: q229 :: q230 :: q231 :: q232 :: q233 :: q234 :: q235 :: q236 :: q237 :: q238 :: q239 :: q240 :: q241 :: q242 :: q243 :: q244 :: q245 :: q246 :: q247 :: q248 :: q249 :: q250 :: q251 :: q252 :: q253 :: q254 :: q255 :: q256 :: q257 :: q258 :: q259 :: q260 :: q261 :: q262 :: q263 :: q264 :: q265 :: q266 :: q267 :: q268 :: q269 :: q270 :: q271 :: q272 :: q273 :: q274 :: q275 :: q276 :: q277 :: q278 :: q279 :: q280 :: q281 :: q282 :: q283 :: q284 :: q285 :: q286 :: q287 :: q288 :: q289 :: q290 :: q291 :: q292 :: q293 :: q294 :: q295 :: q296 :: q297 :: q298 :: q299 :: q300 :: q301 :: q302 :: q303 :: q304 :: q305 :: q306 :: q307 :: q308 :: q309 :: q310 :: q311 :: q312 :: q313 :: q314 :: q315 :: q316 :: q317 :: q318 :: q319 :: q320 :: q321 :: q322 :: q323 :: q324 :: q325 :: q326 :: q327 :: q328 :: q329 :: q330 :: q331 :: q332 :: q333 :: q334 :: q335 :: q336 :: q337 :: q338 :: q339 :: q340 :: q341 :: q342 :: q343 :: q344 :: q345 :: q346 :: q347 :: q348 :: q349 :: q350 :: q351 :: q352 :: q353 :: q354 :: q355 :: q356 :: q357 :: q358 :: q359 :: q360 :: q361 :: q362 :: q363 :: q364 :: q365 :: q366 :: q367 :: q368 :: q369 :: []), []⟩ wr := by
  conv => arg 2; whnf
  go_upto_region 58 with fail
  go_big_quiet ((exact Calls.quiet_of (zq.out _ (below_drewn (Below.refl _ _) _))))
  go_upto_region 60 with fail
  go_wp2
  go_loop [25] (fun i => ∃ j y : Nat, j ≤ pd ∧ y = F + j ∧ i = .int .i64 (y : Nat)) (fun i => P - (intOf i).toNat)
  case atStart => exact ⟨0, F, Nat.zero_le _, rfl, rfl⟩
  case round =>
    obtain ⟨j, y, hj, hy, rfl⟩ := hrel
    by_cases hlt : j < pd
    · have c0 := hz.out j hlt
      rw [← hy] at c0
      have l1 : (y : Int) < (P : Int) := by have := hP.out; omega
      have l2 : (y : Int) < (L : Int) := by have := hP.out; omega
      have l3 : y ≤ 10000000 := by omega
      have HY : Hid (y = F + j) := hy
      clear hy hj
      go_wp2
      go_round
      case rel => exact ⟨j + 1, y + 1, by omega, by have := HY.out; omega, by go_num⟩
      case measure => simp [intOf]; omega
    · have l1 : ¬ (y : Int) < (P : Int) := by have := hP.out; omega
      clear hj hy hlt
      clear i1 i2 i3 i4 w1 w2 w3
      go_wp2_with fail
      refine (zp.out _ (below_drewn (Below.refl _ _) _)).mono ?_
      rintro e w2 ⟨rfl, n2, rfl⟩
      have cb' : ((wr.drewN (nq + n2)).setCell ⟨A, x, none⟩ (.int .i64 (P : Nat))).cell? ⟨Bk, x, none⟩ = some vb := (grown_cell (grown_set (wr.drewN (nq + n2)) A x _) (cell_lt cb) (fun e => hAB.out (by cases e; rfl))).trans cb
      have fb' : ((wr.drewN (nq + n2)).setCell ⟨A, x, none⟩ (.int .i64 (P : Nat))).frozen? ⟨Bk, x, none⟩ = false := (grown_frozen (grown_set (wr.drewN (nq + n2)) A x _) (cell_lt cb) (fun e => hAB.out (by cases e; rfl))).trans fb
      go_upto_region 68 with fail
      clear ca fa cb fb cb' fb' cd hxd hxm
      by_cases hx0 : x = 0
      · obtain ⟨hv, hs⟩ := h0.out hx0
        have hq := hQ.out
        rw [if_pos hx0] at hq
        have HQ : Hid (∀ a n, Kc (.slice a' pl c') (.bool u) (.slice (some ⟨tb, toff, none⟩) tl tc) (.slice (some ⟨db, doff, none⟩) dl dc) (.int .i64 (m : Nat)) (.pointer (some ⟨M + 1, 0, none⟩)) (.slice (some ⟨g, 0, none⟩) L cv) (.slice (some ⟨A, 0, none⟩) m m) (.slice (some ⟨Bk, 0, none⟩) m m) (.int .i64 (P : Nat)) (.int .i64 (x : Nat)) a → Q .normal a (((wr.drewN n).setCell ⟨A, x, none⟩ (.int .i64 (P : Nat))).setCell ⟨Bk, x, none⟩ (.int .i64 (S : Nat)))) := hq
        have hx0' : (x : Int) = 0 := by omega
        clear hx0 hQ hq h0 h1
        subst hv hs
        go_wp2
        refine HQ.out _ _ ⟨rfl, rfl, rfl, rfl, rfl, rfl, rfl, rfl, rfl, rfl, rfl, rfl, ?_⟩
        rw [hx0']
        rfl
      · obtain ⟨hv, hs⟩ := h1.out hx0
        have hx0' : ¬ (x : Int) = 0 := by omega
        have w1 : IntKind.i64.wrap (pv : Int) = (pv : Int) := by rw [IntKind.wrap_i64]; omega
        have w2 : IntKind.i64.wrap ((pv : Int) + 64) = (S : Int) := by rw [IntKind.wrap_i64]; omega
        have hq := hQ.out
        rw [if_neg hx0] at hq
        have HQ : Hid (∀ a n, Kc (.slice a' pl c') (.bool u) (.slice (some ⟨tb, toff, none⟩) tl tc) (.slice (some ⟨db, doff, none⟩) dl dc) (.int .i64 (m : Nat)) (.pointer (some ⟨M + 1, 0, none⟩)) (.slice (some ⟨g, 0, none⟩) L cv) (.slice (some ⟨A, 0, none⟩) m m) (.slice (some ⟨Bk, 0, none⟩) m m) (.int .i64 (pv : Nat)) (.int .i64 (x : Nat)) a → Q .normal a (((wr.drewN n).setCell ⟨A, x, none⟩ (.int .i64 (P : Nat))).setCell ⟨Bk, x, none⟩ (.int .i64 (S : Nat)))) := hq
        clear hs hQ hx0 hq h0 h1
        go_wp2
        exact HQ.out _ _ ⟨rfl, rfl, rfl, rfl, rfl, rfl, rfl, rfl, rfl, rfl, rfl, rfl, rfl⟩
end Go.Proofs.Qxb6608607a
