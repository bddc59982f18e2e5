/-
  The main loop of 'FnAddPaddingShiftsOnlyByPad': a round from the look-ups on.
-/
import Derived.Test.Qxb6608607aBytes6
import Derived.Test.Qxb6608607aCourse
import Derived.BigQuiet
import Derived.BigGuardPart
namespace Go.Proofs.Qxb6608607a
open Go.RowKit Go.Maps

/-- The loops of a text, in its order; those within a loop are not listed. -/
def loopsOf : Code → List Code
  | .loop c => [c]
  | .seq a b => loopsOf a ++ loopsOf b
  | .block _ c => loopsOf c
  | .scope c => loopsOf c
  | .cond _ a b => loopsOf a ++ loopsOf b
  | _ => []

/-- Is the text's first step the region of this number? -/
def headIs (n : Nat) : Code → Bool
  | .region k _ _ => k == n
  | .seq a _ => headIs n a
  | _ => false

/-- What is left of a text from the region of this number on. -/
def tailAt (n : Nat) : Code → Option Code
  | .seq a b => if headIs n a then some (.seq a b) else (tailAt n b).or (tailAt n a)
  | .block _ c => tailAt n c
  | _ => none

theorem below_drewn {B : Nat} {a w : World} (h : Below B a w) (n : Nat) : Below B a (w.drewN n) := ⟨h.os, h.tape, h.output, h.size, h.block⟩

/-- The slots that the main loop keeps. -/
def Kp (s0 s1 s2 s9 s10 s11 s16 s17 s18 s19 s20 : Value) (a : Act) : Prop :=
  a.defers = [] ∧ a.tmps.size = 339 ∧ a.tmps.getD 0 undef = s0 ∧ a.tmps.getD 1 undef = s1 ∧ a.tmps.getD 2 undef = s2 ∧ a.tmps.getD 9 undef = s9 ∧ a.tmps.getD 10 undef = s10 ∧ a.tmps.getD 11 undef = s11 ∧ a.tmps.getD 16 undef = s16 ∧ a.tmps.getD 17 undef = s17 ∧
  a.tmps.getD 18 undef = s18 ∧ a.tmps.getD 19 undef = s19 ∧ a.tmps.getD 20 undef = s20

set_option maxHeartbeats 8000000 in
set_option maxRecDepth 1000000 in
theorem tail52 (a' : Option Addr) (pl c' tb toff tl tc db doff dl dc m M1 M2 g1 L1 cv1 g2 L2 cv2 x s18 : Nat) (v19 : Value) (tx : Int) (wr : World) (Q : Exit → Act → World → Prop)
    (aj : Option Addr) (cj nn pd P U Q1 Q2 nk ga K1 ca gb K2 cb E1 E2 : Nat)
    (hQ : Hid (∀ a w, Kp (.slice a' pl c') (.slice (some ⟨tb, toff, none⟩) tl tc) (.slice (some ⟨db, doff, none⟩) dl dc) (.int .i64 (m : Nat)) (.pointer (some ⟨M1 + 1, 0, none⟩)) (.pointer (some ⟨M2 + 1, 0, none⟩)) (.slice (some ⟨g1, 0, none⟩) L1 cv1) (.slice (some ⟨g2, 0, none⟩) L2 cv2) (.int .i64 (s18 : Nat)) v19 (.int .i64 (x : Nat)) a → Below wr.heap.size wr w → Q .normal a w))
    (cx : wr.cell? ⟨tb, toff + x, none⟩ = some (.int .u32 tx)) (hxt : (x : Int) < (tl : Int)) (hxd : (x : Int) < (dl : Int))
    (f1 : wr.cell? ⟨M1 + 1, 1, none⟩ = some (.map (some M1))) (f2 : wr.cell? ⟨M2 + 1, 1, none⟩ = some (.map (some M2)))
    (lka : ∀ n, (Instr.lookup 38 (.map (some M1)) (.int .u32 tx) false).run Try.prog (wr.drewN n) = .ok (.slice (some ⟨ga, 0, none⟩) K1 ca) (wr.drewN n))
    (lkb : ∀ n, (Instr.lookup 38 (.map (some M2)) (.int .u32 tx) false).run Try.prog (wr.drewN n) = .ok (.slice (some ⟨gb, 0, none⟩) K2 cb) (wr.drewN n))
    (gk1 : (nk : Int) < (K1 : Int)) (gk2 : (nk : Int) < (K2 : Int)) (va : wr.cell? ⟨ga, nk, none⟩ = some (.int .i64 (P : Int))) (vb : wr.cell? ⟨gb, nk, none⟩ = some (.int .i64 (U : Int)))
    (s1 : L1 ≤ 10000000) (s2 : L2 ≤ 10000000) (s3 : P ≤ 10000000) (s4 : U ≤ 10000000)
    (r1 : (pl : Int) ≤ (P : Int)) (r2 : (pl : Int) ≤ (U : Int)) (r3 : (P : Int) ≤ (L1 : Int) - 64) (r4 : (U : Int) ≤ (L2 : Int) - 64) (r5 : (P : Int) - (U : Int) = (s18 : Int)) (r6 : Int.tmod ((P : Int) - (pl : Int)) 16 = 0)
    (p1 : (P : Int) - (nn : Int) - (pd : Int) = (Q1 : Int)) (p2 : (U : Int) - (nn : Int) = (Q2 : Int)) (p3 : L1 ≤ cv1) (p4 : L2 ≤ cv2) (p5 : Hid (pd ≤ 15 ∧ Q1 + nn = E1 ∧ Q2 + nn = E2))
    (da : Hid (∀ n, Calls Try.prog 19 #[.pointer (some ⟨M1 + 1, 0, none⟩), .int .u32 tx, .int .i64 nk] (wr.drewN n) fun e w' => e = .returned (.int .i64 (Q1 : Int)) ∧ Below wr.heap.size wr w'))
    (dB : Hid (∀ w, Below wr.heap.size wr w → Calls Try.prog 19 #[.pointer (some ⟨M2 + 1, 0, none⟩), .int .u32 tx, .int .i64 nk] w fun e w' => e = .returned (.int .i64 (Q2 : Int)) ∧ Below wr.heap.size wr w'))
    (ct : Hid (∀ w, Below wr.heap.size wr w → w.cell? ⟨tb, toff + x, none⟩ = some (.int .u32 tx) ∧ w.cell? ⟨db, doff + x, none⟩ = some (.slice aj nn cj)))
    (za : Hid (∀ w, Below wr.heap.size wr w → Calls Try.prog 9 #[.slice (some ⟨g1, Q1, none⟩) (E1 - Q1) (cv1 - Q1), .slice aj nn cj] w fun e w' => e = .returned (.bool true) ∧ ∃ n, w' = w.drewN n))
    (zb : Hid (∀ w, Below wr.heap.size wr w → Calls Try.prog 9 #[.slice (some ⟨g2, Q2, none⟩) (E2 - Q2) (cv2 - Q2), .slice aj nn cj] w fun e w' => e = .returned (.bool true) ∧ ∃ n, w' = w.drewN n))
    (hz : Hid (∀ w, Below wr.heap.size wr w → ∀ j, j < pd → w.cell? ⟨g1, E1 + j, none⟩ = some (.int .u8 0)))
    (q3 q4 q5 q6 q7 q8 q12 q13 q14 q15 q24 q25 q26 q27 q28 q29 q30 q31 q32 q33 q34 q35 q36 q37 q38 q39 q40 q41 q42 q43 q44 q45 q46 q47 q48 q49 q50 q51 q52 q53 q54 q55 q56 q57 q58 q59 q60 q61 q62 q63 q64 q65 q66 q67 q68 q69 q70 q71 q72 q73 q74 q75 q76 q77 q78 q79 q80 q81 q82 q83 q84 q85 q86 q87 q88 q89 q90 q91 q92 q93 q94 q95 q96 q97 q98 q99 q100 q101 q102 q103 q104 q105 q106 q107 q108 q109 q110 q111 q112 q113 q114 q115 q116 q117 q118 q119 q120 q121 q122 q123 q124 q125 q126 q127 q128 q129 q130 q131 q132 q133 q134 q135 q136 q137 q138 q139 q140 q141 q142 q143 q144 q145 q146 q147 q148 q149 q150 q151 q152 q153 q154 q155 q156 q157 q158 q159 q160 q161 q162 q163 q164 q165 q166 q167 q168 q169 q170 q171 q172 q173 q174 q175 q176 q177 q178 q179 q180 q181 q182 q183 q184 q185 q186 q187 q188 q189 q190 q191 q192 q193 q194 q195 q196 q197 q198 q199 q200 q201 q202 q203 q204 q205 q206 q207 q208 q209 q210 q211 q212 q213 q214 q215 q216 q217 q218 q219 q220 q221 q222 q223 q224 q225 q226 q227 q228 q229 q230 q231 q232 q233 q234 q235 q236 q237 q238 q239 q240 q241 q242 q243 q244 q245 q246 q247 q248 q249 q250 q251 q252 q253 q254 q255 q256 q257 q258 q259 q260 q261 q262 q263 q264 q265 q266 q267 q268 q269 q270 q271 q272 q273 q274 q275 q276 q277 q278 q279 q280 q281 q282 q283 q284 q285 q286 q287 q288 q289 q290 q291 q292 q293 q294 q295 q296 q297 q298 q299 q300 q301 q302 q303 q304 q305 q306 q307 q308 q309 q310 q311 q312 q313 q314 q315 q316 q317 q318 q319 q320 q321 q322 q323 q324 q325 q326 q327 q328 q329 q330 q331 q332 q333 q334 q335 q336 q337 q338 : Value) :
    Code.wp Try.prog ((tailAt 52 (((Try.f6.body.map loopsOf).getD []).getD 2 Code.skip)).getD Code.skip) Q
      ⟨List.toArray ((.slice a' pl c') :: (.slice (some ⟨tb, toff, none⟩) tl tc) :: (.slice (some ⟨db, doff, none⟩) dl dc) :: q3 :: q4 :: q5 :: q6 :: q7 :: q8 :: (.int .i64 (m : Nat)) :: (.pointer (some ⟨M1 + 1, 0, none⟩)) :: (.pointer (some ⟨M2 + 1, 0, none⟩)) :: q12 :: q13 :: q14 :: q15 :: (.slice (some ⟨g1, 0, none⟩) L1 cv1) :: (.slice (some ⟨g2, 0, none⟩) L2 cv2) :: (.int .i64 (s18 : Nat)) :: (v19) :: (.int .i64 (x : Nat)) :: (.int .i64 (nn : Nat)) :: (.int .i64 (pd : Nat)) :: (.int .i64 (nk : Nat)) :: q24 :: q25 :: q26 :: q27 :: q28 :: q29 :: q30 :: q31 :: q32 :: q33 :: q34 :: q35 :: q36 :: q37 :: q38 :: q39 :: q40 :: q41 :: q42 :: q43 :: q44 :: q45 :: q46 :: q47 :: q48 :: q49 :: q50 :: q51 :: q52 :: q53 :: q54 :: q55 :: q56 :: q57 :: q58 :: q59 :: q60 :: q61 :: q62 :: q63 :: q64 :: q65 :: q66 :: q67 :: q68 :: q69 :: q70 :: q71 :: q72 :: q73 :: q74 :: q75 :: q76 :: q77 :: q78 :: q79 :: q80 :: q81 :: q82 :: q83 :: q84 :: q85 :: q86 :: q87 :: q88 :: q89 :: q90 :: q91 :: q92 :: q93 :: q94 :: q95 :: q96 :: q97 :: q98 :: q99 :: q100 :: q101 :: q102 :: q103 :: q104 :: q105 :: q106 :: q107 :: q108 :: q109 :: q110 :: q111 :: q112 :: q113 :: q114 :: q115 :: q116 :: q117 :: q118 :: q119 :: q120 :: q121 :: q122 :: q123 :: q124 :: q125 :: q126 :: q127 :: q128 :: q129 :: q130 :: q131 :: q132 :: q133 :: q134 :: q135 :: q136 :: q137 :: q138 :: q139 :: q140 :: q141 :: q142 :: q143 :: q144 :: q145 :: q146 :: q147 :: q148 :: q149 :: q150 :: q151 :: q152 :: q153 :: q154 :: q155 :: q156 :: q157 :: q158 :: q159 :: q160 :: q161 :: q162 :: q163 :: q164 :: q165 :: q166 :: q167 :: q168 :: q169 :: q170 :: q171 :: q172 :: q173 :: q174 :: q175 :: q176 :: q177 :: q178 :: q179 :: q180 :: q181 :: q182 :: q183 :: q184 :: q185 :: q186 :: q187 :: q188 :: q189 :: q190 :: q191 :: q192 :: q193 :: q194 :: q195 :: q196 :: q197 :: q198 :: q199 :: q200 :: q201 :: q202 :: q203 :: q204 :: q205 :: q206 :: q207 :: q208 :: q209 :: q210 :: q211 :: q212 :: q213 :: q214 :: q215 :: q216 :: q217 :: q218 :: q219 :: q220 :: q221 :: q222 :: q223 :: q224 :: q225 :: q226 :: q227 :: q228 :: q229 :: q230 :: q231 :: q232 :: q233 :: q234 :: q235 :: q236 :: q237 :: q238 :: q239 :: q240 :: q241 :: q242 :: q243 :: q244 :: q245 :: q246 :: q247 :: q248 :: q249 :: q250 :: q251 :: q252 :: q253 :: q254 :: q255 :: q256 :: q257 :: q258 :: q259 :: q260 :: q261 :: q262 :: q263 :: q264 :: q265 :: q266 :: q267 :: q268 :: q269 :: q270 :: q271 :: q272 :: q273 :: q274 :: q275 :: q276 :: q277 :: q278 :: q279 :: q280 :: q281 :: q282 :: q283 :: q284 :: q285 :: q286 :: q287 :: q288 :: q289 :: q290 :: q291 :: q292 :: q293 :: q294 :: q295 :: q296 :: q297 :: q298 :: q299 :: q300 :: q301 :: q302 :: q303 :: q304 :: q305 :: q306 :: q307 :: q308 :: q309 :: q310 :: q311 :: q312 :: q313 :: q314 :: q315 :: q316 :: q317 :: q318 :: q319 :: q320 :: q321 :: q322 :: q323 :: q324 :: q325 :: q326 :: q327 :: q328 :: q329 :: q330 :: q331 :: q332 :: q333 :: q334 :: q335 :: q336 :: q337 :: q338 :: []), []⟩ wr := by
  conv => arg 2; whnf
  go_upto_region 52 with fail
  go_big_quiet (fail)
  go_upto_region 53 with fail
  go_big_quiet (fail)
  go_wp2_with fail
  refine (da.out _).mono ?_
  rintro e w2 ⟨rfl, hB2⟩
  obtain ⟨ct2, cd2⟩ := ct.out _ hB2
  go_wp2_with fail
  refine (dB.out _ hB2).mono ?_
  rintro e w3 ⟨rfl, hB3⟩
  obtain ⟨ct3, cd3⟩ := ct.out _ hB3
  go_upto_region 66 with fail
  have hP : P = E1 + pd ∧ P ≤ L1 := by have := p5.out; omega
  have HP : Hid (P = E1 + pd ∧ P ≤ L1) := hP
  have n1 : Q1 + nn ≤ 10000000 ∧ Q2 + nn ≤ 10000000 ∧ Q1 + nn = E1 ∧ Q2 + nn = E2 ∧ E1 + 64 ≤ L1 ∧ E2 + 64 ≤ L2 := by have := p5.out; omega
  clear hP r1 r2 r3 r4 r5 r6 p1 p2 gk1 gk2
  obtain ⟨n1, n2, n3, n4, n5, n6⟩ := n1
  have k1 : IntKind.i64.wrap ((Q1 : Int) + (nn : Int)) = (E1 : Int) := by rw [IntKind.wrap_i64]; omega
  have k2 : IntKind.i64.wrap ((Q2 : Int) + (nn : Int)) = (E2 : Int) := by rw [IntKind.wrap_i64]; omega
  have i1 : (0 : Int) ≤ (Q1 : Int) := by omega
  have i2 : (Q1 : Int) ≤ (E1 : Int) := by omega
  have i3 : (E1 : Int) ≤ (cv1 : Int) := by omega
  have i7 : ¬ cv1 = Q1 := by omega
  have j1 : (0 : Int) ≤ (Q2 : Int) := by omega
  have j2 : (Q2 : Int) ≤ (E2 : Int) := by omega
  have j3 : (E2 : Int) ≤ (cv2 : Int) := by omega
  have j7 : ¬ cv2 = Q2 := by omega
  clear n1 n2 n3 n4 n5 n6 p3 p4
  refine wp_region_quiet_lit (by kernel_rfl) (by kernel_rfl) ?_
  iterate 11 (go_big_quiet_step (exact Calls.quiet_of (za.out _ (below_drewn hB3 _))))
  iterate 15 (go_big_quiet_step (exact Calls.quiet_of (zb.out _ (below_drewn hB3 _))))
  refine wpQuiet_nil ?_
  intro _ hw'
  obtain ⟨nq, hw''⟩ := hw'
  subst hw''
  go_wp2
  clear k1 k2 i1 i2 i3 i7 j1 j2 j3 j7
  go_loop [31] (fun i => ∃ j y : Nat, j ≤ pd ∧ y = E1 + j ∧ i = .int .i64 (y : Nat)) (fun i => P - (intOf i).toNat)
  case atStart => exact ⟨0, E1, Nat.zero_le _, rfl, rfl⟩
  case round =>
    obtain ⟨j, y, hj, hy, rfl⟩ := hrel
    obtain ⟨hp1, hp2⟩ := HP.out
    by_cases hlt : j < pd
    · have c0 := hz.out _ hB3 j hlt
      rw [← hy] at c0
      have l1 : (y : Int) < (P : Int) := by omega
      have l2 : (y : Int) < (L1 : Int) := by omega
      have l3 : y ≤ 10000000 := by omega
      have HY : Hid (y = E1 + j) := hy
      clear hy hp1 hp2 hj
      go_wp2
      go_round
      case rel => exact ⟨j + 1, y + 1, by omega, by have := HY.out; omega, by go_num⟩
      case measure => simp [intOf]; omega
    · have l1 : ¬ (y : Int) < (P : Int) := by omega
      clear hp1 hp2 hj hy hlt
      go_wp2
      exact hQ.out _ _ ⟨rfl, rfl, rfl, rfl, rfl, rfl, rfl, rfl, rfl, rfl, rfl, rfl, rfl⟩ (below_drewn hB3 _)
end Go.Proofs.Qxb6608607a
