/-
  The main loop of 'FnAddPaddingShiftsOnlyByPad': its end, and the loop.
-/
import Derived.Test.Qxb6608607aRound
namespace Go.Proofs.Qxb6608607a
open Go.RowKit Go.Maps

set_option maxHeartbeats 8000000 in
set_option maxRecDepth 1000000 in
theorem leave39lit (s0 s1 s2 s10 s11 s16 s17 s18 s19 : Value) (x : Nat) (w : World) (Q : Exit → Act → World → Prop)
    (hQ : Hid (∀ a', Kp s0 s1 s2 (.int .i64 (x : Nat)) s10 s11 s16 s17 s18 s19 (.int .i64 (x : Nat)) a' → Q (.exit 4) a' w)) (q3 q4 q5 q6 q7 q8 q12 q13 q14 q15 q21 q22 q23 q24 q25 q26 q27 q28 q29 q30 q31 q32 q33 q34 q35 q36 q37 q38 q39 q40 q41 q42 q43 q44 q45 q46 q47 q48 q49 q50 q51 q52 q53 q54 q55 q56 q57 q58 q59 q60 q61 q62 q63 q64 q65 q66 q67 q68 q69 q70 q71 q72 q73 q74 q75 q76 q77 q78 q79 q80 q81 q82 q83 q84 q85 q86 q87 q88 q89 q90 q91 q92 q93 q94 q95 q96 q97 q98 q99 q100 q101 q102 q103 q104 q105 q106 q107 q108 q109 q110 q111 q112 q113 q114 q115 q116 q117 q118 q119 q120 q121 q122 q123 q124 q125 q126 q127 q128 q129 q130 q131 q132 q133 q134 q135 q136 q137 q138 q139 q140 q141 q142 q143 q144 q145 q146 q147 q148 q149 q150 q151 q152 q153 q154 q155 q156 q157 q158 q159 q160 q161 q162 q163 q164 q165 q166 q167 q168 q169 q170 q171 q172 q173 q174 q175 q176 q177 q178 q179 q180 q181 q182 q183 q184 q185 q186 q187 q188 q189 q190 q191 q192 q193 q194 q195 q196 q197 q198 q199 q200 q201 q202 q203 q204 q205 q206 q207 q208 q209 q210 q211 q212 q213 q214 q215 q216 q217 q218 q219 q220 q221 q222 q223 q224 q225 q226 q227 q228 q229 q230 q231 q232 q233 q234 q235 q236 q237 q238 q239 q240 q241 q242 q243 q244 q245 q246 q247 q248 q249 q250 q251 q252 q253 q254 q255 q256 q257 q258 q259 q260 q261 q262 q263 q264 q265 q266 q267 q268 q269 q270 q271 q272 q273 q274 q275 q276 q277 q278 q279 q280 q281 q282 q283 q284 q285 q286 q287 q288 q289 q290 q291 q292 q293 q294 q295 q296 q297 q298 q299 q300 q301 q302 q303 q304 q305 q306 q307 q308 q309 q310 q311 q312 q313 q314 q315 q316 q317 q318 q319 q320 q321 q322 q323 q324 q325 q326 q327 q328 q329 q330 q331 q332 q333 q334 q335 q336 q337 q338 : Value) : Code.wp Try.prog (((Try.f6.body.map loopsOf).getD []).getD 2 Code.skip) Q ⟨List.toArray ((s0) :: (s1) :: (s2) :: q3 :: q4 :: q5 :: q6 :: q7 :: q8 :: (.int .i64 (x : Nat)) :: (s10) :: (s11) :: q12 :: q13 :: q14 :: q15 :: (s16) :: (s17) :: (s18) :: (s19) :: (.int .i64 (x : Nat)) :: q21 :: q22 :: q23 :: q24 :: q25 :: q26 :: q27 :: q28 :: q29 :: q30 :: q31 :: q32 :: q33 :: q34 :: q35 :: q36 :: q37 :: q38 :: q39 :: q40 :: q41 :: q42 :: q43 :: q44 :: q45 :: q46 :: q47 :: q48 :: q49 :: q50 :: q51 :: q52 :: q53 :: q54 :: q55 :: q56 :: q57 :: q58 :: q59 :: q60 :: q61 :: q62 :: q63 :: q64 :: q65 :: q66 :: q67 :: q68 :: q69 :: q70 :: q71 :: q72 :: q73 :: q74 :: q75 :: q76 :: q77 :: q78 :: q79 :: q80 :: q81 :: q82 :: q83 :: q84 :: q85 :: q86 :: q87 :: q88 :: q89 :: q90 :: q91 :: q92 :: q93 :: q94 :: q95 :: q96 :: q97 :: q98 :: q99 :: q100 :: q101 :: q102 :: q103 :: q104 :: q105 :: q106 :: q107 :: q108 :: q109 :: q110 :: q111 :: q112 :: q113 :: q114 :: q115 :: q116 :: q117 :: q118 :: q119 :: q120 :: q121 :: q122 :: q123 :: q124 :: q125 :: q126 :: q127 :: q128 :: q129 :: q130 :: q131 :: q132 :: q133 :: q134 :: q135 :: q136 :: q137 :: q138 :: q139 :: q140 :: q141 :: q142 :: q143 :: q144 :: q145 :: q146 :: q147 :: q148 :: q149 :: q150 :: q151 :: q152 :: q153 :: q154 :: q155 :: q156 :: q157 :: q158 :: q159 :: q160 :: q161 :: q162 :: q163 :: q164 :: q165 :: q166 :: q167 :: q168 :: q169 :: q170 :: q171 :: q172 :: q173 :: q174 :: q175 :: q176 :: q177 :: q178 :: q179 :: q180 :: q181 :: q182 :: q183 :: q184 :: q185 :: q186 :: q187 :: q188 :: q189 :: q190 :: q191 :: q192 :: q193 :: q194 :: q195 :: q196 :: q197 :: q198 :: q199 :: q200 :: q201 :: q202 :: q203 :: q204 :: q205 :: q206 :: q207 :: q208 :: q209 :: q210 :: q211 :: q212 :: q213 :: q214 :: q215 :: q216 :: q217 :: q218 :: q219 :: q220 :: q221 :: q222 :: q223 :: q224 :: q225 :: q226 :: q227 :: q228 :: q229 :: q230 :: q231 :: q232 :: q233 :: q234 :: q235 :: q236 :: q237 :: q238 :: q239 :: q240 :: q241 :: q242 :: q243 :: q244 :: q245 :: q246 :: q247 :: q248 :: q249 :: q250 :: q251 :: q252 :: q253 :: q254 :: q255 :: q256 :: q257 :: q258 :: q259 :: q260 :: q261 :: q262 :: q263 :: q264 :: q265 :: q266 :: q267 :: q268 :: q269 :: q270 :: q271 :: q272 :: q273 :: q274 :: q275 :: q276 :: q277 :: q278 :: q279 :: q280 :: q281 :: q282 :: q283 :: q284 :: q285 :: q286 :: q287 :: q288 :: q289 :: q290 :: q291 :: q292 :: q293 :: q294 :: q295 :: q296 :: q297 :: q298 :: q299 :: q300 :: q301 :: q302 :: q303 :: q304 :: q305 :: q306 :: q307 :: q308 :: q309 :: q310 :: q311 :: q312 :: q313 :: q314 :: q315 :: q316 :: q317 :: q318 :: q319 :: q320 :: q321 :: q322 :: q323 :: q324 :: q325 :: q326 :: q327 :: q328 :: q329 :: q330 :: q331 :: q332 :: q333 :: q334 :: q335 :: q336 :: q337 :: q338 :: []), []⟩ w := by
  conv => arg 2; whnf
  go_wp2
  exact hQ.out _ ⟨rfl, rfl, rfl, rfl, rfl, rfl, rfl, rfl, rfl, rfl, rfl, rfl, rfl⟩

theorem leave39 {s0 s1 s2 s10 s11 s16 s17 s18 s19 : Value} {x : Nat} {a : Act} {w : World} {Q : Exit → Act → World → Prop} (h : Kp s0 s1 s2 (.int .i64 (x : Nat)) s10 s11 s16 s17 s18 s19 (.int .i64 (x : Nat)) a)
    (hQ : Hid (∀ a', Kp s0 s1 s2 (.int .i64 (x : Nat)) s10 s11 s16 s17 s18 s19 (.int .i64 (x : Nat)) a' → Q (.exit 4) a' w)) : Code.wp Try.prog (((Try.f6.body.map loopsOf).getD []).getD 2 Code.skip) Q a w := by
  rw [h.lit]
  apply leave39lit
  exact hQ

theorem Kp.s20 {s0 s1 s2 s9 s10 s11 s16 s17 s18 s19 s20 : Value} {a : Act} (h : Kp s0 s1 s2 s9 s10 s11 s16 s17 s18 s19 s20 a) : a.tmps.getD 20 undef = s20 := h.2.2.2.2.2.2.2.2.2.2.2.2

theorem loop3 {s0 s1 s2 s10 s11 s16 s17 : Value} {m : Nat} {F D : Nat → Nat} {W : World} {a : Act} {w : World} {Q : Exit → Act → World → Prop}
    (h : Kp s0 s1 s2 (.int .i64 (m : Nat)) s10 s11 s16 s17 (.int .i64 (F 0 : Nat)) (.int .i64 (D 0 : Nat)) (.int .i64 ((0 : Nat) : Int)) a) (hb : Below W.heap.size W w)
    (hr : ∀ x a w (Q0 : Exit → Act → World → Prop), x < m → Kp s0 s1 s2 (.int .i64 (m : Nat)) s10 s11 s16 s17 (.int .i64 (F x : Nat)) (.int .i64 (D x : Nat)) (.int .i64 (x : Nat)) a → Below W.heap.size W w →
      (∀ a' w', Kp s0 s1 s2 (.int .i64 (m : Nat)) s10 s11 s16 s17 (.int .i64 (F (x + 1) : Nat)) (.int .i64 (D (x + 1) : Nat)) (.int .i64 ((x + 1 : Nat) : Int)) a' → Below W.heap.size W w' → Q0 .normal a' w') → Code.wp Try.prog (((Try.f6.body.map loopsOf).getD []).getD 2 Code.skip) Q0 a w)
    (hQ : ∀ a' w', Kp s0 s1 s2 (.int .i64 (m : Nat)) s10 s11 s16 s17 (.int .i64 (F m : Nat)) (.int .i64 (D m : Nat)) (.int .i64 (m : Nat)) a' → Below W.heap.size W w' → Q (.exit 4) a' w') :
    Code.wp Try.prog (Code.loop (((Try.f6.body.map loopsOf).getD []).getD 2 Code.skip)) Q a w := by
  refine wp_loop (fun a w => ∃ x, x ≤ m ∧ Kp s0 s1 s2 (.int .i64 (m : Nat)) s10 s11 s16 s17 (.int .i64 (F x : Nat)) (.int .i64 (D x : Nat)) (.int .i64 (x : Nat)) a ∧ Below W.heap.size W w) (fun a _ => m - (intOf (a.tmps.getD 20 undef)).toNat) ⟨0, Nat.zero_le _, h, hb⟩ ?_
  rintro a w ⟨x, hx, hk, hb⟩
  by_cases hlt : x < m
  · apply hr x a w _ hlt hk hb
    intro a' w' hk' hb'
    refine ⟨⟨x + 1, by omega, hk', hb'⟩, ?_⟩
    rw [hk'.s20, hk.s20]
    simp only [intOf]
    omega
  · obtain rfl : x = m := by omega
    exact leave39 hk (fun a' ha' => hQ a' w ha' hb)

end Go.Proofs.Qxb6608607a
