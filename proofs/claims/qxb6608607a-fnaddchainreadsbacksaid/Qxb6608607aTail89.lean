/-
  The second loop of 'FnAddChainReadsBack': a round from the look-up on.
-/
import Derived.Test.Qxb6608607aTail92
namespace Go.Proofs.Qxb6608607a
open Go.RowKit Go.Maps

theorem drewn_below {B : Nat} {a w : World} (h : Below B a w) (n : Nat) : Below B (a.drewN n) w := ⟨h.os, h.tape, h.output, h.size, h.block⟩

set_option maxHeartbeats 8000000 in
set_option maxRecDepth 1000000 in
theorem tail89 (tb toff tl tc m M A Bk x : Nat) (ds nk K ga ca P S : Nat) (tx : Int) (wr : World) (Q : Exit → Act → World → Prop)
    (hQ : Hid (∀ a w, Kd (.slice (some ⟨tb, toff, none⟩) tl tc) (.int .i64 (m : Nat)) (.pointer (some ⟨M + 1, 0, none⟩)) (.slice (some ⟨A, 0, none⟩) m m) (.slice (some ⟨Bk, 0, none⟩) m m) (.int .i64 (ds : Nat)) (.int .i64 (x : Nat)) a → Below wr.heap.size wr w → Q .normal a w))
    (cx : wr.cell? ⟨tb, toff + x, none⟩ = some (.int .u32 tx)) (hxt : (x : Int) < (tl : Int)) (hxm : (x : Int) < (m : Int))
    (f1 : wr.cell? ⟨M + 1, 1, none⟩ = some (.map (some M)))
    (lk : ∀ n, (Instr.lookup 38 (.map (some M)) (.int .u32 tx) false).run Try.prog (wr.drewN n) = .ok (.slice (some ⟨ga, 0, none⟩) K ca) (wr.drewN n))
    (gk : (nk : Int) < (K : Int)) (va : wr.cell? ⟨ga, nk, none⟩ = some (.int .i64 (P : Nat)))
    (ca' : wr.cell? ⟨A, x, none⟩ = some (.int .i64 (P : Nat))) (cb : wr.cell? ⟨Bk, x, none⟩ = some (.int .i64 (S : Nat)))
    (da : Hid (∀ w, Below wr.heap.size wr w → Calls Try.prog 19 #[.pointer (some ⟨M + 1, 0, none⟩), .int .u32 tx, .int .i64 nk] w fun e w' => e = .returned (.int .i64 (S : Nat)) ∧ Below wr.heap.size wr w'))
    (q0 q1 q3 q4 q5 q6 q7 q8 q9 q10 q13 q14 q17 q18 q19 q20 q21 q22 q23 q24 q25 q26 q31 q32 q33 q34 q35 q36 q37 q38 q39 q40 q41 q42 q43 q44 q45 q46 q47 q48 q49 q50 q51 q52 q53 q54 q55 q56 q57 q58 q59 q60 q61 q62 q63 q64 q65 q66 q67 q68 q69 q70 q71 q72 q73 q74 q75 q76 q77 q78 q79 q80 q81 q82 q83 q84 q85 q86 q87 q88 q89 q90 q91 q92 q93 q94 q95 q96 q97 q98 q99 q100 q101 q102 q103 q104 q105 q106 q107 q108 q109 q110 q111 q112 q113 q114 q115 q116 q117 q118 q119 q120 q121 q122 q123 q124 q125 q126 q127 q128 q129 q130 q131 q132 q133 q134 q135 q136 q137 q138 q139 q140 q141 q142 q143 q144 q145 q146 q147 q148 q149 q150 q151 q152 q153 q154 q155 q156 q157 q158 q159 q160 q161 q162 q163 q164 q165 q166 q167 q168 q169 q170 q171 q172 q173 q174 q175 q176 q177 q178 q179 q180 q181 q182 q183 q184 q185 q186 q187 q188 q189 q190 q191 q192 q193 q194 q195 q196 q197 q198 q199 q200 q201 q202 q203 q204 q205 q206 q207 q208 q209 q210 q211 q212 q213 q214 q215 q216 q217 q218 q219 q220 q221 q222 q223 q224 q225 q226 q227 q228 q229 q230 q231 q232 q233 q234 q235 q236 q237 q238 q239 q240 q241 q242 q243 q244 q245 q246 q247 q248 q249 q250 q251 q252 q253 q254 q255 q256 q257 q258 q259 q260 q261 q262 q263 q264 q265 q266 q267 q268 q269 q270 q271 q272 q273 q274 q275 q276 q277 q278 q279 q280 q281 q282 q283 q284 q285 q286 q287 q288 q289 q290 q291 q292 q293 q294 q295 q296 q297 q298 q299 q300 q301 q302 q303 q304 q305 q306 q307 q308 q309 q310 q311 q312 q313 q314 q315 q316 q317 q318 q319 q320 q321 q322 q323 q324 q325 q326 q327 q328 q329 q330 q331 q332 q333 q334 q335 q336 q337 q338 q339 q340 q341 q342 q343 q344 q345 q346 q347 q348 q349 q350 q351 q352 q353 q354 q355 q356 q357 q358 q359 q360 q361 q362 q363 q364 q365 q366 q367 q368 q369 : Value) :
    Code.wp Try.prog ((tailAt 89 (((Try.f5.body.map loopsOf).getD []).getD 2 Code.skip)).getD Code.skip) Q
      ⟨List.toArray (q0 :: q1 :: (.slice (some ⟨tb, toff, none⟩) tl tc) :: q3 :: q4 :: q5 :: q6 :: q7 :: q8 :: q9 :: q10 :: (.int .i64 (m : Nat)) :: (.pointer (some ⟨M + 1, 0, none⟩)) :: q13 :: q14 :: (.slice (some ⟨A, 0, none⟩) m m) :: (.slice (some ⟨Bk, 0, none⟩) m m) :: q17 :: q18 :: q19 :: q20 :: q21 :: q22 :: q23 :: q24 :: q25 :: q26 :: (.int .i64 (ds : Nat)) :: (.int .i64 (x : Nat)) :: (.int .i64 (nk : Nat)) :: (.int .i64 (K : Nat)) :: q31 :: q32 :: q33 :: q34 :: q35 :: q36 :: q37 :: q38 :: q39 :: q40 :: q41 :: q42 :: q43 :: q44 :: q45 :: q46 :: q47 :: q48 :: q49 :: q50 :: q51 :: q52 :: q53 :: q54 :: q55 :: q56 :: q57 :: q58 :: q59 :: q60 :: q61 :: q62 :: q63 :: q64 :: q65 :: q66 :: q67 :: q68 :: q69 :: q70 :: q71 :: q72 :: q73 :: q74 :: q75 :: q76 :: q77 :: q78 :: q79 :: q80 :: q81 :: q82 :: q83 :: q84 :: q85 :: q86 :: q87 :: q88 :: q89 :: q90 :: q91 :: q92 :: q93 :: q94 :: q95 :: q96 :: q97 :: q98 :: q99 :: q100 :: q101 :: q102 :: q103 :: q104 :: q105 :: q106 :: q107 :: q108 :: q109 :: q110 :: q111 :: q112 :: q113 :: q114 :: q115 :: q116 :: q117 :: q118 :: q119 :: q120 :: q121 :: q122 :: q123 :: q124 :: q125 :: q126 :: q127 :: q128 :: q129 :: q130 :: q131 :: q132 :: q133 :: q134 :: q135 :: q136 :: q137 :: q138 :: q139 :: q140 :: q141 :: q142 :: q143 :: q144 :: q145 :: q146 :: q147 :: q148 :: q149 :: q150 :: q151 :: q152 :: q153 :: q154 :: q155 :: q156 :: q157 :: q158 :: q159 :: q160 :: q161 :: q162 :: q163 :: q164 :: q165 :: q166 :: q167 :: q168 :: q169 :: q170 :: q171 :: q172 :: q173 :: q174 :: q175 :: q176 :: q177 :: q178 :: q179 :: q180 :: q181 :: q182 :: q183 :: q184 :: q185 :: q186 :: q187 :: q188 :: q189 :: q190 :: q191 :: q192 :: q193 :: q194 :: q195 :: q196 :: q197 :: q198 :: q199 :: q200 :: q201 :: q202 :: q203 :: q204 :: q205 :: q206 :: q207 :: q208 :: q209 :: q210 :: q211 :: q212 :: q213 :: q214 :: q215 :: q216 :: q217 :: q218 :: q219 :: q220 :: q221 :: q222 :: q223 :: q224 :: q225 :: q226 :: q227 :: q228 :: q229 :: q230 :: q231 :: q232 :: q233 :: q234 :: q235 :: q236 :: q237 :: q238 :: q239 :: q240 :: q241 :: q242 :: q243 :: q244 :: q245 :: q246 :: q247 :: q248 :: q249 :: q250 :: q251 :: q252 :: q253 :: q254 :: q255 :: q256 :: q257 :: q258 :: q259 :: q260 :: q261 :: q262 :: q263 :: q264 :: q265 :: q266 :: q267 :: q268 :: q269 :: q270 :: q271 :: q272 :: q273 :: q274 :: q275 :: q276 :: q277 :: q278 :: q279 :: q280 :: q281 :: q282 :: q283 :: q284 :: q285 :: q286 :: q287 :: q288 :: q289 :: q290 :: q291 :: q292 :: q293 :: q294 :: q295 :: q296 :: q297 :: q298 :: q299 :: q300 :: q301 :: q302 :: q303 :: q304 :: q305 :: q306 :: q307 :: q308 :: q309 :: q310 :: q311 :: q312 :: q313 :: q314 :: q315 :: q316 :: q317 :: q318 :: q319 :: q320 :: q321 :: q322 :: q323 :: q324 :: q325 :: q326 :: q327 :: q328 :: q329 :: q330 :: q331 :: q332 :: q333 :: q334 :: q335 :: q336 :: q337 :: q338 :: q339 :: q340 :: q341 :: q342 :: q343 :: q344 :: q345 :: q346 :: q347 :: q348 :: q349 :: q350 :: q351 :: q352 :: q353 :: q354 :: q355 :: q356 :: q357 :: q358 :: q359 :: q360 :: q361 :: q362 :: q363 :: q364 :: q365 :: q366 :: q367 :: q368 :: q369 :: []), []⟩ wr := by
  conv => arg 2; whnf
  go_upto_region 89 with fail
  go_big_quiet (fail)
  go_upto_region 90 with fail
  go_big_quiet (fail)
  go_upto_if 350 with fail
  rename_i hK
  refine wp_cond_false rfl (wp_skip ?_)
  refine hK _ _ ?_
  apply tail92
  · exact fun a w ha hb => hQ.out a w ha ((below_drewn (below_drewn (Below.refl _ _) _) _).trans hb)
  · exact cx
  · exact hxt
  · exact hxm
  · exact cb
  · exact fun w hw => (da.out w ((below_drewn (below_drewn (Below.refl _ _) _) _).trans hw)).mono (fun e w' h => ⟨h.1, drewn_below (drewn_below h.2 _) _⟩)
end Go.Proofs.Qxb6608607a
