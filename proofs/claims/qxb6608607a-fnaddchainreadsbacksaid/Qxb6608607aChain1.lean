/-
  The chain's loop of 'FnAddChainReadsBack': one round.
-/
import Derived.Test.Qxb6608607aTail47
import Derived.Test.Qxb6608607aChainLoop
namespace Go.Proofs.Qxb6608607a
open Go.RowKit Go.Maps

set_option maxHeartbeats 8000000 in
set_option maxRecDepth 1000000 in
theorem chain1 (a' : Option Addr) (u : Bool) (pl c' tb toff tl tc db doff dl dc m M g L cv A Bk P x : Nat) (wr : World) (Q0 : Exit → Act → World → Prop)
    (tx ad : Int) (E S pv : Nat)
    (hR : Hid (∀ (z : Nat) (Q : Exit → Act → World → Prop) (p4 p5 p6 p7 p8 p9 p10 p14 p20 p21 p22 p23 p24 p25 p26 p27 p28 p29 p30 p31 p32 p33 p34 p35 p36 p37 p38 p39 p40 p41 p42 p43 p44 p45 p46 p47 p48 p49 p50 p51 p52 p53 p54 p55 p56 p57 p58 p59 p60 p61 p62 p63 p64 p65 p66 p67 p68 p69 p70 p71 p72 p73 p74 p75 p76 p77 p78 p79 p80 p81 p82 p83 p84 p85 p86 p87 p88 p89 p90 p91 p92 p93 p94 p95 p96 p97 p98 p99 p100 p101 p102 p103 p104 p105 p106 p107 p108 p109 p110 p111 p112 p113 p114 p115 p116 p117 p118 p119 p120 p121 p122 p123 p124 p125 p126 p127 p128 p129 p130 p131 p132 p133 p134 p135 p136 p137 p138 p139 p140 p141 p142 p143 p144 p145 p146 p147 p148 p149 p150 p151 p152 p153 p154 p155 p156 p157 p158 p159 p160 p161 p162 p163 p164 p165 p166 p167 p168 p169 p170 p171 p172 p173 p174 p175 p176 p177 p178 p179 p180 p181 p182 p183 p184 p185 p186 p187 p188 p189 p190 p191 p192 p193 p194 p195 p196 p197 p198 p199 p200 p201 p202 p203 p204 p205 p206 p207 p208 p209 p210 p211 p212 p213 p214 p215 p216 p217 p218 p219 p220 p221 p222 p223 p224 p225 p226 p227 p228 p229 p230 p231 p232 p233 p234 p235 p236 p237 p238 p239 p240 p241 p242 p243 p244 p245 p246 p247 p248 p249 p250 p251 p252 p253 p254 p255 p256 p257 p258 p259 p260 p261 p262 p263 p264 p265 p266 p267 p268 p269 p270 p271 p272 p273 p274 p275 p276 p277 p278 p279 p280 p281 p282 p283 p284 p285 p286 p287 p288 p289 p290 p291 p292 p293 p294 p295 p296 p297 p298 p299 p300 p301 p302 p303 p304 p305 p306 p307 p308 p309 p310 p311 p312 p313 p314 p315 p316 p317 p318 p319 p320 p321 p322 p323 p324 p325 p326 p327 p328 p329 p330 p331 p332 p333 p334 p335 p336 p337 p338 p339 p340 p341 p342 p343 p344 p345 p346 p347 p348 p349 p350 p351 p352 p353 p354 p355 p356 p357 p358 p359 p360 p361 p362 p363 p364 p365 p366 p367 p368 p369 : Value), (∀ a n, Kc (.slice a' pl c') (.bool u) (.slice (some ⟨tb, toff, none⟩) tl tc) (.slice (some ⟨db, doff, none⟩) dl dc) (.int .i64 (m : Nat)) (.pointer (some ⟨M + 1, 0, none⟩)) (.slice (some ⟨g, 0, none⟩) L cv) (.slice (some ⟨A, 0, none⟩) m m) (.slice (some ⟨Bk, 0, none⟩) m m) (.int .i64 ((if x = 0 then P else pv : Nat) : Int)) (.int .i64 (x : Nat)) a → Q .normal a (((wr.drewN n).setCell ⟨A, x, none⟩ (.int .i64 (P : Nat))).setCell ⟨Bk, x, none⟩ (.int .i64 (S : Nat)))) →
      Code.wp Try.prog ((tailAt 47 (((Try.f5.body.map loopsOf).getD []).getD 1 Code.skip)).getD Code.skip) Q ⟨List.toArray ((.slice a' pl c') :: (.bool u) :: (.slice (some ⟨tb, toff, none⟩) tl tc) :: (.slice (some ⟨db, doff, none⟩) dl dc) :: p4 :: p5 :: p6 :: p7 :: p8 :: p9 :: p10 :: (.int .i64 (m : Nat)) :: (.pointer (some ⟨M + 1, 0, none⟩)) :: (.slice (some ⟨g, 0, none⟩) L cv) :: p14 :: (.slice (some ⟨A, 0, none⟩) m m) :: (.slice (some ⟨Bk, 0, none⟩) m m) :: (.int .i64 (P : Nat)) :: (.int .i64 (x : Nat)) :: (.slice (some ⟨g, P, none⟩) 64 (cv - P)) :: p20 :: p21 :: p22 :: p23 :: p24 :: p25 :: p26 :: p27 :: p28 :: p29 :: p30 :: p31 :: p32 :: p33 :: p34 :: p35 :: p36 :: p37 :: p38 :: p39 :: p40 :: p41 :: p42 :: p43 :: p44 :: p45 :: p46 :: p47 :: p48 :: p49 :: p50 :: p51 :: p52 :: p53 :: p54 :: p55 :: p56 :: p57 :: p58 :: p59 :: p60 :: p61 :: p62 :: p63 :: p64 :: p65 :: p66 :: p67 :: p68 :: p69 :: p70 :: p71 :: p72 :: p73 :: p74 :: p75 :: p76 :: p77 :: p78 :: p79 :: p80 :: p81 :: p82 :: p83 :: p84 :: p85 :: p86 :: p87 :: p88 :: p89 :: p90 :: p91 :: p92 :: p93 :: p94 :: p95 :: p96 :: p97 :: p98 :: p99 :: p100 :: p101 :: p102 :: p103 :: p104 :: p105 :: p106 :: p107 :: p108 :: p109 :: p110 :: p111 :: p112 :: p113 :: p114 :: p115 :: p116 :: p117 :: p118 :: p119 :: p120 :: p121 :: p122 :: p123 :: p124 :: p125 :: p126 :: p127 :: p128 :: p129 :: p130 :: p131 :: p132 :: p133 :: p134 :: p135 :: p136 :: p137 :: p138 :: p139 :: p140 :: p141 :: p142 :: p143 :: p144 :: p145 :: p146 :: p147 :: p148 :: p149 :: p150 :: p151 :: p152 :: p153 :: p154 :: p155 :: p156 :: p157 :: p158 :: p159 :: p160 :: p161 :: p162 :: p163 :: p164 :: p165 :: p166 :: p167 :: p168 :: p169 :: p170 :: p171 :: p172 :: p173 :: p174 :: p175 :: p176 :: p177 :: p178 :: p179 :: p180 :: p181 :: p182 :: p183 :: p184 :: p185 :: p186 :: p187 :: p188 :: p189 :: p190 :: p191 :: p192 :: p193 :: p194 :: p195 :: p196 :: p197 :: p198 :: p199 :: p200 :: p201 :: p202 :: p203 :: p204 :: p205 :: p206 :: p207 :: p208 :: p209 :: p210 :: p211 :: p212 :: p213 :: p214 :: p215 :: p216 :: p217 :: p218 :: p219 :: p220 :: p221 :: p222 :: p223 :: p224 :: p225 :: p226 :: p227 :: p228 :: p229 :: p230 :: p231 :: p232 :: p233 :: p234 :: p235 :: p236 :: p237 :: p238 :: p239 :: p240 :: p241 :: p242 :: p243 :: p244 :: p245 :: p246 :: p247 :: p248 :: p249 :: p250 :: p251 :: p252 :: p253 :: p254 :: p255 :: p256 :: p257 :: p258 :: p259 :: p260 :: p261 :: p262 :: p263 :: p264 :: p265 :: p266 :: p267 :: p268 :: p269 :: p270 :: p271 :: p272 :: p273 :: p274 :: p275 :: p276 :: p277 :: p278 :: p279 :: p280 :: p281 :: p282 :: p283 :: p284 :: p285 :: p286 :: p287 :: p288 :: p289 :: p290 :: p291 :: p292 :: p293 :: p294 :: p295 :: p296 :: p297 :: p298 :: p299 :: p300 :: p301 :: p302 :: p303 :: p304 :: p305 :: p306 :: p307 :: p308 :: p309 :: p310 :: p311 :: p312 :: p313 :: p314 :: p315 :: p316 :: p317 :: p318 :: p319 :: p320 :: p321 :: p322 :: p323 :: p324 :: p325 :: p326 :: p327 :: p328 :: p329 :: p330 :: p331 :: p332 :: p333 :: p334 :: p335 :: p336 :: p337 :: p338 :: p339 :: p340 :: p341 :: p342 :: p343 :: p344 :: p345 :: p346 :: p347 :: p348 :: p349 :: p350 :: p351 :: p352 :: p353 :: p354 :: p355 :: p356 :: p357 :: p358 :: p359 :: p360 :: p361 :: p362 :: p363 :: p364 :: p365 :: p366 :: p367 :: p368 :: p369 :: []), []⟩ (wr.drewN z)))
    (hE : Hid (∀ a n, Kc (.slice a' pl c') (.bool u) (.slice (some ⟨tb, toff, none⟩) tl tc) (.slice (some ⟨db, doff, none⟩) dl dc) (.int .i64 (m : Nat)) (.pointer (some ⟨M + 1, 0, none⟩)) (.slice (some ⟨g, 0, none⟩) L cv) (.slice (some ⟨A, 0, none⟩) m m) (.slice (some ⟨Bk, 0, none⟩) m m) (.int .i64 ((if x = 0 then P else pv : Nat) : Int)) (.int .i64 ((x : Nat) - 1 : Int)) a → Q0 .normal a (((wr.drewN n).setCell ⟨A, x, none⟩ (.int .i64 (P : Nat))).setCell ⟨Bk, x, none⟩ (.int .i64 (S : Nat)))))
    (cx : wr.cell? ⟨tb, toff + x, none⟩ = some (.int .u32 tx)) (hxt : (x : Int) < (tl : Int))
    (sL : L ≤ 10000000) (r1 : (pl : Int) ≤ (P : Int)) (r2 : (P : Int) ≤ (L : Int) - 64) (hx : x < 4096)
    (e1 : IntKind.i64.wrap ((P : Int) + 64) = (E : Int)) (e2 : E - P = 64) (i2 : (P : Int) ≤ (E : Int)) (i3 : (E : Int) ≤ (cv : Int)) (i7 : ¬ cv = P) (i8 : (60 : Int) ≤ ((cv - P : Nat) : Int))
    (za : Hid (∀ w, Below wr.heap.size wr w → Calls Try.prog 10 #[.slice (some ⟨g, P, none⟩) 64 (cv - P), .int .i64 60] w fun e w' => e = .returned (.int .u32 ad) ∧ ∃ n, w' = w.drewN n))
    (zb : Hid (∀ w, Below wr.heap.size wr w → Calls Try.prog 17 #[.slice (some ⟨g, P, none⟩) 60 (cv - P)] w fun e w' => e = .returned (.int .u32 ad) ∧ ∃ n, w' = w.drewN n))
    (z0 : Hid (∀ w, Below wr.heap.size wr w → Calls Try.prog 10 #[.slice (some ⟨g, P, none⟩) 64 (cv - P), .int .i64 0] w fun e w' => e = .returned (.int .u32 tx) ∧ ∃ n, w' = w.drewN n))
    (z4 : Hid (∀ w, Below wr.heap.size wr w → Calls Try.prog 10 #[.slice (some ⟨g, P, none⟩) 64 (cv - P), .int .i64 4] w fun e w' => e = .returned (.int .u32 0) ∧ ∃ n, w' = w.drewN n))
    (z24 : Hid (∀ w, Below wr.heap.size wr w → Calls Try.prog 10 #[.slice (some ⟨g, P, none⟩) 64 (cv - P), .int .i64 24] w fun e w' => e = .returned (.int .u32 64) ∧ ∃ n, w' = w.drewN n))
    (hz : Hid (∀ j, j < 28 → wr.cell? ⟨g, P + (32 + j), none⟩ = some (.int .u8 0)))
    (q4 q5 q6 q7 q8 q9 q10 q14 q19 q20 q21 q22 q23 q24 q25 q26 q27 q28 q29 q30 q31 q32 q33 q34 q35 q36 q37 q38 q39 q40 q41 q42 q43 q44 q45 q46 q47 q48 q49 q50 q51 q52 q53 q54 q55 q56 q57 q58 q59 q60 q61 q62 q63 q64 q65 q66 q67 q68 q69 q70 q71 q72 q73 q74 q75 q76 q77 q78 q79 q80 q81 q82 q83 q84 q85 q86 q87 q88 q89 q90 q91 q92 q93 q94 q95 q96 q97 q98 q99 q100 q101 q102 q103 q104 q105 q106 q107 q108 q109 q110 q111 q112 q113 q114 q115 q116 q117 q118 q119 q120 q121 q122 q123 q124 q125 q126 q127 q128 q129 q130 q131 q132 q133 q134 q135 q136 q137 q138 q139 q140 q141 q142 q143 q144 q145 q146 q147 q148 q149 q150 q151 q152 q153 q154 q155 q156 q157 q158 q159 q160 q161 q162 q163 q164 q165 q166 q167 q168 q169 q170 q171 q172 q173 q174 q175 q176 q177 q178 q179 q180 q181 q182 q183 q184 q185 q186 q187 q188 q189 q190 q191 q192 q193 q194 q195 q196 q197 q198 q199 q200 q201 q202 q203 q204 q205 q206 q207 q208 q209 q210 q211 q212 q213 q214 q215 q216 q217 q218 q219 q220 q221 q222 q223 q224 q225 q226 q227 q228 q229 q230 q231 q232 q233 q234 q235 q236 q237 q238 q239 q240 q241 q242 q243 q244 q245 q246 q247 q248 q249 q250 q251 q252 q253 q254 q255 q256 q257 q258 q259 q260 q261 q262 q263 q264 q265 q266 q267 q268 q269 q270 q271 q272 q273 q274 q275 q276 q277 q278 q279 q280 q281 q282 q283 q284 q285 q286 q287 q288 q289 q290 q291 q292 q293 q294 q295 q296 q297 q298 q299 q300 q301 q302 q303 q304 q305 q306 q307 q308 q309 q310 q311 q312 q313 q314 q315 q316 q317 q318 q319 q320 q321 q322 q323 q324 q325 q326 q327 q328 q329 q330 q331 q332 q333 q334 q335 q336 q337 q338 q339 q340 q341 q342 q343 q344 q345 q346 q347 q348 q349 q350 q351 q352 q353 q354 q355 q356 q357 q358 q359 q360 q361 q362 q363 q364 q365 q366 q367 q368 q369 : Value) :
    Code.wp Try.prog (((Try.f5.body.map loopsOf).getD []).getD 1 Code.skip) Q0
      ⟨List.toArray ((.slice a' pl c') :: (.bool u) :: (.slice (some ⟨tb, toff, none⟩) tl tc) :: (.slice (some ⟨db, doff, none⟩) dl dc) :: q4 :: q5 :: q6 :: q7 :: q8 :: q9 :: q10 :: (.int .i64 (m : Nat)) :: (.pointer (some ⟨M + 1, 0, none⟩)) :: (.slice (some ⟨g, 0, none⟩) L cv) :: q14 :: (.slice (some ⟨A, 0, none⟩) m m) :: (.slice (some ⟨Bk, 0, none⟩) m m) :: (.int .i64 (P : Nat)) :: (.int .i64 (x : Nat)) :: q19 :: q20 :: q21 :: q22 :: q23 :: q24 :: q25 :: q26 :: q27 :: q28 :: q29 :: q30 :: q31 :: q32 :: q33 :: q34 :: q35 :: q36 :: q37 :: q38 :: q39 :: q40 :: q41 :: q42 :: q43 :: q44 :: q45 :: q46 :: q47 :: q48 :: q49 :: q50 :: q51 :: q52 :: q53 :: q54 :: q55 :: q56 :: q57 :: q58 :: q59 :: q60 :: q61 :: q62 :: q63 :: q64 :: q65 :: q66 :: q67 :: q68 :: q69 :: q70 :: q71 :: q72 :: q73 :: q74 :: q75 :: q76 :: q77 :: q78 :: q79 :: q80 :: q81 :: q82 :: q83 :: q84 :: q85 :: q86 :: q87 :: q88 :: q89 :: q90 :: q91 :: q92 :: q93 :: q94 :: q95 :: q96 :: q97 :: q98 :: q99 :: q100 :: q101 :: q102 :: q103 :: q104 :: q105 :: q106 :: q107 :: q108 :: q109 :: q110 :: q111 :: q112 :: q113 :: q114 :: q115 :: q116 :: q117 :: q118 :: q119 :: q120 :: q121 :: q122 :: q123 :: q124 :: q125 :: q126 :: q127 :: q128 :: q129 :: q130 :: q131 :: q132 :: q133 :: q134 :: q135 :: q136 :: q137 :: q138 :: q139 :: q140 :: q141 :: q142 :: q143 :: q144 :: q145 :: q146 :: q147 :: q148 :: q149 :: q150 :: q151 :: q152 :: q153 :: q154 :: q155 :: q156 :: q157 :: q158 :: q159 :: q160 :: q161 :: q162 :: q163 :: q164 :: q165 :: q166 :: q167 :: q168 :: q169 :: q170 :: q171 :: q172 :: q173 :: q174 :: q175 :: q176 :: q177 :: q178 :: q179 :: q180 :: q181 :: q182 :: q183 :: q184 :: q185 :: q186 :: q187 :: q188 :: q189 :: q190 :: q191 :: q192 :: q193 :: q194 :: q195 :: q196 :: q197 :: q198 :: q199 :: q200 :: q201 :: q202 :: q203 :: q204 :: q205 :: q206 :: q207 :: q208 :: q209 :: q210 :: q211 :: q212 :: q213 :: q214 :: q215 :: q216 :: q217 :: q218 :: q219 :: q220 :: q221 :: q222 :: q223 :: q224 :: q225 :: q226 :: q227 :: q228 :: q229 :: q230 :: q231 :: q232 :: q233 :: q234 :: q235 :: q236 :: q237 :: q238 :: q239 :: q240 :: q241 :: q242 :: q243 :: q244 :: q245 :: q246 :: q247 :: q248 :: q249 :: q250 :: q251 :: q252 :: q253 :: q254 :: q255 :: q256 :: q257 :: q258 :: q259 :: q260 :: q261 :: q262 :: q263 :: q264 :: q265 :: q266 :: q267 :: q268 :: q269 :: q270 :: q271 :: q272 :: q273 :: q274 :: q275 :: q276 :: q277 :: q278 :: q279 :: q280 :: q281 :: q282 :: q283 :: q284 :: q285 :: q286 :: q287 :: q288 :: q289 :: q290 :: q291 :: q292 :: q293 :: q294 :: q295 :: q296 :: q297 :: q298 :: q299 :: q300 :: q301 :: q302 :: q303 :: q304 :: q305 :: q306 :: q307 :: q308 :: q309 :: q310 :: q311 :: q312 :: q313 :: q314 :: q315 :: q316 :: q317 :: q318 :: q319 :: q320 :: q321 :: q322 :: q323 :: q324 :: q325 :: q326 :: q327 :: q328 :: q329 :: q330 :: q331 :: q332 :: q333 :: q334 :: q335 :: q336 :: q337 :: q338 :: q339 :: q340 :: q341 :: q342 :: q343 :: q344 :: q345 :: q346 :: q347 :: q348 :: q349 :: q350 :: q351 :: q352 :: q353 :: q354 :: q355 :: q356 :: q357 :: q358 :: q359 :: q360 :: q361 :: q362 :: q363 :: q364 :: q365 :: q366 :: q367 :: q368 :: q369 :: []), []⟩ wr := by
  conv => arg 2; whnf
  go_upto_region 38 with fail
  refine wp_region_quiet_lit (by kernel_rfl) (by kernel_rfl) ?_
  iterate 2 (go_big_quiet_step (exact Calls.quiet_of (za.out _ (below_drewn (Below.refl _ _) _))))
  iterate 4 (go_big_quiet_step (exact Calls.quiet_of (zb.out _ (below_drewn (Below.refl _ _) _))))
  refine wpQuiet_nil ?_
  intro wa hw'
  obtain ⟨n1, hw''⟩ := hw'
  have HW1 : Hid (∃ n, wa = wr.drewN n) := ⟨n1, hw''⟩
  have hB1 : Below wr.heap.size wr wa := by rw [hw'']; exact below_drewn (Below.refl _ _) _
  have cx1 : wa.cell? ⟨tb, toff + x, none⟩ = some (.int .u32 tx) := by rw [hw'']; exact cx
  have hz1 : Hid (∀ j, j < 28 → wa.cell? ⟨g, P + (32 + j), none⟩ = some (.int .u8 0)) := by rw [hw'']; exact hz
  clear hw'' cx hz
  go_upto_region 40 with fail
  refine wp_region_quiet_lit (by kernel_rfl) (by kernel_rfl) ?_
  iterate 2 (go_big_quiet_step (exact Calls.quiet_of (z0.out _ (below_drewn hB1 _))))
  iterate 8 (go_big_quiet_step (exact Calls.quiet_of (z4.out _ (below_drewn hB1 _))))
  iterate 7 (go_big_quiet_step (exact Calls.quiet_of (z24.out _ (below_drewn hB1 _))))
  refine wpQuiet_nil ?_
  intro _ hw'
  obtain ⟨n2, hw''⟩ := hw'
  subst hw''
  go_wp2
  go_loop [20] (fun i => ∃ y : Nat, y ≤ 28 ∧ i = .int .i64 ((32 + y : Nat) : Int)) (fun i => 60 - (intOf i).toNat)
  case atStart => exact ⟨0, Nat.zero_le _, rfl⟩
  case round =>
    obtain ⟨y, hy, rfl⟩ := hrel
    by_cases hlt : y < 28
    · have c0 := hz1.out y hlt
      have l1 : ((32 + y : Nat) : Int) < 60 := by omega
      have l2 : ((32 + y : Nat) : Int) < 64 := by omega
      generalize hv : 32 + y = v at *
      have HV : Hid (32 + y = v) := hv
      clear hv
      go_wp2
      go_round
      case rel => exact ⟨y + 1, by omega, by have := HV.out; rw [show 32 + (y + 1) = v + 1 by omega]; go_num⟩
      case measure => have := HV.out; simp [intOf]; omega
    · obtain rfl : y = 28 := by omega
      go_upto_if 187 with fail
      rename_i hK34 _ _ _ hK47 _ _ _ _
      refine wp_cond_false rfl (wp_exit ?_)
      obtain ⟨n3, rfl⟩ := HW1.out
      refine hK47 _ _ ?_
      rw [World.drewN_drewN]
      apply hR.out
      intro a n ha
      exact hK34 _ _ (dec34 hx ha (fun a' ha' => hE.out a' n ha'))
end Go.Proofs.Qxb6608607a
