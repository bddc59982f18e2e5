/-
  The second loop of 'FnAddChainReadsBack': one round.
-/
import Derived.Test.Qxb6608607aLoopD
import Derived.Test.Qxb6608607aTail89
namespace Go.Proofs.Qxb6608607a
open Go.RowKit Go.Maps

theorem hid_of {p : Prop} (h : p) : Hid p := h

set_option maxHeartbeats 8000000 in
set_option maxRecDepth 1000000 in
theorem roundD (tb toff tl tc m M A Bk x : Nat) (t : Nat → Int) (ds nk K : Nat) (wr : World) (Q0 : Exit → Act → World → Prop)
    (hR : Hid (∀ (z : Nat) (Q : Exit → Act → World → Prop) (p0 p1 p3 p4 p5 p6 p7 p8 p9 p10 p13 p14 p17 p18 p19 p20 p21 p22 p23 p24 p25 p26 p31 p32 p33 p34 p35 p36 p37 p38 p39 p40 p41 p42 p43 p44 p45 p46 p47 p48 p49 p50 p51 p52 p53 p54 p55 p56 p57 p58 p59 p60 p61 p62 p63 p64 p65 p66 p67 p68 p69 p70 p71 p72 p73 p74 p75 p76 p77 p78 p79 p80 p81 p82 p83 p84 p85 p86 p87 p88 p89 p90 p91 p92 p93 p94 p95 p96 p97 p98 p99 p100 p101 p102 p103 p104 p105 p106 p107 p108 p109 p110 p111 p112 p113 p114 p115 p116 p117 p118 p119 p120 p121 p122 p123 p124 p125 p126 p127 p128 p129 p130 p131 p132 p133 p134 p135 p136 p137 p138 p139 p140 p141 p142 p143 p144 p145 p146 p147 p148 p149 p150 p151 p152 p153 p154 p155 p156 p157 p158 p159 p160 p161 p162 p163 p164 p165 p166 p167 p168 p169 p170 p171 p172 p173 p174 p175 p176 p177 p178 p179 p180 p181 p182 p183 p184 p185 p186 p187 p188 p189 p190 p191 p192 p193 p194 p195 p196 p197 p198 p199 p200 p201 p202 p203 p204 p205 p206 p207 p208 p209 p210 p211 p212 p213 p214 p215 p216 p217 p218 p219 p220 p221 p222 p223 p224 p225 p226 p227 p228 p229 p230 p231 p232 p233 p234 p235 p236 p237 p238 p239 p240 p241 p242 p243 p244 p245 p246 p247 p248 p249 p250 p251 p252 p253 p254 p255 p256 p257 p258 p259 p260 p261 p262 p263 p264 p265 p266 p267 p268 p269 p270 p271 p272 p273 p274 p275 p276 p277 p278 p279 p280 p281 p282 p283 p284 p285 p286 p287 p288 p289 p290 p291 p292 p293 p294 p295 p296 p297 p298 p299 p300 p301 p302 p303 p304 p305 p306 p307 p308 p309 p310 p311 p312 p313 p314 p315 p316 p317 p318 p319 p320 p321 p322 p323 p324 p325 p326 p327 p328 p329 p330 p331 p332 p333 p334 p335 p336 p337 p338 p339 p340 p341 p342 p343 p344 p345 p346 p347 p348 p349 p350 p351 p352 p353 p354 p355 p356 p357 p358 p359 p360 p361 p362 p363 p364 p365 p366 p367 p368 p369 : Value), (∀ a w, Kd (.slice (some ⟨tb, toff, none⟩) tl tc) (.int .i64 (m : Nat)) (.pointer (some ⟨M + 1, 0, none⟩)) (.slice (some ⟨A, 0, none⟩) m m) (.slice (some ⟨Bk, 0, none⟩) m m) (.int .i64 ((dis t (x + 1) : Nat) : Int)) (.int .i64 (x : Nat)) a → Below wr.heap.size wr w → Q .normal a w) →
      Code.wp Try.prog ((tailAt 89 (((Try.f5.body.map loopsOf).getD []).getD 2 Code.skip)).getD Code.skip) Q ⟨List.toArray (p0 :: p1 :: (.slice (some ⟨tb, toff, none⟩) tl tc) :: p3 :: p4 :: p5 :: p6 :: p7 :: p8 :: p9 :: p10 :: (.int .i64 (m : Nat)) :: (.pointer (some ⟨M + 1, 0, none⟩)) :: p13 :: p14 :: (.slice (some ⟨A, 0, none⟩) m m) :: (.slice (some ⟨Bk, 0, none⟩) m m) :: p17 :: p18 :: p19 :: p20 :: p21 :: p22 :: p23 :: p24 :: p25 :: p26 :: (.int .i64 ((dis t (x + 1) : Nat) : Int)) :: (.int .i64 (x : Nat)) :: (.int .i64 (nk : Nat)) :: (.int .i64 (K : Nat)) :: p31 :: p32 :: p33 :: p34 :: p35 :: p36 :: p37 :: p38 :: p39 :: p40 :: p41 :: p42 :: p43 :: p44 :: p45 :: p46 :: p47 :: p48 :: p49 :: p50 :: p51 :: p52 :: p53 :: p54 :: p55 :: p56 :: p57 :: p58 :: p59 :: p60 :: p61 :: p62 :: p63 :: p64 :: p65 :: p66 :: p67 :: p68 :: p69 :: p70 :: p71 :: p72 :: p73 :: p74 :: p75 :: p76 :: p77 :: p78 :: p79 :: p80 :: p81 :: p82 :: p83 :: p84 :: p85 :: p86 :: p87 :: p88 :: p89 :: p90 :: p91 :: p92 :: p93 :: p94 :: p95 :: p96 :: p97 :: p98 :: p99 :: p100 :: p101 :: p102 :: p103 :: p104 :: p105 :: p106 :: p107 :: p108 :: p109 :: p110 :: p111 :: p112 :: p113 :: p114 :: p115 :: p116 :: p117 :: p118 :: p119 :: p120 :: p121 :: p122 :: p123 :: p124 :: p125 :: p126 :: p127 :: p128 :: p129 :: p130 :: p131 :: p132 :: p133 :: p134 :: p135 :: p136 :: p137 :: p138 :: p139 :: p140 :: p141 :: p142 :: p143 :: p144 :: p145 :: p146 :: p147 :: p148 :: p149 :: p150 :: p151 :: p152 :: p153 :: p154 :: p155 :: p156 :: p157 :: p158 :: p159 :: p160 :: p161 :: p162 :: p163 :: p164 :: p165 :: p166 :: p167 :: p168 :: p169 :: p170 :: p171 :: p172 :: p173 :: p174 :: p175 :: p176 :: p177 :: p178 :: p179 :: p180 :: p181 :: p182 :: p183 :: p184 :: p185 :: p186 :: p187 :: p188 :: p189 :: p190 :: p191 :: p192 :: p193 :: p194 :: p195 :: p196 :: p197 :: p198 :: p199 :: p200 :: p201 :: p202 :: p203 :: p204 :: p205 :: p206 :: p207 :: p208 :: p209 :: p210 :: p211 :: p212 :: p213 :: p214 :: p215 :: p216 :: p217 :: p218 :: p219 :: p220 :: p221 :: p222 :: p223 :: p224 :: p225 :: p226 :: p227 :: p228 :: p229 :: p230 :: p231 :: p232 :: p233 :: p234 :: p235 :: p236 :: p237 :: p238 :: p239 :: p240 :: p241 :: p242 :: p243 :: p244 :: p245 :: p246 :: p247 :: p248 :: p249 :: p250 :: p251 :: p252 :: p253 :: p254 :: p255 :: p256 :: p257 :: p258 :: p259 :: p260 :: p261 :: p262 :: p263 :: p264 :: p265 :: p266 :: p267 :: p268 :: p269 :: p270 :: p271 :: p272 :: p273 :: p274 :: p275 :: p276 :: p277 :: p278 :: p279 :: p280 :: p281 :: p282 :: p283 :: p284 :: p285 :: p286 :: p287 :: p288 :: p289 :: p290 :: p291 :: p292 :: p293 :: p294 :: p295 :: p296 :: p297 :: p298 :: p299 :: p300 :: p301 :: p302 :: p303 :: p304 :: p305 :: p306 :: p307 :: p308 :: p309 :: p310 :: p311 :: p312 :: p313 :: p314 :: p315 :: p316 :: p317 :: p318 :: p319 :: p320 :: p321 :: p322 :: p323 :: p324 :: p325 :: p326 :: p327 :: p328 :: p329 :: p330 :: p331 :: p332 :: p333 :: p334 :: p335 :: p336 :: p337 :: p338 :: p339 :: p340 :: p341 :: p342 :: p343 :: p344 :: p345 :: p346 :: p347 :: p348 :: p349 :: p350 :: p351 :: p352 :: p353 :: p354 :: p355 :: p356 :: p357 :: p358 :: p359 :: p360 :: p361 :: p362 :: p363 :: p364 :: p365 :: p366 :: p367 :: p368 :: p369 :: []), []⟩ (wr.drewN z)))
    (hE : Hid (∀ a w, Kd (.slice (some ⟨tb, toff, none⟩) tl tc) (.int .i64 (m : Nat)) (.pointer (some ⟨M + 1, 0, none⟩)) (.slice (some ⟨A, 0, none⟩) m m) (.slice (some ⟨Bk, 0, none⟩) m m) (.int .i64 ((dis t (x + 1) : Nat) : Int)) (.int .i64 ((x + 1 : Nat) : Int)) a → Below wr.heap.size wr w → Q0 .normal a w))
    (HT : Hid (∀ i, i < m → wr.cell? ⟨tb, toff + i, none⟩ = some (.int .u32 (t i)))) (cx : wr.cell? ⟨tb, toff + x, none⟩ = some (.int .u32 (t x)))
    (hxm : (x : Int) < (m : Int)) (hmt : (m : Int) ≤ (tl : Int)) (hxt : (x : Int) < (tl : Int)) (hx : x < 4096) (hm : m ≤ 4096)
    (hnk : Hid (nk = occ t (t x) x)) (hK : Hid (K = occ t (t x) m)) (hds : Hid (ds = dis t x)) (b4 : ds ≤ 4096)
    (q0 q1 q3 q4 q5 q6 q7 q8 q9 q10 q13 q14 q17 q18 q19 q20 q21 q22 q23 q24 q25 q26 q29 q30 q31 q32 q33 q34 q35 q36 q37 q38 q39 q40 q41 q42 q43 q44 q45 q46 q47 q48 q49 q50 q51 q52 q53 q54 q55 q56 q57 q58 q59 q60 q61 q62 q63 q64 q65 q66 q67 q68 q69 q70 q71 q72 q73 q74 q75 q76 q77 q78 q79 q80 q81 q82 q83 q84 q85 q86 q87 q88 q89 q90 q91 q92 q93 q94 q95 q96 q97 q98 q99 q100 q101 q102 q103 q104 q105 q106 q107 q108 q109 q110 q111 q112 q113 q114 q115 q116 q117 q118 q119 q120 q121 q122 q123 q124 q125 q126 q127 q128 q129 q130 q131 q132 q133 q134 q135 q136 q137 q138 q139 q140 q141 q142 q143 q144 q145 q146 q147 q148 q149 q150 q151 q152 q153 q154 q155 q156 q157 q158 q159 q160 q161 q162 q163 q164 q165 q166 q167 q168 q169 q170 q171 q172 q173 q174 q175 q176 q177 q178 q179 q180 q181 q182 q183 q184 q185 q186 q187 q188 q189 q190 q191 q192 q193 q194 q195 q196 q197 q198 q199 q200 q201 q202 q203 q204 q205 q206 q207 q208 q209 q210 q211 q212 q213 q214 q215 q216 q217 q218 q219 q220 q221 q222 q223 q224 q225 q226 q227 q228 q229 q230 q231 q232 q233 q234 q235 q236 q237 q238 q239 q240 q241 q242 q243 q244 q245 q246 q247 q248 q249 q250 q251 q252 q253 q254 q255 q256 q257 q258 q259 q260 q261 q262 q263 q264 q265 q266 q267 q268 q269 q270 q271 q272 q273 q274 q275 q276 q277 q278 q279 q280 q281 q282 q283 q284 q285 q286 q287 q288 q289 q290 q291 q292 q293 q294 q295 q296 q297 q298 q299 q300 q301 q302 q303 q304 q305 q306 q307 q308 q309 q310 q311 q312 q313 q314 q315 q316 q317 q318 q319 q320 q321 q322 q323 q324 q325 q326 q327 q328 q329 q330 q331 q332 q333 q334 q335 q336 q337 q338 q339 q340 q341 q342 q343 q344 q345 q346 q347 q348 q349 q350 q351 q352 q353 q354 q355 q356 q357 q358 q359 q360 q361 q362 q363 q364 q365 q366 q367 q368 q369 : Value) :
    Code.wp Try.prog (((Try.f5.body.map loopsOf).getD []).getD 2 Code.skip) Q0
      ⟨List.toArray (q0 :: q1 :: (.slice (some ⟨tb, toff, none⟩) tl tc) :: q3 :: q4 :: q5 :: q6 :: q7 :: q8 :: q9 :: q10 :: (.int .i64 (m : Nat)) :: (.pointer (some ⟨M + 1, 0, none⟩)) :: q13 :: q14 :: (.slice (some ⟨A, 0, none⟩) m m) :: (.slice (some ⟨Bk, 0, none⟩) m m) :: q17 :: q18 :: q19 :: q20 :: q21 :: q22 :: q23 :: q24 :: q25 :: q26 :: (.int .i64 (ds : Nat)) :: (.int .i64 (x : Nat)) :: q29 :: q30 :: q31 :: q32 :: q33 :: q34 :: q35 :: q36 :: q37 :: q38 :: q39 :: q40 :: q41 :: q42 :: q43 :: q44 :: q45 :: q46 :: q47 :: q48 :: q49 :: q50 :: q51 :: q52 :: q53 :: q54 :: q55 :: q56 :: q57 :: q58 :: q59 :: q60 :: q61 :: q62 :: q63 :: q64 :: q65 :: q66 :: q67 :: q68 :: q69 :: q70 :: q71 :: q72 :: q73 :: q74 :: q75 :: q76 :: q77 :: q78 :: q79 :: q80 :: q81 :: q82 :: q83 :: q84 :: q85 :: q86 :: q87 :: q88 :: q89 :: q90 :: q91 :: q92 :: q93 :: q94 :: q95 :: q96 :: q97 :: q98 :: q99 :: q100 :: q101 :: q102 :: q103 :: q104 :: q105 :: q106 :: q107 :: q108 :: q109 :: q110 :: q111 :: q112 :: q113 :: q114 :: q115 :: q116 :: q117 :: q118 :: q119 :: q120 :: q121 :: q122 :: q123 :: q124 :: q125 :: q126 :: q127 :: q128 :: q129 :: q130 :: q131 :: q132 :: q133 :: q134 :: q135 :: q136 :: q137 :: q138 :: q139 :: q140 :: q141 :: q142 :: q143 :: q144 :: q145 :: q146 :: q147 :: q148 :: q149 :: q150 :: q151 :: q152 :: q153 :: q154 :: q155 :: q156 :: q157 :: q158 :: q159 :: q160 :: q161 :: q162 :: q163 :: q164 :: q165 :: q166 :: q167 :: q168 :: q169 :: q170 :: q171 :: q172 :: q173 :: q174 :: q175 :: q176 :: q177 :: q178 :: q179 :: q180 :: q181 :: q182 :: q183 :: q184 :: q185 :: q186 :: q187 :: q188 :: q189 :: q190 :: q191 :: q192 :: q193 :: q194 :: q195 :: q196 :: q197 :: q198 :: q199 :: q200 :: q201 :: q202 :: q203 :: q204 :: q205 :: q206 :: q207 :: q208 :: q209 :: q210 :: q211 :: q212 :: q213 :: q214 :: q215 :: q216 :: q217 :: q218 :: q219 :: q220 :: q221 :: q222 :: q223 :: q224 :: q225 :: q226 :: q227 :: q228 :: q229 :: q230 :: q231 :: q232 :: q233 :: q234 :: q235 :: q236 :: q237 :: q238 :: q239 :: q240 :: q241 :: q242 :: q243 :: q244 :: q245 :: q246 :: q247 :: q248 :: q249 :: q250 :: q251 :: q252 :: q253 :: q254 :: q255 :: q256 :: q257 :: q258 :: q259 :: q260 :: q261 :: q262 :: q263 :: q264 :: q265 :: q266 :: q267 :: q268 :: q269 :: q270 :: q271 :: q272 :: q273 :: q274 :: q275 :: q276 :: q277 :: q278 :: q279 :: q280 :: q281 :: q282 :: q283 :: q284 :: q285 :: q286 :: q287 :: q288 :: q289 :: q290 :: q291 :: q292 :: q293 :: q294 :: q295 :: q296 :: q297 :: q298 :: q299 :: q300 :: q301 :: q302 :: q303 :: q304 :: q305 :: q306 :: q307 :: q308 :: q309 :: q310 :: q311 :: q312 :: q313 :: q314 :: q315 :: q316 :: q317 :: q318 :: q319 :: q320 :: q321 :: q322 :: q323 :: q324 :: q325 :: q326 :: q327 :: q328 :: q329 :: q330 :: q331 :: q332 :: q333 :: q334 :: q335 :: q336 :: q337 :: q338 :: q339 :: q340 :: q341 :: q342 :: q343 :: q344 :: q345 :: q346 :: q347 :: q348 :: q349 :: q350 :: q351 :: q352 :: q353 :: q354 :: q355 :: q356 :: q357 :: q358 :: q359 :: q360 :: q361 :: q362 :: q363 :: q364 :: q365 :: q366 :: q367 :: q368 :: q369 :: []), []⟩ wr := by
  conv => arg 2; whnf
  go_wp2
  go_loopw [29, 30, 31] (fun c d i wz => ∃ y z : Nat, y ≤ m ∧ i = .int .i64 y ∧ c = .int .i64 (occ t (t x) (min y x) : Nat) ∧ d = .int .i64 (occ t (t x) y : Nat) ∧ wz = wr.drewN z) (fun _ _ i _ => m - (intOf i).toNat)
  case atStart => exact ⟨0, 0, Nat.zero_le _, rfl, by rw [Nat.zero_min]; rfl, rfl, rfl⟩
  case round =>
    obtain ⟨y, z, hy, rfl, rfl, rfl, rfl⟩ := hrel
    by_cases hlt : y < m
    · have hlt' : (y : Int) < (m : Int) := by omega
      have hyt : (y : Int) < (tl : Int) := by omega
      have cy := HT.out y hlt
      have ho1 := occ_le (t := t) (t x) y
      have ho2 := occ_le (t := t) (t x) (min y x)
      have ho3 : occ t (t x) (min y x) ≤ 4096 := by omega
      clear ho2
      by_cases he : t y = t x
      · have E1 : Hid (occ t (t x) (y + 1) = occ t (t x) y + 1) := occ_hit he
        rw [he] at cy
        clear he
        by_cases hyx : y < x
        · have E2 : Hid (occ t (t x) (min (y + 1) x) = occ t (t x) (min y x) + 1) := hid_of (by rw [Nat.min_eq_left (by omega), Nat.min_eq_left (by omega), E1.out])
          have hyx' : (y : Int) < (x : Int) := by omega
          generalize occ t (t x) (min y x) = o1 at *
          go_wp2
          go_quiet (fail)
          go_wp2
          go_roundw
          case rel => exact ⟨y + 1, z + nq, by omega, by go_num, by rw [E2.out]; go_num, by rw [E1.out]; go_num, by simp [go_sem]⟩
          case measure => simp [intOf]; omega
        · have E2 : Hid (occ t (t x) (min (y + 1) x) = occ t (t x) (min y x)) := hid_of (by rw [Nat.min_eq_right (by omega), Nat.min_eq_right (by omega)])
          have hyx' : ¬ (y : Int) < (x : Int) := by omega
          generalize occ t (t x) (min y x) = o1 at *
          go_wp2
          go_quiet (fail)
          go_wp2
          go_roundw
          case rel => exact ⟨y + 1, z + nq, by omega, by go_num, by rw [E2.out], by rw [E1.out]; go_num, by simp [go_sem]⟩
          case measure => simp [intOf]; omega
      · have E1 : Hid (occ t (t x) (y + 1) = occ t (t x) y) := occ_miss he
        have E2 : Hid (occ t (t x) (min (y + 1) x) = occ t (t x) (min y x)) := by
          apply hid_of
          by_cases hyx : y < x
          · rw [Nat.min_eq_left (by omega), Nat.min_eq_left (by omega), E1.out]
          · rw [Nat.min_eq_right (by omega), Nat.min_eq_right (by omega)]
        have he2 : (t y == t x) = false := by simp [he]
        generalize occ t (t x) (min y x) = o1 at *
        go_wp2
        go_quiet (fail)
        go_wp2
        go_roundw
        case rel => exact ⟨y + 1, z + nq, by omega, by go_num, by rw [E2.out], by rw [E1.out], by simp [go_sem]⟩
        case measure => simp [intOf]; omega
    · obtain rfl : y = m := by omega
      rw [Nat.min_eq_right (by omega), ← hnk.out, ← hK.out]
      go_upto_if 324 with fail
      go_cut [27] from 297 to 362 (fun s wz => s = .int .i64 ((dis t (x + 1) : Nat) : Int) ∧ wz = wr.drewN z)
      case first =>
        have HDE : Hid (dis t (x + 1) = ds + if nk = 0 then 1 else 0) := by rw [hnk.out, hds.out]; rfl
        by_cases h0 : nk = 0
        · go_wp2
          go_meet
          exact ⟨by rw [HDE.out, if_pos h0]; go_num, rfl⟩
        · go_wp2
          go_meet
          exact ⟨by rw [HDE.out, if_neg h0]; rfl, rfl⟩
      case rest =>
        obtain ⟨rfl, rfl⟩ := hcut
        clear hy hlt
        rename_i hK77 _ _ _ _ _ _ _ _ _ _ _ _ _ _ _ _ _ _ _ _ _ _ _ _ _ _ hK89
        refine hK89 _ _ ?_
        apply hR.out
        intro a w ha hb
        exact hK77 _ _ (inc77 hx ha (fun a' ha' => hE.out _ _ ha' hb))
end Go.Proofs.Qxb6608607a
