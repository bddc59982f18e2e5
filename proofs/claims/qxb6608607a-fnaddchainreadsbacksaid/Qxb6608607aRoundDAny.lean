/-
  The second loop of 'FnAddChainReadsBack': each round, out of the segment; what is handed back.
-/
import Derived.Test.Qxb6608607aRoundD
import Derived.Test.Qxb6608607aChainAny
namespace Go.Proofs.Qxb6608607a
open Go.RowKit Go.Maps

theorem Got.below {w w' : World} {b m k : Nat} {f : Nat → Nat} (h : Got w b m k f) (hb : Below w.heap.size w w') {j : Nat} (hj : j < m) (hk : k ≤ j) : w'.cell? ⟨b, j, none⟩ = some (.int .i64 (f j : Nat)) :=
  (hb.cell (p := ⟨b, j, none⟩) (cell_lt (h.cell hj hk))).trans (h.cell hj hk)

set_option maxHeartbeats 4000000 in
set_option maxRecDepth 1000000 in
theorem roundDAny {u : Bool} {tb toff tl tc m M A Bk : Nat} {v : Value} {t : Nat → Int} {dd : Nat → List Int} {pre : List Int} {W : World} {B e1 : Nat} {la : Int}
    (hS : Seg W B M v (bB u pre t dd m) la m (bG u pre t dd m) e1 (.slice none 0 0) [])
    (hT : RdT W (some ⟨tb, toff, none⟩) m t) (hmt : m ≤ tl) (hm : m ≤ 4096) (hsum : sumL dd m ≤ 524288) (hpre : pre.length ≤ 65536) (hA : Got W A m 0 (bP u pre dd)) (hBk : Got W Bk m 0 (bN u pre dd)) :
    ∀ x a w (Q0 : Exit → Act → World → Prop), x < m → Kd (.slice (some ⟨tb, toff, none⟩) tl tc) (.int .i64 (m : Nat)) (.pointer (some ⟨M + 1, 0, none⟩)) (.slice (some ⟨A, 0, none⟩) m m) (.slice (some ⟨Bk, 0, none⟩) m m) (.int .i64 (dis t x : Nat)) (.int .i64 ((x : Nat) : Int)) a → Below W.heap.size W w →
      (∀ b w', Kd (.slice (some ⟨tb, toff, none⟩) tl tc) (.int .i64 (m : Nat)) (.pointer (some ⟨M + 1, 0, none⟩)) (.slice (some ⟨A, 0, none⟩) m m) (.slice (some ⟨Bk, 0, none⟩) m m) (.int .i64 (dis t (x + 1) : Nat)) (.int .i64 ((x + 1 : Nat) : Int)) b → Below W.heap.size W w' → Q0 .normal b w') → Code.wp Try.prog (((Try.f5.body.map loopsOf).getD []).getD 2 Code.skip) Q0 a w := by
  intro x a w Q0 hx hk hb hE
  have S1 := hS.below hb
  have T := hT.below hb
  have T' : ∀ i, i < m → w.cell? ⟨tb, toff + i, none⟩ = some (.int .u32 (t i)) := fun i hi => by
    obtain ⟨_, _, e, h, _⟩ := T i hi; cases e; exact h
  have hw : (Lit.int .u32 (t x)).wf = true := by obtain ⟨_, _, _, _, h⟩ := T x hx; exact h
  obtain ⟨D1, hD1, hm1⟩ := S1.grp
  obtain ⟨ua, hlka, hoa, _, _, _⟩ := groups_look hD1 hm1 (by omega) (t x) hw
  have q1 : occ t (t x) x < (bG u pre t dd m (t x)).length := by rw [bG_length]; exact occ_lt hx
  have g1v : (bG u pre t dd m (t x)).getD (occ t (t x) x) 0 = ((bP u pre dd x : Nat) : Int) := bG_get hx
  rcases ints_shape hoa with ⟨_, e0⟩ | ⟨ga, ca, rfl, _, _, _, _, hcella⟩
  · rw [e0] at q1; simp at q1
  have va := hcella _ q1
  rw [g1v] at va
  have gk : occ t (t x) x < occ t (t x) m := occ_lt hx
  simp only [bG_length] at hlka
  have l1 := bB_length (u := u) (pre := pre) (t := t) (dd := dd) m
  have u1 := bP_hi (u := u) (pre := pre) (dd := dd) hx
  have u3 := bN_sum (u := u) (pre := pre) (dd := dd) m
  have u7 : bP u pre dd x = bN u pre dd x + (dd x).length + padU u (dd x).length := rfl
  have u8 := padU_le u (dd x).length
  have u15 := dis_le (t := t) x
  have hlen : (dd x).length ≤ 524288 := by have h1 := sumL_mono (dd := dd) (show x + 1 ≤ m by omega); simp only [sumL] at h1; omega
  have z1 : ∀ j, j < 8 → (bB u pre t dd m).getD (bP u pre dd x + (16 + j)) 0 = (le64 (((dd x).length : Int) + (padU u (dd x).length : Int))).getD j 0 := fun j hj => by
    rw [bB_desc hx (by omega), bD_size x j hj]
  have cA := hA.below hb hx (Nat.zero_le _)
  have cB := hBk.below hb hx (Nat.zero_le _)
  rw [hk.lit]
  apply roundD (t := t) (ds := dis t x) (nk := occ t (t x) x) (K := occ t (t x) m) (HT := T') (cx := T' x hx) (hxm := by omega) (hmt := by omega) (hxt := by omega) (hx := by omega) (hm := hm) (hnk := rfl) (hK := rfl) (hds := rfl) (b4 := by omega)
  · intro z Q
    intros
    rename_i hQ
    apply tail89 (tx := t x) (wr := w.drewN z) (ga := ga) (ca := ca) (P := bP u pre dd x) (S := bN u pre dd x) (nk := occ t (t x) x) (K := occ t (t x) m) (cx := T' x hx) (hxt := by omega) (hxm := by omega) (f1 := S1.c1) (lk := fun n => hlka _ rfl) (gk := by omega) (va := va) (ca' := cA) (cb := cB)
    · exact fun a w' ha hb' => hQ a w' ha ((below_drewn (Below.refl _ w) z).trans hb')
    · exact fun w' hb' => dataAt_to (w0 := w.drewN z) (S1.below (below_drewn (Below.refl _ w) z)) hb' (by omega) (t x) hw _ _ (bN u pre dd x) _ q1 g1v (by omega) (by omega) (by omega) (by omega) z1 (by omega)
  · exact fun a w' ha hb' => hE a w' ha (hb.trans (hb'.mono hb.size))

set_option maxHeartbeats 8000000 in
set_option maxRecDepth 1000000 in
theorem end94lit (s2 s11 s15 s16 s28 : Value) (M d : Nat) (w : World) (P : Ending → World → Prop) (hP : Hid (P (.returned (.bool true)) w))
    (f1 : w.cell? ⟨M + 1, 1, none⟩ = some (.map (some M))) (e1 : (Builtin.len_ #[38] 3 #[.map (some M)]).run Try.prog w = .ok (.int .i64 (d : Nat)) w)
    (q0 q1 q3 q4 q5 q6 q7 q8 q9 q10 q13 q14 q17 q18 q19 q20 q21 q22 q23 q24 q25 q26 q29 q30 q31 q32 q33 q34 q35 q36 q37 q38 q39 q40 q41 q42 q43 q44 q45 q46 q47 q48 q49 q50 q51 q52 q53 q54 q55 q56 q57 q58 q59 q60 q61 q62 q63 q64 q65 q66 q67 q68 q69 q70 q71 q72 q73 q74 q75 q76 q77 q78 q79 q80 q81 q82 q83 q84 q85 q86 q87 q88 q89 q90 q91 q92 q93 q94 q95 q96 q97 q98 q99 q100 q101 q102 q103 q104 q105 q106 q107 q108 q109 q110 q111 q112 q113 q114 q115 q116 q117 q118 q119 q120 q121 q122 q123 q124 q125 q126 q127 q128 q129 q130 q131 q132 q133 q134 q135 q136 q137 q138 q139 q140 q141 q142 q143 q144 q145 q146 q147 q148 q149 q150 q151 q152 q153 q154 q155 q156 q157 q158 q159 q160 q161 q162 q163 q164 q165 q166 q167 q168 q169 q170 q171 q172 q173 q174 q175 q176 q177 q178 q179 q180 q181 q182 q183 q184 q185 q186 q187 q188 q189 q190 q191 q192 q193 q194 q195 q196 q197 q198 q199 q200 q201 q202 q203 q204 q205 q206 q207 q208 q209 q210 q211 q212 q213 q214 q215 q216 q217 q218 q219 q220 q221 q222 q223 q224 q225 q226 q227 q228 q229 q230 q231 q232 q233 q234 q235 q236 q237 q238 q239 q240 q241 q242 q243 q244 q245 q246 q247 q248 q249 q250 q251 q252 q253 q254 q255 q256 q257 q258 q259 q260 q261 q262 q263 q264 q265 q266 q267 q268 q269 q270 q271 q272 q273 q274 q275 q276 q277 q278 q279 q280 q281 q282 q283 q284 q285 q286 q287 q288 q289 q290 q291 q292 q293 q294 q295 q296 q297 q298 q299 q300 q301 q302 q303 q304 q305 q306 q307 q308 q309 q310 q311 q312 q313 q314 q315 q316 q317 q318 q319 q320 q321 q322 q323 q324 q325 q326 q327 q328 q329 q330 q331 q332 q333 q334 q335 q336 q337 q338 q339 q340 q341 q342 q343 q344 q345 q346 q347 q348 q349 q350 q351 q352 q353 q354 q355 q356 q357 q358 q359 q360 q361 q362 q363 q364 q365 q366 q367 q368 q369 : Value) : Code.wp Try.prog ((tailAt 94 (Try.f5.body.getD Code.skip)).getD Code.skip) (bodyPost Try.prog Try.f5 P) ⟨List.toArray (q0 :: q1 :: (s2) :: q3 :: q4 :: q5 :: q6 :: q7 :: q8 :: q9 :: q10 :: (s11) :: (.pointer (some ⟨M + 1, 0, none⟩)) :: q13 :: q14 :: (s15) :: (s16) :: q17 :: q18 :: q19 :: q20 :: q21 :: q22 :: q23 :: q24 :: q25 :: q26 :: (.int .i64 (d : Nat)) :: (s28) :: q29 :: q30 :: q31 :: q32 :: q33 :: q34 :: q35 :: q36 :: q37 :: q38 :: q39 :: q40 :: q41 :: q42 :: q43 :: q44 :: q45 :: q46 :: q47 :: q48 :: q49 :: q50 :: q51 :: q52 :: q53 :: q54 :: q55 :: q56 :: q57 :: q58 :: q59 :: q60 :: q61 :: q62 :: q63 :: q64 :: q65 :: q66 :: q67 :: q68 :: q69 :: q70 :: q71 :: q72 :: q73 :: q74 :: q75 :: q76 :: q77 :: q78 :: q79 :: q80 :: q81 :: q82 :: q83 :: q84 :: q85 :: q86 :: q87 :: q88 :: q89 :: q90 :: q91 :: q92 :: q93 :: q94 :: q95 :: q96 :: q97 :: q98 :: q99 :: q100 :: q101 :: q102 :: q103 :: q104 :: q105 :: q106 :: q107 :: q108 :: q109 :: q110 :: q111 :: q112 :: q113 :: q114 :: q115 :: q116 :: q117 :: q118 :: q119 :: q120 :: q121 :: q122 :: q123 :: q124 :: q125 :: q126 :: q127 :: q128 :: q129 :: q130 :: q131 :: q132 :: q133 :: q134 :: q135 :: q136 :: q137 :: q138 :: q139 :: q140 :: q141 :: q142 :: q143 :: q144 :: q145 :: q146 :: q147 :: q148 :: q149 :: q150 :: q151 :: q152 :: q153 :: q154 :: q155 :: q156 :: q157 :: q158 :: q159 :: q160 :: q161 :: q162 :: q163 :: q164 :: q165 :: q166 :: q167 :: q168 :: q169 :: q170 :: q171 :: q172 :: q173 :: q174 :: q175 :: q176 :: q177 :: q178 :: q179 :: q180 :: q181 :: q182 :: q183 :: q184 :: q185 :: q186 :: q187 :: q188 :: q189 :: q190 :: q191 :: q192 :: q193 :: q194 :: q195 :: q196 :: q197 :: q198 :: q199 :: q200 :: q201 :: q202 :: q203 :: q204 :: q205 :: q206 :: q207 :: q208 :: q209 :: q210 :: q211 :: q212 :: q213 :: q214 :: q215 :: q216 :: q217 :: q218 :: q219 :: q220 :: q221 :: q222 :: q223 :: q224 :: q225 :: q226 :: q227 :: q228 :: q229 :: q230 :: q231 :: q232 :: q233 :: q234 :: q235 :: q236 :: q237 :: q238 :: q239 :: q240 :: q241 :: q242 :: q243 :: q244 :: q245 :: q246 :: q247 :: q248 :: q249 :: q250 :: q251 :: q252 :: q253 :: q254 :: q255 :: q256 :: q257 :: q258 :: q259 :: q260 :: q261 :: q262 :: q263 :: q264 :: q265 :: q266 :: q267 :: q268 :: q269 :: q270 :: q271 :: q272 :: q273 :: q274 :: q275 :: q276 :: q277 :: q278 :: q279 :: q280 :: q281 :: q282 :: q283 :: q284 :: q285 :: q286 :: q287 :: q288 :: q289 :: q290 :: q291 :: q292 :: q293 :: q294 :: q295 :: q296 :: q297 :: q298 :: q299 :: q300 :: q301 :: q302 :: q303 :: q304 :: q305 :: q306 :: q307 :: q308 :: q309 :: q310 :: q311 :: q312 :: q313 :: q314 :: q315 :: q316 :: q317 :: q318 :: q319 :: q320 :: q321 :: q322 :: q323 :: q324 :: q325 :: q326 :: q327 :: q328 :: q329 :: q330 :: q331 :: q332 :: q333 :: q334 :: q335 :: q336 :: q337 :: q338 :: q339 :: q340 :: q341 :: q342 :: q343 :: q344 :: q345 :: q346 :: q347 :: q348 :: q349 :: q350 :: q351 :: q352 :: q353 :: q354 :: q355 :: q356 :: q357 :: q358 :: q359 :: q360 :: q361 :: q362 :: q363 :: q364 :: q365 :: q366 :: q367 :: q368 :: q369 :: []), []⟩ w := by
  conv => arg 2; whnf
  go_wp2
  exact hP.out

theorem end94 {s2 s11 s15 s16 s28 : Value} {M d : Nat} {a : Act} {w : World} {P : Ending → World → Prop} (h : Kd s2 s11 (.pointer (some ⟨M + 1, 0, none⟩)) s15 s16 (.int .i64 (d : Nat)) s28 a) (hP : Hid (P (.returned (.bool true)) w))
    (f1 : w.cell? ⟨M + 1, 1, none⟩ = some (.map (some M))) (e1 : (Builtin.len_ #[38] 3 #[.map (some M)]).run Try.prog w = .ok (.int .i64 (d : Nat)) w) :
    Code.wp Try.prog ((tailAt 94 (Try.f5.body.getD Code.skip)).getD Code.skip) (bodyPost Try.prog Try.f5 P) a w := by
  rw [h.lit]
  apply end94lit
  · exact hP
  · exact f1
  · exact e1

end Go.Proofs.Qxb6608607a
