/-
  Seat b194158a: the law's text from its last test on, walked from whatever frame and world: the last way: the pending run was flushed. (The frame's slots that the rest does not read are letters.)
-/
import Derived.Test.YbulkexpzqTail
import Derived.Deep.RegionHeld3
namespace Go.Proofs.Ybulkexpzq
open Go.RowKit
attribute [local go_sem ↓] copyS_eq makeS_eq ldTok_eq stTok_eq bldTok_eq appS_eq

set_option maxRecDepth 100000 in
set_option maxHeartbeats 4000000 in
theorem tail_B {B : Nat} {w0 wr : World} {bt g bc n f : Nat} {zs : List Int} {ln : Value} {pos' st' : Int} {q' tb' : Value} {ts' te' : Int} {m' : Nat} {extra : List Value} {ys' : List Int}
    {c tst est pos bs be : Int} {a7 a11 : Option Addr} {n7 c7 k c11 : Nat} {ss : List ByteArray} {ys : List Int} {v0 v2 v5 v10 v12 v13 v14 v15 v16 v17 v18 v19 v20 v21 v22 v23 v24 v26 v28 v29 v30 v32 v33 v34 v35 v36 v37 v38 v39 v40 v41 v42 v43 v44 v45 v46 v47 v48 v49 v50 v51 v52 v53 v54 v55 v56 v57 v58 v59 v60 v61 v62 v63 v64 v65 v66 v67 v68 v69 v70 v71 v72 v73 v74 v75 v76 v77 v78 v79 v80 v81 v82 v83 v84 v85 v86 v87 v88 v89 v90 v91 v92 v93 v94 v95 v96 v97 v98 v99 v100 v101 v102 v103 v104 v105 v106 v107 v108 v109 v110 v111 v112 v113 v114 v115 v116 v117 v118 v119 v120 v121 v122 v123 v124 v125 v126 v127 v128 v129 v130 v131 v132 v133 v134 v135 v136 v137 v138 v139 v140 v141 v142 v143 v144 v145 v146 v147 v148 v149 v150 v151 v152 v153 v154 v155 v156 v157 v158 v159 v160 v161 v162 v163 v164 v165 v166 v167 v168 v169 v170 v171 v172 v173 v174 v175 v176 v177 v178 v179 v180 v181 v182 v183 v184 v185 v186 v187 v188 v189 v190 v191 v192 v193 v194 v195 v196 v197 v198 v199 v200 v201 v202 v203 v204 v205 v206 v207 v208 v209 v210 v211 v212 v213 v214 v215 v216 v217 v218 v219 v220 v221 v222 v223 v224 v225 v226 v227 v228 v229 v230 v231 v232 v233 v234 v235 v236 v237 v238 v239 v240 v241 v242 v243 v244 v245 v246 v247 v248 v249 v250 v251 v252 v253 v254 v255 v256 v257 v258 v259 v260 v261 v262 v263 v264 v265 v266 v267 v268 v269 v270 v271 v272 v273 v274 v275 v276 v277 v278 v279 v280 v281 v282 v283 v284 v285 v286 v287 v288 v289 v290 v291 v292 v293 v294 v295 v296 v297 v298 v299 v300 v301 v302 v303 v304 v305 v306 v307 v308 v309 v310 v311 v312 v313 v314 v315 v316 v317 v318 v319 v320 v321 v322 v323 v324 v325 v326 v327 v328 v329 v330 v331 v332 v333 v334 v335 v336 v337 v338 v339 v340 v341 v342 v343 v344 v345 v346 v347 v348 v349 v350 v351 v352 v353 v354 v355 : Value}
    (hP : Post B w0 wr bt g bc n f zs ln pos' st' q' tb' ts' te' m' (tokQ ss k ++ extra) ys') (hc47 : c ≠ 47) (hB : B ≤ wr.heap.size) (hz : zs.length = n) (hfn : f < n) (hn : n ≤ 1048576) (hw : ∀ x ∈ zs, -2147483648 ≤ x ∧ x ≤ 2147483647) (hk : k ≤ 1048576) (h7n : n7 ≤ 1048576) (e1 : pos' = wrap64 (pos - 1)) (e2 : st' = tst) (e3 : te' = (f : Int) + 1) (e4 : 0 < n7) (e8 : be ≠ (f : Int)) (hy : ys.length = n7) (h7 : RowAt wr .u8 a7 ys) (e5 : ts' = (f : Int)) (e6 : m' = k + 1) (e7 : ys' = enc (zs.getD f 0)) (e9 : extra = tokenC (strOfNums ys) bs be)
    :
    Code.wp Yba.prog ((Yba.f3.body.bind from37).getD .skip) (bodyPost Yba.prog Yba.f3 fun e w' => e = .returned (.bool true) ∧ Below B w0 w') ⟨((v0 :: Value.int .i32 c :: v2 :: Value.int .u8 tst :: Value.int .u8 est :: v5 :: Value.int .i64 pos :: Value.slice a7 n7 c7 :: Value.int .i64 bs :: Value.int .i64 be :: v10 :: Value.slice a11 k c11 :: v12 :: v13 :: v14 :: v15 :: v16 :: v17 :: v18 :: v19 :: v20 :: v21 :: v22 :: v23 :: v24 :: Value.slice (some ⟨g, 0, none⟩) n n :: v26 :: Value.int .i64 (f : Int) :: v28 :: v29 :: v30 :: Value.pointer (some ⟨bt, 0, none⟩) :: v32 :: v33 :: v34 :: v35 :: v36 :: v37 :: v38 :: v39 :: v40 :: v41 :: v42 :: v43 :: v44 :: v45 :: v46 :: v47 :: v48 :: v49 :: v50 :: v51 :: v52 :: v53 :: v54 :: v55 :: v56 :: v57 :: v58 :: v59 :: v60 :: v61 :: v62 :: v63 :: v64 :: v65 :: v66 :: v67 :: v68 :: v69 :: v70 :: v71 :: v72 :: v73 :: v74 :: v75 :: v76 :: v77 :: v78 :: v79 :: v80 :: v81 :: v82 :: v83 :: v84 :: v85 :: v86 :: v87 :: v88 :: v89 :: v90 :: v91 :: v92 :: v93 :: v94 :: v95 :: v96 :: v97 :: v98 :: v99 :: v100 :: v101 :: v102 :: v103 :: v104 :: v105 :: v106 :: v107 :: v108 :: v109 :: v110 :: v111 :: v112 :: v113 :: v114 :: v115 :: v116 :: v117 :: v118 :: v119 :: v120 :: v121 :: v122 :: v123 :: v124 :: v125 :: v126 :: v127 :: v128 :: v129 :: v130 :: v131 :: v132 :: v133 :: v134 :: v135 :: v136 :: v137 :: v138 :: v139 :: v140 :: v141 :: v142 :: v143 :: v144 :: v145 :: v146 :: v147 :: v148 :: v149 :: v150 :: v151 :: v152 :: v153 :: v154 :: v155 :: v156 :: v157 :: v158 :: v159 :: v160 :: v161 :: v162 :: v163 :: v164 :: v165 :: v166 :: v167 :: v168 :: v169 :: v170 :: v171 :: v172 :: v173 :: v174 :: v175 :: v176 :: v177 :: v178 :: v179 :: v180 :: v181 :: v182 :: v183 :: v184 :: v185 :: v186 :: v187 :: v188 :: v189 :: v190 :: v191 :: v192 :: v193 :: v194 :: v195 :: v196 :: v197 :: v198 :: v199 :: v200 :: v201 :: v202 :: v203 :: v204 :: v205 :: v206 :: v207 :: v208 :: v209 :: v210 :: v211 :: v212 :: v213 :: v214 :: v215 :: v216 :: v217 :: v218 :: v219 :: v220 :: v221 :: v222 :: v223 :: v224 :: v225 :: v226 :: v227 :: v228 :: v229 :: v230 :: v231 :: v232 :: v233 :: v234 :: v235 :: v236 :: v237 :: v238 :: v239 :: v240 :: v241 :: v242 :: v243 :: v244 :: v245 :: v246 :: v247 :: v248 :: v249 :: v250 :: v251 :: v252 :: v253 :: v254 :: v255 :: v256 :: v257 :: v258 :: v259 :: v260 :: v261 :: v262 :: v263 :: v264 :: v265 :: v266 :: v267 :: v268 :: v269 :: v270 :: v271 :: v272 :: v273 :: v274 :: v275 :: v276 :: v277 :: v278 :: v279 :: v280 :: v281 :: v282 :: v283 :: v284 :: v285 :: v286 :: v287 :: v288 :: v289 :: v290 :: v291 :: v292 :: v293 :: v294 :: v295 :: v296 :: v297 :: v298 :: v299 :: v300 :: v301 :: v302 :: v303 :: v304 :: v305 :: v306 :: v307 :: v308 :: v309 :: v310 :: v311 :: v312 :: v313 :: v314 :: v315 :: v316 :: v317 :: v318 :: v319 :: v320 :: v321 :: v322 :: v323 :: v324 :: v325 :: v326 :: v327 :: v328 :: v329 :: v330 :: v331 :: v332 :: v333 :: v334 :: v335 :: v336 :: v337 :: v338 :: v339 :: v340 :: v341 :: v342 :: v343 :: v344 :: v345 :: v346 :: v347 :: v348 :: v349 :: v350 :: v351 :: v352 :: v353 :: v354 :: v355 :: [] : List Value).toArray), []⟩ wr := by
  conv => arg 2; whnf
  obtain ⟨aq, cq, hq⟩ := own_slice hP.que
  obtain ⟨atb, ctb, htb⟩ := own_slice hP.buf
  have t4 : wr.cell? ⟨bt, 4, none⟩ = some (.int .u8 st') := hP.tok.cell 4
  have t2 : wr.cell? ⟨bt, 2, none⟩ = some (.int .i64 pos') := hP.tok.cell 2
  have t10 : wr.cell? ⟨bt, 10, none⟩ = some q' := hP.tok.cell 10
  have t12 : wr.cell? ⟨bt, 12, none⟩ = some tb' := hP.tok.cell 12
  have t13 : wr.cell? ⟨bt, 13, none⟩ = some (.int .i64 ts') := hP.tok.cell 13
  have t14 : wr.cell? ⟨bt, 14, none⟩ = some (.int .i64 te') := hP.tok.cell 14
  rw [hq] at t10
  rw [htb] at t12
  have hlt : bt < wr.heap.size := hP.tok.lt
  have hc1 : (c == 47) = false := by simpa using hc47
  have hf1 : (0 : Int) ≤ (f : Int) := by omega
  have hf2 : (f : Int) < (n : Int) := by omega
  have hf3 : (f : Int) < 2000000 := by omega
  have hcell := row_cell hP.src f (by omega)
  have hmem : zs.getD f 0 ∈ zs := by
    have : f < zs.length := by omega
    simp [List.getD, this]
  obtain ⟨hw1, hw2⟩ := hw _ hmem
  generalize zs.getD f 0 = r at *
  clear hmem
  have hk1 : Kept (fun _ => False) wr (wr.alloc (.cells ((enc r).map (Value.int .u8)).toArray 5)) := (Kept.refl _ _).alloc _
  have hP1 := hP.kept hk1 hB
  have henc := enc_any r wr hw1 hw2
  have HEN := hide henc
  have hse : (convert 24 9 (.slice (some ⟨wr.heap.size, 0, none⟩) (enc r).length (enc r).length)).run Yba.prog (wr.alloc (.cells ((enc r).map (Value.int .u8)).toArray 5)) = .ok (.string (strOfNums (enc r))) (wr.alloc (.cells ((enc r).map (Value.int .u8)).toArray 5)) :=
    row_string (rowAt_block (heap_alloc_new wr _))
  clear henc
  subst e1 e2 e3 e5 e6 e7 e9
  obtain ⟨gq, capq, hq2, _, hgq2⟩ := hP.que.form (by omega)
  have hrng : wr.rangeAt gq (k * 9) (tokenC (strOfNums ys) bs be) := extra_range (by rw [← hq2]; exact hP.que)
  have t10' : wr.cell? ⟨bt, 10, none⟩ = some (.slice (some ⟨gq, 0, none⟩) (k + 1) capq) := by rw [← hq2]; exact hP.tok.cell 10
  have hn0 : ((n7 : Int) == 0) = false := by simp; omega
  have hn1 : (0 : Int) < (n7 : Int) := by omega
  have hbe1 : (be == (f : Int)) = false := by simpa using e8
  have hbe2 : (be != (f : Int)) = true := by simpa using e8
  have hk0 : (0 : Int) ≤ (k : Int) := by omega
  have hk2 : (k : Int) ≤ 1048576 := by omega
  have hk3 : (k : Int) < (k : Int) + 1 := by omega
  have hwk : IntKind.i64.wrap ((k : Int) + 1 - 1) = (k : Int) := by rw [IntKind.wrap_i64]; omega
  have hwk2 : IntKind.i64.wrap (k : Int) = (k : Int) := by rw [IntKind.wrap_i64]; omega
  have hsa := row_string (c := c7) (h7.under ((Below.refl _ wr).alloc (Nat.le_refl _) (.cells ((enc r).map (Value.int .u8)).toArray 5)))
  rw [hy] at hsa
  generalize hd : strOfNums ys = d at *
  obtain ⟨w9, hw9⟩ : ∃ w9, w9 = wr.alloc (.cells ((enc r).map (Value.int .u8)).toArray 5) := ⟨_, rfl⟩
  have hb9 : Below wr.heap.size wr w9 := by rw [hw9]; exact (Below.refl _ _).alloc (Nat.le_refl _) _
  have hs9 : w9.heap.size = wr.heap.size + 1 := by rw [hw9]; simp
  have he9 : w9.heap[wr.heap.size]? = some (.cells ((enc r).map (Value.int .u8)).toArray 5 (0, 0)) := by rw [hw9]; exact heap_alloc_new wr _
  rw [← hw9] at hsa
  have HEN2 : Hid (Calls Yba.prog 7 #[.int .i32 r] wr fun e w' => e = .returned (.slice (some ⟨wr.heap.size, 0, none⟩) (enc r).length (enc r).length) ∧ w' = w9) := by rw [hw9]; exact HEN
  have x10 : w9.cell? ⟨bt, 10, none⟩ = some (.slice (some ⟨gq, 0, none⟩) (k + 1) capq) := (hb9.cell (p := ⟨bt, 10, none⟩) hlt).trans t10'
  have hr9 := range_below hrng hb9 hgq2
  have hbt9 : bt < w9.heap.size := by omega
  have hgq9 : gq < w9.heap.size := by omega
  have hldd : (ldTok (.pointer (some ⟨gq, k * 9, none⟩))).run Yba.prog w9.drew = .ok (.agg (tokenC d bs be).toArray) w9.drew := ld_tok (w := w9.drew) hr9
  have hsad : (convert 24 9 (.slice a7 n7 c7)).run Yba.prog w9.drew = .ok (.string d) w9.drew := by
    have := row_string (w := w9.drew) (c := c7) (h7.under hb9.drew)
    rw [hy, hd] at this; exact this
  have hrow : ∀ w1 : World, Below w9.drew.heap.size w9.drew w1 → (convert 24 9 (.slice a7 n7 c7)).run Yba.prog w1 = .ok (.string d) w1 := fun w1 hb1 => by
    have := row_string (w := w1) (c := c7) (h7.under (hb9.trans (show Below wr.heap.size w9 w1 from (Below.mono (w := w9) (w' := w1) ⟨hb1.os, hb1.tape, hb1.output, hb1.size, hb1.block⟩ (show wr.heap.size ≤ w9.drew.heap.size by show wr.heap.size ≤ w9.heap.size; omega)))))
    rw [hy, hd] at this; exact this
  have HROW := hide hrow
  have HQ := hide hq
  have HT := hide htb
  have HD := hide hd
  have HW9 := hide hw9
  have HE9 := hide he9
  have HS9 := hide hs9
  clear hse hq htb hP1 hk1 hy hw9 hd hrow he9 hs9 HEN t10 hrng hq2 t10' t4 t2 t12 t13 t14 HQ
  go_wp2_with fail
  refine (unhide HEN2).mono ?_
  rintro e w9' ⟨rfl, hw9'⟩
  subst hw9'
  go_wp2_with fail
  go_region_held3 (fun w' => w'.cell? ⟨bt, 10, none⟩ = some (.slice (some ⟨gq, 0, none⟩) (k + 1) capq) ∧ (ldTok (.pointer (some ⟨gq, k * 9, none⟩))).run Yba.prog w' = .ok (.agg (tokenC d bs be).toArray) w' ∧ (convert 24 9 (.slice a7 n7 c7)).run Yba.prog w' = .ok (.string d) w')
    (first
      | exact ⟨x10, hldd, hsad⟩
      | exact ⟨(hbc1.cell (p := ⟨bt, 10, none⟩) hbt9).trans x10, ld_tok (range_below (w := w9'.drew) hr9 hbc1 hgq9), unhide HROW _ hbc1⟩)
    ((go_at_call 5; refine (ctok_any d bs be _).mono ?_; rintro e w1 ⟨rfl, hbc1⟩))
  have hb1' : Below w9'.heap.size w9' w1 := ⟨hbc1.os, hbc1.tape, hbc1.output, hbc1.size, hbc1.block⟩
  have hbw1 : Below wr.heap.size wr w1 := hb9.trans (hb1'.mono (by rw [HS9.out]; omega))
  have hP9 := hP.kept (kept_of_below hbw1) hB
  have hsb := own_string hP9.buf
  rw [HT.out] at hsb
  have hen1 : w1.heap[wr.heap.size]? = some (.cells ((enc r).map (Value.int .u8)).toArray 5 (0, 0)) := (hb1'.block _ (by rw [HS9.out]; omega)).trans HE9.out
  have heq := equal_any _ _ _ w1 hsb (row_string (c := (enc r).length) (rowAt_block hen1))
  have y4 : w1.cell? ⟨bt, 4, none⟩ = some (.int .u8 st') := hP9.tok.cell 4
  have y2 : w1.cell? ⟨bt, 2, none⟩ = some (.int .i64 (wrap64 (pos - 1))) := hP9.tok.cell 2
  have y10 : w1.cell? ⟨bt, 10, none⟩ = some (.slice (some ⟨gq, 0, none⟩) (k + 1) capq) := (hb1'.cell (p := ⟨bt, 10, none⟩) hbt9).trans x10
  have y12 : w1.cell? ⟨bt, 12, none⟩ = some (.slice atb (enc r).length ctb) := by rw [← HT.out]; exact hP9.tok.cell 12
  have y13 : w1.cell? ⟨bt, 13, none⟩ = some (.int .i64 (f : Int)) := hP9.tok.cell 13
  have y14 : w1.cell? ⟨bt, 14, none⟩ = some (.int .i64 ((f : Int) + 1)) := hP9.tok.cell 14
  have HE := hide heq
  clear heq hsb hen1 x10 hldd hsad hsa hr9 hcell
  go_wp2_with fail
  refine (unhide HE).mono ?_
  rintro e w10 ⟨rfl, rfl⟩
  go_wp2
  go_ret
  exact ⟨rfl, hP9.bel⟩

end Go.Proofs.Ybulkexpzq
