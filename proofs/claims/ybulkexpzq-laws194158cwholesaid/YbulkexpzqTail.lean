/-
  Seat b194158a: the law's text from its last test on, walked from whatever frame and world: the ways out: c is the slash; nothing was pending; the run goes on; the run was flushed. (The frame's slots that the rest does not read are letters.)
-/
import Derived.Test.YbulkexpzqCall
import Derived.Deep.RegionHeld3
namespace Go.Proofs.Ybulkexpzq
open Go.RowKit
attribute [local go_sem ↓] copyS_eq makeS_eq ldTok_eq stTok_eq bldTok_eq appS_eq

/-- The law's text from its last test on ('if c == ..'). -/
def from37 : Code → Option Code
  | .seq (.seq (.region n o d) x) y => if n == 37 then some (.seq (.seq (.region n o d) x) y) else from37 y
  | .seq _ y => from37 y
  | _ => none

theorem conv_empty (w : World) (a : Addr) (c : Nat) : (convert 24 9 (.slice (some a) 0 c)).run Yba.prog w = .ok (.string ByteArray.empty) w := by
  rw [run_convert_bytes_string w 24 9 5 _ 0 c Yba.underlying24 Yba.underlying5 Yba.underlying9]
  have hl : (loadCells a 0).run Yba.prog w = .ok (([] : List Int).map (Value.int .u8)).toArray w := by simpa using run_loadCells_list (P := Yba.prog) w a [] (by simp)
  exact run_bytesToString w a 0 c [] hl
theorem own_slice {w : World} {base : Nat} {e : TypeId} {size : Nat} {v : Value} {n : Nat} {xs : List Value} (h : w.ownsRow base e size v n xs) : ∃ ao c, v = .slice ao n c := by
  rcases h.2 with ⟨rfl, rfl⟩ | ⟨g, cap, cur, rfl, _⟩
  · exact ⟨_, _, rfl⟩
  · exact ⟨_, _, rfl⟩
theorem strOfNums_nil : strOfNums [] = ByteArray.empty := rfl
theorem own_string {w : World} {base : Nat} {v : Value} {ys : List Int} (h : w.ownsRow base 5 1 v ys.length (ys.map (Value.int .u8))) : (convert 24 9 v).run Yba.prog w = .ok (.string (strOfNums ys)) w := by
  rcases h.2 with ⟨rfl, h0⟩ | ⟨g, cap, cur, rfl, r⟩
  · have : ys = [] := List.eq_nil_of_length_eq_zero h0
    subst this
    rw [strOfNums_nil]
    exact run_convert_bytes_nil w 24 5 Yba.underlying24 Yba.underlying5 0 0 9 Yba.underlying9
  · obtain ⟨cur', h1, h2⟩ := own_conv h
    exact h2 w h1
theorem row_string {w : World} {ao : Option Addr} {c : Nat} {ys : List Int} (h : RowAt w .u8 ao ys) : (convert 24 9 (.slice ao ys.length c)).run Yba.prog w = .ok (.string (strOfNums ys)) w := by
  by_cases h0 : 0 < ys.length
  · obtain ⟨b, off, ha, _⟩ := h 0 h0
    subst ha
    refine run_convert_bytes_arg w 24 5 Yba.underlying24 Yba.underlying5 b off _ c ys rfl ?_ 9 Yba.underlying9
    intro i hi
    obtain ⟨b', off', ha', hc⟩ := h i hi
    cases ha'
    exact hc
  · have : ys = [] := List.eq_nil_of_length_eq_zero (by omega)
    subst this
    rw [strOfNums_nil]
    cases ao with
    | none => exact run_convert_bytes_nil w 24 5 Yba.underlying24 Yba.underlying5 0 c 9 Yba.underlying9
    | some a => exact conv_empty w a c

theorem row_cell {w : World} {g : Nat} {zs : List Int} {k : IntKind} {e : TypeId} (h : w.heap[g]? = some (.cells (zs.map (Value.int k)).toArray e (0, 0))) (j : Nat) (hj : j < zs.length) : w.cell? ⟨g, j, none⟩ = some (.int k (zs.getD j 0)) := by
  simp [World.cell?, h, List.getD, hj]
theorem kept_of_below {w w' : World} (h : Below w.heap.size w w') : Kept (fun _ => False) w w' := ⟨h.os, h.tape, h.output, h.size, fun k hk _ => h.block k hk⟩

/-- 'append(append([]byte{}, a...), b...)': its two runs. -/
theorem append_two (w : World) (ao : Option Addr) (n c : Nat) (ys zs : List Int) (hy : ys.length = n) (hp : 0 < n) (hn : n ≤ 1048576) (hz : zs.length ≤ 4) (h : RowAt w .u8 ao ys) :
    ∃ v1 w3 v2 w4, (appS #[24, 24] 24 #[.slice (some ⟨w.heap.size + 1, 0, none⟩) 0 0, .slice ao n c]).run Yba.prog ((w.alloc (.cells (zs.map (Value.int .u8)).toArray 5)).alloc (.cells #[] 5)) = .ok v1 w3 ∧
      (appS #[24, 24] 24 #[v1, .slice (some ⟨w.heap.size, 0, none⟩) zs.length zs.length]).run Yba.prog w3 = .ok v2 w4 ∧ Below w.heap.size w w4 ∧ w4.ownsRow (w.heap.size + 1) 5 1 v2 (ys ++ zs).length ((ys ++ zs).map (Value.int .u8)) := by
  obtain ⟨i, hi, hz0, hz1, hz2⟩ := info_parts Yba.info5
  obtain ⟨w2, hw2⟩ : ∃ w2, w2 = (w.alloc (.cells (zs.map (Value.int .u8)).toArray 5)).alloc (.cells #[] 5) := ⟨_, rfl⟩
  have hs2 : w2.heap.size = w.heap.size + 2 := by rw [hw2]; simp
  have hb2 : Below w.heap.size w w2 := by rw [hw2]; exact ((Below.refl _ _).alloc (Nat.le_refl _) _).alloc (by simp) _
  have hz2' : w2.heap[w.heap.size]? = some (.cells (zs.map (Value.int .u8)).toArray 5 (0, 0)) := by
    rw [hw2]; exact (Below.heap_alloc _ _ _ (by simp)).trans (heap_alloc_new w _)
  have how : w2.ownsRow (w.heap.size + 1) 5 1 (.slice (some ⟨w.heap.size + 1, 0, none⟩) 0 0) 0 [] := by
    have := World.ownsRow_made (base := w.heap.size + 1) (e := 5) (size := 1) (w.alloc (.cells (zs.map (Value.int .u8)).toArray 5)) #[] 0 (by simp) (by unfold maxLen; omega) (by simp)
    rw [World.size_alloc] at this
    rw [hw2]; exact this
  rw [← hw2]
  obtain ⟨ad, rfl, hc⟩ := h.cells (by omega)
  have hadl := h.lt (by omega) ad rfl
  obtain ⟨v1, w3, hr1, ho1, hg1, _⟩ := run_append_own (P := Yba.prog) w2 (w.heap.size + 1) 24 24 5 i _ 1 1 Yba.underlying24 hi hz0 hz1 hz2 rfl (by omega) _ 0 [] how ad n c (ys.map (Value.int .u8)) (by simp [hy])
    (fun j v hj => by rw [hb2.cell (p := ad.add j) (by rw [show (ad.add j).block = ad.block by unfold Addr.add; split <;> rfl]; exact hadl)]; exact hc j v hj) (ints_oneCell _ _) (by unfold maxLen; omega) (by omega) (by omega)
  have hb3 : Below w.heap.size w w3 := hb2.grown hg1 (by omega) (by intro k hk; simp [Value.ownBlock] at hk; omega)
  have hz3 : w3.heap[w.heap.size]? = some (.cells (zs.map (Value.int .u8)).toArray 5 (0, 0)) := (hg1.block w.heap.size (by omega) (by simp [Value.ownBlock])).trans hz2'
  obtain ⟨v2, w4, hr2, ho2, hg2, _⟩ := run_append_own (P := Yba.prog) w3 (w.heap.size + 1) 24 24 5 i _ 1 1 Yba.underlying24 hi hz0 hz1 hz2 rfl (by omega) v1 (0 + n) _ ho1 ⟨w.heap.size, 0, none⟩ zs.length zs.length (zs.map (Value.int .u8)) (by simp)
    (World.news_of_block hz3) (ints_oneCell _ _) (by unfold maxLen; omega) (by omega) (by have := hg1.size; omega)
  refine ⟨v1, w3, v2, w4, hr1, hr2, hb3.grown hg2 (by have := hb3.size; omega) (fun k hk => by have := (ho1.lt k hk).1; omega), ?_⟩
  rw [List.length_append, List.map_append, hy]
  rw [Nat.zero_add, List.nil_append] at ho2
  exact ho2

theorem ld_tok {w : World} {g o : Nat} {d : ByteArray} {s e : Int} (h : w.rangeAt g o (tokenC d s e)) : (ldTok (.pointer (some ⟨g, o, none⟩))).run Yba.prog w = .ok (.agg (tokenC d s e).toArray) w :=
  run_loadAt_mid (P := Yba.prog) w g o 31 (tokenC d s e) _ h Yba.underlying31 rfl (by kernel_rfl)
theorem range_below {w w' : World} {g o : Nat} {cs : List Value} (h : w.rangeAt g o cs) {B : Nat} (hb : Below B w w') (hg : g < B) : w'.rangeAt g o cs :=
  fun t v hv => (hb.cell (p := ⟨g, o + t, none⟩) hg).trans (h t v hv)
theorem extra_range {w : World} {B g m c : Nat} {ss : List ByteArray} {k : Nat} {d : ByteArray} {s e : Int} (h : w.ownsRow B 31 9 (.slice (some ⟨g, 0, none⟩) m c) m (tokQ ss k ++ tokenC d s e)) :
    w.rangeAt g (k * 9) (tokenC d s e) := by
  intro t v hv
  have := h.cells (g := g) rfl (k * 9 + t) v (by rw [List.getElem?_append_right (by rw [tokQ_len]; omega), tokQ_len, show k * 9 + t - k * 9 = t by omega]; exact hv)
  rw [Addr.add_lit, Nat.zero_add] at this
  exact this

set_option maxRecDepth 100000 in
set_option maxHeartbeats 4000000 in
theorem tail_yes {B : Nat} {w0 wr : World} {bt g bc n f : Nat} {zs : List Int} {ln : Value} {pos' st' : Int} {q' tb' : Value} {ts' te' : Int} {m' : Nat} {extra : List Value} {ys' : List Int}
    {c tst est pos bs be : Int} {a7 a11 : Option Addr} {n7 c7 k c11 : Nat} {ss : List ByteArray} {ys : List Int} {v0 v2 v5 v10 v12 v13 v14 v15 v16 v17 v18 v19 v20 v21 v22 v23 v24 v26 v28 v29 v30 v32 v33 v34 v35 v36 v37 v38 v39 v40 v41 v42 v43 v44 v45 v46 v47 v48 v49 v50 v51 v52 v53 v54 v55 v56 v57 v58 v59 v60 v61 v62 v63 v64 v65 v66 v67 v68 v69 v70 v71 v72 v73 v74 v75 v76 v77 v78 v79 v80 v81 v82 v83 v84 v85 v86 v87 v88 v89 v90 v91 v92 v93 v94 v95 v96 v97 v98 v99 v100 v101 v102 v103 v104 v105 v106 v107 v108 v109 v110 v111 v112 v113 v114 v115 v116 v117 v118 v119 v120 v121 v122 v123 v124 v125 v126 v127 v128 v129 v130 v131 v132 v133 v134 v135 v136 v137 v138 v139 v140 v141 v142 v143 v144 v145 v146 v147 v148 v149 v150 v151 v152 v153 v154 v155 v156 v157 v158 v159 v160 v161 v162 v163 v164 v165 v166 v167 v168 v169 v170 v171 v172 v173 v174 v175 v176 v177 v178 v179 v180 v181 v182 v183 v184 v185 v186 v187 v188 v189 v190 v191 v192 v193 v194 v195 v196 v197 v198 v199 v200 v201 v202 v203 v204 v205 v206 v207 v208 v209 v210 v211 v212 v213 v214 v215 v216 v217 v218 v219 v220 v221 v222 v223 v224 v225 v226 v227 v228 v229 v230 v231 v232 v233 v234 v235 v236 v237 v238 v239 v240 v241 v242 v243 v244 v245 v246 v247 v248 v249 v250 v251 v252 v253 v254 v255 v256 v257 v258 v259 v260 v261 v262 v263 v264 v265 v266 v267 v268 v269 v270 v271 v272 v273 v274 v275 v276 v277 v278 v279 v280 v281 v282 v283 v284 v285 v286 v287 v288 v289 v290 v291 v292 v293 v294 v295 v296 v297 v298 v299 v300 v301 v302 v303 v304 v305 v306 v307 v308 v309 v310 v311 v312 v313 v314 v315 v316 v317 v318 v319 v320 v321 v322 v323 v324 v325 v326 v327 v328 v329 v330 v331 v332 v333 v334 v335 v336 v337 v338 v339 v340 v341 v342 v343 v344 v345 v346 v347 v348 v349 v350 v351 v352 v353 v354 v355 : Value}
    (hP : Post B w0 wr bt g bc n f zs ln pos' st' q' tb' ts' te' m' (tokQ ss k ++ extra) ys') (hO : c = 47 ∧ pos' = pos ∧ st' = est ∧ ts' = bs ∧ te' = be ∧ m' = k ∧ ys' = ys) (hy : ys.length = n7) (h7 : RowAt wr .u8 a7 ys)
    :
    Code.wp Yba.prog ((Yba.f3.body.bind from37).getD .skip) (bodyPost Yba.prog Yba.f3 fun e w' => e = .returned (.bool true) ∧ Below B w0 w') ⟨((v0 :: Value.int .i32 c :: v2 :: Value.int .u8 tst :: Value.int .u8 est :: v5 :: Value.int .i64 pos :: Value.slice a7 n7 c7 :: Value.int .i64 bs :: Value.int .i64 be :: v10 :: Value.slice a11 k c11 :: v12 :: v13 :: v14 :: v15 :: v16 :: v17 :: v18 :: v19 :: v20 :: v21 :: v22 :: v23 :: v24 :: Value.slice (some ⟨g, 0, none⟩) n n :: v26 :: Value.int .i64 (f : Int) :: v28 :: v29 :: v30 :: Value.pointer (some ⟨bt, 0, none⟩) :: v32 :: v33 :: v34 :: v35 :: v36 :: v37 :: v38 :: v39 :: v40 :: v41 :: v42 :: v43 :: v44 :: v45 :: v46 :: v47 :: v48 :: v49 :: v50 :: v51 :: v52 :: v53 :: v54 :: v55 :: v56 :: v57 :: v58 :: v59 :: v60 :: v61 :: v62 :: v63 :: v64 :: v65 :: v66 :: v67 :: v68 :: v69 :: v70 :: v71 :: v72 :: v73 :: v74 :: v75 :: v76 :: v77 :: v78 :: v79 :: v80 :: v81 :: v82 :: v83 :: v84 :: v85 :: v86 :: v87 :: v88 :: v89 :: v90 :: v91 :: v92 :: v93 :: v94 :: v95 :: v96 :: v97 :: v98 :: v99 :: v100 :: v101 :: v102 :: v103 :: v104 :: v105 :: v106 :: v107 :: v108 :: v109 :: v110 :: v111 :: v112 :: v113 :: v114 :: v115 :: v116 :: v117 :: v118 :: v119 :: v120 :: v121 :: v122 :: v123 :: v124 :: v125 :: v126 :: v127 :: v128 :: v129 :: v130 :: v131 :: v132 :: v133 :: v134 :: v135 :: v136 :: v137 :: v138 :: v139 :: v140 :: v141 :: v142 :: v143 :: v144 :: v145 :: v146 :: v147 :: v148 :: v149 :: v150 :: v151 :: v152 :: v153 :: v154 :: v155 :: v156 :: v157 :: v158 :: v159 :: v160 :: v161 :: v162 :: v163 :: v164 :: v165 :: v166 :: v167 :: v168 :: v169 :: v170 :: v171 :: v172 :: v173 :: v174 :: v175 :: v176 :: v177 :: v178 :: v179 :: v180 :: v181 :: v182 :: v183 :: v184 :: v185 :: v186 :: v187 :: v188 :: v189 :: v190 :: v191 :: v192 :: v193 :: v194 :: v195 :: v196 :: v197 :: v198 :: v199 :: v200 :: v201 :: v202 :: v203 :: v204 :: v205 :: v206 :: v207 :: v208 :: v209 :: v210 :: v211 :: v212 :: v213 :: v214 :: v215 :: v216 :: v217 :: v218 :: v219 :: v220 :: v221 :: v222 :: v223 :: v224 :: v225 :: v226 :: v227 :: v228 :: v229 :: v230 :: v231 :: v232 :: v233 :: v234 :: v235 :: v236 :: v237 :: v238 :: v239 :: v240 :: v241 :: v242 :: v243 :: v244 :: v245 :: v246 :: v247 :: v248 :: v249 :: v250 :: v251 :: v252 :: v253 :: v254 :: v255 :: v256 :: v257 :: v258 :: v259 :: v260 :: v261 :: v262 :: v263 :: v264 :: v265 :: v266 :: v267 :: v268 :: v269 :: v270 :: v271 :: v272 :: v273 :: v274 :: v275 :: v276 :: v277 :: v278 :: v279 :: v280 :: v281 :: v282 :: v283 :: v284 :: v285 :: v286 :: v287 :: v288 :: v289 :: v290 :: v291 :: v292 :: v293 :: v294 :: v295 :: v296 :: v297 :: v298 :: v299 :: v300 :: v301 :: v302 :: v303 :: v304 :: v305 :: v306 :: v307 :: v308 :: v309 :: v310 :: v311 :: v312 :: v313 :: v314 :: v315 :: v316 :: v317 :: v318 :: v319 :: v320 :: v321 :: v322 :: v323 :: v324 :: v325 :: v326 :: v327 :: v328 :: v329 :: v330 :: v331 :: v332 :: v333 :: v334 :: v335 :: v336 :: v337 :: v338 :: v339 :: v340 :: v341 :: v342 :: v343 :: v344 :: v345 :: v346 :: v347 :: v348 :: v349 :: v350 :: v351 :: v352 :: v353 :: v354 :: v355 :: [] : List Value).toArray), []⟩ wr := by
  conv => arg 2; whnf
  obtain ⟨aq, cq, hq⟩ := own_slice hP.que
  obtain ⟨atb, ctb, htb⟩ := own_slice hP.buf
  have t4 : wr.cell? ⟨bt, 4, none⟩ = some (.int .u8 st') := hP.tok.cell 4
  have t2 : wr.cell? ⟨bt, 2, none⟩ = some (.int .i64 pos') := hP.tok.cell 2
  have t10 : wr.cell? ⟨bt, 10, none⟩ = some q' := hP.tok.cell 10
  have t12 : wr.cell? ⟨bt, 12, none⟩ = some tb' := hP.tok.cell 12
  have t13 : wr.cell? ⟨bt, 13, none⟩ = some (.int .i64 ts') := hP.tok.cell 13
  have t14 : wr.cell? ⟨bt, 14, none⟩ = some (.int .i64 te') := hP.tok.cell 14
  rw [hq] at t10
  rw [htb] at t12
  have hsb := own_string hP.buf
  rw [htb] at hsb
  obtain ⟨rfl, rfl, rfl, rfl, rfl, rfl, rfl⟩ := hO
  have hsa := row_string (c := c7) h7
  rw [hy] at hsa hsb t12
  have heq := equal_any _ _ _ wr hsb hsa
  have HE := hide heq
  clear heq hsa hsb hq htb hy
  go_wp2_with fail
  refine (unhide HE).mono ?_
  rintro e w9 ⟨rfl, rfl⟩
  go_wp2
  go_ret
  exact ⟨rfl, hP.bel⟩

set_option maxRecDepth 100000 in
set_option maxHeartbeats 4000000 in
theorem tail_A {B : Nat} {w0 wr : World} {bt g bc n f : Nat} {zs : List Int} {ln : Value} {pos' st' : Int} {q' tb' : Value} {ts' te' : Int} {m' : Nat} {extra : List Value} {ys' : List Int}
    {c tst est pos bs be : Int} {a7 a11 : Option Addr} {n7 c7 k c11 : Nat} {ss : List ByteArray} {v0 v2 v5 v10 v12 v13 v14 v15 v16 v17 v18 v19 v20 v21 v22 v23 v24 v26 v28 v29 v30 v32 v33 v34 v35 v36 v37 v38 v39 v40 v41 v42 v43 v44 v45 v46 v47 v48 v49 v50 v51 v52 v53 v54 v55 v56 v57 v58 v59 v60 v61 v62 v63 v64 v65 v66 v67 v68 v69 v70 v71 v72 v73 v74 v75 v76 v77 v78 v79 v80 v81 v82 v83 v84 v85 v86 v87 v88 v89 v90 v91 v92 v93 v94 v95 v96 v97 v98 v99 v100 v101 v102 v103 v104 v105 v106 v107 v108 v109 v110 v111 v112 v113 v114 v115 v116 v117 v118 v119 v120 v121 v122 v123 v124 v125 v126 v127 v128 v129 v130 v131 v132 v133 v134 v135 v136 v137 v138 v139 v140 v141 v142 v143 v144 v145 v146 v147 v148 v149 v150 v151 v152 v153 v154 v155 v156 v157 v158 v159 v160 v161 v162 v163 v164 v165 v166 v167 v168 v169 v170 v171 v172 v173 v174 v175 v176 v177 v178 v179 v180 v181 v182 v183 v184 v185 v186 v187 v188 v189 v190 v191 v192 v193 v194 v195 v196 v197 v198 v199 v200 v201 v202 v203 v204 v205 v206 v207 v208 v209 v210 v211 v212 v213 v214 v215 v216 v217 v218 v219 v220 v221 v222 v223 v224 v225 v226 v227 v228 v229 v230 v231 v232 v233 v234 v235 v236 v237 v238 v239 v240 v241 v242 v243 v244 v245 v246 v247 v248 v249 v250 v251 v252 v253 v254 v255 v256 v257 v258 v259 v260 v261 v262 v263 v264 v265 v266 v267 v268 v269 v270 v271 v272 v273 v274 v275 v276 v277 v278 v279 v280 v281 v282 v283 v284 v285 v286 v287 v288 v289 v290 v291 v292 v293 v294 v295 v296 v297 v298 v299 v300 v301 v302 v303 v304 v305 v306 v307 v308 v309 v310 v311 v312 v313 v314 v315 v316 v317 v318 v319 v320 v321 v322 v323 v324 v325 v326 v327 v328 v329 v330 v331 v332 v333 v334 v335 v336 v337 v338 v339 v340 v341 v342 v343 v344 v345 v346 v347 v348 v349 v350 v351 v352 v353 v354 v355 : Value}
    (hP : Post B w0 wr bt g bc n f zs ln pos' st' q' tb' ts' te' m' (tokQ ss k ++ extra) ys') (hc47 : c ≠ 47) (hB : B ≤ wr.heap.size) (hz : zs.length = n) (hfn : f < n) (hn : n ≤ 1048576) (hw : ∀ x ∈ zs, -2147483648 ≤ x ∧ x ≤ 2147483647) (hk : k ≤ 1048576) (h7n : n7 ≤ 1048576) (e1 : pos' = wrap64 (pos - 1)) (e2 : st' = tst) (e3 : te' = (f : Int) + 1) (e4 : n7 = 0) (e5 : ts' = (f : Int)) (e6 : m' = k) (e7 : ys' = enc (zs.getD f 0))
    :
    Code.wp Yba.prog ((Yba.f3.body.bind from37).getD .skip) (bodyPost Yba.prog Yba.f3 fun e w' => e = .returned (.bool true) ∧ Below B w0 w') ⟨((v0 :: Value.int .i32 c :: v2 :: Value.int .u8 tst :: Value.int .u8 est :: v5 :: Value.int .i64 pos :: Value.slice a7 n7 c7 :: Value.int .i64 bs :: Value.int .i64 be :: v10 :: Value.slice a11 k c11 :: v12 :: v13 :: v14 :: v15 :: v16 :: v17 :: v18 :: v19 :: v20 :: v21 :: v22 :: v23 :: v24 :: Value.slice (some ⟨g, 0, none⟩) n n :: v26 :: Value.int .i64 (f : Int) :: v28 :: v29 :: v30 :: Value.pointer (some ⟨bt, 0, none⟩) :: v32 :: v33 :: v34 :: v35 :: v36 :: v37 :: v38 :: v39 :: v40 :: v41 :: v42 :: v43 :: v44 :: v45 :: v46 :: v47 :: v48 :: v49 :: v50 :: v51 :: v52 :: v53 :: v54 :: v55 :: v56 :: v57 :: v58 :: v59 :: v60 :: v61 :: v62 :: v63 :: v64 :: v65 :: v66 :: v67 :: v68 :: v69 :: v70 :: v71 :: v72 :: v73 :: v74 :: v75 :: v76 :: v77 :: v78 :: v79 :: v80 :: v81 :: v82 :: v83 :: v84 :: v85 :: v86 :: v87 :: v88 :: v89 :: v90 :: v91 :: v92 :: v93 :: v94 :: v95 :: v96 :: v97 :: v98 :: v99 :: v100 :: v101 :: v102 :: v103 :: v104 :: v105 :: v106 :: v107 :: v108 :: v109 :: v110 :: v111 :: v112 :: v113 :: v114 :: v115 :: v116 :: v117 :: v118 :: v119 :: v120 :: v121 :: v122 :: v123 :: v124 :: v125 :: v126 :: v127 :: v128 :: v129 :: v130 :: v131 :: v132 :: v133 :: v134 :: v135 :: v136 :: v137 :: v138 :: v139 :: v140 :: v141 :: v142 :: v143 :: v144 :: v145 :: v146 :: v147 :: v148 :: v149 :: v150 :: v151 :: v152 :: v153 :: v154 :: v155 :: v156 :: v157 :: v158 :: v159 :: v160 :: v161 :: v162 :: v163 :: v164 :: v165 :: v166 :: v167 :: v168 :: v169 :: v170 :: v171 :: v172 :: v173 :: v174 :: v175 :: v176 :: v177 :: v178 :: v179 :: v180 :: v181 :: v182 :: v183 :: v184 :: v185 :: v186 :: v187 :: v188 :: v189 :: v190 :: v191 :: v192 :: v193 :: v194 :: v195 :: v196 :: v197 :: v198 :: v199 :: v200 :: v201 :: v202 :: v203 :: v204 :: v205 :: v206 :: v207 :: v208 :: v209 :: v210 :: v211 :: v212 :: v213 :: v214 :: v215 :: v216 :: v217 :: v218 :: v219 :: v220 :: v221 :: v222 :: v223 :: v224 :: v225 :: v226 :: v227 :: v228 :: v229 :: v230 :: v231 :: v232 :: v233 :: v234 :: v235 :: v236 :: v237 :: v238 :: v239 :: v240 :: v241 :: v242 :: v243 :: v244 :: v245 :: v246 :: v247 :: v248 :: v249 :: v250 :: v251 :: v252 :: v253 :: v254 :: v255 :: v256 :: v257 :: v258 :: v259 :: v260 :: v261 :: v262 :: v263 :: v264 :: v265 :: v266 :: v267 :: v268 :: v269 :: v270 :: v271 :: v272 :: v273 :: v274 :: v275 :: v276 :: v277 :: v278 :: v279 :: v280 :: v281 :: v282 :: v283 :: v284 :: v285 :: v286 :: v287 :: v288 :: v289 :: v290 :: v291 :: v292 :: v293 :: v294 :: v295 :: v296 :: v297 :: v298 :: v299 :: v300 :: v301 :: v302 :: v303 :: v304 :: v305 :: v306 :: v307 :: v308 :: v309 :: v310 :: v311 :: v312 :: v313 :: v314 :: v315 :: v316 :: v317 :: v318 :: v319 :: v320 :: v321 :: v322 :: v323 :: v324 :: v325 :: v326 :: v327 :: v328 :: v329 :: v330 :: v331 :: v332 :: v333 :: v334 :: v335 :: v336 :: v337 :: v338 :: v339 :: v340 :: v341 :: v342 :: v343 :: v344 :: v345 :: v346 :: v347 :: v348 :: v349 :: v350 :: v351 :: v352 :: v353 :: v354 :: v355 :: [] : List Value).toArray), []⟩ wr := by
  conv => arg 2; whnf
  obtain ⟨aq, cq, hq⟩ := own_slice hP.que
  obtain ⟨atb, ctb, htb⟩ := own_slice hP.buf
  have t4 : wr.cell? ⟨bt, 4, none⟩ = some (.int .u8 st') := hP.tok.cell 4
  have t2 : wr.cell? ⟨bt, 2, none⟩ = some (.int .i64 pos') := hP.tok.cell 2
  have t10 : wr.cell? ⟨bt, 10, none⟩ = some q' := hP.tok.cell 10
  have t12 : wr.cell? ⟨bt, 12, none⟩ = some tb' := hP.tok.cell 12
  have t13 : wr.cell? ⟨bt, 13, none⟩ = some (.int .i64 ts') := hP.tok.cell 13
  have t14 : wr.cell? ⟨bt, 14, none⟩ = some (.int .i64 te') := hP.tok.cell 14
  rw [hq] at t10
  rw [htb] at t12
  have hlt : bt < wr.heap.size := hP.tok.lt
  have hc1 : (c == 47) = false := by simpa using hc47
  have hf1 : (0 : Int) ≤ (f : Int) := by omega
  have hf2 : (f : Int) < (n : Int) := by omega
  have hf3 : (f : Int) < 2000000 := by omega
  have hcell := row_cell hP.src f (by omega)
  have hmem : zs.getD f 0 ∈ zs := by
    have : f < zs.length := by omega
    simp [List.getD, this]
  obtain ⟨hw1, hw2⟩ := hw _ hmem
  generalize zs.getD f 0 = r at *
  clear hmem
  have hk1 : Kept (fun _ => False) wr (wr.alloc (.cells ((enc r).map (Value.int .u8)).toArray 5)) := (Kept.refl _ _).alloc _
  have hP1 := hP.kept hk1 hB
  have henc := enc_any r wr hw1 hw2
  have HEN := hide henc
  have hse : (convert 24 9 (.slice (some ⟨wr.heap.size, 0, none⟩) (enc r).length (enc r).length)).run Yba.prog (wr.alloc (.cells ((enc r).map (Value.int .u8)).toArray 5)) = .ok (.string (strOfNums (enc r))) (wr.alloc (.cells ((enc r).map (Value.int .u8)).toArray 5)) :=
    row_string (rowAt_block (heap_alloc_new wr _))
  clear henc
  subst e1 e2 e3 e4 e5 e6 e7
  have hsb := own_string hP1.buf
  rw [htb] at hsb
  have heq := equal_any _ _ _ _ hsb hse
  have HE := hide heq
  have HQ := hide hq
  have HT := hide htb
  clear heq hse hsb hq htb hP1 hk1
  go_wp2_with fail
  refine (unhide HEN).mono ?_
  rintro e w9 ⟨rfl, rfl⟩
  go_wp2_with fail
  refine (unhide HE).mono ?_
  rintro e w9 ⟨rfl, rfl⟩
  go_wp2
  go_ret
  exact ⟨rfl, hP.bel.alloc hB _⟩

set_option maxRecDepth 100000 in
set_option maxHeartbeats 4000000 in
theorem tail_C {B : Nat} {w0 wr : World} {bt g bc n f : Nat} {zs : List Int} {ln : Value} {pos' st' : Int} {q' tb' : Value} {ts' te' : Int} {m' : Nat} {extra : List Value} {ys' : List Int}
    {c tst est pos bs be : Int} {a7 a11 : Option Addr} {n7 c7 k c11 : Nat} {ss : List ByteArray} {ys : List Int} {v0 v2 v5 v10 v12 v13 v14 v15 v16 v17 v18 v19 v20 v21 v22 v23 v24 v26 v28 v29 v30 v32 v33 v34 v35 v36 v37 v38 v39 v40 v41 v42 v43 v44 v45 v46 v47 v48 v49 v50 v51 v52 v53 v54 v55 v56 v57 v58 v59 v60 v61 v62 v63 v64 v65 v66 v67 v68 v69 v70 v71 v72 v73 v74 v75 v76 v77 v78 v79 v80 v81 v82 v83 v84 v85 v86 v87 v88 v89 v90 v91 v92 v93 v94 v95 v96 v97 v98 v99 v100 v101 v102 v103 v104 v105 v106 v107 v108 v109 v110 v111 v112 v113 v114 v115 v116 v117 v118 v119 v120 v121 v122 v123 v124 v125 v126 v127 v128 v129 v130 v131 v132 v133 v134 v135 v136 v137 v138 v139 v140 v141 v142 v143 v144 v145 v146 v147 v148 v149 v150 v151 v152 v153 v154 v155 v156 v157 v158 v159 v160 v161 v162 v163 v164 v165 v166 v167 v168 v169 v170 v171 v172 v173 v174 v175 v176 v177 v178 v179 v180 v181 v182 v183 v184 v185 v186 v187 v188 v189 v190 v191 v192 v193 v194 v195 v196 v197 v198 v199 v200 v201 v202 v203 v204 v205 v206 v207 v208 v209 v210 v211 v212 v213 v214 v215 v216 v217 v218 v219 v220 v221 v222 v223 v224 v225 v226 v227 v228 v229 v230 v231 v232 v233 v234 v235 v236 v237 v238 v239 v240 v241 v242 v243 v244 v245 v246 v247 v248 v249 v250 v251 v252 v253 v254 v255 v256 v257 v258 v259 v260 v261 v262 v263 v264 v265 v266 v267 v268 v269 v270 v271 v272 v273 v274 v275 v276 v277 v278 v279 v280 v281 v282 v283 v284 v285 v286 v287 v288 v289 v290 v291 v292 v293 v294 v295 v296 v297 v298 v299 v300 v301 v302 v303 v304 v305 v306 v307 v308 v309 v310 v311 v312 v313 v314 v315 v316 v317 v318 v319 v320 v321 v322 v323 v324 v325 v326 v327 v328 v329 v330 v331 v332 v333 v334 v335 v336 v337 v338 v339 v340 v341 v342 v343 v344 v345 v346 v347 v348 v349 v350 v351 v352 v353 v354 v355 : Value}
    (hP : Post B w0 wr bt g bc n f zs ln pos' st' q' tb' ts' te' m' (tokQ ss k ++ extra) ys') (hc47 : c ≠ 47) (hB : B ≤ wr.heap.size) (hz : zs.length = n) (hfn : f < n) (hn : n ≤ 1048576) (hw : ∀ x ∈ zs, -2147483648 ≤ x ∧ x ≤ 2147483647) (hk : k ≤ 1048576) (h7n : n7 ≤ 1048576) (e1 : pos' = wrap64 (pos - 1)) (e2 : st' = tst) (e3 : te' = (f : Int) + 1) (e4 : 0 < n7) (e8 : be = (f : Int)) (hy : ys.length = n7) (h7 : RowAt wr .u8 a7 ys) (e5 : ts' = bs) (e6 : m' = k) (e7 : ys' = ys ++ enc (zs.getD f 0))
    :
    Code.wp Yba.prog ((Yba.f3.body.bind from37).getD .skip) (bodyPost Yba.prog Yba.f3 fun e w' => e = .returned (.bool true) ∧ Below B w0 w') ⟨((v0 :: Value.int .i32 c :: v2 :: Value.int .u8 tst :: Value.int .u8 est :: v5 :: Value.int .i64 pos :: Value.slice a7 n7 c7 :: Value.int .i64 bs :: Value.int .i64 be :: v10 :: Value.slice a11 k c11 :: v12 :: v13 :: v14 :: v15 :: v16 :: v17 :: v18 :: v19 :: v20 :: v21 :: v22 :: v23 :: v24 :: Value.slice (some ⟨g, 0, none⟩) n n :: v26 :: Value.int .i64 (f : Int) :: v28 :: v29 :: v30 :: Value.pointer (some ⟨bt, 0, none⟩) :: v32 :: v33 :: v34 :: v35 :: v36 :: v37 :: v38 :: v39 :: v40 :: v41 :: v42 :: v43 :: v44 :: v45 :: v46 :: v47 :: v48 :: v49 :: v50 :: v51 :: v52 :: v53 :: v54 :: v55 :: v56 :: v57 :: v58 :: v59 :: v60 :: v61 :: v62 :: v63 :: v64 :: v65 :: v66 :: v67 :: v68 :: v69 :: v70 :: v71 :: v72 :: v73 :: v74 :: v75 :: v76 :: v77 :: v78 :: v79 :: v80 :: v81 :: v82 :: v83 :: v84 :: v85 :: v86 :: v87 :: v88 :: v89 :: v90 :: v91 :: v92 :: v93 :: v94 :: v95 :: v96 :: v97 :: v98 :: v99 :: v100 :: v101 :: v102 :: v103 :: v104 :: v105 :: v106 :: v107 :: v108 :: v109 :: v110 :: v111 :: v112 :: v113 :: v114 :: v115 :: v116 :: v117 :: v118 :: v119 :: v120 :: v121 :: v122 :: v123 :: v124 :: v125 :: v126 :: v127 :: v128 :: v129 :: v130 :: v131 :: v132 :: v133 :: v134 :: v135 :: v136 :: v137 :: v138 :: v139 :: v140 :: v141 :: v142 :: v143 :: v144 :: v145 :: v146 :: v147 :: v148 :: v149 :: v150 :: v151 :: v152 :: v153 :: v154 :: v155 :: v156 :: v157 :: v158 :: v159 :: v160 :: v161 :: v162 :: v163 :: v164 :: v165 :: v166 :: v167 :: v168 :: v169 :: v170 :: v171 :: v172 :: v173 :: v174 :: v175 :: v176 :: v177 :: v178 :: v179 :: v180 :: v181 :: v182 :: v183 :: v184 :: v185 :: v186 :: v187 :: v188 :: v189 :: v190 :: v191 :: v192 :: v193 :: v194 :: v195 :: v196 :: v197 :: v198 :: v199 :: v200 :: v201 :: v202 :: v203 :: v204 :: v205 :: v206 :: v207 :: v208 :: v209 :: v210 :: v211 :: v212 :: v213 :: v214 :: v215 :: v216 :: v217 :: v218 :: v219 :: v220 :: v221 :: v222 :: v223 :: v224 :: v225 :: v226 :: v227 :: v228 :: v229 :: v230 :: v231 :: v232 :: v233 :: v234 :: v235 :: v236 :: v237 :: v238 :: v239 :: v240 :: v241 :: v242 :: v243 :: v244 :: v245 :: v246 :: v247 :: v248 :: v249 :: v250 :: v251 :: v252 :: v253 :: v254 :: v255 :: v256 :: v257 :: v258 :: v259 :: v260 :: v261 :: v262 :: v263 :: v264 :: v265 :: v266 :: v267 :: v268 :: v269 :: v270 :: v271 :: v272 :: v273 :: v274 :: v275 :: v276 :: v277 :: v278 :: v279 :: v280 :: v281 :: v282 :: v283 :: v284 :: v285 :: v286 :: v287 :: v288 :: v289 :: v290 :: v291 :: v292 :: v293 :: v294 :: v295 :: v296 :: v297 :: v298 :: v299 :: v300 :: v301 :: v302 :: v303 :: v304 :: v305 :: v306 :: v307 :: v308 :: v309 :: v310 :: v311 :: v312 :: v313 :: v314 :: v315 :: v316 :: v317 :: v318 :: v319 :: v320 :: v321 :: v322 :: v323 :: v324 :: v325 :: v326 :: v327 :: v328 :: v329 :: v330 :: v331 :: v332 :: v333 :: v334 :: v335 :: v336 :: v337 :: v338 :: v339 :: v340 :: v341 :: v342 :: v343 :: v344 :: v345 :: v346 :: v347 :: v348 :: v349 :: v350 :: v351 :: v352 :: v353 :: v354 :: v355 :: [] : List Value).toArray), []⟩ wr := by
  conv => arg 2; whnf
  obtain ⟨aq, cq, hq⟩ := own_slice hP.que
  obtain ⟨atb, ctb, htb⟩ := own_slice hP.buf
  have t4 : wr.cell? ⟨bt, 4, none⟩ = some (.int .u8 st') := hP.tok.cell 4
  have t2 : wr.cell? ⟨bt, 2, none⟩ = some (.int .i64 pos') := hP.tok.cell 2
  have t10 : wr.cell? ⟨bt, 10, none⟩ = some q' := hP.tok.cell 10
  have t12 : wr.cell? ⟨bt, 12, none⟩ = some tb' := hP.tok.cell 12
  have t13 : wr.cell? ⟨bt, 13, none⟩ = some (.int .i64 ts') := hP.tok.cell 13
  have t14 : wr.cell? ⟨bt, 14, none⟩ = some (.int .i64 te') := hP.tok.cell 14
  rw [hq] at t10
  rw [htb] at t12
  have hlt : bt < wr.heap.size := hP.tok.lt
  have hc1 : (c == 47) = false := by simpa using hc47
  have hf1 : (0 : Int) ≤ (f : Int) := by omega
  have hf2 : (f : Int) < (n : Int) := by omega
  have hf3 : (f : Int) < 2000000 := by omega
  have hcell := row_cell hP.src f (by omega)
  have hmem : zs.getD f 0 ∈ zs := by
    have : f < zs.length := by omega
    simp [List.getD, this]
  obtain ⟨hw1, hw2⟩ := hw _ hmem
  generalize zs.getD f 0 = r at *
  clear hmem
  have hk1 : Kept (fun _ => False) wr (wr.alloc (.cells ((enc r).map (Value.int .u8)).toArray 5)) := (Kept.refl _ _).alloc _
  have hP1 := hP.kept hk1 hB
  have henc := enc_any r wr hw1 hw2
  have HEN := hide henc
  have hse : (convert 24 9 (.slice (some ⟨wr.heap.size, 0, none⟩) (enc r).length (enc r).length)).run Yba.prog (wr.alloc (.cells ((enc r).map (Value.int .u8)).toArray 5)) = .ok (.string (strOfNums (enc r))) (wr.alloc (.cells ((enc r).map (Value.int .u8)).toArray 5)) :=
    row_string (rowAt_block (heap_alloc_new wr _))
  clear henc
  subst e1 e2 e3 e5 e6 e7 e8
  have hn0 : ((n7 : Int) == 0) = false := by simp; omega
  have hn1 : (0 : Int) < (n7 : Int) := by omega
  obtain ⟨v1, w3, v2, w4, hr1, hr2, hb4, ho4⟩ := append_two wr a7 n7 c7 ys (enc r) hy e4 h7n (enc_len r).2 h7
  have hP4 := hP.kept (kept_of_below hb4) hB
  have hsb := own_string hP4.buf
  rw [htb] at hsb
  have u12 : w4.cell? ⟨bt, 12, none⟩ = some (.slice atb (ys ++ enc r).length ctb) := by rw [← htb]; exact hP4.tok.cell 12
  have hso := own_string ho4
  generalize (ys ++ enc r).length = l2 at hsb u12
  have heq := equal_any _ _ _ _ hsb hso
  have u4 : w4.cell? ⟨bt, 4, none⟩ = some (.int .u8 st') := hP4.tok.cell 4
  have u2 : w4.cell? ⟨bt, 2, none⟩ = some (.int .i64 (wrap64 (pos - 1))) := hP4.tok.cell 2
  have u10 : w4.cell? ⟨bt, 10, none⟩ = some (.slice aq m' cq) := by rw [← hq]; exact hP4.tok.cell 10
  have u13 : w4.cell? ⟨bt, 13, none⟩ = some (.int .i64 ts') := hP4.tok.cell 13
  have u14 : w4.cell? ⟨bt, 14, none⟩ = some (.int .i64 ((f : Int) + 1)) := hP4.tok.cell 14
  have HE := hide heq
  have HQ := hide hq
  have HT := hide htb
  clear heq hse hsb hso hq htb hP1 hk1 hy t4 t2 t10 t12 t13 t14
  go_wp2_with fail
  refine (unhide HEN).mono ?_
  rintro e w9 ⟨rfl, rfl⟩
  go_wp2_with fail
  refine (unhide HE).mono ?_
  rintro e w9 ⟨rfl, rfl⟩
  go_wp2
  go_ret
  exact ⟨rfl, hP4.bel⟩

end Go.Proofs.Ybulkexpzq
