import Derived.Test.Qxb6617273aHze
namespace Go.Proofs.Qxb6617273a.Hunk
open Go.RowKit Go.PlainAid Go.Proofs.Qxb6617273a.QLen
attribute [local go_sem ↓] Go.wp_at_zero Go.wp_at_succ

theorem krow_new {w : World} {g : Nat} (T : List ByteArray) (hb : T.length ≤ 1000000) (hg : w.heap[g]? = some (.cells (madeCells #[Value.int .u8 0] T.length) 5 (0, 0))) :
    w.ownsRow 0 5 1 (.slice (some ⟨g, 0, none⟩) T.length T.length) T.length (KX (upto (kinds T) 0 0)) := by
  refine own_of_block hg (by rw [size_made]; omega) (Nat.le_refl _) (by omega) ?_
  rw [upto_zero]
  rw [made_one, List.take_of_length_le (by simp)]
  apply List.ext_getElem
  · simp [KX, kinds]
  · intro i h1 h2; simp [KX]
theorem krow_next {w : World} {g n cap : Nat} {K : List Int} (k : Nat) (hk : k < K.length) (h : w.ownsRow 0 5 1 (.slice (some ⟨g, 0, none⟩) n cap) n (KX (upto K 0 k))) :
    (w.setCell ⟨g, k, none⟩ (.int .u8 K[k])).ownsRow 0 5 1 (.slice (some ⟨g, 0, none⟩) n cap) n (KX (upto K 0 (k + 1))) := by
  have := (h.stored k (.int .u8 K[k])).1
  rw [← upto_set K 0 k hk]
  unfold KX at *
  rwa [List.map_set]

set_option maxRecDepth 1000000 in
set_option maxHeartbeats 8000000 in
theorem stageB (w W : World) (line old new ol nl next : Int) (hdr : ByteArray) (d a whole : Bool) (ap co tp : Option Addr) (acp cc tc : Nat) (Z : List (Int × Int)) (C0 : List Int) (T : List ByteArray)
    (b1 : hdr.size ≤ 1048576) (b2 : Z.length ≤ 65536) (b3 : C0.length ≤ 131072) (b4 : T.length ≤ 65536) (HT : Hid (Txt w tp T)) (HTS : Hid (∀ t ∈ T, t.size ≤ 1048576)) (HC : Hid (Ins w co cc C0.length (NX C0))) (K1 : Hid (i64ok ol)) (K2 : Hid (i64ok nl)) (K3 : Hid (i64ok next))
    (HB : Hid (Bse w W (boxed line hdr old new ol nl next d a))) (HAd : Hid (W.ownsRow 0 36 2 (.slice ap Z.length acp) Z.length (PX Z)))
    (v0 v6 v7 v8 v9 v10 v11 v12 v13 v14 v15 v16 v17 v18 v19 v20 v21 v22 v23 v24 v25 v26 v27 v28 v29 v30 v31 v32 v33 v34 v35 v36 v37 v38 v39 v40 v41 v42 v43 v44 v45 v46 v47 v48 v49 v50 v51 v52 v53 v54 v55 v56 v57 v58 v59 v60 v61 v62 v63 v64 v65 v66 v67 v68 v69 v70 v71 v72 v73 v74 v75 v76 v77 v78 v79 v80 v81 v82 v83 v84 v85 v86 v87 v88 v89 v90 v91 v92 v93 v94 v95 v96 v97 v98 v99 v100 v101 v102 v103 v104 v105 v106 v107 v108 v109 v110 v111 v112 v113 v114 v115 v116 v117 v118 v119 v120 v121 v122 v123 v124 v125 v126 v127 v128 v129 v130 v131 v132 v133 v134 v135 v136 v137 v138 v139 v140 v141 v142 v143 v144 v145 v146 v147 v148 v149 v150 v151 v152 v153 v154 v155 v156 v157 v158 v159 v160 v161 v162 v163 v164 v165 v166 v167 v168 v169 v170 v171 v172 v173 v174 v175 v176 v177 v178 v179 v180 v181 v182 v183 v184 v185 v186 v187 v188 v189 v190 v191 v192 v193 v194 v195 v196 v197 v198 v199 v200 v201 v202 v203 v204 v205 v206 v207 v208 v209 v210 v211 v212 v213 v214 v215 v216 v217 v218 v219 v220 v221 v222 v223 v224 v225 v226 v227 v228 v229 v230 v231 v232 v233 v234 v235 v236 v237 v238 v239 v240 v241 v242 v243 v244 v245 v246 v247 v248 v249 v250 v251 v252 v253 v254 v255 v256 v257 v258 v259 v260 v261 v262 v263 v264 v265 v266 v267 v268 v269 v270 v271 v272 v273 v274 v275 v276 v277 v278 v279 v280 v281 v282 v283 v284 v285 v286 v287 v288 v289 v290 v291 v292 v293 v294 v295 v296 v297 v298 v299 v300 v301 v302 v303 v304 v305 v306 v307 v308 v309 v310 v311 v312 v313 v314 v315 v316 v317 v318 v319 v320 v321 v322 v323 v324 v325 v326 v327 v328 v329 v330 v331 v332 v333 v334 v335 v336 v337 v338 v339 v340 v341 v342 v343 v344 v345 v346 v347 v348 v349 v350 v351 v352 v353 v354 v355 v356 v357 v358 v359 v360 v361 v362 v363 v364 v365 v366 v367 v368 v369 v370 v371 v372 v373 v374 v375 v376 v377 v378 v379 v380 v381 : Value) :
    Code.wp Try.prog ((Try.f6.body.bind (fromReg 9)).getD .skip) (bodyPost Try.prog Try.f6 fun e w' => e = .returned (.bool true) ∧ Below w.heap.size w w') ⟨#[v0, .bool whole, .slice ap Z.length acp, .slice co C0.length cc, .slice tp T.length tc, .pointer (some ⟨w.heap.size, 0, none⟩), v6, v7, v8, v9, v10, v11, v12, v13, v14, v15, v16, v17, v18, v19, v20, v21, v22, v23, v24, v25, v26, v27, v28, v29, v30, v31, v32, v33, v34, v35, v36, v37, v38, v39, v40, v41, v42, v43, v44, v45, v46, v47, v48, v49, v50, v51, v52, v53, v54, v55, v56, v57, v58, v59, v60, v61, v62, v63, v64, v65, v66, v67, v68, v69, v70, v71, v72, v73, v74, v75, v76, v77, v78, v79, v80, v81, v82, v83, v84, v85, v86, v87, v88, v89, v90, v91, v92, v93, v94, v95, v96, v97, v98, v99, v100, v101, v102, v103, v104, v105, v106, v107, v108, v109, v110, v111, v112, v113, v114, v115, v116, v117, v118, v119, v120, v121, v122, v123, v124, v125, v126, v127, v128, v129, v130, v131, v132, v133, v134, v135, v136, v137, v138, v139, v140, v141, v142, v143, v144, v145, v146, v147, v148, v149, v150, v151, v152, v153, v154, v155, v156, v157, v158, v159, v160, v161, v162, v163, v164, v165, v166, v167, v168, v169, v170, v171, v172, v173, v174, v175, v176, v177, v178, v179, v180, v181, v182, v183, v184, v185, v186, v187, v188, v189, v190, v191, v192, v193, v194, v195, v196, v197, v198, v199, v200, v201, v202, v203, v204, v205, v206, v207, v208, v209, v210, v211, v212, v213, v214, v215, v216, v217, v218, v219, v220, v221, v222, v223, v224, v225, v226, v227, v228, v229, v230, v231, v232, v233, v234, v235, v236, v237, v238, v239, v240, v241, v242, v243, v244, v245, v246, v247, v248, v249, v250, v251, v252, v253, v254, v255, v256, v257, v258, v259, v260, v261, v262, v263, v264, v265, v266, v267, v268, v269, v270, v271, v272, v273, v274, v275, v276, v277, v278, v279, v280, v281, v282, v283, v284, v285, v286, v287, v288, v289, v290, v291, v292, v293, v294, v295, v296, v297, v298, v299, v300, v301, v302, v303, v304, v305, v306, v307, v308, v309, v310, v311, v312, v313, v314, v315, v316, v317, v318, v319, v320, v321, v322, v323, v324, v325, v326, v327, v328, v329, v330, v331, v332, v333, v334, v335, v336, v337, v338, v339, v340, v341, v342, v343, v344, v345, v346, v347, v348, v349, v350, v351, v352, v353, v354, v355, v356, v357, v358, v359, v360, v361, v362, v363, v364, v365, v366, v367, v368, v369, v370, v371, v372, v373, v374, v375, v376, v377, v378, v379, v380, v381], []⟩ W := by
  have x1 : W.cell? ⟨w.heap.size, 1, none⟩ = some (.string hdr) := blk_cell HB.out.box 1
  have HTW := hid (HT.out.fr HB.out.fr)
  have HCW := hid (HC.out.fr HB.out.fr)
  by_cases hsz : (hdr.size : Int) + 16 * Z.length + 8 * C0.length + 16 * T.length ≤ 1048576
  · conv => arg 2; whnf
    go_wp2_with fail
    go_loop [12, 13] (fun z i => ∃ (k : Nat) (n : Int), k ≤ T.length ∧ i = .int .i64 k ∧ z = .int .i64 n ∧ 0 ≤ n ∧ n ≤ 1048576) (fun _ i => T.length - (intOf i).toNat)
    case atStart => exact ⟨0, _, Nat.zero_le _, rfl, rfl, by omega, by omega⟩
    case round =>
      obtain ⟨k, n, hk, rfl, rfl, hn0, hn1⟩ := hrel
      clear x1
      by_cases hlt : k < T.length
      · obtain ⟨b, off, rfl, hb, hc⟩ := HTW.out.2 (by omega)
        have hs := HTS.out T[k] (List.getElem_mem hlt)
        have c1 := hc k hlt
        clear hc
        generalize T[k] = t at c1 hs
        by_cases q2 : n + t.size ≤ 1048576
        · go_wp2_with fail
          go_round
          case rel => exact ⟨k + 1, _, by omega, by go_num, rfl, by omega, by omega⟩
          case measure => simp [intOf]; omega
        · go_wp2_with fail
          go_ret
          exact ⟨rfl, HB.out.fr.toBelow⟩
      · obtain rfl : k = T.length := by omega
        have H13 := clone_any W co cc C0 (by omega) (fun h => by have := HCW.out.1 h; exact ⟨List.eq_nil_of_length_eq_zero this.1, this.2⟩) HCW.out.2
        clear HCW
        go_wp2_with fail
        refine H13.mono ?_
        rintro e w2 ⟨cp, ccp, rfl, r1, r2, r3⟩
        have HCu := hid r1
        have HCB : Hid (∀ k, (Value.slice cp C0.length ccp).ownBlock = some k → w.heap.size ≤ k) := fun k hk => Nat.le_trans HB.out.fr.size (r2 k hk)
        have HB2 := hid (HB.out.go r3)
        have HAd2 := hid (r3.own HAd.out (fun _ _ h => h))
        clear r1 r2 r3 H13 HB HAd HTW
        go_wp2_with (at_make; refine wpList_mk Try.underlying34 info5' _ _ rfl rfl _ _ rfl rfl T.length T.length (by omega) (by omega) (Nat.le_refl _) (by omega) (by decide) ?_)
        intro w3 hg3 hf3 hz3
        have H0 := hid (krow_new T (by omega) hg3)
        have F3 := hid hf3
        clear hg3 hf3 hz3
        go_wp2_with fail
        rename_i Kx hKx
        have HKX := hid hKx
        clear hKx
        go_loopw [15, 16, 17, 18] (fun v15 v16 v17 v18 wr => ∃ k : Nat, k ≤ T.length ∧ v18 = .int .i64 k ∧ (∃ p q r : Nat, p ≤ k ∧ q ≤ k ∧ r ≤ k ∧ v15 = .int .i64 p ∧ v16 = .int .i64 q ∧ v17 = .int .i64 r ∧ Hid (p = cnt 32 ((kinds T).take k)) ∧ Hid (q = cnt 45 ((kinds T).take k)) ∧ Hid (r = cnt 43 ((kinds T).take k))) ∧ Hid (wr.ownsRow 0 5 1 (.slice (some ⟨w2.heap.size, 0, none⟩) T.length T.length) T.length (KX (upto (kinds T) 0 k))) ∧ Hid (Fr (fun _ => False) w2 wr)) (fun _ _ _ v18 _ => T.length - (intOf v18).toNat)
        case atStart => exact ⟨0, Nat.zero_le _, rfl, ⟨0, 0, 0, Nat.le_refl _, Nat.le_refl _, Nat.le_refl _, rfl, rfl, rfl, rfl, rfl, rfl⟩, H0, F3⟩
        case round =>
          clear H0 F3
          obtain ⟨k, hk, rfl, ⟨p, q, r, hp, hq, hr, rfl, rfl, rfl, HP, HQ, HR⟩, HO, HF⟩ := hrel
          by_cases hlt : k < T.length
          · have hkk : k < (kinds T).length := by rw [kinds_len]; exact hlt
            obtain ⟨b, off, rfl, hb, hc⟩ := ((HT.out.fr HB2.out.fr).fr HF.out).2 (by omega)
            have c1 := hc k hlt
            have hts := HTS.out T[k] (List.getElem_mem hlt)
            have H14 := fun wx => kind_any T[k] wx (by omega)
            have d1 : ∃ x, wr.cell? ⟨w2.heap.size, k, none⟩ = some (.int .u8 x) := ⟨_, by rw [HO.out.cellAt k (by omega), KX_get _ _ (by rw [upto_len]; exact hkk)]⟩
            obtain ⟨x9, d1⟩ := d1
            have f1 : wr.frozen? ⟨w2.heap.size, k, none⟩ = false := HO.out.frozenAt _
            have N1 := hid (krow_next k hkk HO.out)
            have N2 := hid (fun u => HF.out.setNew (p := ⟨w2.heap.size, k, none⟩) (Nat.le_refl _) u)
            have EK := hid (List.take_succ_eq_append_getElem hkk)
            rw [kinds_get T k hlt] at N1 EK
            have P2 : Hid (p + (if kd (raw T[k]) = 32 then 1 else 0) = cnt 32 ((kinds T).take (k + 1))) := by rw [EK.out, cnt_snoc, ← HP.out]; exact rfl
            have Q2 : Hid (q + (if kd (raw T[k]) = 45 then 1 else 0) = cnt 45 ((kinds T).take (k + 1))) := by rw [EK.out, cnt_snoc, ← HQ.out]; exact rfl
            have R2 : Hid (r + (if kd (raw T[k]) = 43 then 1 else 0) = cnt 43 ((kinds T).take (k + 1))) := by rw [EK.out, cnt_snoc, ← HR.out]; exact rfl
            clear hc EK HP HQ HR HO HF hts
            generalize kd (raw T[k]) = c at H14 N1 P2 Q2 R2
            generalize T[k] = t at c1 H14
            by_cases h32 : c = 32
            · subst h32
              go_wp2_with (go_at_call 14; refine (H14 _).mono ?_; rintro e w9 ⟨rfl, rfl⟩)
              go_roundw
              case rel => exact ⟨k + 1, by omega, by go_num, ⟨p + 1, q, r, by omega, by omega, by omega, by go_num, rfl, rfl, P2, Q2, R2⟩, N1, N2.out _⟩
              case measure => simp [intOf]; omega
            · have e32 : (c == 32) = false := by simp [h32]
              by_cases h45 : c = 45
              · subst h45
                go_wp2_with (go_at_call 14; refine (H14 _).mono ?_; rintro e w9 ⟨rfl, rfl⟩)
                go_roundw
                case rel => exact ⟨k + 1, by omega, by go_num, ⟨p, q + 1, r, by omega, by omega, by omega, rfl, by go_num, rfl, P2, Q2, R2⟩, N1, N2.out _⟩
                case measure => simp [intOf]; omega
              · have e45 : (c == 45) = false := by simp [h45]
                by_cases h43 : c = 43
                · subst h43
                  go_wp2_with (go_at_call 14; refine (H14 _).mono ?_; rintro e w9 ⟨rfl, rfl⟩)
                  go_roundw
                  case rel => exact ⟨k + 1, by omega, by go_num, ⟨p, q, r + 1, by omega, by omega, by omega, rfl, rfl, by go_num, P2, Q2, R2⟩, N1, N2.out _⟩
                  case measure => simp [intOf]; omega
                · have e43 : (c == 43) = false := by simp [h43]
                  rw [if_neg h32] at P2
                  rw [if_neg h45] at Q2
                  rw [if_neg h43] at R2
                  clear h32 h45 h43
                  go_wp2_with (go_at_call 14; refine (H14 _).mono ?_; rintro e w9 ⟨rfl, rfl⟩)
                  go_roundw
                  case rel => exact ⟨k + 1, by omega, by go_num, ⟨p, q, r, by omega, by omega, by omega, rfl, rfl, rfl, P2, Q2, R2⟩, N1, N2.out _⟩
                  case measure => simp [intOf]; omega
          · obtain rfl : k = T.length := by omega
            have HX : Hid ((kinds T).take T.length = kinds T) := List.take_of_length_le (by rw [kinds_len]; omega)
            rw [HX.out] at HP HQ HR
            have HO2 : Hid (wr.ownsRow 0 5 1 (.slice (some ⟨w2.heap.size, 0, none⟩) T.length T.length) T.length (KX (kinds T))) := by
              have := HO.out; rw [← kinds_len T, upto_all, kinds_len T] at this; exact this
            clear HO HX
            have hp9 := HP.out
            have hq9 := HQ.out
            have hr9 := HR.out
            subst hp9 hq9 hr9
            go_wp2_with fail
            refine HKX.out _ _ ?_
            exact stageC w wr line old new ol nl next hdr d a whole ap cp tp acp ccp tc w2.heap.size Z C0 T b2 b3 b4 HT HTS K1 K2 K3 (HB2.out.go HF.out) (HF.out.own HAd2.out (fun _ _ h => h)) (HF.out.own HCu.out (fun _ _ h => h)) HCB HO2 _ _ _ _ _ _ _ _ _ _ _ _ _ _ _ _ _ _ _ _ _ _ _ _ _ _ _ _ _ _ _ _ _ _ _ _ _ _ _ _ _ _ _ _ _ _ _ _ _ _ _ _ _ _ _ _ _ _ _ _ _ _ _ _ _ _ _ _ _ _ _ _ _ _ _ _ _ _ _ _ _ _ _ _ _ _ _ _ _ _ _ _ _ _ _ _ _ _ _ _ _ _ _ _ _ _ _ _ _ _ _ _ _ _ _ _ _ _ _ _ _ _ _ _ _ _ _ _ _ _ _ _ _ _ _ _ _ _ _ _ _ _ _ _ _ _ _ _ _ _ _ _ _ _ _ _ _ _ _ _ _ _ _ _ _ _ _ _ _ _ _ _ _ _ _ _ _ _ _ _ _ _ _ _ _ _ _ _ _ _ _ _ _ _ _ _ _ _ _ _ _ _ _ _ _ _ _ _ _ _ _ _ _ _ _ _ _ _ _ _ _ _ _ _ _ _ _ _ _ _ _ _ _ _ _ _ _ _ _ _ _ _ _ _ _ _ _ _ _ _ _ _ _ _ _ _ _ _ _ _ _ _ _ _ _ _ _ _ _ _ _ _ _ _ _ _ _ _ _ _ _ _ _ _ _ _ _ _ _ _ _ _ _ _ _ _ _ _ _ _ _ _ _ _ _ _ _ _ _ _ _ _ _ _ _ _ _ _ _ _ _ _ _ _ _ _ _ _ _ _ _ _ _ _ _ _ _ _ _ _ _ _ _ _ _ _ _ _ _ _ _ _ _ _ _ _ _ _ _ _ _ _ _ _ _ _ _ _ _ _ _ _ _
  · conv => arg 2; whnf
    go_wp2_with fail
    go_ret
    exact ⟨rfl, HB.out.fr.toBelow⟩
end Go.Proofs.Qxb6617273a.Hunk
