import Derived.Test.Qxb6617273aHzd
import Derived.Test.Qxb6617273aHy
import Derived.Deep.DeepCutAuto
namespace Go.Proofs.Qxb6617273a.Hunk
open Go.RowKit Go.PlainAid Go.Proofs.Qxb6617273a.QLen
attribute [local go_sem ↓] Go.wp_at_zero Go.wp_at_succ

theorem copied {w : World} {g n m : Nat} {e : TypeId} {size : Nat} {cur : Array Value} {xs : List Value} (hg : w.heap[g]? = some (.cells (xs ++ cur.toList.drop xs.length).toArray e (0, 0))) (hc : cur.size = m * size) (hx : xs.length = n * size) (hn : n ≤ m) (hm : m ≤ 1000000000) : w.ownsRow 0 e size (.slice (some ⟨g, 0, none⟩) n m) n xs := by
  have hle : n * size ≤ m * size := Nat.mul_le_mul_right _ hn
  refine own_of_block hg ?_ hn hm ?_
  · simp; omega
  · simp; rw [← hx]; simp
theorem own_src {w : World} {base : Nat} {e : TypeId} {size : Nat} {sp : Option Addr} {n cap : Nat} {xs : List Value} (h : w.ownsRow base e size (.slice sp n cap) n xs) : 0 < n → ∃ ad, sp = some ad ∧ ∀ j v, xs[j]? = some v → w.cell? (ad.add j) = some v := by
  intro h0
  obtain ⟨g, c, hv, _, _⟩ := h.form h0
  simp only [Value.slice.injEq, true_and] at hv
  obtain ⟨rfl, rfl⟩ := hv
  exact ⟨_, rfl, h.cells rfl⟩

set_option maxRecDepth 1000000 in
set_option maxHeartbeats 8000000 in
theorem stageC (w W : World) (line old new ol nl next : Int) (hdr : ByteArray) (d a whole : Bool) (ap cp tp : Option Addr) (acp ccp tc gk : Nat) (Z : List (Int × Int)) (C0 : List Int) (T : List ByteArray)
    (b2 : Z.length ≤ 65536) (b3 : C0.length ≤ 131072) (b4 : T.length ≤ 65536) (HT : Hid (Txt w tp T)) (HTS : Hid (∀ t ∈ T, t.size ≤ 1048576)) (K1 : Hid (i64ok ol)) (K2 : Hid (i64ok nl)) (K3 : Hid (i64ok next))
    (HB : Hid (Bse w W (boxed line hdr old new ol nl next d a))) (HAd : Hid (W.ownsRow 0 36 2 (.slice ap Z.length acp) Z.length (PX Z))) (HCu : Hid (W.ownsRow 0 2 1 (.slice cp C0.length ccp) C0.length (NX C0)))
    (HCB : Hid (∀ k, (Value.slice cp C0.length ccp).ownBlock = some k → w.heap.size ≤ k)) (HK : Hid (W.ownsRow 0 5 1 (.slice (some ⟨gk, 0, none⟩) T.length T.length) T.length (KX (kinds T))))
    (v0 v6 v7 v8 v9 v10 v11 v12 v13 v18 v19 v20 v21 v22 v23 v24 v25 v26 v27 v28 v29 v30 v31 v32 v33 v34 v35 v36 v37 v38 v39 v40 v41 v42 v43 v44 v45 v46 v47 v48 v49 v50 v51 v52 v53 v54 v55 v56 v57 v58 v59 v60 v61 v62 v63 v64 v65 v66 v67 v68 v69 v70 v71 v72 v73 v74 v75 v76 v77 v78 v79 v80 v81 v82 v83 v84 v85 v86 v87 v88 v89 v90 v91 v92 v93 v94 v95 v96 v97 v98 v99 v100 v101 v102 v103 v104 v105 v106 v107 v108 v109 v110 v111 v112 v113 v114 v115 v116 v117 v118 v119 v120 v121 v122 v123 v124 v125 v126 v127 v128 v129 v130 v131 v132 v133 v134 v135 v136 v137 v138 v139 v140 v141 v142 v143 v144 v145 v146 v147 v148 v149 v150 v151 v152 v153 v154 v155 v156 v157 v158 v159 v160 v161 v162 v163 v164 v165 v166 v167 v168 v169 v170 v171 v172 v173 v174 v175 v176 v177 v178 v179 v180 v181 v182 v183 v184 v185 v186 v187 v188 v189 v190 v191 v192 v193 v194 v195 v196 v197 v198 v199 v200 v201 v202 v203 v204 v205 v206 v207 v208 v209 v210 v211 v212 v213 v214 v215 v216 v217 v218 v219 v220 v221 v222 v223 v224 v225 v226 v227 v228 v229 v230 v231 v232 v233 v234 v235 v236 v237 v238 v239 v240 v241 v242 v243 v244 v245 v246 v247 v248 v249 v250 v251 v252 v253 v254 v255 v256 v257 v258 v259 v260 v261 v262 v263 v264 v265 v266 v267 v268 v269 v270 v271 v272 v273 v274 v275 v276 v277 v278 v279 v280 v281 v282 v283 v284 v285 v286 v287 v288 v289 v290 v291 v292 v293 v294 v295 v296 v297 v298 v299 v300 v301 v302 v303 v304 v305 v306 v307 v308 v309 v310 v311 v312 v313 v314 v315 v316 v317 v318 v319 v320 v321 v322 v323 v324 v325 v326 v327 v328 v329 v330 v331 v332 v333 v334 v335 v336 v337 v338 v339 v340 v341 v342 v343 v344 v345 v346 v347 v348 v349 v350 v351 v352 v353 v354 v355 v356 v357 v358 v359 v360 v361 v362 v363 v364 v365 v366 v367 v368 v369 v370 v371 v372 v373 v374 v375 v376 v377 v378 v379 v380 v381 : Value) :
    Code.wp Try.prog ((Try.f6.body.bind (fromReg 32)).getD .skip) (bodyPost Try.prog Try.f6 fun e w' => e = .returned (.bool true) ∧ Below w.heap.size w w') ⟨#[v0, .bool whole, .slice ap Z.length acp, .slice cp C0.length ccp, .slice tp T.length tc, .pointer (some ⟨w.heap.size, 0, none⟩), v6, v7, v8, v9, v10, v11, v12, v13, .slice (some ⟨gk, 0, none⟩) T.length T.length, .int .i64 (cnt 32 (kinds T) : Int), .int .i64 (cnt 45 (kinds T) : Int), .int .i64 (cnt 43 (kinds T) : Int), v18, v19, v20, v21, v22, v23, v24, v25, v26, v27, v28, v29, v30, v31, v32, v33, v34, v35, v36, v37, v38, v39, v40, v41, v42, v43, v44, v45, v46, v47, v48, v49, v50, v51, v52, v53, v54, v55, v56, v57, v58, v59, v60, v61, v62, v63, v64, v65, v66, v67, v68, v69, v70, v71, v72, v73, v74, v75, v76, v77, v78, v79, v80, v81, v82, v83, v84, v85, v86, v87, v88, v89, v90, v91, v92, v93, v94, v95, v96, v97, v98, v99, v100, v101, v102, v103, v104, v105, v106, v107, v108, v109, v110, v111, v112, v113, v114, v115, v116, v117, v118, v119, v120, v121, v122, v123, v124, v125, v126, v127, v128, v129, v130, v131, v132, v133, v134, v135, v136, v137, v138, v139, v140, v141, v142, v143, v144, v145, v146, v147, v148, v149, v150, v151, v152, v153, v154, v155, v156, v157, v158, v159, v160, v161, v162, v163, v164, v165, v166, v167, v168, v169, v170, v171, v172, v173, v174, v175, v176, v177, v178, v179, v180, v181, v182, v183, v184, v185, v186, v187, v188, v189, v190, v191, v192, v193, v194, v195, v196, v197, v198, v199, v200, v201, v202, v203, v204, v205, v206, v207, v208, v209, v210, v211, v212, v213, v214, v215, v216, v217, v218, v219, v220, v221, v222, v223, v224, v225, v226, v227, v228, v229, v230, v231, v232, v233, v234, v235, v236, v237, v238, v239, v240, v241, v242, v243, v244, v245, v246, v247, v248, v249, v250, v251, v252, v253, v254, v255, v256, v257, v258, v259, v260, v261, v262, v263, v264, v265, v266, v267, v268, v269, v270, v271, v272, v273, v274, v275, v276, v277, v278, v279, v280, v281, v282, v283, v284, v285, v286, v287, v288, v289, v290, v291, v292, v293, v294, v295, v296, v297, v298, v299, v300, v301, v302, v303, v304, v305, v306, v307, v308, v309, v310, v311, v312, v313, v314, v315, v316, v317, v318, v319, v320, v321, v322, v323, v324, v325, v326, v327, v328, v329, v330, v331, v332, v333, v334, v335, v336, v337, v338, v339, v340, v341, v342, v343, v344, v345, v346, v347, v348, v349, v350, v351, v352, v353, v354, v355, v356, v357, v358, v359, v360, v361, v362, v363, v364, v365, v366, v367, v368, v369, v370, v371, v372, v373, v374, v375, v376, v377, v378, v379, v380, v381], []⟩ W := by
  conv => arg 2; whnf
  go_wp2_with (at_make; refine wpList_mk Try.underlying29 info36 _ _ rfl rfl _ _ rfl rfl Z.length (Z.length + T.length) (by omega) (by omega) (by omega) (by omega) (by decide) ?_)
  intro w1 hg1 hf1 hz1
  obtain ⟨w2, hrun1, hg2, hf2, hz2⟩ := cp_run Try.underlying29 info36 hg1 3 Z.length (Z.length + T.length) acp ap (PX Z) (by rw [PX_len]) (own_src (hf1.own HAd.out (fun _ _ h => h))) (by rw [PX_len, size_made]; omega) (PX_one' Z)
  have RA := hid (copied (n := Z.length) (m := Z.length + T.length) (size := 2) hg2 (size_made _ _) (PX_len Z) (Nat.le_add_right _ _) (by omega))
  have F2 : Hid (Fr (fun _ => False) W w2) := hf1.via hf2 (by intro n hn h; omega)
  have HZ2 : Hid (w2.heap.size = W.heap.size + 1) := show _ = _ by omega
  clear hg1 hg2 hf1 hf2 hz1 hz2
  go_wp2_with (at_make; refine wpList_mk Try.underlying30 info2 _ _ rfl rfl _ _ rfl rfl C0.length (C0.length + T.length) (by omega) (by omega) (by omega) (by omega) (by decide) ?_)
  intro w3 hg3 hf3 hz3
  obtain ⟨w4, hrun2, hg4, hf4, hz4⟩ := cp_run Try.underlying30 info2 hg3 3 C0.length (C0.length + T.length) ccp cp (NX C0) (by rw [NX_len, Nat.mul_one]) (own_src ((F2.out.trans hf3).own HCu.out (fun _ _ h => h))) (by rw [NX_len, size_made]; omega) (NX_one C0)
  have RC := hid (copied (n := C0.length) (m := C0.length + T.length) (size := 1) hg4 (by rw [size_made]; omega) (by rw [NX_len, Nat.mul_one]) (Nat.le_add_right _ _) (by omega))
  have F4' : Fr (fun _ => False) w2 w4 := hf3.via hf4 (by intro n hn h; omega)
  have RA4 := hid (F4'.own RA.out (fun _ _ h => h))
  have F4 : Hid (Fr (fun _ => False) W w4) := F2.out.trans F4'
  have HZ4 : Hid (w4.heap.size = W.heap.size + 2) := show _ = _ by have := HZ2.out; omega
  clear hg3 hg4 hf3 hf4 hz3 hz4 F4' RA F2 hrun1
  have hbox := (HB.out.go F4.out).box
  have x6 : w4.cell? ⟨w.heap.size, 6, none⟩ = some (.int .i64 next) := blk_cell hbox 6
  have x7 : w4.cell? ⟨w.heap.size, 7, none⟩ = some (.bool d) := blk_cell hbox 7
  have x8 : w4.cell? ⟨w.heap.size, 8, none⟩ = some (.bool a) := blk_cell hbox 8
  clear hbox
  have HI0 : Hid (Inv W (some ⟨W.heap.size, 0, none⟩) (some ⟨w2.heap.size, 0, none⟩) (Z.length + T.length) (C0.length + T.length) Z C0 w4) :=
    ⟨RA4.out, RC.out, fun k hk => by simp [Value.ownBlock] at hk; omega, fun k hk => by simp [Value.ownBlock] at hk; have := HZ2.out; omega, F4.out.mono fun _ _ h => h.elim⟩
  have hgk : gk < W.heap.size := (HK.out.lt gk rfl).2
  clear RA4 RC F4 HZ4
  go_wp2_with fail
  rename_i Kx hKx
  have HKX := hid hKx
  clear hKx
  go_loopw [19, 20, 21, 22, 23, 24] (fun v19 v20 v21 v22 v23 v24 wr => ∃ (j n m : Nat) (so sn N : Int) (D0 A0 : Bool) (A : List (Int × Int)) (C : List Int) (wa wc : Option Addr) (wac wcc : Nat), j ≤ T.length ∧ n ≤ Z.length + T.length ∧ m ≤ C0.length + T.length ∧ v24 = .int .i64 j ∧ v19 = .slice wa n wac ∧ v20 = .slice wc m wcc ∧ v21 = .int .i64 N ∧ v22 = .bool D0 ∧ v23 = .bool A0 ∧ Hid (n = A.length) ∧ Hid (m = C.length) ∧ Hid ((⟨so, sn, N, D0, A0, A, C⟩ : St) = runs ⟨ol, nl, next, d, a, Z, C0⟩ ((kinds T).take j)) ∧ Hid (Inv W wa wc wac wcc A C wr)) (fun _ _ _ _ _ v24 _ => T.length - (intOf v24).toNat)
  case atStart => exact ⟨0, Z.length, C0.length, ol, nl, next, d, a, Z, C0, _, _, _, _, Nat.zero_le _, by omega, by omega, rfl, rfl, rfl, rfl, rfl, rfl, rfl, rfl, rfl, HI0⟩
  case round =>
    clear HI0 x6 x7 x8 HZ2 hrun2
    obtain ⟨j, n, m, so, sn, N, D0, A0, A, C, wa, wc, wac, wcc, hj, hn, hm, rfl, rfl, rfl, rfl, rfl, rfl, HN, HM, HS, HI⟩ := hrel
    have HKC : Hid (∀ i (h : i < T.length), wr.cell? ⟨gk, i, none⟩ = some (.int .u8 (kd (raw T[i])))) := fun i h => by
      rw [(HI.out.row HK.out).cellAt i (by omega), KX_get _ _ (by rw [kinds_len]; exact h), kinds_get T i h]
    have HOK : Hid (i64ok N) := by
      have hfx := runs_facts ⟨ol, nl, next, d, a, Z, C0⟩ K3.out ((kinds T).take j)
      rw [← HS.out] at hfx
      exact hfx.2.2
    have HRA : Hid (wr.ownsRow 0 36 2 (.slice wa n wac) n (PX A)) := by rw [HN.out]; exact HI.out.1
    have HRC : Hid (wr.ownsRow 0 2 1 (.slice wc m wcc) m (NX C)) := by rw [HM.out]; exact HI.out.2.1
    go_wp2_with fail
    go_loop [22, 25, 26] (fun v22 v25 v26 => ∃ (i p : Nat) (D : Bool), j ≤ i ∧ i ≤ T.length ∧ v25 = .int .i64 i ∧ v26 = .int .i64 p ∧ v22 = .bool D ∧ p ≤ i ∧ Hid (p = cnt 43 (seg T j i)) ∧ Hid (D = (D0 || has 45 (seg T j i))) ∧ Hid (∀ k ∈ seg T j i, ¬ k = 32)) (fun _ v25 _ => T.length - (intOf v25).toNat)
    case atStart => exact ⟨j, 0, D0, Nat.le_refl _, hj, rfl, rfl, rfl, Nat.zero_le _, by rw [seg_self]; rfl, by rw [seg_self]; simp [has, Hid], by rw [seg_self]; intro k hk; simp at hk⟩
    case round =>
      obtain ⟨i, p, D, hji, hi, rfl, rfl, rfl, hpi, HP, HD, HNO⟩ := hrel
      have HE0 : Hid (p = 0 → ∃ x y, runs ⟨ol, nl, next, d, a, Z, C0⟩ ((kinds T).take i) = ⟨x, y, N, D, A0, A, C⟩) := by
        intro hp; rw [HD.out]; exact end0 ⟨ol, nl, next, d, a, Z, C0⟩ ⟨so, sn, N, D0, A0, A, C⟩ T j i hji HS.out HOK.out HNO.out (by rw [← HP.out]; exact hp)
      have HE1 : Hid (0 < p → ∃ x y, runs ⟨ol, nl, next, d, a, Z, C0⟩ ((kinds T).take i) = ⟨x, y, wrap64 (N + (p : Int)), D, true, ext A N (wrap64 (wrap64 (N + (p : Int)) - 1)), C⟩) := by
        intro hp; rw [HD.out, HP.out]; exact end1 ⟨ol, nl, next, d, a, Z, C0⟩ ⟨so, sn, N, D0, A0, A, C⟩ T j i hji HS.out HOK.out HNO.out (by rw [← HP.out]; exact hp)
      by_cases hlt : i < T.length
      · have c1 := HKC.out i hlt
        by_cases h32 : kd (raw T[i]) = 32
        · have H32 := hid h32
          rw [h32] at c1
          clear h32
          have HBD : Hid (∀ q, (runs ⟨ol, nl, next, d, a, Z, C0⟩ ((kinds T).take q)).A.length ≤ Z.length + T.length ∧ (runs ⟨ol, nl, next, d, a, Z, C0⟩ ((kinds T).take q)).C.length ≤ C0.length + T.length) := fun q => by
            have hfx := runs_facts ⟨ol, nl, next, d, a, Z, C0⟩ K3.out ((kinds T).take q)
            have hql : ((kinds T).take q).length ≤ T.length := by rw [← kinds_len T]; exact List.length_take_le' _ _
            exact ⟨Nat.le_trans hfx.1 (by show Z.length + _ ≤ _; omega), Nat.le_trans hfx.2.1 (by show C0.length + _ ≤ _; omega)⟩
          by_cases hp : p = 0
          · obtain ⟨x, y, hR⟩ := HE0.out hp
            have HR := hid hR
            subst hp
            clear hR HE0 HE1 HP HD HNO HS
            obtain ⟨x2, y2, hS2⟩ := after32 _ T i hlt H32.out _ HR.out
            have HS2 := hid hS2
            clear hS2 HR
            have HBQ := HBD.out (i + 1)
            rw [← HS2.out] at HBQ
            have HBQ2 := hid HBQ
            clear HBQ
            cases D with
            | false =>
              clear HRA HRC
              go_wp2_with fail
              all_goals
                go_roundw
                case rel => exact ⟨i + 1, n, m, x2, y2, wrap64 (N + 1), false, false, A, C, wa, wc, wac, wcc, by omega, hn, hm, by go_num, rfl, rfl, rfl, rfl, rfl, HN, HM, HS2, HI⟩
                case measure => simp [intOf]; omega
            | true =>
              cases A0 with
              | true =>
                clear HRA HRC
                go_wp2_with fail
                all_goals
                  go_roundw
                  case rel => exact ⟨i + 1, n, m, x2, y2, wrap64 (N + 1), false, false, A, C, wa, wc, wac, wcc, by omega, hn, hm, by go_num, rfl, rfl, rfl, rfl, rfl, HN, HM, HS2, HI⟩
                  case measure => simp [intOf]; omega
              | false =>
                have hmq : m + 1 ≤ C0.length + T.length := by
                  have := HBQ2.out.2
                  simp only [cutC, and_self, if_true, List.length_append, List.length_singleton] at this
                  have := HM.out; omega
                go_wp2_with (at_builtin; refine wpList_app Try.underlying30 info2 rfl (by decide) HRC.out _ _ rfl rfl (by rfl) [.int .i64 (wrap64 (N - 1))] 1 1 (by rfl) rfl (by decide) (one_one _) (by omega) (by omega) ?_)
                intro g cap w5 h1 hg hat hlt1
                have HI5 : Hid (Inv W wa (some ⟨g, 0, none⟩) wac cap A (C ++ [wrap64 (N - 1)]) w5) := by
                  have e := HM.out
                  subst e
                  exact inv_cut HI.out h1 hg hat
                have HM5 : Hid (m + 1 = (C ++ [wrap64 (N - 1)]).length) := by rw [HM.out]; simp [Hid]
                clear h1 hg hat hlt1 HRC HRA HI
                go_wp2_with fail
                all_goals
                  go_roundw
                  case rel => exact ⟨i + 1, n, (m + 1), x2, y2, wrap64 (N + 1), false, false, A, (C ++ [wrap64 (N - 1)]), wa, (some ⟨g, 0, none⟩), wac, cap, by omega, hn, hmq, by go_num, rfl, rfl, rfl, rfl, rfl, HN, HM5, HS2, HI5⟩
                  case measure => simp [intOf]; omega
          · have hp1 : 1 ≤ p := by omega
            obtain ⟨x, y, hR⟩ := HE1.out (by omega)
            have HR := hid hR
            clear hR HE0 HE1 HP HD HNO HS hp
            obtain ⟨x2, y2, hS2⟩ := after32 _ T i hlt H32.out _ HR.out
            have HS2 := hid hS2
            clear hS2 HR
            have HBQ := HBD.out (i + 1)
            rw [← HS2.out] at HBQ
            have HBQ2 := hid HBQ.1
            clear HBQ
            rcases List.eq_nil_or_concat A with hA | ⟨B, ⟨x9, y9⟩, hA⟩
            · subst hA
              obtain rfl : n = 0 := HN.out
              go_wp2_with (at_builtin; refine wpList_app Try.underlying29 info36 rfl (by decide) HRA.out _ _ rfl rfl (by rfl) [.int .i64 N, .int .i64 (wrap64 (wrap64 (N + (p : Int)) - 1))] 1 1 (by rfl) rfl (by decide) (two_one _ _) (by omega) (by omega) ?_)
              intro g cap w5 h1 hg hat hlt1
              have HI5 : Hid (Inv W (some ⟨g, 0, none⟩) wc cap wcc ([] ++ [(N, (wrap64 (wrap64 (N + (p : Int)) - 1)))]) C w5) := inv_app HI.out h1 hg hat
              have HN5 : Hid (0 + 1 = ([] ++ [(N, (wrap64 (wrap64 (N + (p : Int)) - 1)))] : List (Int × Int)).length) := rfl
              rw [show ext [] N (wrap64 (wrap64 (N + (p : Int)) - 1)) = [] ++ [(N, (wrap64 (wrap64 (N + (p : Int)) - 1)))] from rfl] at HS2
              have e8 : cutC C (wrap64 (N + (p : Int))) D true = C := by simp [cutC]
              simp only [e8] at HS2
              clear e8
              clear h1 hg hat hlt1 HRC HRA HI
              go_wp2_with fail
              all_goals
                go_roundw
                case rel => exact ⟨i + 1, (0 + 1), m, x2, y2, wrap64 ((wrap64 (N + (p : Int))) + 1), false, false, ([] ++ [(N, (wrap64 (wrap64 (N + (p : Int)) - 1)))]), C, (some ⟨g, 0, none⟩), wc, cap, wcc, by omega, by omega, hm, by go_num, rfl, rfl, rfl, rfl, rfl, HN5, HM, HS2, HI5⟩
                case measure => simp [intOf]; omega
            · rw [List.concat_eq_append] at hA
              subst hA
              obtain ⟨q, rfl⟩ : ∃ q, n = q + 1 := ⟨B.length, by have := HN.out; simpa using this⟩
              have HQ : Hid (q = B.length) := by have := HN.out; simp at this; exact this
              obtain ⟨g0, cap0, hv0, _, _⟩ := HRA.out.form (by omega)
              simp only [Value.slice.injEq, true_and] at hv0
              obtain ⟨rfl, rfl⟩ := hv0
              have c9 : wr.cell? ⟨g0, q * 2 + 1, none⟩ = some (.int .i64 y9) := by rw [HRA.out.cellAt _ (by omega), HQ.out, PX_last]
              have f9 : wr.frozen? ⟨g0, q * 2 + 1, none⟩ = false := HRA.out.frozenAt _
              by_cases hy : y9 = wrap64 (N - 1)
              · have ey : (y9 == wrap64 (N - 1)) = true := by simp [hy]
                rw [ext_set B x9 y9 N (wrap64 (wrap64 (N + (p : Int)) - 1)) hy] at HS2
                have e8 : cutC C (wrap64 (N + (p : Int))) D true = C := by simp [cutC]
                simp only [e8] at HS2
                clear e8
                have HI5 : Hid (Inv W (some ⟨g0, 0, none⟩) wc wac wcc (B ++ [(x9, (wrap64 (wrap64 (N + (p : Int)) - 1)))]) C (wr.setCell ⟨g0, q * 2 + 1, none⟩ (.int .i64 (wrap64 (wrap64 (N + (p : Int)) - 1))))) := by
                  have := HQ.out; subst this; exact inv_set HI.out _
                have HN5 : Hid (q + 1 = (B ++ [(x9, (wrap64 (wrap64 (N + (p : Int)) - 1)))]).length) := by rw [HQ.out]; simp [Hid]
                clear HRC HRA HI hy HN
                go_wp2_with fail
                all_goals
                  go_roundw
                  case rel => exact ⟨i + 1, (q + 1), m, x2, y2, wrap64 ((wrap64 (N + (p : Int))) + 1), false, false, (B ++ [(x9, (wrap64 (wrap64 (N + (p : Int)) - 1)))]), C, (some ⟨g0, 0, none⟩), wc, wac, wcc, by omega, hn, hm, by go_num, rfl, rfl, rfl, rfl, rfl, HN5, HM, HS2, HI5⟩
                  case measure => simp [intOf]; omega
              · have ey : (y9 == wrap64 (N - 1)) = false := by simp [hy]
                have hnq : q + 1 + 1 ≤ Z.length + T.length := by
                  have h7 := HBQ2.out
                  rw [show ext (B ++ [(x9, y9)]) N (wrap64 (wrap64 (N + (p : Int)) - 1)) = B ++ [(x9, y9)] ++ [(N, (wrap64 (wrap64 (N + (p : Int)) - 1)))] from ext_app B x9 y9 N _ hy] at h7
                  simp at h7
                  have := HQ.out; omega
                rw [ext_app B x9 y9 N (wrap64 (wrap64 (N + (p : Int)) - 1)) hy] at HS2
                have e8 : cutC C (wrap64 (N + (p : Int))) D true = C := by simp [cutC]
                simp only [e8] at HS2
                clear e8
                go_wp2_with (at_builtin; refine wpList_app Try.underlying29 info36 rfl (by decide) HRA.out _ _ rfl rfl (by rfl) [.int .i64 N, .int .i64 (wrap64 (wrap64 (N + (p : Int)) - 1))] 1 1 (by rfl) rfl (by decide) (two_one _ _) (by omega) (by omega) ?_)
                intro g cap w5 h1 hg hat hlt1
                have HI5 : Hid (Inv W (some ⟨g, 0, none⟩) wc cap wcc (B ++ [(x9, y9)] ++ [(N, (wrap64 (wrap64 (N + (p : Int)) - 1)))]) C w5) := by
                  have e : (B ++ [(x9, y9)]).length = q + 1 := by rw [HQ.out]; simp
                  exact inv_app HI.out (by rw [e]; exact h1) (by rw [e]; exact hg) (by rw [e]; exact hat)
                have HN5 : Hid (q + 1 + 1 = (B ++ [(x9, y9)] ++ [(N, (wrap64 (wrap64 (N + (p : Int)) - 1)))]).length) := by rw [HQ.out]; simp [Hid]
                clear h1 hg hat hlt1 HRC HRA HI hy HN
                go_wp2_with fail
                all_goals
                  go_roundw
                  case rel => exact ⟨i + 1, (q + 1 + 1), m, x2, y2, wrap64 ((wrap64 (N + (p : Int))) + 1), false, false, (B ++ [(x9, y9)] ++ [(N, (wrap64 (wrap64 (N + (p : Int)) - 1)))]), C, (some ⟨g, 0, none⟩), wc, cap, wcc, by omega, hnq, hm, by go_num, rfl, rfl, rfl, rfl, rfl, HN5, HM, HS2, HI5⟩
                  case measure => simp [intOf]; omega
        · have HSN := hid (seg_snoc T j i hji hlt)
          generalize hcc : kd (raw T[i]) = c at c1 HSN h32
          clear HE0 HE1
          have e32 : (c != 32) = true := by simp [h32]
          have HNO2 : Hid (∀ k ∈ seg T j (i + 1), ¬ k = 32) := by
            rw [HSN.out]; intro k hk
            rcases List.mem_append.1 hk with h | h
            · exact HNO.out k h
            · simp at h; rw [h]; exact h32
          have HP2 : Hid (p + (if c = 43 then 1 else 0) = cnt 43 (seg T j (i + 1))) := by rw [HSN.out, cnt_snoc, ← HP.out]; exact rfl
          have HD2 : Hid ((D || decide (c = 45)) = (D0 || has 45 (seg T j (i + 1)))) := by rw [HSN.out, has_snoc, HD.out]; simp [Hid, Bool.or_assoc]
          clear HSN hcc HP HD HNO h32
          by_cases h45 : c = 45
          · subst h45
            go_wp2_with fail
            go_round
            case rel => exact ⟨i + 1, p, true, by omega, by omega, by go_num, rfl, rfl, by omega, HP2, by have := HD2.out; simpa [Hid] using this, HNO2⟩
            case measure => simp [intOf]; omega
          · have e45 : (c == 45) = false := by simp [h45]
            by_cases h43 : c = 43
            · subst h43
              go_wp2_with fail
              go_round
              case rel => exact ⟨i + 1, p + 1, D, by omega, by omega, by go_num, by go_num, rfl, by omega, HP2, by have := HD2.out; simpa [Hid] using this, HNO2⟩
              case measure => simp [intOf]; omega
            · have e43 : (c == 43) = false := by simp [h43]
              have HP3 : Hid (p = cnt 43 (seg T j (i + 1))) := by have := HP2.out; rw [if_neg h43] at this; exact this
              have HD3 : Hid (D = (D0 || has 45 (seg T j (i + 1)))) := by have := HD2.out; rw [decide_eq_false h45, Bool.or_false] at this; exact this
              clear HP2 HD2 h43 h45
              go_wp2_with fail
              go_round
              case rel => exact ⟨i + 1, p, D, by omega, by omega, by go_num, rfl, rfl, by omega, HP3, HD3, HNO2⟩
              case measure => simp [intOf]; omega
      · obtain rfl : i = T.length := by omega
        have HTK : Hid ((kinds T).take T.length = kinds T) := List.take_of_length_le (by rw [kinds_len]; omega)
        have HBD : Hid (∀ q, (runs ⟨ol, nl, next, d, a, Z, C0⟩ ((kinds T).take q)).A.length ≤ Z.length + T.length ∧ (runs ⟨ol, nl, next, d, a, Z, C0⟩ ((kinds T).take q)).C.length ≤ C0.length + T.length) := fun q => by
          have hfx := runs_facts ⟨ol, nl, next, d, a, Z, C0⟩ K3.out ((kinds T).take q)
          have hql : ((kinds T).take q).length ≤ T.length := by rw [← kinds_len T]; exact List.length_take_le' _ _
          exact ⟨Nat.le_trans hfx.1 (by show Z.length + _ ≤ _; omega), Nat.le_trans hfx.2.1 (by show C0.length + _ ≤ _; omega)⟩
        by_cases hp : p = 0
        · obtain ⟨x, y, hR⟩ := HE0.out hp
          have HR := hid hR
          subst hp
          clear hR HE0 HE1 HP HD HNO HS
          clear HRA HRC
          go_wp2_with fail
          have HN9 := HN.out
          have HM9 := HM.out
          subst HN9 HM9
          have hfb : Fr (fun _ => False) W wr := HI.out.2.2.2.2.mono fun k hk h => by omega
          refine HKX.out _ _ ?_
          exact stageD w wr line old new ol nl next hdr d a whole ap cp tp wa wc acp ccp tc wac wcc gk Z C0 T ⟨x, y, N, D, A0, A, C⟩ b2 b3 b4 HT.out HTS.out K1.out K2.out K3.out (by rw [← HR.out, HTK.out]) (HB.out.go hfb) (hfb.own HAd.out (fun _ _ h => h)) (hfb.own HCu.out (fun _ _ h => h)) HCB.out (hfb.own HK.out (fun _ _ h => h)) HI.out.1 HI.out.2.1 (fun k h1 h2 => by have a1 := HI.out.2.2.2.1 k h1; have a2 := (HCu.out.lt k h2).2; omega) _ _ _ _ _ _ _ _ _ _ _ _ _ _ _ _ _ _ _ _ _ _ _ _ _ _ _ _ _ _ _ _ _ _ _ _ _ _ _ _ _ _ _ _ _ _ _ _ _ _ _ _ _ _ _ _ _ _ _ _ _ _ _ _ _ _ _ _ _ _ _ _ _ _ _ _ _ _ _ _ _ _ _ _ _ _ _ _ _ _ _ _ _ _ _ _ _ _ _ _ _ _ _ _ _ _ _ _ _ _ _ _ _ _ _ _ _ _ _ _ _ _ _ _ _ _ _ _ _ _ _ _ _ _ _ _ _ _ _ _ _ _ _ _ _ _ _ _ _ _ _ _ _ _ _ _ _ _ _ _ _ _ _ _ _ _ _ _ _ _ _ _ _ _ _ _ _ _ _ _ _ _ _ _ _ _ _ _ _ _ _ _ _ _ _ _ _ _ _ _ _ _ _ _ _ _ _ _ _ _ _ _ _ _ _ _ _ _ _ _ _ _ _ _ _ _ _ _ _ _ _ _ _ _ _ _ _ _ _ _ _ _ _ _ _ _ _ _ _ _ _ _ _ _ _ _ _ _ _ _ _ _ _ _ _ _ _ _ _ _ _ _ _ _ _ _ _ _ _ _ _ _ _ _ _ _ _ _ _ _ _ _ _ _ _ _ _ _ _ _ _ _ _ _ _ _ _ _ _ _ _ _ _ _ _ _ _ _ _ _ _ _ _ _ _ _ _ _ _ _ _ _ _ _ _ _ _ _ _ _ _ _ _ _ _ _ _ _ _ _ _ _ _ _ _ _ _ _ _ _ _ _ _ _ _ _ _ _
        · have hp1 : 1 ≤ p := by omega
          obtain ⟨x, y, hR⟩ := HE1.out (by omega)
          have HR := hid hR
          clear hR HE0 HE1 HP HD HNO HS hp
          have HBQ := HBD.out T.length
          rw [HR.out] at HBQ
          have HBQ2 := hid HBQ.1
          clear HBQ
          rcases List.eq_nil_or_concat A with hA | ⟨B, ⟨x9, y9⟩, hA⟩
          · subst hA
            obtain rfl : n = 0 := HN.out
            go_wp2_with (at_builtin; refine wpList_app Try.underlying29 info36 rfl (by decide) HRA.out _ _ rfl rfl (by rfl) [.int .i64 N, .int .i64 (wrap64 (wrap64 (N + (p : Int)) - 1))] 1 1 (by rfl) rfl (by decide) (two_one _ _) (by omega) (by omega) ?_)
            intro g cap w5 h1 hg hat hlt1
            have HI5 : Hid (Inv W (some ⟨g, 0, none⟩) wc cap wcc ([] ++ [(N, (wrap64 (wrap64 (N + (p : Int)) - 1)))]) C w5) := inv_app HI.out h1 hg hat
            have HN5 : Hid (0 + 1 = ([] ++ [(N, (wrap64 (wrap64 (N + (p : Int)) - 1)))] : List (Int × Int)).length) := rfl
            have HR2 := HR
            rw [show ext [] N (wrap64 (wrap64 (N + (p : Int)) - 1)) = [] ++ [(N, (wrap64 (wrap64 (N + (p : Int)) - 1)))] from rfl] at HR2
            clear HR
            clear h1 hg hat hlt1 HRC HRA HI
            go_wp2_with fail
            have HM9 := HM.out
            subst HM9
            have hfb : Fr (fun _ => False) W w5 := HI5.out.2.2.2.2.mono fun k hk h => by omega
            refine HKX.out _ _ ?_
            exact stageD w w5 line old new ol nl next hdr d a whole ap cp tp (some ⟨g, 0, none⟩) wc acp ccp tc cap wcc gk Z C0 T ⟨x, y, (wrap64 (N + (p : Int))), D, true, ([] ++ [(N, (wrap64 (wrap64 (N + (p : Int)) - 1)))]), C⟩ b2 b3 b4 HT.out HTS.out K1.out K2.out K3.out (by rw [← HR2.out, HTK.out]) (HB.out.go hfb) (hfb.own HAd.out (fun _ _ h => h)) (hfb.own HCu.out (fun _ _ h => h)) HCB.out (hfb.own HK.out (fun _ _ h => h)) HI5.out.1 HI5.out.2.1 (fun k h1 h2 => by have a1 := HI5.out.2.2.2.1 k h1; have a2 := (HCu.out.lt k h2).2; omega) _ _ _ _ _ _ _ _ _ _ _ _ _ _ _ _ _ _ _ _ _ _ _ _ _ _ _ _ _ _ _ _ _ _ _ _ _ _ _ _ _ _ _ _ _ _ _ _ _ _ _ _ _ _ _ _ _ _ _ _ _ _ _ _ _ _ _ _ _ _ _ _ _ _ _ _ _ _ _ _ _ _ _ _ _ _ _ _ _ _ _ _ _ _ _ _ _ _ _ _ _ _ _ _ _ _ _ _ _ _ _ _ _ _ _ _ _ _ _ _ _ _ _ _ _ _ _ _ _ _ _ _ _ _ _ _ _ _ _ _ _ _ _ _ _ _ _ _ _ _ _ _ _ _ _ _ _ _ _ _ _ _ _ _ _ _ _ _ _ _ _ _ _ _ _ _ _ _ _ _ _ _ _ _ _ _ _ _ _ _ _ _ _ _ _ _ _ _ _ _ _ _ _ _ _ _ _ _ _ _ _ _ _ _ _ _ _ _ _ _ _ _ _ _ _ _ _ _ _ _ _ _ _ _ _ _ _ _ _ _ _ _ _ _ _ _ _ _ _ _ _ _ _ _ _ _ _ _ _ _ _ _ _ _ _ _ _ _ _ _ _ _ _ _ _ _ _ _ _ _ _ _ _ _ _ _ _ _ _ _ _ _ _ _ _ _ _ _ _ _ _ _ _ _ _ _ _ _ _ _ _ _ _ _ _ _ _ _ _ _ _ _ _ _ _ _ _ _ _ _ _ _ _ _ _ _ _ _ _ _ _ _ _ _ _ _ _ _ _ _ _ _ _ _ _ _ _ _ _ _ _ _ _ _ _ _ _ _
          · rw [List.concat_eq_append] at hA
            subst hA
            obtain ⟨q, rfl⟩ : ∃ q, n = q + 1 := ⟨B.length, by have := HN.out; simpa using this⟩
            have HQ : Hid (q = B.length) := by have := HN.out; simp at this; exact this
            obtain ⟨g0, cap0, hv0, _, _⟩ := HRA.out.form (by omega)
            simp only [Value.slice.injEq, true_and] at hv0
            obtain ⟨rfl, rfl⟩ := hv0
            have c9 : wr.cell? ⟨g0, q * 2 + 1, none⟩ = some (.int .i64 y9) := by rw [HRA.out.cellAt _ (by omega), HQ.out, PX_last]
            have f9 : wr.frozen? ⟨g0, q * 2 + 1, none⟩ = false := HRA.out.frozenAt _
            by_cases hy : y9 = wrap64 (N - 1)
            · have ey : (y9 == wrap64 (N - 1)) = true := by simp [hy]
              have HR2 := HR
              rw [ext_set B x9 y9 N (wrap64 (wrap64 (N + (p : Int)) - 1)) hy] at HR2
              clear HR
              have HI5 : Hid (Inv W (some ⟨g0, 0, none⟩) wc wac wcc (B ++ [(x9, (wrap64 (wrap64 (N + (p : Int)) - 1)))]) C (wr.setCell ⟨g0, q * 2 + 1, none⟩ (.int .i64 (wrap64 (wrap64 (N + (p : Int)) - 1))))) := by
                have := HQ.out; subst this; exact inv_set HI.out _
              have HN5 : Hid (q + 1 = (B ++ [(x9, (wrap64 (wrap64 (N + (p : Int)) - 1)))]).length) := by rw [HQ.out]; simp [Hid]
              clear HRC HRA HI hy HN
              go_wp2_with fail
              have HM9 := HM.out
              have HN9 := HN5.out
              subst HM9
              have HQ9 := HQ.out
              subst HQ9
              have hfb : Fr (fun _ => False) W (wr.setCell ⟨g0, B.length * 2 + 1, none⟩ (.int .i64 (wrap64 (wrap64 (N + (p : Int)) - 1)))) := HI5.out.2.2.2.2.mono fun k hk h => by omega
              rw [HN9]
              refine HKX.out _ _ ?_
              exact stageD w (wr.setCell ⟨g0, B.length * 2 + 1, none⟩ (.int .i64 (wrap64 (wrap64 (N + (p : Int)) - 1)))) line old new ol nl next hdr d a whole ap cp tp (some ⟨g0, 0, none⟩) wc acp ccp tc wac wcc gk Z C0 T ⟨x, y, (wrap64 (N + (p : Int))), D, true, (B ++ [(x9, (wrap64 (wrap64 (N + (p : Int)) - 1)))]), C⟩ b2 b3 b4 HT.out HTS.out K1.out K2.out K3.out (by rw [← HR2.out, HTK.out]) (HB.out.go hfb) (hfb.own HAd.out (fun _ _ h => h)) (hfb.own HCu.out (fun _ _ h => h)) HCB.out (hfb.own HK.out (fun _ _ h => h)) HI5.out.1 HI5.out.2.1 (fun k h1 h2 => by have a1 := HI5.out.2.2.2.1 k h1; have a2 := (HCu.out.lt k h2).2; omega) _ _ _ _ _ _ _ _ _ _ _ _ _ _ _ _ _ _ _ _ _ _ _ _ _ _ _ _ _ _ _ _ _ _ _ _ _ _ _ _ _ _ _ _ _ _ _ _ _ _ _ _ _ _ _ _ _ _ _ _ _ _ _ _ _ _ _ _ _ _ _ _ _ _ _ _ _ _ _ _ _ _ _ _ _ _ _ _ _ _ _ _ _ _ _ _ _ _ _ _ _ _ _ _ _ _ _ _ _ _ _ _ _ _ _ _ _ _ _ _ _ _ _ _ _ _ _ _ _ _ _ _ _ _ _ _ _ _ _ _ _ _ _ _ _ _ _ _ _ _ _ _ _ _ _ _ _ _ _ _ _ _ _ _ _ _ _ _ _ _ _ _ _ _ _ _ _ _ _ _ _ _ _ _ _ _ _ _ _ _ _ _ _ _ _ _ _ _ _ _ _ _ _ _ _ _ _ _ _ _ _ _ _ _ _ _ _ _ _ _ _ _ _ _ _ _ _ _ _ _ _ _ _ _ _ _ _ _ _ _ _ _ _ _ _ _ _ _ _ _ _ _ _ _ _ _ _ _ _ _ _ _ _ _ _ _ _ _ _ _ _ _ _ _ _ _ _ _ _ _ _ _ _ _ _ _ _ _ _ _ _ _ _ _ _ _ _ _ _ _ _ _ _ _ _ _ _ _ _ _ _ _ _ _ _ _ _ _ _ _ _ _ _ _ _ _ _ _ _ _ _ _ _ _ _ _ _ _ _ _ _ _ _ _ _ _ _ _ _ _ _ _ _ _ _ _ _ _ _ _ _ _ _ _ _ _ _ _
            · have ey : (y9 == wrap64 (N - 1)) = false := by simp [hy]
              have hnq : q + 1 + 1 ≤ Z.length + T.length := by
                have h7 := HBQ2.out
                rw [show ext (B ++ [(x9, y9)]) N (wrap64 (wrap64 (N + (p : Int)) - 1)) = B ++ [(x9, y9)] ++ [(N, (wrap64 (wrap64 (N + (p : Int)) - 1)))] from ext_app B x9 y9 N _ hy] at h7
                simp at h7
                have := HQ.out; omega
              have HR2 := HR
              rw [ext_app B x9 y9 N (wrap64 (wrap64 (N + (p : Int)) - 1)) hy] at HR2
              clear HR
              go_wp2_with (at_builtin; refine wpList_app Try.underlying29 info36 rfl (by decide) HRA.out _ _ rfl rfl (by rfl) [.int .i64 N, .int .i64 (wrap64 (wrap64 (N + (p : Int)) - 1))] 1 1 (by rfl) rfl (by decide) (two_one _ _) (by omega) (by omega) ?_)
              intro g cap w5 h1 hg hat hlt1
              have HI5 : Hid (Inv W (some ⟨g, 0, none⟩) wc cap wcc (B ++ [(x9, y9)] ++ [(N, (wrap64 (wrap64 (N + (p : Int)) - 1)))]) C w5) := by
                have e : (B ++ [(x9, y9)]).length = q + 1 := by rw [HQ.out]; simp
                exact inv_app HI.out (by rw [e]; exact h1) (by rw [e]; exact hg) (by rw [e]; exact hat)
              have HN5 : Hid (q + 1 + 1 = (B ++ [(x9, y9)] ++ [(N, (wrap64 (wrap64 (N + (p : Int)) - 1)))]).length) := by rw [HQ.out]; simp [Hid]
              clear h1 hg hat hlt1 HRC HRA HI hy HN
              go_wp2_with fail
              have HM9 := HM.out
              have HN9 := HN5.out
              subst HM9
              rw [HN9]
              have hfb : Fr (fun _ => False) W w5 := HI5.out.2.2.2.2.mono fun k hk h => by omega
              refine HKX.out _ _ ?_
              exact stageD w w5 line old new ol nl next hdr d a whole ap cp tp (some ⟨g, 0, none⟩) wc acp ccp tc cap wcc gk Z C0 T ⟨x, y, (wrap64 (N + (p : Int))), D, true, (B ++ [(x9, y9)] ++ [(N, (wrap64 (wrap64 (N + (p : Int)) - 1)))]), C⟩ b2 b3 b4 HT.out HTS.out K1.out K2.out K3.out (by rw [← HR2.out, HTK.out]) (HB.out.go hfb) (hfb.own HAd.out (fun _ _ h => h)) (hfb.own HCu.out (fun _ _ h => h)) HCB.out (hfb.own HK.out (fun _ _ h => h)) HI5.out.1 HI5.out.2.1 (fun k h1 h2 => by have a1 := HI5.out.2.2.2.1 k h1; have a2 := (HCu.out.lt k h2).2; omega) _ _ _ _ _ _ _ _ _ _ _ _ _ _ _ _ _ _ _ _ _ _ _ _ _ _ _ _ _ _ _ _ _ _ _ _ _ _ _ _ _ _ _ _ _ _ _ _ _ _ _ _ _ _ _ _ _ _ _ _ _ _ _ _ _ _ _ _ _ _ _ _ _ _ _ _ _ _ _ _ _ _ _ _ _ _ _ _ _ _ _ _ _ _ _ _ _ _ _ _ _ _ _ _ _ _ _ _ _ _ _ _ _ _ _ _ _ _ _ _ _ _ _ _ _ _ _ _ _ _ _ _ _ _ _ _ _ _ _ _ _ _ _ _ _ _ _ _ _ _ _ _ _ _ _ _ _ _ _ _ _ _ _ _ _ _ _ _ _ _ _ _ _ _ _ _ _ _ _ _ _ _ _ _ _ _ _ _ _ _ _ _ _ _ _ _ _ _ _ _ _ _ _ _ _ _ _ _ _ _ _ _ _ _ _ _ _ _ _ _ _ _ _ _ _ _ _ _ _ _ _ _ _ _ _ _ _ _ _ _ _ _ _ _ _ _ _ _ _ _ _ _ _ _ _ _ _ _ _ _ _ _ _ _ _ _ _ _ _ _ _ _ _ _ _ _ _ _ _ _ _ _ _ _ _ _ _ _ _ _ _ _ _ _ _ _ _ _ _ _ _ _ _ _ _ _ _ _ _ _ _ _ _ _ _ _ _ _ _ _ _ _ _ _ _ _ _ _ _ _ _ _ _ _ _ _ _ _ _ _ _ _ _ _ _ _ _ _ _ _ _ _ _ _ _ _ _ _ _ _ _ _ _ _ _ _ _ _
end Go.Proofs.Qxb6617273a.Hunk
