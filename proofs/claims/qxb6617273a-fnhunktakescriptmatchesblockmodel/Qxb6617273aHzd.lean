import Derived.Test.Qxb6617273aHzc
namespace Go.Proofs.Qxb6617273a.Hunk
open Go.RowKit Go.PlainAid Go.Proofs.Qxb6617273a.QLen
attribute [local go_sem ↓] Go.wp_at_zero Go.wp_at_succ

theorem lt_of_cell {w : World} {p : Addr} {v : Value} (h : w.cell? p = some v) : p.block < w.heap.size := World.block_lt_of_cell? w p h

theorem ps_init {W w2 : World} {line old new ol nl next : Int} {hdr : ByteArray} {d a whole : Bool} {Z : List (Int × Int)} {C0 : List Int} {vA vC : Value} {fb : Nat}
    (hfb : (W.alloc (.cells #[.int .i64 line, .string hdr, .int .i64 old, .int .i64 new, .int .i64 ol, .int .i64 nl, .int .i64 next, .bool d, .bool a] 50)).heap.size ≤ fb)
    (hF : w2.heap[fb]? = some (.cells #[.bool whole, vA, vC] 55 (0, 0))) (hA : w2.ownsRow 0 53 2 vA Z.length (PX Z)) (hA3 : ∀ k, vA.ownBlock = some k → (W.alloc (.cells #[.int .i64 line, .string hdr, .int .i64 old, .int .i64 new, .int .i64 ol, .int .i64 nl, .int .i64 next, .bool d, .bool a] 50)).heap.size ≤ k)
    (hf : Fr (fun _ => False) (W.alloc (.cells #[.int .i64 line, .string hdr, .int .i64 old, .int .i64 new, .int .i64 ol, .int .i64 nl, .int .i64 next, .bool d, .bool a] 50)) w2)
    (hC : W.ownsRow 0 2 1 vC C0.length (NX C0)) :
    PS W.heap.size vC.ownBlock W.heap.size fb (.int .i64 line) (.string hdr) (.int .i64 old) (.int .i64 new) (.bool whole) ⟨ol, nl, next, d, a, Z, C0⟩ w2 ∧ Fr (fun k => W.heap.size ≤ k ∨ vC.ownBlock = some k) W w2 := by
  have hs : (W.alloc (.cells #[.int .i64 line, .string hdr, .int .i64 old, .int .i64 new, .int .i64 ol, .int .i64 nl, .int .i64 next, .bool d, .bool a] 50)).heap.size = W.heap.size + 1 := by simp
  rw [hs] at hfb
  have hf0 : Fr (fun _ => False) W w2 := ((Fr.refl _ W).alloc _).trans hf
  refine ⟨⟨?_, vA, vC, hF, hA, ?_, fun k hk => Or.inl ?_, fun k hk => Or.inr hk, Nat.le_refl _, by omega⟩, hf0.mono fun _ _ h => h.elim⟩
  · rw [hf.block _ (by rw [hs]; omega) (fun h => h)]
    exact heap_alloc_new W _
  · exact hf0.own hC (fun _ _ h => h)
  · have := hA3 k hk; rw [hs] at this; omega
/-- a block of the world before that is no row of the project's -/
theorem Fr.keeps {W w' : World} {cb : Option Nat} (h : Fr (fun k => W.heap.size ≤ k ∨ cb = some k) W w') {b : Nat} (hb : b < W.heap.size) (hn : cb ≠ some b) : w'.heap[b]? = W.heap[b]? :=
  h.block b hb (by rintro (h | h); omega; exact hn h)

set_option maxRecDepth 1000000 in
set_option maxHeartbeats 4000000 in
theorem stageD (w W : World) (line old new ol nl next : Int) (hdr : ByteArray) (d a whole : Bool) (ap cp tp wa wc : Option Addr) (acp ccp tc wac wcc gk : Nat) (Z : List (Int × Int)) (C0 : List Int) (T : List ByteArray) (S : St)
    (b2 : Z.length ≤ 65536) (b3 : C0.length ≤ 131072) (b4 : T.length ≤ 65536) (hT : Txt w tp T) (hts : ∀ t ∈ T, t.size ≤ 1048576) (k1 : i64ok ol) (k2 : i64ok nl) (k3 : i64ok next) (hS : S = runs ⟨ol, nl, next, d, a, Z, C0⟩ (kinds T))
    (HB : Hid (Bse w W (boxed line hdr old new ol nl next d a))) (HAd : Hid (W.ownsRow 0 36 2 (.slice ap Z.length acp) Z.length (PX Z))) (HCu : Hid (W.ownsRow 0 2 1 (.slice cp C0.length ccp) C0.length (NX C0)))
    (hcb : ∀ k, (Value.slice cp C0.length ccp).ownBlock = some k → w.heap.size ≤ k) (HK : Hid (W.ownsRow 0 5 1 (.slice (some ⟨gk, 0, none⟩) T.length T.length) T.length (KX (kinds T))))
    (HWA : Hid (W.ownsRow 0 36 2 (.slice wa S.A.length wac) S.A.length (PX S.A))) (HWC : Hid (W.ownsRow 0 2 1 (.slice wc S.C.length wcc) S.C.length (NX S.C))) (hne : ∀ k, (Value.slice wc S.C.length wcc).ownBlock = some k → (Value.slice cp C0.length ccp).ownBlock ≠ some k)
    (v0 v6 v7 v8 v9 v10 v11 v12 v13 v18 v24 v25 v26 v27 v28 v29 v30 v31 v32 v33 v34 v35 v36 v37 v38 v39 v40 v41 v42 v43 v44 v45 v46 v47 v48 v49 v50 v51 v52 v53 v54 v55 v56 v57 v58 v59 v60 v61 v62 v63 v64 v65 v66 v67 v68 v69 v70 v71 v72 v73 v74 v75 v76 v77 v78 v79 v80 v81 v82 v83 v84 v85 v86 v87 v88 v89 v90 v91 v92 v93 v94 v95 v96 v97 v98 v99 v100 v101 v102 v103 v104 v105 v106 v107 v108 v109 v110 v111 v112 v113 v114 v115 v116 v117 v118 v119 v120 v121 v122 v123 v124 v125 v126 v127 v128 v129 v130 v131 v132 v133 v134 v135 v136 v137 v138 v139 v140 v141 v142 v143 v144 v145 v146 v147 v148 v149 v150 v151 v152 v153 v154 v155 v156 v157 v158 v159 v160 v161 v162 v163 v164 v165 v166 v167 v168 v169 v170 v171 v172 v173 v174 v175 v176 v177 v178 v179 v180 v181 v182 v183 v184 v185 v186 v187 v188 v189 v190 v191 v192 v193 v194 v195 v196 v197 v198 v199 v200 v201 v202 v203 v204 v205 v206 v207 v208 v209 v210 v211 v212 v213 v214 v215 v216 v217 v218 v219 v220 v221 v222 v223 v224 v225 v226 v227 v228 v229 v230 v231 v232 v233 v234 v235 v236 v237 v238 v239 v240 v241 v242 v243 v244 v245 v246 v247 v248 v249 v250 v251 v252 v253 v254 v255 v256 v257 v258 v259 v260 v261 v262 v263 v264 v265 v266 v267 v268 v269 v270 v271 v272 v273 v274 v275 v276 v277 v278 v279 v280 v281 v282 v283 v284 v285 v286 v287 v288 v289 v290 v291 v292 v293 v294 v295 v296 v297 v298 v299 v300 v301 v302 v303 v304 v305 v306 v307 v308 v309 v310 v311 v312 v313 v314 v315 v316 v317 v318 v319 v320 v321 v322 v323 v324 v325 v326 v327 v328 v329 v330 v331 v332 v333 v334 v335 v336 v337 v338 v339 v340 v341 v342 v343 v344 v345 v346 v347 v348 v349 v350 v351 v352 v353 v354 v355 v356 v357 v358 v359 v360 v361 v362 v363 v364 v365 v366 v367 v368 v369 v370 v371 v372 v373 v374 v375 v376 v377 v378 v379 v380 v381 : Value) :
    Code.wp Try.prog ((Try.f6.body.bind (fromReg 64)).getD .skip) (bodyPost Try.prog Try.f6 fun e w' => e = .returned (.bool true) ∧ Below w.heap.size w w') ⟨#[v0, .bool whole, .slice ap Z.length acp, .slice cp C0.length ccp, .slice tp T.length tc, .pointer (some ⟨w.heap.size, 0, none⟩), v6, v7, v8, v9, v10, v11, v12, v13, .slice (some ⟨gk, 0, none⟩) T.length T.length, .int .i64 (cnt 32 (kinds T) : Int), .int .i64 (cnt 45 (kinds T) : Int), .int .i64 (cnt 43 (kinds T) : Int), v18, .slice wa S.A.length wac, .slice wc S.C.length wcc, .int .i64 S.next, .bool S.del, .bool S.add, v24, v25, v26, v27, v28, v29, v30, v31, v32, v33, v34, v35, v36, v37, v38, v39, v40, v41, v42, v43, v44, v45, v46, v47, v48, v49, v50, v51, v52, v53, v54, v55, v56, v57, v58, v59, v60, v61, v62, v63, v64, v65, v66, v67, v68, v69, v70, v71, v72, v73, v74, v75, v76, v77, v78, v79, v80, v81, v82, v83, v84, v85, v86, v87, v88, v89, v90, v91, v92, v93, v94, v95, v96, v97, v98, v99, v100, v101, v102, v103, v104, v105, v106, v107, v108, v109, v110, v111, v112, v113, v114, v115, v116, v117, v118, v119, v120, v121, v122, v123, v124, v125, v126, v127, v128, v129, v130, v131, v132, v133, v134, v135, v136, v137, v138, v139, v140, v141, v142, v143, v144, v145, v146, v147, v148, v149, v150, v151, v152, v153, v154, v155, v156, v157, v158, v159, v160, v161, v162, v163, v164, v165, v166, v167, v168, v169, v170, v171, v172, v173, v174, v175, v176, v177, v178, v179, v180, v181, v182, v183, v184, v185, v186, v187, v188, v189, v190, v191, v192, v193, v194, v195, v196, v197, v198, v199, v200, v201, v202, v203, v204, v205, v206, v207, v208, v209, v210, v211, v212, v213, v214, v215, v216, v217, v218, v219, v220, v221, v222, v223, v224, v225, v226, v227, v228, v229, v230, v231, v232, v233, v234, v235, v236, v237, v238, v239, v240, v241, v242, v243, v244, v245, v246, v247, v248, v249, v250, v251, v252, v253, v254, v255, v256, v257, v258, v259, v260, v261, v262, v263, v264, v265, v266, v267, v268, v269, v270, v271, v272, v273, v274, v275, v276, v277, v278, v279, v280, v281, v282, v283, v284, v285, v286, v287, v288, v289, v290, v291, v292, v293, v294, v295, v296, v297, v298, v299, v300, v301, v302, v303, v304, v305, v306, v307, v308, v309, v310, v311, v312, v313, v314, v315, v316, v317, v318, v319, v320, v321, v322, v323, v324, v325, v326, v327, v328, v329, v330, v331, v332, v333, v334, v335, v336, v337, v338, v339, v340, v341, v342, v343, v344, v345, v346, v347, v348, v349, v350, v351, v352, v353, v354, v355, v356, v357, v358, v359, v360, v361, v362, v363, v364, v365, v366, v367, v368, v369, v370, v371, v372, v373, v374, v375, v376, v377, v378, v379, v380, v381], []⟩ W := by
  have HT := hid hT
  have HTS := hid hts
  have HSS := hid hS
  have HCB := hid hcb
  have HNE := hid hne
  have K1 := hid k1
  have K2 := hid k2
  have K3 := hid k3
  clear hT hts hS hcb hne k1 k2 k3
  have x0 : W.cell? ⟨w.heap.size, 0, none⟩ = some (.int .i64 line) := blk_cell HB.out.box 0
  have x1 : W.cell? ⟨w.heap.size, 1, none⟩ = some (.string hdr) := blk_cell HB.out.box 1
  have x2 : W.cell? ⟨w.heap.size, 2, none⟩ = some (.int .i64 old) := blk_cell HB.out.box 2
  have x3 : W.cell? ⟨w.heap.size, 3, none⟩ = some (.int .i64 new) := blk_cell HB.out.box 3
  have x4 : W.cell? ⟨w.heap.size, 4, none⟩ = some (.int .i64 ol) := blk_cell HB.out.box 4
  have x5 : W.cell? ⟨w.heap.size, 5, none⟩ = some (.int .i64 nl) := blk_cell HB.out.box 5
  have x6 : W.cell? ⟨w.heap.size, 6, none⟩ = some (.int .i64 next) := blk_cell HB.out.box 6
  have x7 : W.cell? ⟨w.heap.size, 7, none⟩ = some (.bool d) := blk_cell HB.out.box 7
  have x8 : W.cell? ⟨w.heap.size, 8, none⟩ = some (.bool a) := blk_cell HB.out.box 8
  conv => arg 2; whnf
  go_wp2_with (first | (go_at_call 15; refine (newHunk_any W line old new ol nl next hdr d a).mono ?_))
  rintro e w1 ⟨rfl, rfl⟩
  clear x0 x1 x2 x3 x4 x5 x6 x7 x8
  go_wp2_with fail
  refine (newFile_any _ whole (.slice ap Z.length acp) Z cp C0.length ccp (by omega) (HAd.out.alloc _)).mono ?_
  rintro e w2 ⟨fb, vA, rfl, hfb, hF, hA2, hA3, hf2⟩
  have HP0 := hid (ps_init hfb hF hA2 hA3 hf2 HCu.out)
  clear hfb hF hA2 hA3 hf2
  go_wp2_with fail
  go_loopw [32] (fun i wr => ∃ k : Nat, k ≤ T.length ∧ i = .int .i64 k ∧ Hid (PS W.heap.size (Value.slice cp C0.length ccp).ownBlock W.heap.size fb (.int .i64 line) (.string hdr) (.int .i64 old) (.int .i64 new) (.bool whole) (runs ⟨ol, nl, next, d, a, Z, C0⟩ ((kinds T).take k)) wr) ∧ Hid (Fr (fun k => W.heap.size ≤ k ∨ (Value.slice cp C0.length ccp).ownBlock = some k) W wr)) (fun i _ => T.length - (intOf i).toNat)
  case atStart => exact ⟨0, Nat.zero_le _, rfl, HP0.out.1, HP0.out.2⟩
  case round =>
    clear HP0
    obtain ⟨k, hk, rfl, HPS, HFR⟩ := hrel
    by_cases hlt : k < T.length
    · obtain ⟨b, off, rfl, hbl, hbc⟩ := HT.out.2 (by omega)
      have hcbb : (Value.slice cp C0.length ccp).ownBlock ≠ some b := fun h => by have := HCB.out b h; omega
      have hgk : gk < W.heap.size := (HK.out.lt gk rfl).2
      have hwW : w.heap.size ≤ W.heap.size := HB.out.fr.size
      have c1 : wr.cell? ⟨b, off + k, none⟩ = some (.string T[k]) := by
        rw [World.cell?_of_block (HFR.out.keeps (show b < W.heap.size by omega) hcbb), World.cell?_of_block (HB.out.fr.block b hbl (fun h => h))]; exact hbc k hlt
      have hKr : wr.ownsRow 0 5 1 (.slice (some ⟨gk, 0, none⟩) T.length T.length) T.length (KX (kinds T)) :=
        own_blk HK.out fun j hj => by
          have : j = gk := by simp [Value.ownBlock] at hj; exact hj.symm
          subst this
          exact HFR.out.keeps hgk (fun h => own_apart HCu.out HK.out (by decide) j h rfl)
      have c2 : wr.cell? ⟨gk, k, none⟩ = some (.int .u8 (kd (raw T[k]))) := by
        rw [hKr.cellAt k (by omega), KX_get _ _ (by rw [kinds_len]; exact hlt), kinds_get T k hlt]
      have hfacts := runs_facts ⟨ol, nl, next, d, a, Z, C0⟩ K3.out ((kinds T).take k)
      have hlen : ((kinds T).take k).length ≤ T.length := by rw [← kinds_len T]; exact List.length_take_le' _ _
      have h17 := fun (wx : World) (hx : wx.heap = wr.heap) => zzTake_any (w := wx) (s := runs ⟨ol, nl, next, d, a, Z, C0⟩ ((kinds T).take k)) (x := T[k]) (N0 := W.heap.size) (cb := (Value.slice cp C0.length ccp).ownBlock) (hb := W.heap.size) (fb := fb) (l0 := .int .i64 line) (l1 := .string hdr) (l2 := .int .i64 old) (l3 := .int .i64 new) (whole := .bool whole)
        (by have := HPS.out; unfold PS World.ownsRow at *; rw [hx]; exact this) (by rw [hx]; exact HFR.out.size) (Nat.le_trans hfacts.1 (by show Z.length + _ ≤ _; omega)) (Nat.le_trans hfacts.2.1 (by show C0.length + _ ≤ _; omega)) (by have := HTS.out T[k] (List.getElem_mem hlt); omega)
      rw [← runs_take _ T k hlt] at h17
      have hlb := lt_of_cell c1
      have hlg := lt_of_cell c2
      have HKEEP : Hid (∀ wx w3, wx.heap = wr.heap → Fr (fun k => W.heap.size ≤ k ∨ (Value.slice cp C0.length ccp).ownBlock = some k) wr wx → Took W.heap.size (Value.slice cp C0.length ccp).ownBlock W.heap.size fb (.int .i64 line) (.string hdr) (.int .i64 old) (.int .i64 new) (.bool whole) (runs ⟨ol, nl, next, d, a, Z, C0⟩ ((kinds T).take (k + 1))) wx w3 →
          (w3.cell? ⟨b, off + k, none⟩ = some (.string T[k]) ∧ w3.cell? ⟨gk, k, none⟩ = some (.int .u8 (kd (raw T[k])))) ∧ Hid (PS W.heap.size (Value.slice cp C0.length ccp).ownBlock W.heap.size fb (.int .i64 line) (.string hdr) (.int .i64 old) (.int .i64 new) (.bool whole) (runs ⟨ol, nl, next, d, a, Z, C0⟩ ((kinds T).take (k + 1))) w3) ∧ Hid (Fr (fun k => W.heap.size ≤ k ∨ (Value.slice cp C0.length ccp).ownBlock = some k) W w3)) := by
        intro wx w3 hx hxf ht
        have hb3 : w3.heap[b]? = wr.heap[b]? := by
          rw [ht.2.block b (by rw [hx]; exact hlb) (by rintro (h | h); omega; exact hcbb h), hx]
        have hg3 : w3.heap[gk]? = wr.heap[gk]? := by
          rw [ht.2.block gk (by rw [hx]; exact hlg) (by rintro (h | h); omega; exact own_apart HCu.out HK.out (by decide) gk h rfl), hx]
        refine ⟨⟨by rw [World.cell?_of_block hb3]; exact c1, by rw [World.cell?_of_block hg3]; exact c2⟩, ht.1, ?_⟩
        exact (HFR.out.trans hxf).trans ht.2
      have H17 := hid h17
      clear h17 hKr hfacts hlen hbc hcbb hgk hwW hlb hlg HK HCu HB HAd HWA HWC HNE HCB HT HTS HSS hbl
      generalize T[k] = t at c1 c2 H17 HKEEP
      generalize kd (raw t) = c at c2 H17 HKEEP
      go_wp2_with fail
      go_region_held3 (fun w' => w'.cell? ⟨b, off + k, none⟩ = some (.string t) ∧ w'.cell? ⟨gk, k, none⟩ = some (.int .u8 c)) (go_keep)
        ((go_at_call 17; refine (H17.out _ (by rfl)).mono ?_; rintro e w3 ⟨rfl, hT3⟩; obtain ⟨⟨y1, y2⟩, HP3, HF3⟩ := HKEEP.out _ w3 (by rfl) (by exact (Fr.refl _ _).drew) hT3; clear hT3))
      have e9 : ((c != 0) != (c != 0)) = false := by simp
      go_wp2_with fail
      go_roundw
      case rel => exact ⟨k + 1, by omega, by go_num, HP3, HF3⟩
      case measure => simp [intOf]; omega
    · obtain rfl : k = T.length := by omega
      have HX : Hid ((kinds T).take T.length = kinds T) := List.take_of_length_le (by rw [kinds_len]; omega)
      rw [HX.out, ← HSS.out] at HPS
      clear HX
      have hwW : w.heap.size < W.heap.size := lt_of_block HB.out.box
      have hbox : wr.heap[w.heap.size]? = some (boxed line hdr old new ol nl next d a) := by
        rw [HFR.out.keeps hwW (own_ne HCu.out HB.out.box (by decide))]; exact HB.out.box
      have x0 : wr.cell? ⟨w.heap.size, 0, none⟩ = some (.int .i64 line) := blk_cell hbox 0
      have x1 : wr.cell? ⟨w.heap.size, 1, none⟩ = some (.string hdr) := blk_cell hbox 1
      have x2 : wr.cell? ⟨w.heap.size, 2, none⟩ = some (.int .i64 old) := blk_cell hbox 2
      have x3 : wr.cell? ⟨w.heap.size, 3, none⟩ = some (.int .i64 new) := blk_cell hbox 3
      have x4 : wr.cell? ⟨w.heap.size, 4, none⟩ = some (.int .i64 ol) := blk_cell hbox 4
      have x5 : wr.cell? ⟨w.heap.size, 5, none⟩ = some (.int .i64 nl) := blk_cell hbox 5
      have e10 : (S.ol != wrap64 (wrap64 (ol - (cnt 32 (kinds T) : Int)) - (cnt 45 (kinds T) : Int))) = false := by
        rw [HSS.out, runs_ol _ K1.out, wrap_sub]; simp
      have e11 : (S.nl != wrap64 (wrap64 (nl - (cnt 32 (kinds T) : Int)) - (cnt 43 (kinds T) : Int))) = false := by
        rw [HSS.out, runs_nl _ K2.out, wrap_sub]; simp
      have H18 := fields_any wr W.heap.size line old new S.ol S.nl S.next hdr S.del S.add HPS.out.1
      have HXX := hid hbox
      clear hbox hwW
      go_wp2_with fail
      refine H18.mono ?_
      rintro e w4 ⟨rfl, n4, rfl⟩
      clear H18
      go_wp2_with fail
      have hfacts := runs_facts ⟨ol, nl, next, d, a, Z, C0⟩ K3.out (kinds T)
      rw [← HSS.out, kinds_len] at hfacts
      have hla : S.A.length ≤ 1000000 := Nat.le_trans hfacts.1 (by show Z.length + _ ≤ _; omega)
      have hlc : S.C.length ≤ 1000000 := Nat.le_trans hfacts.2.1 (by show C0.length + _ ≤ _; omega)
      clear hfacts x0 x1 x2 x3 x4 x5 e10 e11
      obtain ⟨_, vA, vC, p1, p2, p3, p4, p5, p6, p7⟩ := HPS.out
      obtain ⟨co', cc', rfl⟩ := own_form p3
      have H19 := fileFields_any (wr.drewN n4) fb whole vA co' S.C.length cc' S.A hla p1 p2
      have HP3 := hid p3
      have HWA2 : Hid (wr.ownsRow 0 36 2 (.slice wa S.A.length wac) S.A.length (PX S.A)) := HFR.out.row HWA.out (by
        rintro k hk (h | h)
        · have := (HWA.out.lt k hk).2; omega
        · exact own_apart HWA.out HCu.out (by decide) k hk h)
      have HWC2 : Hid (wr.ownsRow 0 2 1 (.slice wc S.C.length wcc) S.C.length (NX S.C)) := HFR.out.row HWC.out (by
        rintro k hk (h | h)
        · have := (HWC.out.lt k hk).2; omega
        · exact HNE.out k hk h)
      clear p1 p2 p3 p4 p5 p6 p7
      refine H19.mono ?_
      rintro e w5 ⟨ga, gac, rfl, r1, r2⟩
      have H20 := sameSpans_any w5 ga wa gac wac S.A hla r1 (r2.own HWA2.out (fun _ _ h => h))
      have HR2 := hid r2
      clear H19 r1 r2
      go_wp2_with fail
      refine H20.mono ?_
      rintro e w6 ⟨rfl, n6, rfl⟩
      have H21 := same64_any (w5.drewN n6) co' wc cc' wcc S.C hlc (HR2.out.own HP3.out (fun _ _ h => h)) (HR2.out.own HWC2.out (fun _ _ h => h))
      clear H20
      go_wp2_with fail
      refine H21.mono ?_
      rintro e w7 ⟨rfl, n7, rfl⟩
      have HFIN : Hid (Below w.heap.size w (w5.drewN (n6 + n7))) := by
        have f1 : Fr (fun _ => False) w wr := HB.out.fr.via HFR.out (by
          rintro k hk (h | h)
          · have := HB.out.fr.size; omega
          · have := HCB.out k h; omega)
        exact (((f1.trans ((Fr.refl _ _).drewN n4)).trans HR2.out).drewN (n6 + n7)).toBelow
      clear H21 HR2 HFR HB HPS HWA HWC HWA2 HWC2 HP3
      go_wp2_with fail
      go_ret
      exact ⟨rfl, HFIN.out⟩
end Go.Proofs.Qxb6617273a.Hunk
