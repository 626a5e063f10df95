import Derived.Test.Qxb6618167aP3a
namespace Go.Proofs.Qxb6618167a.Hist
open Go.RowKit Go.PlainAid
attribute [local go_sem ↓] Go.wp_at_zero Go.wp_at_succ

def Made8 (L : List Zp) (w : World) (e : Ending) (w' : World) : Prop :=
  e = .returned (.slice (some ⟨w.heap.size, 0, none⟩) L.length L.length) ∧ OpsAt (fun _ => True) (fun _ => True) w' (some ⟨w.heap.size, 0, none⟩) L ∧ Fr (fun _ => False) w w'

set_option maxRecDepth 100000 in
set_option maxHeartbeats 8000000 in
theorem toOps_any (w : World) (ao : Option Addr) (cap : Nat) (L : List Zp) (hl : L.length ≤ 4096) (hsm : ∀ z ∈ L, Small1 z) (hO : OpsAt (fun b => b < w.heap.size) (fun b => b < w.heap.size) w ao L) :
    Calls Try.prog 8 #[.slice ao L.length cap] w fun e w' => Made8 L w e w' := by
  have HSM := hid hsm
  have HO := hid hO
  clear hsm hO
  have q45 := neq45
  go_enter Try.func8, Try.ntmps8
  go_wp2_with (at_make; refine wpList_mk Try.underlying24 info37 _ _ rfl rfl _ _ rfl rfl L.length L.length (by omega) (by omega) (Nat.le_refl _) (by omega) (by decide) ?_)
  intro w1 hg hf hz
  have HF := hid hf
  have H0 : Hid (Row w1 w.heap.size 37 (L.length * 11)) := ⟨_, hg, by rw [size_made]⟩
  clear hg hf hz
  go_wp2
  go_loopw [4] (fun i wr => ∃ k : Nat, k ≤ L.length ∧ i = .int .i64 k ∧ Hid (Row wr w.heap.size 37 (L.length * 11)) ∧ Hid (∀ i (h : i < L.length), i < k → OpAt (fun b => b ≠ w.heap.size) wr w.heap.size (i * 11) L[i]) ∧ Hid (Fr (fun _ => False) w wr)) (fun i _ => L.length - (intOf i).toNat)
  case atStart => exact ⟨0, Nat.zero_le _, rfl, H0, fun i _ h => by omega, HF⟩
  case round =>
    clear HF H0
    obtain ⟨k, hk, rfl, HR, HP, HFR⟩ := hrel
    generalize wr = wq at *
    by_cases hlt : k < L.length
    · obtain ⟨b, off, rfl, hbl, hb, hc⟩ := HO.out (by omega)
      obtain ⟨va, vc, ea, ec, c0, c1, c2, c3, c4, c5, c6, c7, c8, c9, c10, hV, hE⟩ := ((hc k hlt).fr HFR.out (fun h => h) (fun _ _ h => h)).cells
      obtain ⟨s1, s2, s3⟩ := HSM.out L[k] (List.getElem_mem hlt)
      have HE := hid hE
      have HV := hid hV
      have H3 := hid s3
      clear hc hE hV s3
      generalize hzz : L[k] = z at c0 c1 c2 c3 c4 c5 c6 c7 c8 c9 c10 HE HV H3 s1 s2
      have HZZ := hid hzz
      clear hzz
      have hne1 : b ≠ w.heap.size := by omega
      have hne2 : w.heap.size ≠ b := by omega
      cases ea with
      | none =>
        have HES : Hid (EntsAt (fun b => b ≠ w.heap.size) wq (.slice none 0 0) z.ents) := by
          obtain ⟨ao', cap', e1, e2, _⟩ := HE.out
          simp only [Value.slice.injEq, true_and] at e1
          obtain ⟨rfl, rfl⟩ := e1
          rw [(e2 rfl).2]
          exact ⟨none, 0, rfl, fun _ => ⟨rfl, rfl⟩, fun h => by simp at h⟩
        clear HE
        have H24 := fun (wx : World) (hx : wx.heap = wq.heap) => bytes_any wx (.slice va z.val.length vc) z.val s1 (fun b => b < w.heap.size) (by have h := HV.out; unfold Byt World.cell? at *; rw [hx]; exact h)
        have HH24 := hid H24
        clear H24
        go_wp2
        go_region_held3 (fun w' => w'.cell? ⟨b, off + k * 11, none⟩ = some (.string z.client) ∧ w'.cell? ⟨b, off + k * 11 + 1, none⟩ = some (.string z.kind) ∧ w'.cell? ⟨b, off + k * 11 + 2, none⟩ = some (.int .i64 z.call) ∧ w'.cell? ⟨b, off + k * 11 + 3, none⟩ = some (.int .i64 z.ret) ∧ w'.cell? ⟨b, off + k * 11 + 4, none⟩ = some (.string z.status) ∧ w'.cell? ⟨b, off + k * 11 + 5, none⟩ = some (.slice va z.val.length vc) ∧ w'.cell? ⟨b, off + k * 11 + 6, none⟩ = some (.int .u64 z.index) ∧ w'.cell? ⟨b, off + k * 11 + 7, none⟩ = some (.int .u64 z.frm) ∧ w'.cell? ⟨b, off + k * 11 + 8, none⟩ = some (.int .i64 z.limit) ∧ w'.cell? ⟨b, off + k * 11 + 9, none⟩ = some (.int .u64 z.commit)) (go_keep)
          ((go_at_call 24; refine (HH24.out _ (by rfl)).mono ?_; rintro e w3 ⟨vo, vp, rfl, hB3, f3'⟩; have f3 : Fr (fun _ => False) wq w3 := ⟨f3'.os, f3'.tape, f3'.output, f3'.size, f3'.block⟩; have hR3 := HR.out.fr f3 (fun h => h); have HB3 : Hid (Byt (fun b => b ≠ w.heap.size) w3 (.slice vo z.val.length vp) z.val) := hB3.mono (fun q _ hq => by have hs := HR.out.lt; have hq2 : wq.heap.size ≤ q := hq; omega); have y0 : w3.cell? ⟨b, off + k * 11, none⟩ = some (.string z.client) := f3.cell (fun h => h) c0; have y1 : w3.cell? ⟨b, off + k * 11 + 1, none⟩ = some (.string z.kind) := f3.cell (fun h => h) c1; have y2 : w3.cell? ⟨b, off + k * 11 + 2, none⟩ = some (.int .i64 z.call) := f3.cell (fun h => h) c2; have y3 : w3.cell? ⟨b, off + k * 11 + 3, none⟩ = some (.int .i64 z.ret) := f3.cell (fun h => h) c3; have y4 : w3.cell? ⟨b, off + k * 11 + 4, none⟩ = some (.string z.status) := f3.cell (fun h => h) c4; have y5 : w3.cell? ⟨b, off + k * 11 + 5, none⟩ = some (.slice va z.val.length vc) := f3.cell (fun h => h) c5; have y6 : w3.cell? ⟨b, off + k * 11 + 6, none⟩ = some (.int .u64 z.index) := f3.cell (fun h => h) c6; have y7 : w3.cell? ⟨b, off + k * 11 + 7, none⟩ = some (.int .u64 z.frm) := f3.cell (fun h => h) c7; have y8 : w3.cell? ⟨b, off + k * 11 + 8, none⟩ = some (.int .i64 z.limit) := f3.cell (fun h => h) c8; have y9 : w3.cell? ⟨b, off + k * 11 + 9, none⟩ = some (.int .u64 z.commit) := f3.cell (fun h => h) c9; obtain ⟨x0, r0⟩ := hR3.has (k * 11) (by omega); have g0 : w3.frozen? ⟨w.heap.size, k * 11, none⟩ = false := hR3.free _; obtain ⟨x1, r1⟩ := hR3.has (k * 11 + 1) (by omega); have g1 : w3.frozen? ⟨w.heap.size, k * 11 + 1, none⟩ = false := hR3.free _; obtain ⟨x2, r2⟩ := hR3.has (k * 11 + 2) (by omega); have g2 : w3.frozen? ⟨w.heap.size, k * 11 + 2, none⟩ = false := hR3.free _; obtain ⟨x3, r3⟩ := hR3.has (k * 11 + 3) (by omega); have g3 : w3.frozen? ⟨w.heap.size, k * 11 + 3, none⟩ = false := hR3.free _; obtain ⟨x4, r4⟩ := hR3.has (k * 11 + 4) (by omega); have g4 : w3.frozen? ⟨w.heap.size, k * 11 + 4, none⟩ = false := hR3.free _; obtain ⟨x5, r5⟩ := hR3.has (k * 11 + 5) (by omega); have g5 : w3.frozen? ⟨w.heap.size, k * 11 + 5, none⟩ = false := hR3.free _; obtain ⟨x6, r6⟩ := hR3.has (k * 11 + 6) (by omega); have g6 : w3.frozen? ⟨w.heap.size, k * 11 + 6, none⟩ = false := hR3.free _; obtain ⟨x7, r7⟩ := hR3.has (k * 11 + 7) (by omega); have g7 : w3.frozen? ⟨w.heap.size, k * 11 + 7, none⟩ = false := hR3.free _; obtain ⟨x8, r8⟩ := hR3.has (k * 11 + 8) (by omega); have g8 : w3.frozen? ⟨w.heap.size, k * 11 + 8, none⟩ = false := hR3.free _; obtain ⟨x9, r9⟩ := hR3.has (k * 11 + 9) (by omega); have g9 : w3.frozen? ⟨w.heap.size, k * 11 + 9, none⟩ = false := hR3.free _; obtain ⟨x10, r10⟩ := hR3.has (k * 11 + 10) (by omega); have g10 : w3.frozen? ⟨w.heap.size, k * 11 + 10, none⟩ = false := hR3.free _; have HF3 := hid f3; have HR3 := hid hR3; clear hB3 f3 f3' hR3))
        have N1 := hid (op_done (ve := .slice none 0 0) HR3.out hlt rfl HZZ.out (fun i h1 h2 => (HP.out i h1 h2).fr HF3.out (fun h => h) (fun _ _ h => h)) HB3.out (HES.out.fr HF3.out (fun _ _ h => h)))
        have N2 := hid (setL_row [.string z.client, .string z.kind, .int .i64 z.call, .int .i64 z.ret, .string z.status, .slice vo z.val.length vp, .int .u64 z.index, .int .u64 z.frm, .int .i64 z.limit, .int .u64 z.commit, .slice none 0 0] w3 (k * 11) HR3.out)
        have N3 := hid (setL_fr (Or.inr (Nat.le_refl _)) [.string z.client, .string z.kind, .int .i64 z.call, .int .i64 z.ret, .string z.status, .slice vo z.val.length vp, .int .u64 z.index, .int .u64 z.frm, .int .i64 z.limit, .int .u64 z.commit, .slice none 0 0] w3 (k * 11) (HFR.out.trans HF3.out))
        clear HB3 HF3 HR3 HH24 HV HP HR HES HZZ HSM HO
        go_wp2
        go_roundw
        case rel => exact ⟨k + 1, by omega, by go_num, N2, N1, N3⟩
        case measure => simp [intOf]; omega
      | some ad =>
        go_wp2_with (at_make; refine wpList_mk Try.underlying35 info60 _ _ rfl rfl _ _ rfl rfl z.ents.length z.ents.length (by omega) (by omega) (Nat.le_refl _) (by omega) (by decide) ?_)
        intro w4 hg4 hf4 hz4
        have HF4 := hid hf4
        have HR4 : Hid (Row w4 wq.heap.size 60 (z.ents.length * 2)) := ⟨_, hg4, by rw [size_made]⟩
        have hwr : w.heap.size < wq.heap.size := HR.out.lt
        clear hg4 hf4 hz4 q45
        have hne3 : b ≠ wq.heap.size := by omega
        have hne4 : wq.heap.size ≠ b := by omega
        have d10 : w4.cell? ⟨b, off + k * 11 + 10, none⟩ = some (.slice (some ad) z.ents.length ec) := HF4.out.cell (fun h => h) c10
        go_wp2
        clear d10
        go_loopw [7] (fun i ws => ∃ j : Nat, j ≤ z.ents.length ∧ i = .int .i64 j ∧ Hid (Row ws wq.heap.size 60 (z.ents.length * 2)) ∧ Hid (EntB (fun b => wq.heap.size < b) ws wq.heap.size z.ents j) ∧ Hid (Fr (fun _ => False) wq ws)) (fun i _ => z.ents.length - (intOf i).toNat)
        case atStart => exact ⟨0, Nat.zero_le _, rfl, HR4, fun i _ h => by omega, HF4⟩
        case round =>
          clear HF4 HR4
          obtain ⟨j, hj, rfl, HROW, HEB, HFS⟩ := hrel
          have e10 : wr.cell? ⟨b, off + k * 11 + 10, none⟩ = some (.slice (some ad) z.ents.length ec) := HFS.out.cell (fun h => h) c10
          by_cases hjl : j < z.ents.length
          · obtain ⟨b2, off2, had, hR2, hb2, he⟩ := HE.out.at (by omega)
            simp only [Option.some.injEq] at had
            subst had
            obtain ⟨m1, va2, vc2, m2, m3⟩ := he j hjl
            have hb2w : b2 < w.heap.size := hR2
            have t1 := H3.out z.ents[j] (List.getElem_mem hjl)
            have d1 : wr.cell? ⟨b2, off2 + j * 2, none⟩ = some (.int .u64 z.ents[j].idx) := HFS.out.cell (fun h => h) m1
            have d2 : wr.cell? ⟨b2, off2 + j * 2 + 1, none⟩ = some (.slice va2 z.ents[j].val.length vc2) := HFS.out.cell (fun h => h) m2
            have hn1 : b2 ≠ wq.heap.size := by omega
            have hn2 : wq.heap.size ≠ b2 := by omega
            have HM3 := hid (m3.fr HFS.out (fun _ _ h => h))
            have H24 := fun (wx : World) (hx : wx.heap = wr.heap) => bytes_any wx (.slice va2 z.ents[j].val.length vc2) z.ents[j].val t1 (fun b => b < w.heap.size) (by have h := HM3.out; unfold Byt World.cell? at *; rw [hx]; exact h)
            have HH24 := hid H24
            have HX : Hid (∀ w3, Fr (fun _ => False) wr w3 → ∀ vv, Byt (fun b => wr.heap.size ≤ b) w3 vv z.ents[j].val → EntB (fun b => wq.heap.size < b) (setL w3 wq.heap.size (j * 2) [.int .u64 z.ents[j].idx, vv]) wq.heap.size z.ents (j + 1)) := fun w3 f3 vv hv =>
              ent_done (HROW.out.fr f3 (fun h => h)) hjl rfl (fun b h => by omega) (HEB.out.fr f3 (fun h => h) (fun _ _ h => h)) (hv.mono (fun q _ hq => by have := HROW.out.lt; omega))
            clear H24 he m1 m2 m3 t1 c0 c1 c2 c3 c4 c5 c6 c7 c8 c9 c10
            generalize z.ents[j].idx = ix at d1 HX
            generalize z.ents[j].val = vl at d2 HH24 HX HM3
            go_wp2
            go_region_held3 (fun w' => w'.cell? ⟨b, off + k * 11 + 10, none⟩ = some (.slice (some ⟨b2, off2, none⟩) z.ents.length ec) ∧ w'.cell? ⟨b2, off2 + j * 2, none⟩ = some (.int .u64 ix) ∧ w'.cell? ⟨b2, off2 + j * 2 + 1, none⟩ = some (.slice va2 vl.length vc2)) (go_keep)
              ((go_at_call 24; refine (HH24.out _ (by rfl)).mono ?_; rintro e w3 ⟨vo, vp, rfl, hB3, f3'⟩; have f3 : Fr (fun _ => False) wr w3 := ⟨f3'.os, f3'.tape, f3'.output, f3'.size, f3'.block⟩; have hR3 := HROW.out.fr f3 (fun h => h); have y1 : w3.cell? ⟨b, off + k * 11 + 10, none⟩ = some (.slice (some ⟨b2, off2, none⟩) z.ents.length ec) := f3.cell (fun h => h) e10; have y2 : w3.cell? ⟨b2, off2 + j * 2, none⟩ = some (.int .u64 ix) := f3.cell (fun h => h) d1; have y3 : w3.cell? ⟨b2, off2 + j * 2 + 1, none⟩ = some (.slice va2 vl.length vc2) := f3.cell (fun h => h) d2; obtain ⟨x0, r0⟩ := hR3.has (j * 2) (by omega); obtain ⟨x1, r1⟩ := hR3.has (j * 2 + 1) (by omega); have g0 : w3.frozen? ⟨wq.heap.size, j * 2, none⟩ = false := hR3.free _; have g1 : w3.frozen? ⟨wq.heap.size, j * 2 + 1, none⟩ = false := hR3.free _; have HB3 : Hid (Byt (fun b => wr.heap.size ≤ b) w3 (.slice vo vl.length vp) vl) := hB3; have HF3 := hid f3; have HR3 := hid hR3; clear hB3 f3 f3' hR3))
            have N1 := hid (HX.out w3 HF3.out _ HB3.out)
            have N2 := hid (setL_row [.int .u64 ix, .slice vo vl.length vp] w3 (j * 2) HR3.out)
            have N3 := hid (setL_fr (Or.inr (Nat.le_refl _)) [.int .u64 ix, .slice vo vl.length vp] w3 (j * 2) (HFS.out.trans HF3.out))
            clear HB3 HF3 HR3 HH24 HX HROW HEB HFS HM3 y1 y2 y3 r0 r1 g0 g1 d1 d2
            go_wp2
            go_roundw
            case rel => exact ⟨j + 1, by omega, by go_num, N2, N1, N3⟩
            case measure => simp [intOf]; omega
          · obtain rfl : j = z.ents.length := by omega
            have HES2 : Hid (EntsAt (fun b => b ≠ w.heap.size) wr (.slice (some ⟨wq.heap.size, 0, none⟩) z.ents.length z.ents.length) z.ents) := by
              refine ⟨_, _, rfl, fun h => by simp at h, fun h0 => ⟨wq.heap.size, 0, rfl, by omega, HROW.out.lt, fun i hi => ?_⟩⟩
              obtain ⟨q1, vv, q2, q3⟩ := HEB.out i hi hi
              rw [Nat.zero_add]
              exact ⟨q1, vv, q2, q3.mono (fun b _ hb => by omega)⟩
            have HRs := hid (HR.out.fr HFS.out (fun h => h))
            have HPs : Hid (∀ i (h : i < L.length), i < k → OpAt (fun b => b ≠ w.heap.size) wr w.heap.size (i * 11) L[i]) := fun i h1 h2 => (HP.out i h1 h2).fr HFS.out (fun h => h) (fun _ _ h => h)
            have HVs := hid (HV.out.fr HFS.out (fun _ _ h => h))
            have sc0 : wr.cell? ⟨b, off + k * 11, none⟩ = some (.string z.client) := HFS.out.cell (fun h => h) c0
            have sc1 : wr.cell? ⟨b, off + k * 11 + 1, none⟩ = some (.string z.kind) := HFS.out.cell (fun h => h) c1
            have sc2 : wr.cell? ⟨b, off + k * 11 + 2, none⟩ = some (.int .i64 z.call) := HFS.out.cell (fun h => h) c2
            have sc3 : wr.cell? ⟨b, off + k * 11 + 3, none⟩ = some (.int .i64 z.ret) := HFS.out.cell (fun h => h) c3
            have sc4 : wr.cell? ⟨b, off + k * 11 + 4, none⟩ = some (.string z.status) := HFS.out.cell (fun h => h) c4
            have sc5 : wr.cell? ⟨b, off + k * 11 + 5, none⟩ = some (.slice va z.val.length vc) := HFS.out.cell (fun h => h) c5
            have sc6 : wr.cell? ⟨b, off + k * 11 + 6, none⟩ = some (.int .u64 z.index) := HFS.out.cell (fun h => h) c6
            have sc7 : wr.cell? ⟨b, off + k * 11 + 7, none⟩ = some (.int .u64 z.frm) := HFS.out.cell (fun h => h) c7
            have sc8 : wr.cell? ⟨b, off + k * 11 + 8, none⟩ = some (.int .i64 z.limit) := HFS.out.cell (fun h => h) c8
            have sc9 : wr.cell? ⟨b, off + k * 11 + 9, none⟩ = some (.int .u64 z.commit) := HFS.out.cell (fun h => h) c9
            clear c0 c1 c2 c3 c4 c5 c6 c7 c8 c9 c10
            have H24 := fun (wx : World) (hx : wx.heap = wr.heap) => bytes_any wx (.slice va z.val.length vc) z.val s1 (fun b => b < w.heap.size) (by have h := HVs.out; unfold Byt World.cell? at *; rw [hx]; exact h)
            have HH24 := hid H24
            clear H24
            go_wp2
            go_region_held3 (fun w' => w'.cell? ⟨b, off + k * 11, none⟩ = some (.string z.client) ∧ w'.cell? ⟨b, off + k * 11 + 1, none⟩ = some (.string z.kind) ∧ w'.cell? ⟨b, off + k * 11 + 2, none⟩ = some (.int .i64 z.call) ∧ w'.cell? ⟨b, off + k * 11 + 3, none⟩ = some (.int .i64 z.ret) ∧ w'.cell? ⟨b, off + k * 11 + 4, none⟩ = some (.string z.status) ∧ w'.cell? ⟨b, off + k * 11 + 5, none⟩ = some (.slice va z.val.length vc) ∧ w'.cell? ⟨b, off + k * 11 + 6, none⟩ = some (.int .u64 z.index) ∧ w'.cell? ⟨b, off + k * 11 + 7, none⟩ = some (.int .u64 z.frm) ∧ w'.cell? ⟨b, off + k * 11 + 8, none⟩ = some (.int .i64 z.limit) ∧ w'.cell? ⟨b, off + k * 11 + 9, none⟩ = some (.int .u64 z.commit)) (go_keep)
              ((go_at_call 24; refine (HH24.out _ (by rfl)).mono ?_; rintro e w3 ⟨vo, vp, rfl, hB3, f3'⟩; have f3 : Fr (fun _ => False) wr w3 := ⟨f3'.os, f3'.tape, f3'.output, f3'.size, f3'.block⟩; have hR3 := HRs.out.fr f3 (fun h => h); have HB3 : Hid (Byt (fun b => b ≠ w.heap.size) w3 (.slice vo z.val.length vp) z.val) := hB3.mono (fun q _ hq => by have hs := HRs.out.lt; have hq2 : wr.heap.size ≤ q := hq; omega); have y0 : w3.cell? ⟨b, off + k * 11, none⟩ = some (.string z.client) := f3.cell (fun h => h) sc0; have y1 : w3.cell? ⟨b, off + k * 11 + 1, none⟩ = some (.string z.kind) := f3.cell (fun h => h) sc1; have y2 : w3.cell? ⟨b, off + k * 11 + 2, none⟩ = some (.int .i64 z.call) := f3.cell (fun h => h) sc2; have y3 : w3.cell? ⟨b, off + k * 11 + 3, none⟩ = some (.int .i64 z.ret) := f3.cell (fun h => h) sc3; have y4 : w3.cell? ⟨b, off + k * 11 + 4, none⟩ = some (.string z.status) := f3.cell (fun h => h) sc4; have y5 : w3.cell? ⟨b, off + k * 11 + 5, none⟩ = some (.slice va z.val.length vc) := f3.cell (fun h => h) sc5; have y6 : w3.cell? ⟨b, off + k * 11 + 6, none⟩ = some (.int .u64 z.index) := f3.cell (fun h => h) sc6; have y7 : w3.cell? ⟨b, off + k * 11 + 7, none⟩ = some (.int .u64 z.frm) := f3.cell (fun h => h) sc7; have y8 : w3.cell? ⟨b, off + k * 11 + 8, none⟩ = some (.int .i64 z.limit) := f3.cell (fun h => h) sc8; have y9 : w3.cell? ⟨b, off + k * 11 + 9, none⟩ = some (.int .u64 z.commit) := f3.cell (fun h => h) sc9; obtain ⟨x0, r0⟩ := hR3.has (k * 11) (by omega); have g0 : w3.frozen? ⟨w.heap.size, k * 11, none⟩ = false := hR3.free _; obtain ⟨x1, r1⟩ := hR3.has (k * 11 + 1) (by omega); have g1 : w3.frozen? ⟨w.heap.size, k * 11 + 1, none⟩ = false := hR3.free _; obtain ⟨x2, r2⟩ := hR3.has (k * 11 + 2) (by omega); have g2 : w3.frozen? ⟨w.heap.size, k * 11 + 2, none⟩ = false := hR3.free _; obtain ⟨x3, r3⟩ := hR3.has (k * 11 + 3) (by omega); have g3 : w3.frozen? ⟨w.heap.size, k * 11 + 3, none⟩ = false := hR3.free _; obtain ⟨x4, r4⟩ := hR3.has (k * 11 + 4) (by omega); have g4 : w3.frozen? ⟨w.heap.size, k * 11 + 4, none⟩ = false := hR3.free _; obtain ⟨x5, r5⟩ := hR3.has (k * 11 + 5) (by omega); have g5 : w3.frozen? ⟨w.heap.size, k * 11 + 5, none⟩ = false := hR3.free _; obtain ⟨x6, r6⟩ := hR3.has (k * 11 + 6) (by omega); have g6 : w3.frozen? ⟨w.heap.size, k * 11 + 6, none⟩ = false := hR3.free _; obtain ⟨x7, r7⟩ := hR3.has (k * 11 + 7) (by omega); have g7 : w3.frozen? ⟨w.heap.size, k * 11 + 7, none⟩ = false := hR3.free _; obtain ⟨x8, r8⟩ := hR3.has (k * 11 + 8) (by omega); have g8 : w3.frozen? ⟨w.heap.size, k * 11 + 8, none⟩ = false := hR3.free _; obtain ⟨x9, r9⟩ := hR3.has (k * 11 + 9) (by omega); have g9 : w3.frozen? ⟨w.heap.size, k * 11 + 9, none⟩ = false := hR3.free _; obtain ⟨x10, r10⟩ := hR3.has (k * 11 + 10) (by omega); have g10 : w3.frozen? ⟨w.heap.size, k * 11 + 10, none⟩ = false := hR3.free _; have HF3 := hid f3; have HR3 := hid hR3; clear hB3 f3 f3' hR3))
            have N1 := hid (op_done (ve := .slice (some ⟨wq.heap.size, 0, none⟩) z.ents.length z.ents.length) HR3.out hlt rfl HZZ.out (fun i h1 h2 => (HPs.out i h1 h2).fr HF3.out (fun h => h) (fun _ _ h => h)) HB3.out (HES2.out.fr HF3.out (fun _ _ h => h)))
            have N2 := hid (setL_row [.string z.client, .string z.kind, .int .i64 z.call, .int .i64 z.ret, .string z.status, .slice vo z.val.length vp, .int .u64 z.index, .int .u64 z.frm, .int .i64 z.limit, .int .u64 z.commit, .slice (some ⟨wq.heap.size, 0, none⟩) z.ents.length z.ents.length] w3 (k * 11) HR3.out)
            have N3 := hid (setL_fr (Or.inr (Nat.le_refl _)) [.string z.client, .string z.kind, .int .i64 z.call, .int .i64 z.ret, .string z.status, .slice vo z.val.length vp, .int .u64 z.index, .int .u64 z.frm, .int .i64 z.limit, .int .u64 z.commit, .slice (some ⟨wq.heap.size, 0, none⟩) z.ents.length z.ents.length] w3 (k * 11) ((HFR.out.trans HFS.out).trans HF3.out))
            clear HB3 HF3 HR3 HH24 HV HVs HP HPs HR HRs HES2 HZZ HSM HO HFS HE HROW HEB
            go_wp2
            go_roundw
            case rel => exact ⟨k + 1, by omega, by go_num, N2, N1, N3⟩
            case measure => simp [intOf]; omega
    · obtain rfl : k = L.length := by omega
      have N1 : Hid (Made8 L w (.returned (.slice (some ⟨w.heap.size, 0, none⟩) L.length L.length)) wq) := by
        refine ⟨rfl, fun h0 => ⟨w.heap.size, 0, rfl, trivial, HR.out.lt, fun i hi => ?_⟩, HFR.out⟩
        obtain ⟨v1, v2, c0, c1, c2, c3, c4, c5, c6, c7, c8, c9, c10, h1, h2⟩ := HP.out i hi hi
        rw [Nat.zero_add]
        exact ⟨v1, v2, c0, c1, c2, c3, c4, c5, c6, c7, c8, c9, c10, h1.mono (fun _ _ _ => trivial), h2.mono (fun _ _ _ => trivial)⟩
      clear HR HP HFR HSM HO
      go_wp2
      go_ret
      exact N1.out
end Go.Proofs.Qxb6618167a.Hist
