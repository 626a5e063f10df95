import Derived.Test.Qxb6618167aPD
namespace Go.Proofs.Qxb6618167a.Hist
open Go.RowKit Go.PlainAid
attribute [local go_sem ↓] Go.wp_at_zero Go.wp_at_succ

def Gath26 (base mb : Nat) (z : Zp) (st : St) (n : Nat) (w : World) (e : Ending) (w' : World) : Prop := e = .returned (.tuple #[]) ∧ SS base w' mb (gatherF z st) n ∧ Fr (fun k => base ≤ k) w w'
theorem gather_app_some {z : Zp} {st : St} {f : Fate} (h : (z.kind.toList == [97, 112, 112, 101, 110, 100]) = true) (hf : st z.val = some f) : gatherF z st = upd st z.val { f with appends := f.appends + 1 } := by simp [gatherF, isApp, h, hf]
theorem gather_app_none {z : Zp} {st : St} (h : (z.kind.toList == [97, 112, 112, 101, 110, 100]) = true) (hf : st z.val = none) : gatherF z st = st := by simp [gatherF, isApp, h, hf]
theorem gather_ok {z : Zp} {st : St} (h : (z.kind.toList == [97, 112, 112, 101, 110, 100]) = false) (h2 : (z.status.toList == [111, 107]) = true) : gatherF z st = z.ents.foldl (fun st e => see z.ret e st) st := by simp [gatherF, isApp, isOk, h, h2]
theorem gather_skip {z : Zp} {st : St} (h : (z.kind.toList == [97, 112, 112, 101, 110, 100]) = false) (h2 : (z.status.toList == [111, 107]) = false) : gatherF z st = st := by simp [gatherF, isApp, isOk, h, h2]

set_option maxHeartbeats 2000000 in
theorem gather_app (w : World) (R : Nat → Prop) (b o base mb : Nat) (z : Zp) (st : St) (n : Nat) (h : OpAt R w b o z) (hlt : b < base) (hl : z.val.length ≤ 1048576) (hs : SS base w mb st n) (hbd : ∀ f, st z.val = some f → 0 ≤ f.appends ∧ f.appends ≤ 1000000) (k1 : (z.kind.toList == [97, 112, 112, 101, 110, 100]) = true) :
    Calls Try.prog 26 #[.map (some mb), .pointer (some ⟨b, o, none⟩)] w fun e w' => Gath26 base mb z st n w e w' := by
  obtain ⟨vv, ve, c0, c1, c2, c3, c4, c5, c6, c7, c8, c9, c10, h1, h2⟩ := h
  have hcv := conv_byt h1
  cases hf : st z.val with
  | none =>
    have hlk := hs.look_none hl hf
    have N : Hid (Gath26 base mb z st n w (.returned (.tuple #[])) w) := ⟨rfl, by rw [gather_app_none k1 hf]; exact hs, Fr.refl _ _⟩
    clear h1 h2 hs hf hbd
    go_enter Try.func26, Try.ntmps26
    go_wp2
    go_returns
    exact N.out
  | some f =>
    obtain ⟨g, hlk, hg, hcell, hup⟩ := hs.look_some hl hf
    obtain ⟨b1, b2⟩ := hbd f hf
    have N : Hid (Gath26 base mb z st n w (.returned (.tuple #[])) (w.setCell ⟨g, 1, none⟩ (.int .i64 (f.appends + 1)))) := by
      refine ⟨rfl, ?_, (Fr.refl _ w).set (p := ⟨g, 1, none⟩) hg _⟩
      rw [gather_app_some k1 hf]
      refine hup _ _ ?_ (fun k _ hk => Below.heap_setCell w _ _ k (fun e => hk e))
      rw [blk_set hcell]
      rfl
    have g0 : w.cell? ⟨g, 1, none⟩ = some (.int .i64 f.appends) := by rw [blk_cell hcell]; rfl
    have g1 : w.frozen? ⟨g, 1, none⟩ = false := blk_free hcell _
    have hne : g ≠ b := by omega
    clear h1 h2 hs hcell hup hf hbd
    go_enter Try.func26, Try.ntmps26
    go_wp2
    go_returns
    exact N.out
theorem gather_no (w : World) (R : Nat → Prop) (b o base mb : Nat) (z : Zp) (st : St) (n : Nat) (h : OpAt R w b o z) (hs : SS base w mb st n) (k1 : (z.kind.toList == [97, 112, 112, 101, 110, 100]) = false) (k2 : (z.status.toList == [111, 107]) = false) :
    Calls Try.prog 26 #[.map (some mb), .pointer (some ⟨b, o, none⟩)] w fun e w' => Gath26 base mb z st n w e w' := by
  obtain ⟨vv, ve, c0, c1, c2, c3, c4, c5, c6, c7, c8, c9, c10, h1, h2⟩ := h
  have N : Hid (Gath26 base mb z st n w (.returned (.tuple #[])) w) := ⟨rfl, by rw [gather_skip k1 k2]; exact hs, Fr.refl _ _⟩
  clear h1 h2 hs
  go_enter Try.func26, Try.ntmps26
  go_wp2
  go_returns
  exact N.out
theorem see_step (es : List Ent) (r : Int) (st : St) (k : Nat) (h : k < es.length) : (es.take (k + 1)).foldl (fun st e => see r e st) st = see r es[k] ((es.take k).foldl (fun st e => see r e st) st) := by
  rw [List.take_succ_eq_append_getElem h, List.foldl_append]; rfl
theorem see_eq_none {r : Int} {e : Ent} {st : St} (h : st e.val = none) : see r e st = st := by simp [see, h]
theorem see_eq_no {r : Int} {e : Ent} {st : St} {f : Fate} (h : st e.val = some f) (hc : (!f.seen || decide (r < f.ret)) = false) : see r e st = st := by simp only [see, h, hc]; simp
theorem see_eq_yes {r : Int} {e : Ent} {st : St} {f : Fate} (h : st e.val = some f) (hc : (!f.seen || decide (r < f.ret)) = true) : see r e st = upd st e.val { f with seen := true, index := e.idx, ret := r } := by simp only [see, h, hc]; simp
set_option maxHeartbeats 4000000 in
theorem gather_read (w : World) (R : Nat → Prop) (b o base mb : Nat) (z : Zp) (st : St) (n : Nat) (h : OpAt R w b o z) (hlt : b < base) (hR : ∀ x, R x → x < base) (hbase : base ≤ w.heap.size) (hsm : Small1 z) (hs : SS base w mb st n) (k1 : (z.kind.toList == [97, 112, 112, 101, 110, 100]) = false) (k2 : (z.status.toList == [111, 107]) = true) :
    Calls Try.prog 26 #[.map (some mb), .pointer (some ⟨b, o, none⟩)] w fun e w' => Gath26 base mb z st n w e w' := by
  obtain ⟨va, vc, ea, ec, c0, c1, c2, c3, c4, c5, c6, c7, c8, c9, c10, h1, h2⟩ := h.cells
  obtain ⟨s1, s2, s3⟩ := hsm
  have HS := hid hs
  have HE := hid h2
  have H3 := hid s3
  have HG := hid (gather_ok (st := st) k1 k2)
  clear h1 h2 hs s3 h
  go_enter Try.func26, Try.ntmps26
  go_wp2
  go_loopw [41] (fun i wr => ∃ k : Nat, k ≤ z.ents.length ∧ i = .int .i64 k ∧ Hid (SS base wr mb ((z.ents.take k).foldl (fun st e => see z.ret e st) st) n) ∧ Hid (Fr (fun x => base ≤ x) w wr)) (fun i _ => z.ents.length - (intOf i).toNat)
  case atStart => exact ⟨0, Nat.zero_le _, rfl, HS, Fr.refl _ _⟩
  case round =>
    obtain ⟨k, hk, rfl, HK, HF⟩ := hrel
    clear HS
    by_cases hkl : k < z.ents.length
    · obtain ⟨b1, off1, rfl, hRb, _, g⟩ := HE.out.at (by omega)
      have hb1 := hR b1 hRb
      obtain ⟨e1, va1, vc1, e2, hB⟩ := g k hkl
      have d1 : wr.cell? ⟨b1, off1 + k * 2, none⟩ = some (.int .u64 z.ents[k].idx) := HF.out.cell (by omega) e1
      have d2 : wr.cell? ⟨b1, off1 + k * 2 + 1, none⟩ = some (.slice va1 z.ents[k].val.length vc1) := HF.out.cell (by omega) e2
      have d3 : wr.cell? ⟨b, o + 3, none⟩ = some (.int .i64 z.ret) := HF.out.cell (by omega) c3
      have HX := hid ((Fr.refl (fun _ => False) wr).alloc (.cells #[.int .u64 z.ents[k].idx, .slice va1 z.ents[k].val.length vc1] 60 (0, 0)))
      have hcv := conv_byt ((hB.fr HF.out (fun x hx => by have := hR x hx; omega)).fr HX.out (fun _ _ h => h))
      have HSX : Hid (SS base (wr.alloc (.cells #[.int .u64 z.ents[k].idx, .slice va1 z.ents[k].val.length vc1] 60 (0, 0))) mb ((z.ents.take k).foldl (fun st e => see z.ret e st) st) n) := HK.out.keep (fun x hx _ => HX.out.block x hx (fun h => h))
      have d3' : (wr.alloc (.cells #[.int .u64 z.ents[k].idx, .slice va1 z.ents[k].val.length vc1] 60 (0, 0))).cell? ⟨b, o + 3, none⟩ = some (.int .i64 z.ret) := HX.out.cell (fun h => h) d3
      have t1 := H3.out z.ents[k] (List.getElem_mem hkl)
      have HST := hid (see_step z.ents z.ret st k hkl)
      have hws : base ≤ wr.heap.size := Nat.le_trans hbase HF.out.size
      have HFX : Hid (Fr (fun x => base ≤ x) w (wr.alloc (.cells #[.int .u64 z.ents[k].idx, .slice va1 z.ents[k].val.length vc1] 60 (0, 0)))) := HF.out.alloc _
      clear g hB e1 e2 HK HF
      generalize (z.ents.take k).foldl (fun st e => see z.ret e st) st = st1 at HSX HST
      cases hf : st1 z.ents[k].val with
      | none =>
        have hlk := HSX.out.look_none t1 hf
        have N1 : Hid (SS base (wr.alloc (.cells #[.int .u64 z.ents[k].idx, .slice va1 z.ents[k].val.length vc1] 60 (0, 0))) mb ((z.ents.take (k + 1)).foldl (fun st e => see z.ret e st) st) n) := by rw [HST.out, see_eq_none hf]; exact HSX.out
        clear HSX HST hf
        go_wp2
        go_quiet (fail)
        go_wp2
        go_roundw
        case rel => exact ⟨k + 1, by omega, by go_num, N1.out.keep (fun _ _ _ => rfl), HFX.out.drewN _⟩
        case measure => simp [intOf]; omega
      | some f =>
        obtain ⟨g, hlk, hg, hcell, hup⟩ := HSX.out.look_some t1 hf
        have HUP := hid hup
        have HC := hid hcell
        have g2 : (wr.alloc (.cells #[.int .u64 z.ents[k].idx, .slice va1 z.ents[k].val.length vc1] 60 (0, 0))).cell? ⟨g, 2, none⟩ = some (.bool f.seen) := by rw [blk_cell hcell]; rfl
        have g3 : (wr.alloc (.cells #[.int .u64 z.ents[k].idx, .slice va1 z.ents[k].val.length vc1] 60 (0, 0))).cell? ⟨g, 3, none⟩ = some (.int .u64 f.index) := by rw [blk_cell hcell]; rfl
        have g4 : (wr.alloc (.cells #[.int .u64 z.ents[k].idx, .slice va1 z.ents[k].val.length vc1] 60 (0, 0))).cell? ⟨g, 4, none⟩ = some (.int .i64 f.ret) := by rw [blk_cell hcell]; rfl
        have z2 : (wr.alloc (.cells #[.int .u64 z.ents[k].idx, .slice va1 z.ents[k].val.length vc1] 60 (0, 0))).frozen? ⟨g, 2, none⟩ = false := blk_free hcell _
        have z3 : (wr.alloc (.cells #[.int .u64 z.ents[k].idx, .slice va1 z.ents[k].val.length vc1] 60 (0, 0))).frozen? ⟨g, 3, none⟩ = false := blk_free hcell _
        have z4 : (wr.alloc (.cells #[.int .u64 z.ents[k].idx, .slice va1 z.ents[k].val.length vc1] 60 (0, 0))).frozen? ⟨g, 4, none⟩ = false := blk_free hcell _
        have hgw : g ≠ wr.heap.size := fun e => by
          rw [e, heap_alloc_new] at hcell
          simp at hcell
        have hgw' : wr.heap.size ≠ g := fun e => hgw e.symm
        have hne : g ≠ b := by omega
        have hne' : b ≠ g := by omega
        clear hup hcell
        have HNO := hid (see_eq_no (r := z.ret) hf)
        have HYES := hid (see_eq_yes (r := z.ret) hf)
        clear hf
        have NS : Hid ((!f.seen || decide (z.ret < f.ret)) = true → ∀ m, SS base (((((wr.alloc (.cells #[.int .u64 z.ents[k].idx, .slice va1 z.ents[k].val.length vc1] 60 (0, 0))).drewN m).setCell ⟨g, 2, none⟩ (.bool true)).setCell ⟨g, 3, none⟩ (.int .u64 z.ents[k].idx)).setCell ⟨g, 4, none⟩ (.int .i64 z.ret)) mb ((z.ents.take (k + 1)).foldl (fun st e => see z.ret e st) st) n) := fun hc m => by
          rw [HST.out, HYES.out hc]
          refine HUP.out _ _ (blk_set (blk_set (blk_set (w := (wr.alloc (.cells #[.int .u64 z.ents[k].idx, .slice va1 z.ents[k].val.length vc1] 60 (0, 0))).drewN m) HC.out _ _) _ _) _ _) (fun x _ hx => ?_)
          exact (Below.heap_setCell _ _ _ x hx).trans ((Below.heap_setCell _ _ _ x hx).trans (Below.heap_setCell _ _ _ x hx))
        have NF : Hid (∀ m, Fr (fun x => base ≤ x) w (((((wr.alloc (.cells #[.int .u64 z.ents[k].idx, .slice va1 z.ents[k].val.length vc1] 60 (0, 0))).drewN m).setCell ⟨g, 2, none⟩ (.bool true)).setCell ⟨g, 3, none⟩ (.int .u64 z.ents[k].idx)).setCell ⟨g, 4, none⟩ (.int .i64 z.ret))) := fun m => (((HFX.out.drewN m).set (p := ⟨g, 2, none⟩) hg _).set (p := ⟨g, 3, none⟩) hg _).set (p := ⟨g, 4, none⟩) hg _
        clear HUP HC HYES
        cases hc1 : f.seen with
        | false =>
          rw [hc1] at g2
          go_wp2
          go_quiet (fail)
          go_wp2
          go_region
          go_wp2
          go_roundw
          case rel => exact ⟨k + 1, by omega, by go_num, NS.out (by rw [hc1]; rfl) _, NF.out _⟩
          case measure => simp [intOf]; omega
        | true =>
          rw [hc1] at g2
          cases hc2 : decide (z.ret < f.ret) with
          | false =>
            have hc2' : ¬ z.ret < f.ret := of_decide_eq_false hc2
            have N1 : Hid (SS base (wr.alloc (.cells #[.int .u64 z.ents[k].idx, .slice va1 z.ents[k].val.length vc1] 60 (0, 0))) mb ((z.ents.take (k + 1)).foldl (fun st e => see z.ret e st) st) n) := by rw [HST.out, HNO.out (by rw [hc1, hc2]; rfl)]; exact HSX.out
            go_wp2
            go_quiet (fail)
            go_wp2
            go_roundw
            case rel => exact ⟨k + 1, by omega, by go_num, N1.out.keep (fun _ _ _ => rfl), HFX.out.drewN _⟩
            case measure => simp [intOf]; omega
          | true =>
            have hc2' : z.ret < f.ret := of_decide_eq_true hc2
            go_wp2
            go_quiet (fail)
            go_wp2
            go_region
            go_wp2
            go_roundw
            case rel => exact ⟨k + 1, by omega, by go_num, NS.out (by rw [hc1, hc2]; rfl) _, NF.out _⟩
            case measure => simp [intOf]; omega
    · obtain rfl : k = z.ents.length := by omega
      rw [List.take_of_length_le (Nat.le_refl _)] at HK
      have N : Hid (Gath26 base mb z st n w (.returned (.tuple #[])) wr) := ⟨rfl, by rw [HG.out]; exact HK.out, HF.out⟩
      go_wp2
      go_returns
      exact N.out
theorem gather_any (w : World) (R : Nat → Prop) (b o base mb : Nat) (z : Zp) (st : St) (n : Nat) (h : OpAt R w b o z) (hlt : b < base) (hR : ∀ x, R x → x < base) (hbase : base ≤ w.heap.size) (hsm : Small1 z) (hs : SS base w mb st n) (hbd : ∀ f, st z.val = some f → 0 ≤ f.appends ∧ f.appends ≤ 1000000) :
    Calls Try.prog 26 #[.map (some mb), .pointer (some ⟨b, o, none⟩)] w fun e w' => Gath26 base mb z st n w e w' := by
  cases k1 : (z.kind.toList == [97, 112, 112, 101, 110, 100]) with
  | true => exact gather_app w R b o base mb z st n h hlt hsm.1 hs hbd k1
  | false =>
    cases k2 : (z.status.toList == [111, 107]) with
    | false => exact gather_no w R b o base mb z st n h hs k1 k2
    | true => exact gather_read w R b o base mb z st n h hlt hR hbase hsm hs k1 k2
theorem zzgather_any (w : World) (R : Nat → Prop) (b o base mb : Nat) (z : Zp) (st : St) (n : Nat) (h : OpAt R w b o z) (hlt : b < base) (hR : ∀ x, R x → x < base) (hbase : base ≤ w.heap.size) (hsm : Small1 z) (hs : SS base w mb st n) (hbd : ∀ f, st z.val = some f → 0 ≤ f.appends ∧ f.appends ≤ 1000000) :
    Calls Try.prog 11 #[.map (some mb), .pointer (some ⟨b, o, none⟩)] w fun e w' => Gath26 base mb z st n w e w' := by
  have H := gather_any w R b o base mb z st n h hlt hR hbase hsm hs hbd
  clear h hs hbd
  go_enter Try.func11, Try.ntmps11
  go_wp2_with fail
  go_at_call 26
  refine H.mono ?_
  rintro e w' ⟨rfl, h1, h2⟩
  have N : Hid (Gath26 base mb z st n w (.returned (.tuple #[])) w') := ⟨rfl, h1, h2⟩
  clear h1 h2
  go_wp2
  go_returns
  exact N.out
end Go.Proofs.Qxb6618167a.Hist
