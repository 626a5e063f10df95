import Derived.Test.Qxb6618167aPA
import Derived.Test.Qxb6618167aPH
namespace Go.Proofs.Qxb6618167a.Hist
open Go.RowKit Go.PlainAid
attribute [local go_sem ↓] Go.wp_at_zero Go.wp_at_succ

theorem okl : okS.toList = [111, 107] := by simp [okS]
theorem sett_ok (st : St) (z : Zp) (hz : z.status = okS) : sett st z = some none := by
  simp only [sett, hz, okl]; rfl
theorem info30 : (Try.prog.info? 30).map (fun i => (i.zero, i.size, i.bytes)) = some (some (.pointer none), 1, 8) := by kernel_rfl
theorem SS.lt {base mb n : Nat} {w : World} {st : St} (h : SS base w mb st n) : mb < w.heap.size := by
  obtain ⟨_, _, h1, _⟩ := h; exact h1.lt
theorem sett_made {st : St} {z z' : Zp} (h : sett st z = some (some z')) : z'.status = okS ∧ z'.val = z.val := by
  unfold sett at h
  split at h
  · simp at h
  · split at h
    · split at h
      · simp at h
      · split at h
        · simp at h
        · split at h
          · simp only [Option.some.injEq] at h; rw [← h]; exact ⟨rfl, rfl⟩
          · simp at h
    · simp at h
theorem GotV.fr {S R : Nat → Prop} {w w' : World} {b o : Nat} {r : Option (Option Zp)} {gv : Value} (h : GotV R w b o r gv) (f : Fr S w w') (hs : ∀ x, R x → ¬ S x) (hg : ∀ a, gv = .pointer (some a) → ¬ S a.block) : GotV R w' b o r gv := by
  cases r with
  | none => exact h
  | some y =>
    cases y with
    | none => exact h
    | some z' =>
      obtain ⟨g, h1, h2, ⟨cs, h3⟩, h4⟩ := h
      have hn : ¬ S g := hg _ h1
      exact ⟨g, h1, h2, ⟨cs, by rw [f.block g (lt_of_block h3) hn]; exact h3⟩, h4.fr f hn hs⟩
theorem sett_got {R : Nat → Prop} {b o : Nat} {r : Option (Option Zp)} {w w' : World} {e : Ending} (h : Sett27 R b o r w e w') (hb : b < w.heap.size) : ∃ p : Option Addr, e = .returned (.pointer p) ∧ GotV R w' b o r (.pointer p) ∧ (∀ a, p = some a → a.block = b ∨ a.block = w.heap.size) ∧ Fr (fun _ => False) w w' := by
  cases r with
  | none => obtain ⟨f, rfl⟩ := h; exact ⟨none, rfl, rfl, fun a ha => by simp at ha, f⟩
  | some y =>
    cases y with
    | none => obtain ⟨f, rfl, _⟩ := h; exact ⟨_, rfl, rfl, fun a ha => by simp at ha; rw [← ha]; exact Or.inl rfl, f⟩
    | some z' =>
      obtain ⟨f, rfl, hc, ho⟩ := h
      exact ⟨_, rfl, ⟨_, rfl, by omega, hc, ho⟩, fun a ha => by simp at ha; rw [← ha]; exact Or.inr rfl, f⟩
/-- the first k cells of the block gb hold what the operations settle to -/
def GotB (base hb : Nat) (st : St) (L : List Zp) (gb : Nat) (w : World) (k : Nat) : Prop :=
  Row w gb 30 L.length ∧ ∀ i (h : i < L.length), i < k → ∃ p : Option Addr, w.cell? ⟨gb, i, none⟩ = some (.pointer p) ∧ GotV (fun x => x < base) w hb (i * 11) (sett st L[i]) (.pointer p) ∧ ∀ a, p = some a → a.block ≠ gb
section
variable {base hb gb k : Nat} {st : St} {L : List Zp} {w w' : World}
theorem GotB.zero {z : Array Value} (h : w.heap[gb]? = some (.cells (madeCells z L.length) 30 (0, 0))) : GotB base hb st L gb w 0 := ⟨⟨_, h, by rw [size_made]⟩, fun i _ h => by omega⟩
theorem GotB.row (h : GotB base hb st L gb w k) : Row w gb 30 L.length := h.1
theorem GotB.lt (h : GotB base hb st L gb w k) : gb < w.heap.size := h.1.lt
theorem GotB.fr (h : GotB base hb st L gb w k) (f : Fr (fun _ => False) w w') : GotB base hb st L gb w' k := by
  refine ⟨h.1.fr f (fun h => h), fun i hi hk => ?_⟩
  obtain ⟨p, h1, h2, h3⟩ := h.2 i hi hk
  exact ⟨p, f.cell (fun h => h) h1, h2.fr f (fun _ _ h => h) (fun _ _ h => h), h3⟩
theorem GotB.put (h : GotB base hb st L gb w k) (hk : k < L.length) {p : Option Addr} (hg : GotV (fun x => x < base) w hb (k * 11) (sett st L[k]) (.pointer p)) (hp : ∀ a, p = some a → a.block ≠ gb) (_ : hb ≠ gb) (hbg : base ≤ gb) : GotB base hb st L gb (w.setCell ⟨gb, k, none⟩ (.pointer p)) (k + 1) := by
  obtain ⟨⟨cs, hc, hs⟩, h2⟩ := h
  have f : Fr (fun x => x = gb) w (w.setCell ⟨gb, k, none⟩ (.pointer p)) := (Fr.refl (fun x => x = gb) w).set (p := ⟨gb, k, none⟩) rfl _
  have hc' := blk_set hc k (.pointer p)
  refine ⟨⟨_, hc', by simp [hs]⟩, fun i hi hik => ?_⟩
  by_cases hik' : i = k
  · subst hik'
    refine ⟨p, ?_, hg.fr f (fun x hx => by have : x < base := hx; omega) (fun a ha => by simp only [Value.pointer.injEq] at ha; exact hp a ha), hp⟩
    rw [blk_cell hc']
    simp [hs, hi]
  · obtain ⟨q, q1, q2, q3⟩ := h2 i hi (by omega)
    refine ⟨q, ?_, q2.fr f (fun x hx => by have : x < base := hx; omega) (fun a ha => by simp only [Value.pointer.injEq] at ha; exact q3 a ha), q3⟩
    rw [blk_cell hc'] 
    rw [blk_cell hc] at q1
    rw [Array.getElem?_setIfInBounds_ne (fun e => hik' e.symm)]
    exact q1
theorem GotB.get (h : GotB base hb st L gb w L.length) (i : Nat) (hi : i < L.length) : ∃ p : Option Addr, w.cell? ⟨gb, i, none⟩ = some (.pointer p) ∧ GotV (fun x => x < base) w hb (i * 11) (sett st L[i]) (.pointer p) := by
  obtain ⟨p, h1, h2, _⟩ := h.2 i hi hi
  exact ⟨p, h1, h2⟩
theorem settle_again {R : Nat → Prop} {mb n b o : Nat} {z : Zp} {a : Addr} (hs : SS base w mb st n) (hl : z.val.length ≤ 1048576) (hz : OpAt R w b o z) (hg : GotV R w b o (sett st z) (.pointer (some a))) :
    Calls Try.prog 12 #[.map (some mb), .pointer (some a)] w fun e w' => e = .returned (.pointer (some a)) ∧ w' = w := by
  cases hr : sett st z with
  | none => rw [hr] at hg; simp [GotV] at hg
  | some y =>
    cases y with
    | none =>
      rw [hr] at hg
      simp only [GotV, Value.pointer.injEq, Option.some.injEq] at hg
      subst hg
      refine (zzsettle_any w R b o base mb z st n hz hl hs).mono ?_
      rintro e w' h
      rw [hr] at h
      exact ⟨h.2.1, h.2.2⟩
    | some z' =>
      rw [hr] at hg
      obtain ⟨g, h1, _, _, h4⟩ := hg
      simp only [Value.pointer.injEq, Option.some.injEq] at h1
      subst h1
      obtain ⟨m1, m2⟩ := sett_made hr
      refine (zzsettle_any w R g 0 base mb z' st n h4 (by rw [m2]; exact hl) hs).mono ?_
      rintro e w' h
      rw [sett_ok st z' m1] at h
      exact ⟨h.2.1, h.2.2⟩
end

set_option maxRecDepth 100000 in
set_option maxHeartbeats 8000000 in
theorem law3 (w : World) (ao : Option Addr) (cap : Nat) (L : List Zp) (hl : L.length ≤ maxLen) (hw : ∀ z ∈ L, Wide1 z) (hO : OpsAt (fun b => b < w.heap.size) (fun b => b < w.heap.size) w ao L) :
    Calls Try.prog 3 #[.slice ao L.length cap] w fun e w' => Done4 w e w' := by
  have H6x := hid (sum6_any w ao cap L hl hw _ _ hO)
  have H7 := hid (tooBig_any w ao cap L hl hw _ _ hO)
  have H8 := hid (fun h1 h2 => toOps_any w ao cap L h1 h2 hO)
  have HO := hid hO
  have N0 : Hid (Done4 w (.returned (.bool true)) w) := ⟨rfl, Fr.refl _ _⟩
  clear hw hO hl
  go_enter Try.func3, Try.ntmps3
  go_wp2_with fail
  go_at_call 6
  refine H6x.out.mono ?_
  rintro e w' ⟨b, rfl, hww⟩
  obtain rfl := hww.symm
  cases b with
  | false =>
    go_wp2
    go_ret
    exact N0.out
  | true =>
    go_wp2_with fail
    go_at_call 7
    refine H7.out.mono ?_
    rintro e w' ⟨b, rfl, hww, hsm⟩
    obtain rfl := hww.symm
    cases b with
    | true =>
      go_wp2
      go_ret
      exact N0.out
    | false =>
      obtain ⟨hl, hsm⟩ := hsm rfl
      have HSM := hid hsm
      have H8' := hid (H8.out hl hsm)
      clear hsm H8 H6x H7 N0
      go_wp2_with fail
      go_at_call 8
      refine H8'.out.mono ?_
      rintro e w3 ⟨rfl, hH, f3⟩
      have HF3 := hid f3
      have HH3 := hid (hH.low (Nat.le_refl _))
      have HO3 := hid ((HO.out.fr f3 (fun _ _ h => h) (fun _ _ h => h)).low (Nat.le_refl _))
      clear hH f3 H8' HO
      go_wp2_with fail
      go_at_call 9
      refine (new_any w3).mono ?_
      rintro e w4 ⟨rfl, s4, f4⟩
      have HS4 := hid s4
      have HF4 := hid f4
      clear s4 f4
      generalize hb1 : w3.heap.size = base at *
      have hb4 : base ≤ w4.heap.size := by rw [← hb1]; exact HF4.out.size
      go_wp2
      go_loopw [5] (fun i wr => ∃ k : Nat, k ≤ L.length ∧ i = .int .i64 k ∧ Hid (SS base wr base (both (L.take k)).1 (both (L.take k)).2) ∧ Hid (Fr (fun x => base ≤ x) w4 wr)) (fun i _ => L.length - (intOf i).toNat)
      case atStart => exact ⟨0, Nat.zero_le _, rfl, HS4, Fr.refl _ _⟩
      case round =>
        obtain ⟨k, hk, rfl, HS, HF⟩ := hrel
        by_cases hlt : k < L.length
        · obtain ⟨b, off, hbe, hbb, _, hc⟩ := HH3.out (by omega)
          simp only [Option.some.injEq, Addr.mk.injEq, and_true] at hbe
          obtain ⟨rfl, rfl⟩ := hbe
          have hop := (((hc k hlt).fr HF4.out (fun h => h) (fun _ _ h => h)).fr HF.out (by omega) (fun x hx => by have : x < base := hx; omega))
          have hn : nOf (L.take k) ≤ 4096 := Nat.le_trans (nOf_le _) (by simp; omega)
          have HN := hid (zznote_any wr _ w.heap.size (0 + k * 11) base base L[k] (both (L.take k)).1 (both (L.take k)).2 (by unfold nOf at hn; omega) hop hbb (Nat.le_trans hb4 HF.out.size) (HSM.out _ (List.getElem_mem hlt)).1 HS.out)
          clear hc hop HS hn
          rw [Nat.zero_add] at HN
          go_wp2_with fail
          go_at_call 10
          refine HN.out.mono ?_
          rintro e w5 ⟨rfl, s5, f5⟩
          have N1 : Hid (SS base w5 base (both (L.take (k + 1))).1 (both (L.take (k + 1))).2) := by rw [take_both L k hlt]; exact s5
          have N2 := hid (HF.out.trans f5)
          clear s5 f5
          go_wp2
          go_roundw
          case rel => exact ⟨k + 1, by omega, by go_num, N1, N2⟩
          case measure => simp [intOf]; omega
        · obtain rfl : k = L.length := by omega
          rw [List.take_of_length_le (Nat.le_refl _)] at HS
          have HF1 := hid ((HF3.out.trans HF4.out).shrink HF.out (by rw [← hb1]; exact HF3.out.size))
          have HH1 := hid ((HH3.out.fr HF4.out (fun _ _ h => h) (fun _ _ h => h)).fr HF.out (fun x hx => by have : x < base := hx; omega) (fun x hx => by have : x < base := hx; omega))
          have HO1 := hid ((HO3.out.fr HF4.out (fun _ _ h => h) (fun _ _ h => h)).fr HF.out (fun x hx => by have : x < base := hx; omega) (fun x hx => by have : x < base := hx; omega))
          have hwb : w.heap.size ≤ base := by rw [← hb1]; exact HF3.out.size
          have hb5 : base ≤ wr.heap.size := Nat.le_trans hb4 HF.out.size
          clear HF HF3 HF4 HH3 HO3 HS4
          have HBD : Hid (∀ k v f, gath (both L).1 (L.take k) v = some f → 0 ≤ f.appends ∧ f.appends ≤ 1000000) := fun k v f hf => by
            rw [gath_st _ v (noted L v) (both_all L v)] at hf
            cases hn : noted L v with
            | none => rw [hn] at hf; simp at hf
            | some c =>
              rw [hn] at hf
              simp only [Option.map_some, Option.some.injEq] at hf
              rw [← hf]
              have h1 := apps_le (L.take k) v
              have h2 : (L.take k).length ≤ L.length := by rw [List.length_take]; exact Nat.min_le_right _ _
              simp only [fateOf]
              omega
          generalize wr = w5 at *
          go_wp2
          go_loopw [6] (fun i wr => ∃ k : Nat, k ≤ L.length ∧ i = .int .i64 k ∧ Hid (SS base wr base (gath (both L).1 (L.take k)) (both L).2) ∧ Hid (Fr (fun x => base ≤ x) w5 wr)) (fun i _ => L.length - (intOf i).toNat)
          case atStart => exact ⟨0, Nat.zero_le _, rfl, HS, Fr.refl _ _⟩
          case round =>
            obtain ⟨k, hk, rfl, HS2, HF⟩ := hrel
            by_cases hlt : k < L.length
            · obtain ⟨b, off, hbe, hbb, _, hc⟩ := HH1.out (by omega)
              simp only [Option.some.injEq, Addr.mk.injEq, and_true] at hbe
              obtain ⟨rfl, rfl⟩ := hbe
              have hop := ((hc k hlt).fr HF.out (by omega) (fun x hx => by have : x < base := hx; omega))
              have HN := hid (zzgather_any wr _ w.heap.size (0 + k * 11) base base L[k] _ (both L).2 hop hbb (fun x hx => hx) (Nat.le_trans hb5 HF.out.size) (HSM.out _ (List.getElem_mem hlt)) HS2.out (HBD.out k L[k].val))
              clear hc hop HS2
              rw [Nat.zero_add] at HN
              go_wp2_with fail
              go_at_call 11
              refine HN.out.mono ?_
              rintro e w7 ⟨rfl, s7, f7⟩
              have N1 : Hid (SS base w7 base (gath (both L).1 (L.take (k + 1))) (both L).2) := by
                rw [List.take_succ_eq_append_getElem hlt, gath_snoc]; exact s7
              have N2 := hid (HF.out.trans f7)
              clear s7 f7
              go_wp2
              go_roundw
              case rel => exact ⟨k + 1, by omega, by go_num, N1, N2⟩
              case measure => simp [intOf]; omega
            · obtain rfl : k = L.length := by omega
              rw [List.take_of_length_le (Nat.le_refl _)] at HS2
              have HFz := hid (HF1.out.shrink HF.out hwb)
              have HHz := hid (HH1.out.fr HF.out (fun x hx => by have : x < base := hx; omega) (fun x hx => by have : x < base := hx; omega))
              have HOz := hid (HO1.out.fr HF.out (fun x hx => by have : x < base := hx; omega) (fun x hx => by have : x < base := hx; omega))
              clear HF HF1 HH1 HO1 HS HBD
              generalize wr = wz at *
              have HSM1 : Hid (∀ z ∈ L, z.val.length ≤ 1048576) := fun z hz => (HSM.out z hz).1
              have hbz : base < wz.heap.size := HS2.out.lt
              go_wp2_with (at_make; refine wpList_mk Try.underlying38 info30 _ _ rfl rfl _ _ rfl rfl L.length L.length (by omega) (by omega) (Nat.le_refl _) (by omega) (by decide) ?_)
              intro w8 hg8 hf8 hz8
              have HG0 := hid (GotB.zero (base := base) (hb := w.heap.size) (st := gath (both L).1 L) (L := L) hg8)
              have HF8 := hid (hf8.mono (S' := fun x => wz.heap.size ≤ x) (fun _ _ h => h.elim))
              clear hg8 hf8 hz8
              generalize hgb : wz.heap.size = gb at *
              go_wp2
              go_loopw [8] (fun i wr => ∃ k : Nat, k ≤ L.length ∧ i = .int .i64 k ∧ Hid (GotB base w.heap.size (gath (both L).1 L) L gb wr k) ∧ Hid (Fr (fun x => gb ≤ x) wz wr)) (fun i _ => L.length - (intOf i).toNat)
              case atStart => exact ⟨0, Nat.zero_le _, rfl, HG0, HF8⟩
              case round =>
                obtain ⟨k, hk, rfl, HG, HF⟩ := hrel
                clear HG0 HF8
                by_cases hlt : k < L.length
                · obtain ⟨b, off, hbe, hbb, _, hc⟩ := HHz.out (by omega)
                  simp only [Option.some.injEq, Addr.mk.injEq, and_true] at hbe
                  obtain ⟨rfl, rfl⟩ := hbe
                  have hop := ((hc k hlt).fr HF.out (by omega) (fun x hx => by have : x < base := hx; omega))
                  have hss := HS2.out.keep (w' := wr) (fun x hx _ => HF.out.block x hx (by omega))
                  have HN := hid (zzsettle_any wr _ w.heap.size (0 + k * 11) base base L[k] _ _ hop (HSM.out _ (List.getElem_mem hlt)).1 hss)
                  clear hc hop hss
                  rw [Nat.zero_add] at HN
                  have hwl : gb ≤ wr.heap.size := by rw [← hgb]; exact HF.out.size
                  go_wp2_with fail
                  go_at_call 12
                  refine HN.out.mono ?_
                  rintro e w9 hset
                  obtain ⟨p, rfl, hgv, hout, f9⟩ := sett_got hset (by omega)
                  have hG9 := HG.out.fr f9
                  have hgl := HG.out.lt
                  obtain ⟨x0, r0⟩ := hG9.row.has k hlt
                  have z0 : w9.frozen? ⟨gb, k, none⟩ = false := hG9.row.free _
                  have N1 := hid (hG9.put hlt (p := p) hgv (fun a ha => by have h := hout a ha; omega) (by omega) (by omega))
                  have N2 := hid ((HF.out.trans (f9.mono (S' := fun x => gb ≤ x) (fun _ _ h => h.elim))).set (p := ⟨gb, k, none⟩) (Nat.le_refl gb) (.pointer p))
                  clear hset hgv hout f9 hG9 HG HF HN hgl
                  go_wp2
                  go_roundw
                  case rel => exact ⟨k + 1, by omega, by go_num, N1, N2⟩
                  case measure => simp [intOf]; omega
                · obtain rfl : k = L.length := by omega
                  have HFy := hid (HFz.out.shrink HF.out (by rw [← hgb]; exact HFz.out.size))
                  have HHy := hid (HHz.out.fr HF.out (fun x hx => by have : x < base := hx; omega) (fun x hx => by have : x < base := hx; omega))
                  have HOy := hid (HOz.out.fr HF.out (fun x hx => by have : x < base := hx; omega) (fun x hx => by have : x < base := hx; omega))
                  have HSy := hid (HS2.out.keep (w' := wr) (fun x hx _ => HF.out.block x hx (by omega)))
                  clear HF HHz HOz HFz HS2
                  generalize wr = wy at *
                  go_wp2
                  go_loopw [9] (fun i wr => ∃ k m : Nat, k ≤ L.length ∧ i = .int .i64 k ∧ wr = wy.drewN m) (fun i _ => L.length - (intOf i).toNat)
                  case atStart => exact ⟨0, 0, Nat.zero_le _, rfl, rfl⟩
                  case round =>
                    obtain ⟨k, m, hk, rfl, rfl⟩ := hrel
                    by_cases hlt : k < L.length
                    · obtain ⟨b, off, rfl, _, _, _⟩ := HOy.out (by omega)
                      obtain ⟨b', off', hbe, _, _, hc'⟩ := HHy.out (by omega)
                      simp only [Option.some.injEq, Addr.mk.injEq, and_true] at hbe
                      obtain ⟨rfl, rfl⟩ := hbe
                      obtain ⟨_, _, _, _, q0, _⟩ := (hc' k hlt).cells
                      rw [Nat.zero_add] at q0
                      obtain ⟨p, hp, hgv⟩ := HG.out.get k hlt
                      have C13 : Hid (∀ n, Calls Try.prog 13 #[.slice (some ⟨b, off, none⟩) L.length cap, .int .i64 k, .pointer p, .pointer (some ⟨w.heap.size, k * 11, none⟩)] (wy.drewN n) fun e w' => e = .returned (.bool true) ∧ ∃ m, w' = (wy.drewN n).drewN m) := fun n =>
                        allowed_any (wy.drewN n) _ cap L hl HSM.out _ _ _ (HOy.out.fr ((Fr.refl (fun _ => False) wy).drewN n) (fun _ _ h => h) (fun _ _ h => h)) k hlt (gath (both L).1 L) (gath_st _ _ _ (both_all L _) L) w.heap.size (k * 11) _ q0 (.pointer p) (hgv.drewN n)
                      clear hc' q0 hgv
                      go_wp2
                      go_quiet ((go_at_call 13; refine (C13.out _).mono ?_; rintro e w' ⟨rfl, p, rfl⟩; exact ⟨rfl, _, (World.drewN_drewN _ _ _).trans (congrArg wy.drewN (Nat.add_assoc _ _ _))⟩))
                      go_wp2
                      go_roundw
                      case rel => exact ⟨k + 1, _, by omega, by go_num, rfl⟩
                      case measure => simp [intOf]; omega
                    · obtain rfl : k = L.length := by omega
                      go_wp2
                      go_loopw [10] (fun i wr => ∃ k m : Nat, k ≤ L.length ∧ i = .int .i64 k ∧ wr = wy.drewN m) (fun i _ => L.length - (intOf i).toNat)
                      case atStart => exact ⟨0, m, Nat.zero_le _, rfl, rfl⟩
                      case round =>
                        obtain ⟨k, m1, hk, rfl, rfl⟩ := hrel
                        by_cases hlt : k < L.length
                        · obtain ⟨b', off', hbe, _, _, hc'⟩ := HHy.out (by omega)
                          simp only [Option.some.injEq, Addr.mk.injEq, and_true] at hbe
                          obtain ⟨rfl, rfl⟩ := hbe
                          have hop := hc' k hlt
                          rw [Nat.zero_add] at hop
                          obtain ⟨p, hp, hgv⟩ := HG.out.get k hlt
                          have C12 : Hid (∀ a, p = some a → ∀ n, Calls Try.prog 12 #[.map (some base), .pointer (some a)] (wy.drewN n) fun e w' => e = .returned (.pointer (some a)) ∧ w' = wy.drewN n) := fun a ha n => by
                            subst ha
                            exact settle_again (HSy.out.keep (w' := wy.drewN n) (fun _ _ _ => rfl)) (HSM.out _ (List.getElem_mem hlt)).1 (hop.fr ((Fr.refl (fun _ => False) wy).drewN n) (fun h => h) (fun _ _ h => h)) (hgv.drewN n)
                          clear hop hc' hgv
                          cases p with
                          | none =>
                            clear C12
                            go_wp2
                            go_quiet (fail)
                            go_wp2
                            go_roundw
                            case rel => exact ⟨k + 1, _, by omega, by go_num, rfl⟩
                            case measure => simp [intOf]; omega
                          | some a =>
                            have C12' := hid (C12.out a rfl)
                            have q30 := ne30_same
                            clear C12
                            go_wp2
                            go_quiet ((go_at_call 12; refine (C12'.out _).mono ?_; rintro e w' ⟨rfl, rfl⟩; exact ⟨rfl, _, rfl⟩))
                            go_wp2
                            go_roundw
                            case rel => exact ⟨k + 1, _, by omega, by go_num, rfl⟩
                            case measure => simp [intOf]; omega
                        · obtain rfl : k = L.length := by omega
                          have HX := hid (HOy.out.fr ((Fr.refl (fun _ => False) wy).drewN m1) (fun _ _ h => h) (fun _ _ h => h))
                          have HY := hid (HHy.out.fr ((Fr.refl (fun _ => False) wy).drewN m1) (fun _ _ h => h) (fun _ _ h => h))
                          go_wp2_with fail
                          go_at_call 14
                          refine (untouched_any (wy.drewN m1) _ L.length ao cap L hl HSM.out _ _ _ _ HY.out HX.out).mono ?_
                          rintro e w' ⟨rfl, m2, rfl⟩
                          go_wp2
                          go_ret
                          exact ⟨rfl, HFy.out.drewN _⟩
end Go.Proofs.Qxb6618167a.Hist
