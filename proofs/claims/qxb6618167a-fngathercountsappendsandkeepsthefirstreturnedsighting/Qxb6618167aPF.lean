import Derived.Test.Qxb6618167aPA
import Derived.Test.Qxb6618167aPE
namespace Go.Proofs.Qxb6618167a.Hist
open Go.RowKit Go.PlainAid
attribute [local go_sem ↓] Go.wp_at_zero Go.wp_at_succ

set_option maxRecDepth 100000 in
set_option maxHeartbeats 8000000 in
theorem law5 (w : World) (ao : Option Addr) (cap : Nat) (L : List Zp) (hl : L.length ≤ maxLen) (hw : ∀ z ∈ L, Wide1 z) (hO : OpsAt (fun b => b < w.heap.size) (fun b => b < w.heap.size) w ao L) :
    Calls Try.prog 5 #[.slice ao L.length cap] w fun e w' => Done4 w e w' := by
  have H19 := hid (sum19_any w ao cap L hl hw _ _ hO)
  have H7 := hid (tooBig_any w ao cap L hl hw _ _ hO)
  have H8 := hid (fun h1 h2 => toOps_any w ao cap L h1 h2 hO)
  have HO := hid hO
  have N0 : Hid (Done4 w (.returned (.bool true)) w) := ⟨rfl, Fr.refl _ _⟩
  clear hw hO hl
  go_enter Try.func5, Try.ntmps5
  go_wp2_with fail
  go_at_call 19
  refine H19.out.mono ?_
  rintro e w' ⟨b, rfl, hww⟩
  obtain rfl := hww.symm
  cases b with
  | false =>
    go_wp2
    go_ret
    exact N0.out
  | true =>
    go_wp2_with fail
    go_at_call 7
    refine H7.out.mono ?_
    rintro e w' ⟨b, rfl, hww, hsm⟩
    obtain rfl := hww.symm
    cases b with
    | true =>
      go_wp2
      go_ret
      exact N0.out
    | false =>
      obtain ⟨hl, hsm⟩ := hsm rfl
      have HSM := hid hsm
      have H8' := hid (H8.out hl hsm)
      clear hsm H8 H19 H7 N0
      go_wp2_with fail
      go_at_call 8
      refine H8'.out.mono ?_
      rintro e w3 ⟨rfl, hH, f3⟩
      have HF3 := hid f3
      have HH3 := hid (hH.low (Nat.le_refl _))
      have HO3 := hid ((HO.out.fr f3 (fun _ _ h => h) (fun _ _ h => h)).low (Nat.le_refl _))
      clear hH f3 H8' HO
      go_wp2_with fail
      go_at_call 9
      refine (new_any w3).mono ?_
      rintro e w4 ⟨rfl, s4, f4⟩
      have HS4 := hid s4
      have HF4 := hid f4
      clear s4 f4
      generalize hb1 : w3.heap.size = base at *
      have hb4 : base ≤ w4.heap.size := by rw [← hb1]; exact HF4.out.size
      go_wp2
      go_loopw [5] (fun i wr => ∃ k : Nat, k ≤ L.length ∧ i = .int .i64 k ∧ Hid (SS base wr base (both (L.take k)).1 (both (L.take k)).2) ∧ Hid (Fr (fun x => base ≤ x) w4 wr)) (fun i _ => L.length - (intOf i).toNat)
      case atStart => exact ⟨0, Nat.zero_le _, rfl, HS4, Fr.refl _ _⟩
      case round =>
        obtain ⟨k, hk, rfl, HS, HF⟩ := hrel
        by_cases hlt : k < L.length
        · obtain ⟨b, off, hbe, hbb, _, hc⟩ := HH3.out (by omega)
          simp only [Option.some.injEq, Addr.mk.injEq, and_true] at hbe
          obtain ⟨rfl, rfl⟩ := hbe
          have hop := (((hc k hlt).fr HF4.out (fun h => h) (fun _ _ h => h)).fr HF.out (by omega) (fun x hx => by have : x < base := hx; omega))
          have hn : nOf (L.take k) ≤ 4096 := Nat.le_trans (nOf_le _) (by simp; omega)
          have HN := hid (zznote_any wr _ w.heap.size (0 + k * 11) base base L[k] (both (L.take k)).1 (both (L.take k)).2 (by unfold nOf at hn; omega) hop hbb (Nat.le_trans hb4 HF.out.size) (HSM.out _ (List.getElem_mem hlt)).1 HS.out)
          clear hc hop HS hn
          rw [Nat.zero_add] at HN
          go_wp2_with fail
          go_at_call 10
          refine HN.out.mono ?_
          rintro e w5 ⟨rfl, s5, f5⟩
          have N1 : Hid (SS base w5 base (both (L.take (k + 1))).1 (both (L.take (k + 1))).2) := by rw [take_both L k hlt]; exact s5
          have N2 := hid (HF.out.trans f5)
          clear s5 f5
          go_wp2
          go_roundw
          case rel => exact ⟨k + 1, by omega, by go_num, N1, N2⟩
          case measure => simp [intOf]; omega
        · obtain rfl : k = L.length := by omega
          rw [List.take_of_length_le (Nat.le_refl _)] at HS
          have HF1 := hid ((HF3.out.trans HF4.out).shrink HF.out (by rw [← hb1]; exact HF3.out.size))
          have HH1 := hid ((HH3.out.fr HF4.out (fun _ _ h => h) (fun _ _ h => h)).fr HF.out (fun x hx => by have : x < base := hx; omega) (fun x hx => by have : x < base := hx; omega))
          have HO1 := hid ((HO3.out.fr HF4.out (fun _ _ h => h) (fun _ _ h => h)).fr HF.out (fun x hx => by have : x < base := hx; omega) (fun x hx => by have : x < base := hx; omega))
          have hwb : w.heap.size ≤ base := by rw [← hb1]; exact HF3.out.size
          have hb5 : base ≤ wr.heap.size := Nat.le_trans hb4 HF.out.size
          clear HF HF3 HF4 HH3 HO3 HS4
          have HBD : Hid (∀ k v f, gath (both L).1 (L.take k) v = some f → 0 ≤ f.appends ∧ f.appends ≤ 1000000) := fun k v f hf => by
            rw [gath_st _ v (noted L v) (both_all L v)] at hf
            cases hn : noted L v with
            | none => rw [hn] at hf; simp at hf
            | some c =>
              rw [hn] at hf
              simp only [Option.map_some, Option.some.injEq] at hf
              rw [← hf]
              have h1 := apps_le (L.take k) v
              have h2 : (L.take k).length ≤ L.length := by rw [List.length_take]; exact Nat.min_le_right _ _
              simp only [fateOf]
              omega
          generalize wr = w5 at *
          go_wp2
          go_loopw [6] (fun i wr => ∃ k : Nat, k ≤ L.length ∧ i = .int .i64 k ∧ Hid (SS base wr base (gath (both L).1 (L.take k)) (both L).2) ∧ Hid (Fr (fun x => base ≤ x) w5 wr)) (fun i _ => L.length - (intOf i).toNat)
          case atStart => exact ⟨0, Nat.zero_le _, rfl, HS, Fr.refl _ _⟩
          case round =>
            obtain ⟨k, hk, rfl, HS2, HF⟩ := hrel
            by_cases hlt : k < L.length
            · obtain ⟨b, off, hbe, hbb, _, hc⟩ := HH1.out (by omega)
              simp only [Option.some.injEq, Addr.mk.injEq, and_true] at hbe
              obtain ⟨rfl, rfl⟩ := hbe
              have hop := ((hc k hlt).fr HF.out (by omega) (fun x hx => by have : x < base := hx; omega))
              have HN := hid (zzgather_any wr _ w.heap.size (0 + k * 11) base base L[k] _ (both L).2 hop hbb (fun x hx => hx) (Nat.le_trans hb5 HF.out.size) (HSM.out _ (List.getElem_mem hlt)) HS2.out (HBD.out k L[k].val))
              clear hc hop HS2
              rw [Nat.zero_add] at HN
              go_wp2_with fail
              go_at_call 11
              refine HN.out.mono ?_
              rintro e w7 ⟨rfl, s7, f7⟩
              have N1 : Hid (SS base w7 base (gath (both L).1 (L.take (k + 1))) (both L).2) := by
                rw [List.take_succ_eq_append_getElem hlt, gath_snoc]; exact s7
              have N2 := hid (HF.out.trans f7)
              clear s7 f7
              go_wp2
              go_roundw
              case rel => exact ⟨k + 1, by omega, by go_num, N1, N2⟩
              case measure => simp [intOf]; omega
            · obtain rfl : k = L.length := by omega
              rw [List.take_of_length_le (Nat.le_refl _)] at HS2
              have HFz := hid (HF1.out.shrink HF.out hwb)
              have HHz := hid (HH1.out.fr HF.out (fun x hx => by have : x < base := hx; omega) (fun x hx => by have : x < base := hx; omega))
              have HOz := hid (HO1.out.fr HF.out (fun x hx => by have : x < base := hx; omega) (fun x hx => by have : x < base := hx; omega))
              clear HF HF1 HH1 HO1 HS HBD
              generalize wr = wz at *
              have HSM1 : Hid (∀ z ∈ L, z.val.length ≤ 1048576) := fun z hz => (HSM.out z hz).1
              have hnl : nOf L ≤ 4096 := Nat.le_trans (nOf_le _) hl
              have l1 : ∀ ty, (Builtin.len_ #[27] ty #[.map (some base)]).run Try.prog wz = .ok (.int .i64 (nOf L)) wz := fun ty => HS2.out.len ty
              go_wp2_with fail
              go_at_call 16
              refine (distinct_any wz ao cap L hl HSM1.out _ _ HOz.out).mono ?_
              rintro e w' ⟨rfl, m0, rfl⟩
              clear l1
              generalize nOf L = nl at hnl
              go_wp2
              go_loopw [7] (fun i wr => ∃ k m : Nat, k ≤ L.length ∧ i = .int .i64 k ∧ wr = wz.drewN m) (fun i _ => L.length - (intOf i).toNat)
              case atStart => exact ⟨0, _, Nat.zero_le _, rfl, rfl⟩
              case round =>
                obtain ⟨k, m, hk, rfl, rfl⟩ := hrel
                by_cases hlt : k < L.length
                · obtain ⟨b, off, rfl, _, _, hc⟩ := HOz.out (by omega)
                  obtain ⟨va, vc, ea, ec, d0, d1, d2, d3, d4, d5, d6, d7, d8, d9, d10, hB, _⟩ := (hc k hlt).cells
                  have hcv : ∀ n, (convert 33 9 (.slice va L[k].val.length vc)).run Try.prog (wz.drewN n) = .ok (.string ⟨L[k].val.toArray⟩) (wz.drewN n) := fun n => conv_byt (hB.fr ((Fr.refl (fun _ => False) wz).drewN n) (fun _ _ h => h))
                  have HB : Hid (∀ n, Byt (fun x => x < base) (wz.drewN n) (.slice va L[k].val.length vc) L[k].val) := fun n => hB.fr ((Fr.refl (fun _ => False) wz).drewN n) (fun _ _ h => h)
                  have HX : Hid (∀ n, OpsAt (fun x => x < base) (fun x => x < base) (wz.drewN n) (some ⟨b, off, none⟩) L) := fun n => HOz.out.fr ((Fr.refl (fun _ => False) wz).drewN n) (fun _ _ h => h) (fun _ _ h => h)
                  have C17 : Hid (∀ n, Calls Try.prog 17 #[.slice (some ⟨b, off, none⟩) L.length cap, .slice va L[k].val.length vc] (wz.drewN n) fun e w' => e = .returned (.tuple #[fnd (noted L L[k].val), lst (noted L L[k].val)]) ∧ ∃ m, w' = (wz.drewN n).drewN m) := fun n =>
                    noted_any (wz.drewN n) _ cap L hl HSM1.out _ _ _ (HX.out n) _ L[k].val (HB.out n)
                  have C20 : Hid (∀ n, Calls Try.prog 20 #[.map (some base), .string ⟨L[k].val.toArray⟩] (wz.drewN n) fun e w' => e = .returned (.tuple (fateT ((noted L L[k].val).map (fun c => fateOf c (appsOf L L[k].val) (sight L L[k].val))))) ∧ ∃ m, w' = (wz.drewN n).drewN m) := fun n => by
                    rw [← gath_st _ L[k].val (noted L L[k].val) (both_all L _) L]
                    exact fate_any (wz.drewN n) base base _ _ (HS2.out.keep (fun _ _ _ => rfl)) L[k].val (HSM1.out _ (List.getElem_mem hlt))
                  have C21 : Hid (∀ n, Calls Try.prog 21 #[.slice (some ⟨b, off, none⟩) L.length cap, .slice va L[k].val.length vc] (wz.drewN n) fun e w' => e = .returned (.tuple #[sgF (sight L L[k].val), sgI (sight L L[k].val), sgR (sight L L[k].val)]) ∧ ∃ m, w' = (wz.drewN n).drewN m) := fun n =>
                    firstSight_any (wz.drewN n) _ cap L hl HSM.out _ _ _ (HX.out n) _ L[k].val (HB.out n)
                  have C22 : Hid (∀ n, Calls Try.prog 22 #[.slice (some ⟨b, off, none⟩) L.length cap, .slice va L[k].val.length vc] (wz.drewN n) fun e w' => e = .returned (.int .i64 (appsOf L L[k].val)) ∧ ∃ m, w' = (wz.drewN n).drewN m) := fun n =>
                    apps_any (wz.drewN n) _ cap L hl HSM1.out _ _ _ (HX.out n) _ L[k].val (HB.out n)
                  have hap : appsOf L L[k].val ≤ 4096 := Nat.le_trans (apps_le _ _) hl
                  clear hc hB HB HX d0 d1 d2 d3 d4 d6 d7 d8 d9 d10
                  generalize L[k].val.length = ql at d5 C17 C21 C22 hcv
                  generalize noted L L[k].val = nt at C17 C20
                  generalize sight L L[k].val = sn at C20 C21
                  generalize appsOf L L[k].val = na at C20 C22 hap
                  generalize (⟨L[k].val.toArray⟩ : ByteArray) = vs at C20 hcv
                  simp only [sgF, sgR, sgI] at C21
                  go_wp2_with fail
                  go_at_call 17
                  refine (C17.out _).mono ?_
                  rintro e w' ⟨rfl, m1, rfl⟩
                  cases nt with
                  | none =>
                    simp only [fnd, lst, Option.isSome, Option.getD, Option.map, fateT] at *
                    go_wp2_with fail
                    go_at_call 20
                    refine (C20.out _).mono ?_
                    rintro e w' ⟨rfl, m2, rfl⟩
                    go_wp2
                    go_roundw
                    case rel => exact ⟨k + 1, _, by omega, by go_num, rfl⟩
                    case measure => simp [intOf]; omega
                  | some c =>
                    simp only [fnd, lst, Option.isSome_some, Option.getD_some, Option.map_some, fateT, fateOf] at *
                    generalize sn.isSome = sb at C20 C21
                    generalize (sn.map (·.2)).getD 0 = si at C20 C21
                    generalize (sn.map (·.1)).getD 0 = sr at C20 C21
                    go_wp2_with fail
                    go_at_call 20
                    refine (C20.out _).mono ?_
                    rintro e w' ⟨rfl, m2, rfl⟩
                    go_wp2_with fail
                    go_at_call 21
                    refine (C21.out _).mono ?_
                    rintro e w' ⟨rfl, m3, rfl⟩
                    go_wp2_with fail
                    go_at_call 22
                    refine (C22.out _).mono ?_
                    rintro e w' ⟨rfl, m4, rfl⟩
                    go_wp2
                    go_roundw
                    case rel => exact ⟨k + 1, _, by omega, by go_num, rfl⟩
                    case measure => simp [intOf]; omega
                · obtain rfl : k = L.length := by omega
                  have HX := hid (HOz.out.fr ((Fr.refl (fun _ => False) wz).drewN m) (fun _ _ h => h) (fun _ _ h => h))
                  have HY := hid (HHz.out.fr ((Fr.refl (fun _ => False) wz).drewN m) (fun _ _ h => h) (fun _ _ h => h))
                  go_wp2_with fail
                  go_at_call 14
                  refine (untouched_any (wz.drewN m) _ L.length ao cap L hl HSM.out _ _ _ _ HY.out HX.out).mono ?_
                  rintro e w' ⟨rfl, m2, rfl⟩
                  go_wp2
                  go_ret
                  exact ⟨rfl, HFz.out.drewN _⟩
end Go.Proofs.Qxb6618167a.Hist
