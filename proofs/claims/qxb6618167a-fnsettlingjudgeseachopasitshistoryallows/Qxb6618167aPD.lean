import Derived.Test.Qxb6618167aPC
namespace Go.Proofs.Qxb6618167a.Hist
open Go.RowKit Go.PlainAid
attribute [local go_sem ↓] Go.wp_at_zero Go.wp_at_succ

theorem sight_step (L : List Zp) (v : List UInt8) (k : Nat) (h : k < L.length) : sight (L.take (k + 1)) v = sg L[k].ret (first L[k] v) (sight (L.take k) v) := by
  rw [List.take_succ_eq_append_getElem h, sight_snoc]
def sgF (a : Option (Int × Int)) : Value := .bool a.isSome
def sgR (a : Option (Int × Int)) : Value := .int .i64 ((a.map (·.1)).getD 0)
def sgI (a : Option (Int × Int)) : Value := .int .u64 ((a.map (·.2)).getD 0)
set_option maxRecDepth 100000 in
set_option maxHeartbeats 4000000 in
theorem firstSight_any (w : World) (ao : Option Addr) (cap : Nat) (L : List Zp) (hl : L.length ≤ 4096) (hsm : ∀ z ∈ L, Small1 z) (Q R S : Nat → Prop) (hO : OpsAt Q R w ao L) (vv : Value) (v : List UInt8) (hv : Byt S w vv v) :
    Calls Try.prog 21 #[.slice ao L.length cap, vv] w fun e w' => e = .returned (.tuple #[sgF (sight L v), sgI (sight L v), sgR (sight L v)]) ∧ ∃ m, w' = w.drewN m := by
  have HSM := hid hsm
  have HO := hid hO
  have HV := hid hv
  clear hsm hO hv
  go_enter Try.func21, Try.ntmps21
  go_wp2
  go_loopw [7, 8, 9] (fun f l i wr => ∃ k m : Nat, k ≤ L.length ∧ i = .int .i64 k ∧ f = sgF (sight (L.take k) v) ∧ l = sgR (sight (L.take k) v) ∧ wr = w.drewN m) (fun _ _ i _ => L.length - (intOf i).toNat)
  case atStart => exact ⟨0, 0, Nat.zero_le _, rfl, rfl, rfl, rfl⟩
  case round =>
    obtain ⟨k, m, hk, rfl, rfl, rfl, rfl⟩ := hrel
    by_cases hlt : k < L.length
    · obtain ⟨b, off, rfl, _, hb, hc⟩ := HO.out (by omega)
      have HH : Hid (∀ n, Calls Try.prog 31 #[.pointer (some ⟨b, off + k * 11, none⟩), vv] (w.drewN n) fun e w' => e = .returned (.bool (first L[k] v).isSome) ∧ ∃ m, w' = (w.drewN n).drewN m) := fun n =>
        holds_any (w.drewN n) R S b (off + k * 11) L[k] (HSM.out _ (List.getElem_mem hlt)) ((hc k hlt).fr ((Fr.refl (fun _ => False) w).drewN n) (fun h => h) (fun _ _ h => h)) vv v (HV.out.fr ((Fr.refl (fun _ => False) w).drewN n) (fun _ _ h => h))
      obtain ⟨va, vc, ea, ec, _, _, _, c3, _, _, _, _, _, _, _, _, _⟩ := (hc k hlt).cells
      have HN := hid (sight_step L v k hlt)
      clear hc
      generalize first L[k] v = fz at HH HN
      generalize L[k].ret = zr at c3 HN
      generalize sight (L.take k) v = acc at HN ⊢
      go_wp2_with fail
      go_at_call 31
      refine (HH.out _).mono ?_
      rintro e w' ⟨rfl, m2, rfl⟩
      cases fz with
      | none =>
        have N := hid (HN.out.trans (show sg zr none acc = acc from rfl))
        go_wp2
        go_roundw
        case rel => exact ⟨k + 1, _, by omega, by go_num, by rw [N.out], by rw [N.out], rfl⟩
        case measure => simp [intOf]; omega
      | some ix =>
        cases acc with
        | none =>
          have N := hid (HN.out.trans (show sg zr (some ix) none = some (zr, ix) from rfl))
          simp only [sgF, sgR, Option.isSome, Option.getD, Option.map] at *
          go_wp2
          go_roundw
          case rel => exact ⟨k + 1, _, by omega, by go_num, by simp [N.out, sgF], by simp [N.out, sgR], rfl⟩
          case measure => simp [intOf]; omega
        | some p =>
          obtain ⟨q, j⟩ := p
          by_cases hq : zr < q
          · have N := hid (HN.out.trans (show sg zr (some ix) (some (q, j)) = some (zr, ix) from by simp [sg, hq]))
            simp only [sgF, sgR, Option.isSome, Option.getD, Option.map] at *
            go_wp2
            go_roundw
            case rel => exact ⟨k + 1, _, by omega, by go_num, by simp [N.out, sgF], by simp [N.out, sgR], rfl⟩
            case measure => simp [intOf]; omega
          · have N := hid (HN.out.trans (show sg zr (some ix) (some (q, j)) = some (q, j) from by simp [sg, hq]))
            simp only [sgF, sgR, Option.isSome, Option.getD, Option.map] at *
            go_wp2
            go_roundw
            case rel => exact ⟨k + 1, _, by omega, by go_num, by simp [N.out, sgF], by simp [N.out, sgR], rfl⟩
            case measure => simp [intOf]; omega
    · obtain rfl : k = L.length := by omega
      rw [List.take_of_length_le (Nat.le_refl _)]
      cases hs : sight L v with
      | none =>
        have HS0 := hid hs
        clear hs
        simp only [sgF, sgR, Option.isSome, Option.getD, Option.map]
        go_wp2
        go_ret3
        exact ⟨by rw [HS0.out]; rfl, _, rfl⟩
      | some p =>
        obtain ⟨r, i⟩ := p
        have HSF := hid (fun k hk => sight_first hs k hk)
        have HSG := hid (fun hb => sight_found hs hb)
        have HS0 := hid hs
        clear hs
        simp only [sgF, sgR, Option.isSome, Option.getD, Option.map]
        go_wp2
        go_loopw [10] (fun i wr => ∃ k m : Nat, k ≤ L.length ∧ i = .int .i64 k ∧ Hid (∀ y ∈ L.take k, first y v = none ∨ y.ret ≠ r) ∧ wr = w.drewN m) (fun i _ => L.length - (intOf i).toNat)
        case atStart => exact ⟨0, _, Nat.zero_le _, rfl, (fun y hy => by simp at hy), rfl⟩
        case round =>
          obtain ⟨k, m1, hk1, rfl, HK, rfl⟩ := hrel
          by_cases hlt : k < L.length
          · obtain ⟨b, off, rfl, _, hb, hc⟩ := HO.out (by omega)
            have HH : Hid (∀ n, Calls Try.prog 31 #[.pointer (some ⟨b, off + k * 11, none⟩), vv] (w.drewN n) fun e w' => e = .returned (.bool (first L[k] v).isSome) ∧ ∃ m, w' = (w.drewN n).drewN m) := fun n =>
              holds_any (w.drewN n) R S b (off + k * 11) L[k] (HSM.out _ (List.getElem_mem hlt)) ((hc k hlt).fr ((Fr.refl (fun _ => False) w).drewN n) (fun h => h) (fun _ _ h => h)) vv v (HV.out.fr ((Fr.refl (fun _ => False) w).drewN n) (fun _ _ h => h))
            obtain ⟨va, vc, ea, ec, _, _, _, c3, _, _, _, _, _, _, c10, _, hE⟩ := (hc k hlt).cells
            have HE := hid hE
            have H3 := hid (HSM.out _ (List.getElem_mem hlt)).2.2
            have h2 := (HSM.out _ (List.getElem_mem hlt)).2.1
            have HKN : Hid ((first L[k] v = none ∨ L[k].ret ≠ r) → ∀ y ∈ L.take (k + 1), first y v = none ∨ y.ret ≠ r) := fun h y hy => by
              rw [List.take_succ_eq_append_getElem hlt] at hy
              rcases List.mem_append.1 hy with h' | h'
              · exact HK.out y h'
              · simp at h'; rw [h']; exact h
            have HF := hid (HSF.out k hlt HK.out)
            clear hc hE HK
            generalize L[k] = z at c3 c10 HH HE H3 h2 HKN HF
            cases hr : decide (z.ret = r) with
            | false =>
              have hr' : (z.ret != r) = true := by simpa using hr
              have N := hid (HKN.out (Or.inr (of_decide_eq_false hr)))
              clear HE H3 HF HKN HH
              go_wp2
              go_roundw
              case rel => exact ⟨k + 1, _, by omega, by go_num, N, rfl⟩
              case measure => simp [intOf]; omega
            | true =>
              have hr' : z.ret = r := of_decide_eq_true hr
              go_wp2_with fail
              go_at_call 31
              refine (HH.out _).mono ?_
              rintro e w' ⟨rfl, m2, rfl⟩
              cases hf : (first z v).isSome with
              | false =>
                have N := hid (HKN.out (Or.inl (by cases hx : first z v <;> simp [hx] at hf ⊢)))
                clear HE H3 HF HKN HH
                go_wp2
                go_roundw
                case rel => exact ⟨k + 1, _, by omega, by go_num, N, rfl⟩
                case measure => simp [intOf]; omega
              | true =>
                have HFE : Hid (fe z.ents v = some i) := by
                  have h := HF.out hf hr'
                  unfold first at h
                  split at h
                  · exact h
                  · simp at h
                clear HF HKN HH hf
                go_wp2
                go_loopw [11] (fun i wr => ∃ k m : Nat, k ≤ z.ents.length ∧ i = .int .i64 k ∧ Hid (fe (z.ents.take k) v = none) ∧ wr = w.drewN m) (fun i _ => z.ents.length - (intOf i).toNat)
                case atStart => exact ⟨0, _, Nat.zero_le _, rfl, rfl, rfl⟩
                case round =>
                  obtain ⟨j, m3, hj, rfl, HJ, rfl⟩ := hrel
                  by_cases hjl : j < z.ents.length
                  · obtain ⟨b1, off1, rfl, _, _, g⟩ := HE.out.at (by omega)
                    obtain ⟨e1, va1, vc1, e2, hb1⟩ := g j hjl
                    have HS : Hid (∀ n, Calls Try.prog 30 #[.slice va1 z.ents[j].val.length vc1, vv] (w.drewN n) fun e w' => e = .returned (.bool (decide (z.ents[j].val = v))) ∧ ∃ p, w' = (w.drewN n).drewN p) := fun n =>
                      same_any (w.drewN n) _ _ z.ents[j].val v (H3.out _ (List.getElem_mem hjl)) R S (hb1.fr ((Fr.refl (fun _ => False) w).drewN n) (fun _ _ h => h)) (HV.out.fr ((Fr.refl (fun _ => False) w).drewN n) (fun _ _ h => h))
                    have HN := hid (fe_no z.ents v j hjl)
                    have HHI := hid (fe_hit z.ents v j hjl)
                    clear hb1 g
                    generalize z.ents[j].val.length = ql at e2 HS
                    go_wp2_with fail
                    go_at_call 30
                    refine (HS.out _).mono ?_
                    rintro e w' ⟨rfl, m4, rfl⟩
                    cases hd : decide (z.ents[j].val = v) with
                    | false =>
                      have N1 := hid (HN.out hd HJ.out)
                      clear HN HHI HS
                      go_wp2
                      go_roundw
                      case rel => exact ⟨j + 1, _, by omega, by go_num, N1, rfl⟩
                      case measure => simp [intOf]; omega
                    | true =>
                      have hix : z.ents[j].idx = i := by
                        have h := HHI.out hd HJ.out
                        rw [HFE.out] at h
                        simpa using h.symm
                      rw [hix] at e1
                      clear HN HHI HS hix
                      go_wp2
                      go_quiet (fail)
                      go_wp2
                      go_ret3
                      exact ⟨by rw [HS0.out]; rfl, _, by rw [World.drewN_drewN]⟩
                  · exfalso
                    have h := HJ.out
                    rw [List.take_of_length_le (by omega), HFE.out] at h
                    simp at h
          · exfalso
            refine HSG.out ?_
            have h := HK.out
            rwa [List.take_of_length_le (by omega)] at h
end Go.Proofs.Qxb6618167a.Hist
