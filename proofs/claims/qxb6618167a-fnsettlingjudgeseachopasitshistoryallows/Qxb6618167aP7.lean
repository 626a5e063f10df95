import Derived.Test.Qxb6618167aP6
namespace Go.Proofs.Qxb6618167a.Hist
open Go.RowKit Go.PlainAid
attribute [local go_sem ↓] Go.wp_at_zero Go.wp_at_succ

def fresh (c : Int) : Fate := ⟨c, 0, false, 0, 0⟩
def stOf (M : List Zp) : St := M.foldl (fun st z => noteF z st) (fun _ => none)
def both (M : List Zp) : St × Nat := M.foldl (fun p z => (noteF z p.1, noteN z p.1 p.2)) (fun _ => none, 0)
def nOf (M : List Zp) : Nat := (both M).2
theorem both_snoc (M : List Zp) (z : Zp) : both (M ++ [z]) = (noteF z (both M).1, noteN z (both M).1 (both M).2) := by simp [both, List.foldl_append]
theorem noted_snoc (M : List Zp) (z : Zp) (v : List UInt8) : noted (M ++ [z]) v = ntd v (noted M v) z := by simp [noted, List.foldl_append]
/-- the fates kept are the values noted -/
theorem noted_ind (P : List Zp → Prop) (h0 : P []) (h1 : ∀ M z, P M → P (M ++ [z])) : ∀ M, P M := by
  intro M
  have : ∀ N : List Zp, P N.reverse := fun N => by
    induction N with
    | nil => exact h0
    | cons z N ih => rw [List.reverse_cons]; exact h1 _ _ ih
  have h := this M.reverse
  rwa [List.reverse_reverse] at h
theorem both_st : ∀ M v, (both M).1 v = (noted M v).map fresh := by
  refine noted_ind _ (fun v => rfl) fun M z ih v => ?_
  rw [both_snoc, noted_snoc]
  simp only
  cases hu : una z with
  | false => rw [noteF_skip hu, ntd_no (by simp [hu])]; exact ih v
  | true =>
    by_cases hv : z.val = v
    · subst hv
      have hb : (una z && decide (z.val = z.val)) = true := by simp [hu]
      have ihz := ih z.val
      cases hn : noted M z.val with
      | none =>
        rw [hn] at ihz
        rw [noteF_none hu ihz, upd_same, ntd_new hb]
        rfl
      | some c =>
        rw [hn] at ihz
        rw [noteF_some hu ihz, upd_same]
        by_cases hc : z.call < c
        · rw [ntd_lt hb hc]; simp [fresh, hc]
        · rw [ntd_ge hb hc]; simp [fresh, hc]
    · rw [ntd_no (by simp [hv])]
      have hne : v ≠ z.val := fun e => hv e.symm
      cases hn : (both M).1 z.val with
      | none => rw [noteF_none hu hn, upd_other _ _ hne]; exact ih v
      | some f => rw [noteF_some hu hn, upd_other _ _ hne]; exact ih v
theorem nOf_snoc (M : List Zp) (z : Zp) : nOf (M ++ [z]) = if una z && (noted M z.val).isNone then nOf M + 1 else nOf M := by
  unfold nOf
  rw [both_snoc]
  simp only [noteN, both_st]
  cases noted M z.val <;> rfl
theorem nOf_le : ∀ M, nOf M ≤ M.length := by
  refine noted_ind _ (Nat.le_refl _) fun M z ih => ?_
  rw [nOf_snoc]; split <;> simp <;> omega
theorem nOf_step (L : List Zp) (k : Nat) (h : k < L.length) : nOf (L.take (k + 1)) = if una L[k] && (noted (L.take k) L[k].val).isNone then nOf (L.take k) + 1 else nOf (L.take k) := by
  rw [List.take_succ_eq_append_getElem h, nOf_snoc]
theorem noted_some : ∀ M v, (noted M v).isSome = M.any (fun z => una z && decide (z.val = v)) := by
  refine noted_ind _ (fun v => rfl) fun M z ih v => ?_
  rw [noted_snoc, List.any_append, ← ih]
  cases hb : (una z && decide (z.val = v)) with
  | false => rw [ntd_no hb]; simp [hb]
  | true => simp only [ntd, hb]; simp [hb]

theorem noted_hit (L : List Zp) (v : List UInt8) (j k : Nat) (hj : j < L.length) (hjk : j < k) (h : (una L[j] && decide (L[j].val = v)) = true) : (noted (L.take k) v).isNone = false := by
  have hs : (noted (L.take k) v).isSome = true := by
    rw [noted_some, List.any_eq_true]
    exact ⟨L[j], by rw [List.mem_take_iff_getElem]; exact ⟨j, by omega, rfl⟩, h⟩
  cases hn : noted (L.take k) v <;> simp [hn] at hs ⊢

set_option maxHeartbeats 2000000 in
theorem distinct_any (w : World) (ao : Option Addr) (cap : Nat) (L : List Zp) (hl : L.length ≤ 4096) (hsm : ∀ z ∈ L, z.val.length ≤ 1048576) (Q R : Nat → Prop) (hO : OpsAt Q R w ao L) :
    Calls Try.prog 16 #[.slice ao L.length cap] w fun e w' => e = .returned (.int .i64 (nOf L)) ∧ ∃ m, w' = w.drewN m := by
  have HSM := hid hsm
  have HO := hid hO
  clear hsm hO
  go_enter Try.func16, Try.ntmps16
  go_wp2
  go_loopw [3, 4] (fun n i wr => ∃ k m : Nat, k ≤ L.length ∧ i = .int .i64 k ∧ n = .int .i64 (nOf (L.take k)) ∧ wr = w.drewN m) (fun _ i _ => L.length - (intOf i).toNat)
  case atStart => exact ⟨0, 0, Nat.zero_le _, rfl, rfl, rfl⟩
  case round =>
    obtain ⟨k, m, hk, rfl, rfl, rfl⟩ := hrel
    by_cases hlt : k < L.length
    · have hle : nOf (L.take k) ≤ 4096 := Nat.le_trans (nOf_le _) (by simp; omega)
      obtain ⟨b, off, rfl, _, hb, hc⟩ := HO.out (by omega)
      have HC := hid hc
      have HUA : Hid (∀ i (hi : i < L.length) n, Calls Try.prog 29 #[.pointer (some ⟨b, off + i * 11, none⟩)] (w.drewN n) fun e w' => e = .returned (.bool (una L[i])) ∧ w' = w.drewN n) := fun i hi n =>
        una_any (w.drewN n) R b (off + i * 11) L[i] ((HC.out i hi).fr ((Fr.refl (fun _ => False) w).drewN n) (fun h => h) (fun _ _ h => h))
      obtain ⟨va, vc, ea, ec, c0, c1, c2, _, c4, c5, _, _, _, _, c10, hB, _⟩ := (hc k hlt).cells
      have HB := hid hB
      have HN := hid (nOf_step L k hlt)
      clear hc hB HO c0 c1 c2 c4 c10
      go_wp2_with fail
      go_at_call 29
      refine (HUA.out k hlt m).mono ?_
      rintro e w' ⟨rfl, rfl⟩
      cases hu : una L[k] with
      | false =>
        have N : Hid (nOf (L.take (k + 1)) = nOf (L.take k)) := by rw [hu] at HN; exact HN.out.trans (by simp)
        go_wp2
        go_roundw
        case rel => exact ⟨k + 1, m, by omega, by go_num, by rw [N.out], rfl⟩
        case measure => simp [intOf]; omega
      | true =>
        rw [hu] at HN
        generalize hvl : L[k].val = vl at c5 HB HN
        have HVL := hid hvl
        clear hvl hu
        go_wp2
        go_loopw [5, 6] (fun f i wr => ∃ j m : Nat, j ≤ k ∧ i = .int .i64 j ∧ f = .bool true ∧ Hid (noted (L.take j) vl = none) ∧ wr = w.drewN m) (fun _ i _ => k - (intOf i).toNat)
        case atStart => exact ⟨0, m, Nat.zero_le _, rfl, rfl, rfl, rfl⟩
        case round =>
          obtain ⟨j, m1, hj, rfl, rfl, HJ, rfl⟩ := hrel
          by_cases hjl : j < k
          · have hjL : j < L.length := by omega
            obtain ⟨va1, vc1, _, _, _, _, _, _, _, d5, _, _, _, _, _, hB1, _⟩ := (HC.out j hjL).cells
            have HS : Hid (∀ n, Calls Try.prog 30 #[.slice va1 L[j].val.length vc1, .slice va vl.length vc] (w.drewN n) fun e w' => e = .returned (.bool (decide (L[j].val = vl))) ∧ ∃ p, w' = (w.drewN n).drewN p) := fun n =>
              same_any (w.drewN n) _ _ L[j].val vl (HSM.out _ (List.getElem_mem hjL)) R R (hB1.fr ((Fr.refl (fun _ => False) w).drewN n) (fun _ _ h => h)) (HB.out.fr ((Fr.refl (fun _ => False) w).drewN n) (fun _ _ h => h))
            have HJS := hid (noted_step L vl j hjL)
            have HU1 : Hid (∀ n, Calls Try.prog 29 #[.pointer (some ⟨b, off + j * 11, none⟩)] (w.drewN n) fun e w' => e = .returned (.bool (una L[j])) ∧ w' = w.drewN n) := HUA.out j hjL
            have HIT := hid (noted_hit L vl j k hjL hjl)
            clear hB1
            cases hu : una L[j] with
            | false =>
              rw [hu] at HU1 HIT
              have N : Hid (noted (L.take (j + 1)) vl = none) := (HJS.out.trans (ntd_no (by simp [hu]))).trans HJ.out
              clear HJS HJ hu HIT
              generalize L[j].val.length = q at d5 HS
              go_wp2
              go_quiet ((go_at_call 29; refine (HU1.out _).mono ?_; rintro e w' ⟨rfl, rfl⟩; exact ⟨rfl, _, rfl⟩))
              go_wp2
              go_roundw
              case rel => exact ⟨j + 1, _, by omega, by go_num, rfl, N, rfl⟩
              case measure => simp [intOf]; omega
            | true =>
              rw [hu] at HU1 HIT
              cases hd : decide (L[j].val = vl) with
              | false =>
                rw [hd] at HS
                have N : Hid (noted (L.take (j + 1)) vl = none) := (HJS.out.trans (ntd_no (by rw [hd]; simp))).trans HJ.out
                clear HJS HJ hu HIT hd
                generalize L[j].val.length = q at d5 HS
                go_wp2
                go_quiet ((first | (go_at_call 29; refine (HU1.out _).mono ?_; rintro e w' ⟨rfl, rfl⟩; exact ⟨rfl, _, rfl⟩) | (go_at_call 30; refine (HS.out _).mono ?_; rintro e w' ⟨rfl, p, rfl⟩; exact ⟨rfl, _, (World.drewN_drewN _ _ _).trans (congrArg w.drewN (Nat.add_assoc _ _ _))⟩)))
                go_wp2
                go_roundw
                case rel => exact ⟨j + 1, _, by omega, by go_num, rfl, N, rfl⟩
                case measure => simp [intOf]; omega
              | true =>
                rw [hd] at HS HIT
                have N : Hid (nOf (L.take (k + 1)) = nOf (L.take k)) := HN.out.trans (by rw [HIT.out rfl]; rfl)
                clear HJS HJ hu HIT hd
                generalize L[j].val.length = q at d5 HS
                go_wp2
                go_quiet ((first | (go_at_call 29; refine (HU1.out _).mono ?_; rintro e w' ⟨rfl, rfl⟩; exact ⟨rfl, _, rfl⟩) | (go_at_call 30; refine (HS.out _).mono ?_; rintro e w' ⟨rfl, p, rfl⟩; exact ⟨rfl, _, (World.drewN_drewN _ _ _).trans (congrArg w.drewN (Nat.add_assoc _ _ _))⟩)))
                go_wp2
                go_roundw
                case rel => exact ⟨k + 1, _, by omega, by go_num, by rw [N.out], rfl⟩
                case measure => simp [intOf]; omega
          · obtain rfl : j = k := by omega
            have N : Hid (nOf (L.take (j + 1)) = nOf (L.take j) + 1) := HN.out.trans (by rw [HJ.out]; rfl)
            go_wp2
            go_roundw
            case rel => exact ⟨j + 1, _, by omega, by go_num, by rw [N.out]; rfl, rfl⟩
            case measure => simp [intOf]; omega
    · obtain rfl : k = L.length := by omega
      have N : Hid (L.take L.length = L) := by show _ = _; exact List.take_of_length_le (Nat.le_refl _)
      go_wp2
      go_ret
      exact ⟨by rw [N.out]; rfl, _, rfl⟩
end Go.Proofs.Qxb6618167a.Hist
