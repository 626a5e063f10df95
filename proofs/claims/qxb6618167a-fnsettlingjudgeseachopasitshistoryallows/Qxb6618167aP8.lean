import Derived.Test.Qxb6618167aP7
namespace Go.Proofs.Qxb6618167a.Hist
open Go.RowKit Go.PlainAid
attribute [local go_sem ↓] Go.wp_at_zero Go.wp_at_succ

set_option maxRecDepth 100000 in
set_option maxHeartbeats 4000000 in
theorem reads_any (w : World) (R S : Nat → Prop) (b o c q : Nat) (z : Zp) (s : ByteArray) (ix rt : Int) (hsm : Small1 z) (hh : OpAt R w b o { z with status := s, index := ix, ret := rt }) (ho : OpAt S w c q z) :
    Calls Try.prog 28 #[.pointer (some ⟨b, o, none⟩), .pointer (some ⟨c, q, none⟩), .string s, .int .u64 ix, .int .i64 rt] w fun e w' => e = .returned (.bool true) ∧ ∃ m, w' = w.drewN m := by
  obtain ⟨va, vc, ea, ec, c0, c1, c2, c3, c4, c5, c6, c7, c8, c9, c10, hB, hE⟩ := hh.cells
  obtain ⟨va', vc', ea', ec', d0, d1, d2, d3, d4, d5, d6, d7, d8, d9, d10, hB', hE'⟩ := ho.cells
  simp only at c0 c1 c2 c3 c4 c5 c6 c7 c8 c9 c10 hB hE
  obtain ⟨s1, s2, s3⟩ := hsm
  have hs : ∀ n, Calls Try.prog 30 #[.slice va z.val.length vc, .slice va' z.val.length vc'] (w.drewN n) fun e w' => e = .returned (.bool true) ∧ ∃ p, w' = (w.drewN n).drewN p := fun n =>
    (same_any (w.drewN n) _ _ z.val z.val s1 R S (hB.fr ((Fr.refl (fun _ => False) w).drewN n) (fun _ _ h => h)) (hB'.fr ((Fr.refl (fun _ => False) w).drewN n) (fun _ _ h => h))).mono (by rintro e w' ⟨rfl, h⟩; exact ⟨by simp, h⟩)
  have HS := hid hs
  have HE := hid hE
  have HE' := hid hE'
  have H3 := hid s3
  clear hs hB hB' hE hE' hh ho s3
  go_enter Try.func28, Try.ntmps28
  go_wp2
  go_quiet (fail)
  go_wp2
  go_quiet (fail)
  go_wp2
  go_quiet ((go_at_call 30; refine (HS.out _).mono ?_; rintro e w' ⟨rfl, p, rfl⟩; exact ⟨rfl, _, (World.drewN_drewN _ _ _).trans (congrArg w.drewN (Nat.add_assoc _ _ _))⟩))
  go_wp2
  go_loopw [11] (fun i wr => ∃ k m : Nat, k ≤ z.ents.length ∧ i = .int .i64 k ∧ wr = w.drewN m) (fun i _ => z.ents.length - (intOf i).toNat)
  case atStart => exact ⟨0, _, Nat.zero_le _, rfl, (congrArg (fun x => World.drewN x _) (World.drewN_drewN w _ _)).trans (World.drewN_drewN _ _ _)⟩
  case round =>
    obtain ⟨k, m, hk, rfl, rfl⟩ := hrel
    by_cases hlt : k < z.ents.length
    · obtain ⟨b1, off1, rfl, _, _, g⟩ := HE.out.at (by simpa using Nat.lt_of_le_of_lt (Nat.zero_le _) hlt)
      obtain ⟨b2, off2, rfl, _, _, g'⟩ := HE'.out.at (Nat.lt_of_le_of_lt (Nat.zero_le _) hlt)
      obtain ⟨e1, va1, vc1, e2, hb1⟩ := g k hlt
      obtain ⟨f1, va2, vc2, f2, hb2⟩ := g' k hlt
      have t1 := H3.out z.ents[k] (List.getElem_mem hlt)
      have hs : ∀ n, Calls Try.prog 30 #[.slice va1 z.ents[k].val.length vc1, .slice va2 z.ents[k].val.length vc2] (w.drewN n) fun e w' => e = .returned (.bool true) ∧ ∃ p, w' = (w.drewN n).drewN p := fun n =>
        (same_any (w.drewN n) _ _ z.ents[k].val z.ents[k].val t1 R S (hb1.fr ((Fr.refl (fun _ => False) w).drewN n) (fun _ _ h => h)) (hb2.fr ((Fr.refl (fun _ => False) w).drewN n) (fun _ _ h => h))).mono (by rintro e w' ⟨rfl, h⟩; exact ⟨by simp, h⟩)
      have HS2 := hid hs
      clear hs hb1 hb2 g g' t1 HE HE' H3
      generalize z.ents[k].val.length = ql at e2 f2 HS2
      generalize z.ents[k].idx = qi at e1 f1
      go_wp2
      go_quiet ((go_at_call 30; refine (HS2.out _).mono ?_; rintro e w' ⟨rfl, p, rfl⟩; exact ⟨rfl, _, (World.drewN_drewN _ _ _).trans (congrArg w.drewN (Nat.add_assoc _ _ _))⟩))
      go_wp2
      go_roundw
      case rel => exact ⟨k + 1, _, by omega, by go_num, rfl⟩
      case measure => simp [intOf]; omega
    · obtain rfl : k = z.ents.length := by omega
      go_wp2
      go_ret
      exact ⟨rfl, _, rfl⟩

set_option maxHeartbeats 1000000 in
theorem untouched_any (w : World) (ho : Option Addr) (hcap : Nat) (ao : Option Addr) (cap : Nat) (L : List Zp) (hl : L.length ≤ 4096) (hsm : ∀ z ∈ L, Small1 z) (Q R Q' R' : Nat → Prop) (hH : OpsAt Q R w ho L) (hO : OpsAt Q' R' w ao L) :
    Calls Try.prog 14 #[.slice ho L.length hcap, .slice ao L.length cap] w fun e w' => e = .returned (.bool true) ∧ ∃ m, w' = w.drewN m := by
  have HSM := hid hsm
  have HO := hid hO
  have HH := hid hH
  clear hsm hO hH
  go_enter Try.func14, Try.ntmps14
  go_wp2
  go_loopw [5] (fun i wr => ∃ k m : Nat, k ≤ L.length ∧ i = .int .i64 k ∧ wr = w.drewN m) (fun i _ => L.length - (intOf i).toNat)
  case atStart => exact ⟨0, 0, Nat.zero_le _, rfl, rfl⟩
  case round =>
    obtain ⟨k, m, hk, rfl, rfl⟩ := hrel
    by_cases hlt : k < L.length
    · obtain ⟨b, off, rfl, _, _, hc⟩ := HO.out (by omega)
      obtain ⟨b', off', rfl, _, _, hc'⟩ := HH.out (by omega)
      have hr : ∀ n, Calls Try.prog 28 #[.pointer (some ⟨b', off' + k * 11, none⟩), .pointer (some ⟨b, off + k * 11, none⟩), .string L[k].status, .int .u64 L[k].index, .int .i64 L[k].ret] (w.drewN n) fun e w' => e = .returned (.bool true) ∧ ∃ p, w' = (w.drewN n).drewN p := fun n =>
        reads_any (w.drewN n) R R' b' (off' + k * 11) b (off + k * 11) L[k] L[k].status L[k].index L[k].ret (HSM.out _ (List.getElem_mem hlt)) ((hc' k hlt).fr ((Fr.refl (fun _ => False) w).drewN n) (fun h => h) (fun _ _ h => h)) ((hc k hlt).fr ((Fr.refl (fun _ => False) w).drewN n) (fun h => h) (fun _ _ h => h))
      have HR := hid hr
      obtain ⟨va, vc, ea, ec, d0, d1, d2, d3, d4, d5, d6, d7, d8, d9, d10, _, _⟩ := (hc k hlt).cells
      clear hr hc hc' HO HH HSM d0 d1 d2 d5 d7 d8 d9 d10
      generalize L[k] = z at d3 d4 d6 HR
      go_wp2
      go_quiet ((go_at_call 28; refine (HR.out _).mono ?_; rintro e w' ⟨rfl, p, rfl⟩; exact ⟨rfl, _, (World.drewN_drewN _ _ _).trans (congrArg w.drewN (Nat.add_assoc _ _ _))⟩))
      go_wp2
      go_roundw
      case rel => exact ⟨k + 1, _, by omega, by go_num, rfl⟩
      case measure => simp [intOf]; omega
    · obtain rfl : k = L.length := by omega
      go_wp2
      go_ret
      exact ⟨rfl, _, rfl⟩
end Go.Proofs.Qxb6618167a.Hist
