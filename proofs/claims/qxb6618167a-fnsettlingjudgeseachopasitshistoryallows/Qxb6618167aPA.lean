import Derived.Test.Qxb6618167aP9
namespace Go.Proofs.Qxb6618167a.Hist
open Go.RowKit Go.PlainAid
attribute [local go_sem ↓] Go.wp_at_zero Go.wp_at_succ

theorem take_both (L : List Zp) (k : Nat) (h : k < L.length) : both (L.take (k + 1)) = (noteF L[k] (both (L.take k)).1, noteN L[k] (both (L.take k)).1 (both (L.take k)).2) := by
  rw [List.take_succ_eq_append_getElem h, both_snoc]
/-- the fates after the whole list, at a value -/
theorem both_all (L : List Zp) (v : List UInt8) : (both L).1 v = (noted L v).map fresh := both_st L v
def Done4 (w : World) (e : Ending) (w' : World) : Prop := e = .returned (.bool true) ∧ Fr (fun _ => False) w w'

theorem Fr.shrink {n : Nat} {a b c : World} (h : Fr (fun _ => False) a b) (k : Fr (fun x => n ≤ x) b c) (hn : a.heap.size ≤ n) : Fr (fun _ => False) a c :=
  ⟨k.os.trans h.os, k.tape.trans h.tape, k.output.trans h.output, Nat.le_trans h.size k.size, fun i hi hs => (k.block i (Nat.lt_of_lt_of_le hi h.size) (by omega)).trans (h.block i hi hs)⟩
theorem fresh_any (w : World) (base mb n : Nat) (st : St) (hs : SS base w mb st n) (R : Nat → Prop) (vv : Value) (v : List UInt8) (hb : Byt R w vv v) (hl : v.length ≤ 1048576) (a : Option Int) (hv : st v = a.map fresh) :
    Calls Try.prog 18 #[.map (some mb), vv, fnd a, lst a] w fun e w' => e = .returned (.bool true) ∧ ∃ m, w' = w.drewN m := by
  cases a with
  | none => exact fresh_no w base mb n st hs R vv v hb hl _ hv
  | some c => exact fresh_yes w base mb n st hs R vv v hb hl c hv
set_option maxRecDepth 100000 in
set_option maxHeartbeats 8000000 in
theorem law4 (w : World) (ao : Option Addr) (cap : Nat) (L : List Zp) (hl : L.length ≤ maxLen) (hw : ∀ z ∈ L, Wide1 z) (hO : OpsAt (fun b => b < w.heap.size) (fun b => b < w.heap.size) w ao L) :
    Calls Try.prog 4 #[.slice ao L.length cap] w fun e w' => Done4 w e w' := by
  have H15 := hid (sum15_any w ao cap L hl hw _ _ hO)
  have H7 := hid (tooBig_any w ao cap L hl hw _ _ hO)
  have H8 := hid (fun h1 h2 => toOps_any w ao cap L h1 h2 hO)
  have HO := hid hO
  have N0 : Hid (Done4 w (.returned (.bool true)) w) := ⟨rfl, Fr.refl _ _⟩
  clear hw hO hl
  go_enter Try.func4, Try.ntmps4
  go_wp2_with fail
  go_at_call 15
  refine H15.out.mono ?_
  rintro e w' ⟨b, rfl, hww⟩
  obtain rfl := hww.symm
  cases b with
  | false =>
    go_wp2
    go_ret
    exact N0.out
  | true =>
    go_wp2_with fail
    go_at_call 7
    refine H7.out.mono ?_
    rintro e w' ⟨b, rfl, hww, hsm⟩
    obtain rfl := hww.symm
    cases b with
    | true =>
      go_wp2
      go_ret
      exact N0.out
    | false =>
      obtain ⟨hl, hsm⟩ := hsm rfl
      have HSM := hid hsm
      have H8' := hid (H8.out hl hsm)
      clear hsm H8 H15 H7 N0
      go_wp2_with fail
      go_at_call 8
      refine H8'.out.mono ?_
      rintro e w3 ⟨rfl, hH, f3⟩
      have HF3 := hid f3
      have HH3 := hid (hH.low (Nat.le_refl _))
      have HO3 := hid ((HO.out.fr f3 (fun _ _ h => h) (fun _ _ h => h)).low (Nat.le_refl _))
      clear hH f3 H8' HO
      go_wp2_with fail
      go_at_call 9
      refine (new_any w3).mono ?_
      rintro e w4 ⟨rfl, s4, f4⟩
      have HS4 := hid s4
      have HF4 := hid f4
      clear s4 f4
      generalize hb1 : w3.heap.size = base at *
      have hb4 : base ≤ w4.heap.size := by rw [← hb1]; exact HF4.out.size
      go_wp2
      go_loopw [5] (fun i wr => ∃ k : Nat, k ≤ L.length ∧ i = .int .i64 k ∧ Hid (SS base wr base (both (L.take k)).1 (both (L.take k)).2) ∧ Hid (Fr (fun x => base ≤ x) w4 wr)) (fun i _ => L.length - (intOf i).toNat)
      case atStart => exact ⟨0, Nat.zero_le _, rfl, HS4, Fr.refl _ _⟩
      case round =>
        obtain ⟨k, hk, rfl, HS, HF⟩ := hrel
        by_cases hlt : k < L.length
        · obtain ⟨b, off, hbe, hbb, _, hc⟩ := HH3.out (by omega)
          simp only [Option.some.injEq, Addr.mk.injEq, and_true] at hbe
          obtain ⟨rfl, rfl⟩ := hbe
          have hop := (((hc k hlt).fr HF4.out (fun h => h) (fun _ _ h => h)).fr HF.out (by omega) (fun x hx => by have : x < base := hx; omega))
          have hn : nOf (L.take k) ≤ 4096 := Nat.le_trans (nOf_le _) (by simp; omega)
          have HN := hid (zznote_any wr _ w.heap.size (0 + k * 11) base base L[k] (both (L.take k)).1 (both (L.take k)).2 (by unfold nOf at hn; omega) hop hbb (Nat.le_trans hb4 HF.out.size) (HSM.out _ (List.getElem_mem hlt)).1 HS.out)
          clear hc hop HS hn
          rw [Nat.zero_add] at HN
          go_wp2_with fail
          go_at_call 10
          refine HN.out.mono ?_
          rintro e w5 ⟨rfl, s5, f5⟩
          have N1 : Hid (SS base w5 base (both (L.take (k + 1))).1 (both (L.take (k + 1))).2) := by rw [take_both L k hlt]; exact s5
          have N2 := hid (HF.out.trans f5)
          clear s5 f5
          go_wp2
          go_roundw
          case rel => exact ⟨k + 1, by omega, by go_num, N1, N2⟩
          case measure => simp [intOf]; omega
        · obtain rfl : k = L.length := by omega
          rw [List.take_of_length_le (Nat.le_refl _)] at HS
          have HF1 := hid ((HF3.out.trans HF4.out).shrink HF.out (by rw [← hb1]; exact HF3.out.size))
          have HH1 := hid (((HH3.out.fr HF4.out (fun _ _ h => h) (fun _ _ h => h)).fr HF.out (fun x hx => by have : x < base := hx; omega) (fun x hx => by have : x < base := hx; omega)).low (Nat.le_refl _))
          have HO1 := hid (((HO3.out.fr HF4.out (fun _ _ h => h) (fun _ _ h => h)).fr HF.out (fun x hx => by have : x < base := hx; omega) (fun x hx => by have : x < base := hx; omega)).low (Nat.le_refl _))
          clear HF HF3 HF4 HH3 HO3 HS4
          generalize wr = w5 at *
          go_wp2_with fail
          go_at_call 9
          refine (new_any w5).mono ?_
          rintro e w6 ⟨rfl, s6, f6⟩
          have HS6 := hid s6
          have HF6 := hid f6
          clear s6 f6
          generalize hb2 : w5.heap.size = base2 at *
          have hb6 : base2 ≤ w6.heap.size := by rw [← hb2]; exact HF6.out.size
          go_wp2
          go_loopw [7] (fun i wr => ∃ k : Nat, k ≤ L.length ∧ i = .int .i64 ((k : Int) - 1) ∧ Hid (SS base2 wr base2 (both (L.drop k).reverse).1 (both (L.drop k).reverse).2) ∧ Hid (Fr (fun x => base2 ≤ x) w6 wr)) (fun i _ => (intOf i + 1).toNat)
          case atStart => exact ⟨L.length, Nat.le_refl _, rfl, by rw [List.drop_length]; exact HS6, Fr.refl _ _⟩
          case round =>
            obtain ⟨k, hk, hi, HS2, HF⟩ := hrel
            cases k with
            | succ k =>
              have hi' := hi.trans (show Value.int .i64 (((k + 1 : Nat) : Int) - 1) = .int .i64 (k : Int) from by congr 1; omega)
              clear hi
              subst hi'
              have hlt : k < L.length := by omega
              obtain ⟨b, off, hbe, hbb, _, hc⟩ := HH1.out (by omega)
              simp only [Option.some.injEq, Addr.mk.injEq, and_true] at hbe
              obtain ⟨rfl, rfl⟩ := hbe
              have hop := (((hc k hlt).fr HF6.out (fun h => h) (fun _ _ h => h)).fr HF.out (by omega) (fun x hx => by have : x < base2 := hx; omega))
              have hn : nOf (L.drop (k + 1)).reverse ≤ 4096 := Nat.le_trans (nOf_le _) (by simp; omega)
              have HN := hid (zznote_any wr _ w.heap.size (0 + k * 11) base2 base2 L[k] (both (L.drop (k + 1)).reverse).1 (both (L.drop (k + 1)).reverse).2 (by unfold nOf at hn; omega) hop hbb (Nat.le_trans hb6 HF.out.size) (HSM.out _ (List.getElem_mem hlt)).1 HS2.out)
              clear hc hop HS2 hn
              rw [Nat.zero_add] at HN
              go_wp2_with fail
              go_at_call 10
              refine HN.out.mono ?_
              rintro e w7 ⟨rfl, s7, f7⟩
              have N1 : Hid (SS base2 w7 base2 (both (L.drop k).reverse).1 (both (L.drop k).reverse).2) := by
                rw [List.drop_eq_getElem_cons hlt, List.reverse_cons, both_snoc]; exact s7
              have N2 := hid (HF.out.trans f7)
              clear s7 f7
              go_wp2
              go_roundw
              case rel => exact ⟨k, by omega, rfl, N1, N2⟩
              case measure => simp [intOf]
            | zero =>
              have hi' := hi.trans (show Value.int .i64 (((0 : Nat) : Int) - 1) = .int .i64 (-1) from rfl)
              clear hi
              subst hi'
              rw [List.drop_zero] at HS2
              have HFz := hid ((HF1.out.trans HF6.out).shrink HF.out (by rw [← hb2]; exact HF1.out.size))
              have HHz := hid ((HH1.out.fr HF6.out (fun _ _ h => h) (fun _ _ h => h)).fr HF.out (fun x hx => by have : x < base2 := hx; omega) (fun x hx => by have : x < base2 := hx; omega))
              have HOz := hid ((HO1.out.fr HF6.out (fun _ _ h => h) (fun _ _ h => h)).fr HF.out (fun x hx => by have : x < base2 := hx; omega) (fun x hx => by have : x < base2 := hx; omega))
              have HSz : Hid (SS base wr base (both L).1 (both L).2) := HS.out.keep fun k hk _ => by
                have hk2 : k < base2 := by rw [← hb2]; exact hk
                exact (HF.out.block k (by omega) (by omega)).trans (HF6.out.block k hk (fun h => h))
              clear HF HF6 HF1 HH1 HO1 HS6 HS
              generalize wr = wz at *
              have HSM1 : Hid (∀ z ∈ L, z.val.length ≤ 1048576) := fun z hz => (HSM.out z hz).1
              go_wp2_with fail
              go_at_call 16
              refine (distinct_any wz ao cap L hl HSM1.out _ _ HOz.out).mono ?_
              rintro e w' ⟨rfl, m0, rfl⟩
              have e1 : (both L).2 = nOf L := rfl
              have e2 : (both L.reverse).2 = nOf L := nOf_rev L
              have hnl : nOf L ≤ 4096 := Nat.le_trans (nOf_le _) hl
              have l1 : ∀ ty, (Builtin.len_ #[27] ty #[.map (some base)]).run Try.prog (wz.drewN m0) = .ok (.int .i64 (nOf L)) (wz.drewN m0) := fun ty => by
                rw [← e1]; exact SS.len (w := wz.drewN m0) (HSz.out.keep (fun _ _ _ => rfl)) ty
              have l2 : ∀ ty, (Builtin.len_ #[27] ty #[.map (some base2)]).run Try.prog (wz.drewN m0) = .ok (.int .i64 (nOf L)) (wz.drewN m0) := fun ty => by
                rw [← e2]; exact SS.len (w := wz.drewN m0) (HS2.out.keep (fun _ _ _ => rfl)) ty
              clear e1 e2
              generalize nOf L = nl at l1 l2 hnl
              go_wp2
              go_loopw [9] (fun i wr => ∃ k m : Nat, k ≤ L.length ∧ i = .int .i64 k ∧ wr = wz.drewN m) (fun i _ => L.length - (intOf i).toNat)
              case atStart => exact ⟨0, _, Nat.zero_le _, rfl, rfl⟩
              case round =>
                clear l1 l2
                obtain ⟨k, m, hk, rfl, rfl⟩ := hrel
                by_cases hlt : k < L.length
                · obtain ⟨b, off, rfl, _, _, hc⟩ := HOz.out (by omega)
                  obtain ⟨va, vc, ea, ec, d0, d1, d2, d3, d4, d5, d6, d7, d8, d9, d10, hB, _⟩ := (hc k hlt).cells
                  have HB : Hid (∀ n, Byt (fun x => x < base2) (wz.drewN n) (.slice va L[k].val.length vc) L[k].val) := fun n => hB.fr ((Fr.refl (fun _ => False) wz).drewN n) (fun _ _ h => h)
                  have HX : Hid (∀ n, OpsAt (fun x => x < base2) (fun x => x < base2) (wz.drewN n) (some ⟨b, off, none⟩) L) := fun n => HOz.out.fr ((Fr.refl (fun _ => False) wz).drewN n) (fun _ _ h => h) (fun _ _ h => h)
                  have C17 : Hid (∀ n, Calls Try.prog 17 #[.slice (some ⟨b, off, none⟩) L.length cap, .slice va L[k].val.length vc] (wz.drewN n) fun e w' => e = .returned (.tuple #[fnd (noted L L[k].val), lst (noted L L[k].val)]) ∧ ∃ m, w' = (wz.drewN n).drewN m) := fun n =>
                    noted_any (wz.drewN n) _ cap L hl HSM1.out _ _ _ (HX.out n) _ L[k].val (HB.out n)
                  have C18 : Hid (∀ n, Calls Try.prog 18 #[.map (some base), .slice va L[k].val.length vc, fnd (noted L L[k].val), lst (noted L L[k].val)] (wz.drewN n) fun e w' => e = .returned (.bool true) ∧ ∃ m, w' = (wz.drewN n).drewN m) := fun n =>
                    fresh_any (wz.drewN n) base base _ _ (HSz.out.keep (fun _ _ _ => rfl)) _ _ L[k].val (HB.out n) (HSM1.out _ (List.getElem_mem hlt)) _ (both_all L _)
                  have C18' : Hid (∀ n, Calls Try.prog 18 #[.map (some base2), .slice va L[k].val.length vc, fnd (noted L L[k].val), lst (noted L L[k].val)] (wz.drewN n) fun e w' => e = .returned (.bool true) ∧ ∃ m, w' = (wz.drewN n).drewN m) := fun n =>
                    fresh_any (wz.drewN n) base2 base2 _ _ (HS2.out.keep (fun _ _ _ => rfl)) _ _ L[k].val (HB.out n) (HSM1.out _ (List.getElem_mem hlt)) _ (by rw [both_all, noted_rev])
                  clear hc hB HB HX d0 d1 d2 d3 d4 d6 d7 d8 d9 d10
                  generalize L[k].val.length = ql at d5 C17 C18 C18'
                  generalize noted L L[k].val = nt at C17 C18 C18'
                  go_wp2_with fail
                  go_at_call 17
                  refine (C17.out _).mono ?_
                  rintro e w' ⟨rfl, m1, rfl⟩
                  go_wp2_with fail
                  go_at_call 18
                  refine (C18.out _).mono ?_
                  rintro e w' ⟨rfl, m2, rfl⟩
                  go_wp2_with fail
                  go_at_call 18
                  refine (C18'.out _).mono ?_
                  rintro e w' ⟨rfl, m3, rfl⟩
                  go_wp2
                  go_roundw
                  case rel => exact ⟨k + 1, _, by omega, by go_num, rfl⟩
                  case measure => simp [intOf]; omega
                · obtain rfl : k = L.length := by omega
                  have HX := hid (HOz.out.fr ((Fr.refl (fun _ => False) wz).drewN m) (fun _ _ h => h) (fun _ _ h => h))
                  have HY := hid (HHz.out.fr ((Fr.refl (fun _ => False) wz).drewN m) (fun _ _ h => h) (fun _ _ h => h))
                  go_wp2_with fail
                  go_at_call 14
                  refine (untouched_any (wz.drewN m) _ L.length ao cap L hl HSM.out _ _ _ _ HY.out HX.out).mono ?_
                  rintro e w' ⟨rfl, m2, rfl⟩
                  go_wp2
                  go_ret
                  exact ⟨rfl, HFz.out.drewN _⟩
end Go.Proofs.Qxb6618167a.Hist
