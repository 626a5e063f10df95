import Derived.Test.Qxb6618167aP5
import Derived.Test.Qxb6618167aP3a
namespace Go.Proofs.Qxb6618167a.Hist
open Go.RowKit Go.PlainAid
attribute [local go_sem ↓] Go.wp_at_zero Go.wp_at_succ

def fateT : Option Fate → Array Value
  | none => #[.bool false, .int .i64 0, .int .i64 0, .bool false, .int .u64 0, .int .i64 0]
  | some f => #[.bool true, .int .i64 f.call, .int .i64 f.appends, .bool f.seen, .int .u64 f.index, .int .i64 f.ret]
theorem fate_none (w : World) (base mb n : Nat) (st : St) (hs : SS base w mb st n) (v : List UInt8) (hl : v.length ≤ 1048576) (hv : st v = none) :
    Calls Try.prog 20 #[.map (some mb), .string ⟨v.toArray⟩] w fun e w' => e = .returned (.tuple (fateT none)) ∧ ∃ m, w' = w.drewN m := by
  have hlk := hs.look_none hl hv
  clear hs hv
  go_enter Try.func20, Try.ntmps20
  go_wp2
  go_returns
  exact ⟨rfl, 0, rfl⟩
theorem fate_some (w : World) (base mb n : Nat) (st : St) (hs : SS base w mb st n) (v : List UInt8) (hl : v.length ≤ 1048576) (f : Fate) (hv : st v = some f) :
    Calls Try.prog 20 #[.map (some mb), .string ⟨v.toArray⟩] w fun e w' => e = .returned (.tuple (fateT (some f))) ∧ ∃ m, w' = w.drewN m := by
  obtain ⟨g, hlk, _, hcell, _⟩ := hs.look_some hl hv
  have g0 : w.cell? ⟨g, 0, none⟩ = some (.int .i64 f.call) := by rw [blk_cell hcell]; rfl
  have g1 : w.cell? ⟨g, 1, none⟩ = some (.int .i64 f.appends) := by rw [blk_cell hcell]; rfl
  have g2 : w.cell? ⟨g, 2, none⟩ = some (.bool f.seen) := by rw [blk_cell hcell]; rfl
  have g3 : w.cell? ⟨g, 3, none⟩ = some (.int .u64 f.index) := by rw [blk_cell hcell]; rfl
  have g4 : w.cell? ⟨g, 4, none⟩ = some (.int .i64 f.ret) := by rw [blk_cell hcell]; rfl
  clear hs hv hcell
  go_enter Try.func20, Try.ntmps20
  go_wp2
  go_quiet (fail)
  go_wp2
  go_returns
  exact ⟨rfl, _, rfl⟩
theorem fate_any (w : World) (base mb n : Nat) (st : St) (hs : SS base w mb st n) (v : List UInt8) (hl : v.length ≤ 1048576) :
    Calls Try.prog 20 #[.map (some mb), .string ⟨v.toArray⟩] w fun e w' => e = .returned (.tuple (fateT (st v))) ∧ ∃ m, w' = w.drewN m := by
  cases hv : st v with
  | none => exact fate_none w base mb n st hs v hl hv
  | some f => exact fate_some w base mb n st hs v hl f hv

/-! zzFreshFate -/
theorem fresh_no (w : World) (base mb n : Nat) (st : St) (hs : SS base w mb st n) (R : Nat → Prop) (vv : Value) (v : List UInt8) (hb : Byt R w vv v) (hl : v.length ≤ 1048576) (x : Int) (hv : st v = none) :
    Calls Try.prog 18 #[.map (some mb), vv, .bool false, .int .i64 x] w fun e w' => e = .returned (.bool true) ∧ ∃ m, w' = w.drewN m := by
  have H := fate_none w base mb n st hs v hl hv
  have hcv := conv_byt hb
  clear hs hv hb
  simp only [fateT] at H
  go_enter Try.func18, Try.ntmps18
  go_wp2_with fail
  go_at_call 20
  refine H.mono ?_
  rintro e w' ⟨rfl, m, rfl⟩
  go_wp2
  go_ret
  exact ⟨rfl, _, rfl⟩
theorem fresh_yes (w : World) (base mb n : Nat) (st : St) (hs : SS base w mb st n) (R : Nat → Prop) (vv : Value) (v : List UInt8) (hb : Byt R w vv v) (hl : v.length ≤ 1048576) (x : Int) (hv : st v = some ⟨x, 0, false, 0, 0⟩) :
    Calls Try.prog 18 #[.map (some mb), vv, .bool true, .int .i64 x] w fun e w' => e = .returned (.bool true) ∧ ∃ m, w' = w.drewN m := by
  have H := fate_some w base mb n st hs v hl _ hv
  have hcv := conv_byt hb
  clear hs hv hb
  simp only [fateT] at H
  go_enter Try.func18, Try.ntmps18
  go_wp2_with fail
  go_at_call 20
  refine H.mono ?_
  rintro e w' ⟨rfl, m, rfl⟩
  go_wp2
  go_ret
  exact ⟨rfl, _, rfl⟩

/-! zzNoted -/
def ntd (v : List UInt8) (acc : Option Int) (z : Zp) : Option Int :=
  if una z && decide (z.val = v) then some (match acc with | none => z.call | some c => if z.call < c then z.call else c) else acc
def noted (L : List Zp) (v : List UInt8) : Option Int := L.foldl (ntd v) none
theorem noted_step (L : List Zp) (v : List UInt8) (k : Nat) (h : k < L.length) : noted (L.take (k + 1)) v = ntd v (noted (L.take k) v) L[k] := by
  rw [List.take_succ_eq_append_getElem h, noted, List.foldl_append]; rfl
theorem ntd_no {v : List UInt8} {acc : Option Int} {z : Zp} (h : (una z && decide (z.val = v)) = false) : ntd v acc z = acc := by simp only [ntd, h]; simp
theorem ntd_new {v : List UInt8} {z : Zp} (h : (una z && decide (z.val = v)) = true) : ntd v none z = some z.call := by simp only [ntd, h]; simp
theorem ntd_lt {v : List UInt8} {c : Int} {z : Zp} (h : (una z && decide (z.val = v)) = true) (hc : z.call < c) : ntd v (some c) z = some z.call := by simp only [ntd, h]; simp [hc]
theorem ntd_ge {v : List UInt8} {c : Int} {z : Zp} (h : (una z && decide (z.val = v)) = true) (hc : ¬ z.call < c) : ntd v (some c) z = some c := by simp only [ntd, h]; simp [hc]
def fnd (a : Option Int) : Value := .bool a.isSome
def lst (a : Option Int) : Value := .int .i64 (a.getD 0)
set_option maxHeartbeats 1000000 in
theorem noted_any (w : World) (ao : Option Addr) (cap : Nat) (L : List Zp) (hl : L.length ≤ 4096) (hsm : ∀ z ∈ L, z.val.length ≤ 1048576) (Q R S : Nat → Prop) (hO : OpsAt Q R w ao L) (vv : Value) (v : List UInt8) (hv : Byt S w vv v) :
    Calls Try.prog 17 #[.slice ao L.length cap, vv] w fun e w' => e = .returned (.tuple #[fnd (noted L v), lst (noted L v)]) ∧ ∃ m, w' = w.drewN m := by
  have HSM := hid hsm
  have HO := hid hO
  have HV := hid hv
  clear hsm hO hv
  go_enter Try.func17, Try.ntmps17
  go_wp2
  go_loopw [6, 7, 8] (fun f l i wr => ∃ k m : Nat, k ≤ L.length ∧ i = .int .i64 k ∧ f = fnd (noted (L.take k) v) ∧ l = lst (noted (L.take k) v) ∧ wr = w.drewN m) (fun _ _ i _ => L.length - (intOf i).toNat)
  case atStart => exact ⟨0, 0, Nat.zero_le _, rfl, rfl, rfl, rfl⟩
  case round =>
    obtain ⟨k, m, hk, rfl, rfl, rfl, rfl⟩ := hrel
    by_cases hlt : k < L.length
    · obtain ⟨b, off, rfl, _, hb, hc⟩ := HO.out (by omega)
      have hop := (hc k hlt).fr ((Fr.refl (fun _ => False) w).drewN m) (fun h => h) (fun _ _ h => h)
      have HU := hid (una_any (w.drewN m) R b (off + k * 11) L[k] hop)
      obtain ⟨va, vc, ea, ec, c0, c1, c2, _, c4, c5, _, _, _, _, c10, hB, _⟩ := (hc k hlt).cells
      have HS : Hid (∀ j, Calls Try.prog 30 #[.slice va L[k].val.length vc, vv] (w.drewN j) fun e w' => e = .returned (.bool (decide (L[k].val = v))) ∧ ∃ n, w' = (w.drewN j).drewN n) := fun j =>
        same_any (w.drewN j) _ vv L[k].val v (HSM.out _ (List.getElem_mem hlt)) R S (hB.fr ((Fr.refl (fun _ => False) w).drewN j) (fun _ _ h => h)) (HV.out.fr ((Fr.refl (fun _ => False) w).drewN j) (fun _ _ h => h))
      have HN := hid (noted_step L v k hlt)
      clear hc hop hB HSM HO HV
      generalize L[k] = z at c0 c1 c2 c4 c5 c10 HU HS HN
      generalize noted (L.take k) v = acc at HN ⊢
      have c5' : (w.drewN m).cell? ⟨b, off + k * 11 + 5, none⟩ = some (.slice va z.val.length vc) := c5
      have c2' : (w.drewN m).cell? ⟨b, off + k * 11 + 2, none⟩ = some (.int .i64 z.call) := c2
      go_wp2_with fail
      go_at_call 29
      refine HU.out.mono ?_
      rintro e w' ⟨rfl, rfl⟩
      cases hu : una z with
      | false =>
        have N := hid (HN.out.trans (ntd_no (acc := acc) (z := z) (v := v) (by simp [hu])))
        go_wp2
        go_roundw
        case rel => exact ⟨k + 1, m, by omega, by go_num, by rw [N.out], by rw [N.out], rfl⟩
        case measure => simp [intOf]; omega
      | true =>
        go_wp2_with fail
        go_at_call 30
        refine (HS.out m).mono ?_
        rintro e w' ⟨rfl, m2, rfl⟩
        have c2'' : ((w.drewN m).drewN m2).cell? ⟨b, off + k * 11 + 2, none⟩ = some (.int .i64 z.call) := c2
        cases hd : decide (z.val = v) with
        | false =>
          have N := hid (HN.out.trans (ntd_no (acc := acc) (z := z) (v := v) (by rw [hu, hd]; rfl)))
          go_wp2
          go_roundw
          case rel => exact ⟨k + 1, _, by omega, by go_num, by rw [N.out], by rw [N.out], rfl⟩
          case measure => simp [intOf]; omega
        | true =>
          cases acc with
          | none =>
            have N := hid (HN.out.trans (ntd_new (z := z) (v := v) (by rw [hu, hd]; rfl)))
            simp only [fnd, lst, Option.isSome, Option.getD] at *
            go_wp2
            go_roundw
            case rel => exact ⟨k + 1, _, by omega, by go_num, by simp [N.out, fnd], by simp [N.out, lst], rfl⟩
            case measure => simp [intOf]; omega
          | some c =>
            cases hlc : decide (z.call < c) with
            | true =>
              have hlc' : z.call < c := of_decide_eq_true hlc
              have N := hid (HN.out.trans (ntd_lt (z := z) (v := v) (by rw [hu, hd]; rfl) hlc'))
              simp only [fnd, lst, Option.isSome, Option.getD] at *
              go_wp2
              go_roundw
              case rel => exact ⟨k + 1, _, by omega, by go_num, by simp [N.out, fnd], by simp [N.out, lst], rfl⟩
              case measure => simp [intOf]; omega
            | false =>
              have hlc' : ¬ z.call < c := of_decide_eq_false hlc
              have N := hid (HN.out.trans (ntd_ge (z := z) (v := v) (by rw [hu, hd]; rfl) hlc'))
              simp only [fnd, lst, Option.isSome, Option.getD] at *
              go_wp2
              go_roundw
              case rel => exact ⟨k + 1, _, by omega, by go_num, by simp [N.out, fnd], by simp [N.out, lst], rfl⟩
              case measure => simp [intOf]; omega
    · obtain rfl : k = L.length := by omega
      have N : Hid (L.take L.length = L) := by show _ = _; exact List.take_of_length_le (Nat.le_refl _)
      go_wp2
      go_ret2
      exact ⟨by rw [N.out]; rfl, _, rfl⟩
end Go.Proofs.Qxb6618167a.Hist
