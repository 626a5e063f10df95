import Derived.Test.Qxb6618167aP7
namespace Go.Proofs.Qxb6618167a.Hist
open Go.RowKit Go.PlainAid
attribute [local go_sem ↓] Go.wp_at_zero Go.wp_at_succ

def isOk (z : Zp) : Bool := z.status.toList == [111, 107]
def fe (es : List Ent) (v : List UInt8) : Option Int := (es.find? (fun e => decide (e.val = v))).map Ent.idx
def first (z : Zp) (v : List UInt8) : Option Int := if !isApp z && isOk z then fe z.ents v else none
theorem fe_no (es : List Ent) (v : List UInt8) (k : Nat) (h : k < es.length) (hn : decide (es[k].val = v) = false) (h0 : fe (es.take k) v = none) : fe (es.take (k + 1)) v = none := by
  simp only [fe, Option.map_eq_none_iff] at h0 ⊢
  rw [List.take_succ_eq_append_getElem h, List.find?_append, h0]
  simp [hn]
theorem fe_hit (es : List Ent) (v : List UInt8) (k : Nat) (h : k < es.length) (hn : decide (es[k].val = v) = true) (h0 : fe (es.take k) v = none) : fe es v = some es[k].idx := by
  simp only [fe, Option.map_eq_none_iff] at h0
  have e1 : es = es.take k ++ es[k] :: es.drop (k + 1) := by rw [← List.drop_eq_getElem_cons h, List.take_append_drop]
  have e2 : es.find? (fun e => decide (e.val = v)) = some es[k] := by
    have e3 := congrArg (fun l => l.find? (fun e => decide (e.val = v))) e1
    simp only [List.find?_append, h0] at e3
    rw [e3, Option.none_or]
    exact List.find?_cons_of_pos (p := fun e : Ent => decide (e.val = v)) hn
  rw [fe, e2]
  rfl

set_option maxHeartbeats 1000000 in
theorem holds_any (w : World) (R S : Nat → Prop) (b o : Nat) (z : Zp) (hsm : Small1 z) (hz : OpAt R w b o z) (vv : Value) (v : List UInt8) (hv : Byt S w vv v) :
    Calls Try.prog 31 #[.pointer (some ⟨b, o, none⟩), vv] w fun e w' => e = .returned (.bool (first z v).isSome) ∧ ∃ m, w' = w.drewN m := by
  obtain ⟨va, vc, ea, ec, c0, c1, c2, c3, c4, c5, c6, c7, c8, c9, c10, hB, hE⟩ := hz.cells
  have HE := hid hE
  have HV := hid hv
  obtain ⟨s1, s2, s3⟩ := hsm
  have H3 := hid s3
  clear hB hE hv hz s3 c0 c2 c3 c5 c6 c7 c8 c9
  go_enter Try.func31, Try.ntmps31
  cases k1 : (z.kind.toList == [97, 112, 112, 101, 110, 100])
  · cases k2 : (z.status.toList == [111, 107])
    · have N : Hid ((first z v).isSome = false) := by simp [Hid, first, isApp, isOk, k1, k2]
      go_wp2
      go_ret
      exact ⟨ret_bool N.out.symm, 0, rfl⟩
    · have N : Hid (first z v = fe z.ents v) := by simp [Hid, first, isApp, isOk, k1, k2]
      go_wp2
      go_loopw [5] (fun i wr => ∃ k m : Nat, k ≤ z.ents.length ∧ i = .int .i64 k ∧ Hid (fe (z.ents.take k) v = none) ∧ wr = w.drewN m) (fun i _ => z.ents.length - (intOf i).toNat)
      case atStart => exact ⟨0, 0, Nat.zero_le _, rfl, rfl, rfl⟩
      case round =>
        obtain ⟨k, m, hk, rfl, HK, rfl⟩ := hrel
        by_cases hlt : k < z.ents.length
        · obtain ⟨b1, off1, rfl, _, _, g⟩ := HE.out.at (by omega)
          obtain ⟨e1, va1, vc1, e2, hb1⟩ := g k hlt
          have HS : Hid (∀ n, Calls Try.prog 30 #[.slice va1 z.ents[k].val.length vc1, vv] (w.drewN n) fun e w' => e = .returned (.bool (decide (z.ents[k].val = v))) ∧ ∃ p, w' = (w.drewN n).drewN p) := fun n =>
            same_any (w.drewN n) _ _ z.ents[k].val v (H3.out _ (List.getElem_mem hlt)) R S (hb1.fr ((Fr.refl (fun _ => False) w).drewN n) (fun _ _ h => h)) (HV.out.fr ((Fr.refl (fun _ => False) w).drewN n) (fun _ _ h => h))
          have HN := hid (fe_no z.ents v k hlt)
          have HH := hid (fe_hit z.ents v k hlt)
          clear hb1 g e1
          generalize z.ents[k].val.length = ql at e2 HS
          go_wp2_with fail
          go_at_call 30
          refine (HS.out _).mono ?_
          rintro e w' ⟨rfl, m1, rfl⟩
          cases hd : decide (z.ents[k].val = v) with
          | false =>
            have N1 := hid (HN.out hd HK.out)
            go_wp2
            go_roundw
            case rel => exact ⟨k + 1, _, by omega, by go_num, N1, rfl⟩
            case measure => simp [intOf]; omega
          | true =>
            have N1 : Hid ((first z v).isSome = true) := by rw [N.out, HH.out hd HK.out]; rfl
            go_wp2
            go_ret
            exact ⟨ret_bool N1.out.symm, _, rfl⟩
        · obtain rfl : k = z.ents.length := by omega
          rw [List.take_of_length_le (Nat.le_refl _)] at HK
          have N1 : Hid ((first z v).isSome = false) := by rw [N.out, HK.out]; rfl
          go_wp2
          go_ret
          exact ⟨ret_bool N1.out.symm, _, rfl⟩
  · have N : Hid ((first z v).isSome = false) := by simp [Hid, first, isApp, k1]
    go_wp2
    go_ret
    exact ⟨ret_bool N.out.symm, 0, rfl⟩

/-! zzAppendsOf -/
def ap (v : List UInt8) (z : Zp) : Bool := isApp z && decide (z.val = v)
def appsOf (M : List Zp) (v : List UInt8) : Nat := M.countP (ap v)
theorem apps_step (L : List Zp) (v : List UInt8) (k : Nat) (h : k < L.length) : appsOf (L.take (k + 1)) v = appsOf (L.take k) v + if ap v L[k] then 1 else 0 := by
  rw [List.take_succ_eq_append_getElem h, appsOf, List.countP_append]; simp [appsOf]
theorem apps_le (M : List Zp) (v : List UInt8) : appsOf M v ≤ M.length := List.countP_le_length
set_option maxHeartbeats 1000000 in
theorem apps_any (w : World) (ao : Option Addr) (cap : Nat) (L : List Zp) (hl : L.length ≤ 4096) (hsm : ∀ z ∈ L, z.val.length ≤ 1048576) (Q R S : Nat → Prop) (hO : OpsAt Q R w ao L) (vv : Value) (v : List UInt8) (hv : Byt S w vv v) :
    Calls Try.prog 22 #[.slice ao L.length cap, vv] w fun e w' => e = .returned (.int .i64 (appsOf L v)) ∧ ∃ m, w' = w.drewN m := by
  have HSM := hid hsm
  have HO := hid hO
  have HV := hid hv
  clear hsm hO hv
  go_enter Try.func22, Try.ntmps22
  go_wp2
  go_loopw [5, 6] (fun f i wr => ∃ k m : Nat, k ≤ L.length ∧ i = .int .i64 k ∧ f = .int .i64 (appsOf (L.take k) v) ∧ wr = w.drewN m) (fun _ i _ => L.length - (intOf i).toNat)
  case atStart => exact ⟨0, 0, Nat.zero_le _, rfl, rfl, rfl⟩
  case round =>
    obtain ⟨k, m, hk, rfl, rfl, rfl⟩ := hrel
    by_cases hlt : k < L.length
    · have hle : appsOf (L.take k) v ≤ 4096 := Nat.le_trans (apps_le _ _) (by simp; omega)
      obtain ⟨b, off, rfl, _, hb, hc⟩ := HO.out (by omega)
      obtain ⟨va, vc, ea, ec, c0, c1, c2, _, c4, c5, _, _, _, _, c10, hB, _⟩ := (hc k hlt).cells
      have HS : Hid (∀ j, Calls Try.prog 30 #[.slice va L[k].val.length vc, vv] (w.drewN j) fun e w' => e = .returned (.bool (decide (L[k].val = v))) ∧ ∃ n, w' = (w.drewN j).drewN n) := fun j =>
        same_any (w.drewN j) _ vv L[k].val v (HSM.out _ (List.getElem_mem hlt)) R S (hB.fr ((Fr.refl (fun _ => False) w).drewN j) (fun _ _ h => h)) (HV.out.fr ((Fr.refl (fun _ => False) w).drewN j) (fun _ _ h => h))
      have HN := hid (apps_step L v k hlt)
      clear hc hB HSM HO HV c0 c2 c4 c10
      generalize L[k] = z at c1 c5 HS HN
      cases k1 : (z.kind.toList == [97, 112, 112, 101, 110, 100]) with
      | false =>
        have N : Hid (appsOf (L.take (k + 1)) v = appsOf (L.take k) v) := HN.out.trans (by simp [ap, isApp, k1])
        generalize appsOf (L.take k) v = ac at N hle ⊢
        go_wp2
        go_roundw
        case rel => exact ⟨k + 1, _, by omega, by go_num, by rw [N.out], rfl⟩
        case measure => simp [intOf]; omega
      | true =>
        go_wp2_with fail
        go_at_call 30
        refine (HS.out m).mono ?_
        rintro e w' ⟨rfl, m2, rfl⟩
        cases hd : decide (z.val = v) with
        | false =>
          have N : Hid (appsOf (L.take (k + 1)) v = appsOf (L.take k) v) := HN.out.trans (by simp only [ap, hd]; simp)
          generalize appsOf (L.take k) v = ac at N hle ⊢
          go_wp2
          go_roundw
          case rel => exact ⟨k + 1, _, by omega, by go_num, by rw [N.out], rfl⟩
          case measure => simp [intOf]; omega
        | true =>
          have N : Hid (appsOf (L.take (k + 1)) v = appsOf (L.take k) v + 1) := HN.out.trans (by simp only [ap, hd]; simp [isApp, k1])
          generalize appsOf (L.take k) v = ac at N hle ⊢
          go_wp2
          go_roundw
          case rel => exact ⟨k + 1, _, by omega, by go_num, by rw [N.out]; rfl, rfl⟩
          case measure => simp [intOf]; omega
    · obtain rfl : k = L.length := by omega
      have N : Hid (L.take L.length = L) := by show _ = _; exact List.take_of_length_le (Nat.le_refl _)
      go_wp2
      go_ret
      exact ⟨by rw [N.out]; rfl, _, rfl⟩
end Go.Proofs.Qxb6618167a.Hist
