import Derived.Test.Qxb6618167aPG
import Derived.Test.Qxb6618167aP8
import Derived.LaidEqlPtr
namespace Go.Proofs.Qxb6618167a.Hist
open Go.RowKit Go.PlainAid
attribute [local go_sem ↓] Go.wp_at_zero Go.wp_at_succ

def GotV (R : Nat → Prop) (w : World) (b o : Nat) (r : Option (Option Zp)) (gv : Value) : Prop := match r with
  | none => gv = .pointer none
  | some none => gv = .pointer (some ⟨b, o, none⟩)
  | some (some z') => ∃ g, gv = .pointer (some ⟨g, 0, none⟩) ∧ g ≠ b ∧ (∃ cs, w.heap[g]? = some (.cells cs 37 (0, 0))) ∧ OpAt R w g 0 z'
theorem GotV.drewN {R : Nat → Prop} {w : World} {b o : Nat} {r : Option (Option Zp)} {gv : Value} (h : GotV R w b o r gv) (n : Nat) : GotV R (w.drewN n) b o r gv := by
  cases r with
  | none => exact h
  | some y =>
    cases y with
    | none => exact h
    | some z' =>
      obtain ⟨g, h1, h2, h2', h3⟩ := h
      exact ⟨g, h1, h2, h2', h3.fr ((Fr.refl (fun _ => False) w).drewN n) (fun h => h) (fun _ _ h => h)⟩

theorem size30 : (Try.prog.info? 37).map (fun i => i.size) = some 11 := by kernel_rfl
theorem eq30 (w : World) (a : Addr) : (binOp .eql 30 (.pointer (some a)) (.pointer (some a))).run Try.prog w = .ok (.bool true) w := by
  obtain ⟨j, hj, _⟩ := Option.map_eq_some_iff.1 size30
  exact run_eql_ptr_same w a Try.underlying30 hj
theorem ne30_same (w : World) (a : Addr) : (binOp .neq 30 (.pointer (some a)) (.pointer (some a))).run Try.prog w = .ok (.bool false) w := by
  obtain ⟨j, hj, _⟩ := Option.map_eq_some_iff.1 size30
  have h : ∀ d : Nat, (Op.equalIn (d + 1) 30 (.pointer (some a)) (.pointer (some a))).run Try.prog w = .ok true w := fun d => by
    simp [Op.equalIn, run_underlying Try.underlying30, sizeOf, typeInfo, hj, run_sameAddr_same]
  simp only [binOp]
  simp [Op.equal, Op.maxDepth, h 9999]
theorem same_mixed (w : World) {g b o : Nat} {cg : Array Value} {tg : TypeId} {v : Value} (hne : g ≠ b) (hg : w.heap[g]? = some (.cells cg tg (0, 0))) (hb : w.cell? ⟨b, o, none⟩ = some v) : (sameAddr ⟨g, 0, none⟩ ⟨b, o, none⟩).run Try.prog w = .ok false w := by
  have hb' : ∃ cb tb lo hi, w.heap[b]? = some (.cells cb tb (lo, hi)) ∧ cb.size ≠ 0 := by
    unfold World.cell? at hb
    split at hb
    · rename_i c t fz he
      simp at hb
      obtain ⟨lo, hi⟩ := fz
      refine ⟨c, t, lo, hi, he, fun h0 => ?_⟩
      rw [Array.getElem?_eq_none (by omega)] at hb
      simp at hb
    · simp at hb
  obtain ⟨cb, tb, lo, hi, he, hsz⟩ := hb'
  cases hq : cb.size with
  | zero => exact absurd hq hsz
  | succ q => simp [sameAddr, hne, World.frozen?, hg, he, noView, viewAt, World.shape?, mayBeOne, stringish, hq]
theorem ne30_other (w : World) {g b o : Nat} {cg : Array Value} {tg : TypeId} {v : Value} (hne : g ≠ b) (hg : w.heap[g]? = some (.cells cg tg (0, 0))) (hb : w.cell? ⟨b, o, none⟩ = some v) : (binOp .neq 30 (.pointer (some ⟨g, 0, none⟩)) (.pointer (some ⟨b, o, none⟩))).run Try.prog w = .ok (.bool true) w := by
  obtain ⟨j, hj, hs⟩ := Option.map_eq_some_iff.1 size30
  have h : ∀ d : Nat, (Op.equalIn (d + 1) 30 (.pointer (some ⟨g, 0, none⟩)) (.pointer (some ⟨b, o, none⟩))).run Try.prog w = .ok false w := fun d => by
    simp [Op.equalIn, run_underlying Try.underlying30, sizeOf, typeInfo, hj, hs, same_mixed w hne hg hb]
  simp only [binOp]
  simp [Op.equal, Op.maxDepth, h 9999]

set_option maxRecDepth 100000 in
set_option maxHeartbeats 4000000 in
theorem allowed_any (w : World) (ao : Option Addr) (cap : Nat) (L : List Zp) (hl : L.length ≤ 4096) (hsm : ∀ z ∈ L, Small1 z) (Q R S : Nat → Prop) (hO : OpsAt Q R w ao L) (k : Nat) (hk : k < L.length) (st : St)
    (hst : st L[k].val = (noted L L[k].val).map (fun c => fateOf c (appsOf L L[k].val) (sight L L[k].val))) (b o : Nat) (hz : Value) (hhb : w.cell? ⟨b, o, none⟩ = some hz) (gv : Value) (hg : GotV S w b o (sett st L[k]) gv) :
    Calls Try.prog 13 #[.slice ao L.length cap, .int .i64 k, gv, .pointer (some ⟨b, o, none⟩)] w fun e w' => e = .returned (.bool true) ∧ ∃ m, w' = w.drewN m := by
  have hsm1 : ∀ z ∈ L, z.val.length ≤ 1048576 := fun z hz => (hsm z hz).1
  have hO2 := hO
  obtain ⟨b1, off, rfl, _, _, hc⟩ := hO (by omega)
  obtain ⟨va, vc, ea, ec, d0, d1, d2, d3, d4, d5, d6, d7, d8, d9, d10, hB, _⟩ := (hc k hk).cells
  have fr : ∀ n, Fr (fun _ => False) w (w.drewN n) := fun n => (Fr.refl (fun _ => False) w).drewN n
  have C17 : Hid (∀ n, Calls Try.prog 17 #[.slice (some ⟨b1, off, none⟩) L.length cap, .slice va L[k].val.length vc] (w.drewN n) fun e w' => e = .returned (.tuple #[fnd (noted L L[k].val), lst (noted L L[k].val)]) ∧ ∃ m, w' = (w.drewN n).drewN m) := fun n =>
    noted_any (w.drewN n) _ cap L hl hsm1 _ _ _ (hO2.fr (fr n) (fun _ _ h => h) (fun _ _ h => h)) _ L[k].val (hB.fr (fr n) (fun _ _ h => h))
  have C21 : Hid (∀ n, Calls Try.prog 21 #[.slice (some ⟨b1, off, none⟩) L.length cap, .slice va L[k].val.length vc] (w.drewN n) fun e w' => e = .returned (.tuple #[sgF (sight L L[k].val), sgI (sight L L[k].val), sgR (sight L L[k].val)]) ∧ ∃ m, w' = (w.drewN n).drewN m) := fun n =>
    firstSight_any (w.drewN n) _ cap L hl hsm _ _ _ (hO2.fr (fr n) (fun _ _ h => h) (fun _ _ h => h)) _ L[k].val (hB.fr (fr n) (fun _ _ h => h))
  have C22 : Hid (∀ n, Calls Try.prog 22 #[.slice (some ⟨b1, off, none⟩) L.length cap, .slice va L[k].val.length vc] (w.drewN n) fun e w' => e = .returned (.int .i64 (appsOf L L[k].val)) ∧ ∃ m, w' = (w.drewN n).drewN m) := fun n =>
    apps_any (w.drewN n) _ cap L hl hsm1 _ _ _ (hO2.fr (fr n) (fun _ _ h => h) (fun _ _ h => h)) _ L[k].val (hB.fr (fr n) (fun _ _ h => h))
  have C28 : Hid (∀ n g ix rt, OpAt S w g 0 { L[k] with status := okS, index := ix, ret := rt } → Calls Try.prog 28 #[.pointer (some ⟨g, 0, none⟩), .pointer (some ⟨b1, off + k * 11, none⟩), .string ⟨#[111, 107]⟩, .int .u64 ix, .int .i64 rt] (w.drewN n) fun e w' => e = .returned (.bool true) ∧ ∃ m, w' = (w.drewN n).drewN m) := fun n g ix rt h =>
    reads_any (w.drewN n) S R g 0 b1 (off + k * 11) L[k] okS ix rt (hsm _ (List.getElem_mem hk)) (h.fr (fr n) (fun h => h) (fun _ _ h => h)) ((hc k hk).fr (fr n) (fun h => h) (fun _ _ h => h))
  have hap : appsOf L L[k].val ≤ 4096 := Nat.le_trans (apps_le _ _) hl
  have q30 := eq30
  have HHB := hid hhb
  clear hhb
  have HG := hid hg
  have HST := hid hst
  clear hc hB hO hO2 fr hsm hsm1 hg hst d0 d1 d3 d6 d7 d8 d9 d10
  generalize noted L L[k].val = nt at C17 HST
  generalize sight L L[k].val = sn at C21 HST
  generalize appsOf L L[k].val = na at C22 HST hap
  generalize L[k] = z at *
  go_enter Try.func13, Try.ntmps13
  cases k1 : (z.status.toList == [102, 97, 105, 108]) with
  | true =>
    have e : sett st z = none := by simp only [sett, k1]; rfl
    have hgv : gv = .pointer none := by have h := HG.out; rw [e] at h; exact h
    subst hgv
    clear e HG HST
    go_wp2
    go_ret
    exact ⟨rfl, 0, rfl⟩
  | false =>
    cases k2 : (z.status.toList == [117, 110, 107, 110, 111, 119, 110]) with
    | false =>
      have e : sett st z = some none := by simp only [sett, k1, k2]; rfl
      have hgv : gv = .pointer (some ⟨b, o, none⟩) := by have h := HG.out; rw [e] at h; exact h
      subst hgv
      clear e HG HST
      go_wp2
      go_ret
      exact ⟨by simp, 0, rfl⟩
    | true =>
      cases nt with
      | none =>
        have e : sett st z = some none := by simp only [sett, k1, k2, HST.out]; rfl
        have hgv : gv = .pointer (some ⟨b, o, none⟩) := by have h := HG.out; rw [e] at h; exact h
        subst hgv
        clear e HG HST
        simp only [fnd, lst, Option.isSome, Option.getD] at C17
        go_wp2_with fail
        go_at_call 17
        refine (C17.out 0).mono ?_
        rintro e w' ⟨rfl, m1, rfl⟩
        go_wp2
        go_ret
        exact ⟨by simp, _, rfl⟩
      | some c =>
        simp only [fnd, lst, Option.isSome, Option.getD] at C17
        by_cases k3 : (na : Int) > 1
        · have e : sett st z = some none := by simp only [sett, k1, k2, HST.out, fateOf, Option.map, k3]; rfl
          have hgv : gv = .pointer (some ⟨b, o, none⟩) := by have h := HG.out; rw [e] at h; exact h
          subst hgv
          clear e HG HST
          go_wp2_with fail
          go_at_call 17
          refine (C17.out 0).mono ?_
          rintro e w' ⟨rfl, m1, rfl⟩
          go_wp2_with fail
          go_at_call 22
          refine (C22.out _).mono ?_
          rintro e w' ⟨rfl, m2, rfl⟩
          go_wp2
          go_ret
          exact ⟨by simp, _, rfl⟩
        · cases sn with
          | none =>
            have e : sett st z = none := by simp only [sett, k1, k2, HST.out, fateOf, Option.map, k3]; rfl
            have hgv : gv = .pointer none := by have h := HG.out; rw [e] at h; exact h
            subst hgv
            clear e HG HST
            simp only [sgF, sgI, sgR, Option.isSome, Option.getD, Option.map] at C21
            go_wp2_with fail
            go_at_call 17
            refine (C17.out 0).mono ?_
            rintro e w' ⟨rfl, m1, rfl⟩
            go_wp2_with fail
            go_at_call 22
            refine (C22.out _).mono ?_
            rintro e w' ⟨rfl, m2, rfl⟩
            go_wp2_with fail
            go_at_call 21
            refine (C21.out _).mono ?_
            rintro e w' ⟨rfl, m3, rfl⟩
            go_wp2
            go_ret
            exact ⟨rfl, _, rfl⟩
          | some p =>
            obtain ⟨r, i⟩ := p
            have e : sett st z = some (some { z with status := okS, index := i, ret := if r < z.call then z.call else r }) := by simp only [sett, k1, k2, HST.out, fateOf, Option.map, k3]; rfl
            have hgv : ∃ g, gv = .pointer (some ⟨g, 0, none⟩) ∧ g ≠ b ∧ (∃ cs, w.heap[g]? = some (.cells cs 37 (0, 0))) ∧ OpAt S w g 0 { z with status := okS, index := i, ret := if r < z.call then z.call else r } := by have h := HG.out; rw [e] at h; exact h
            obtain ⟨g, rfl, hgb, ⟨cs, hcs⟩, hop⟩ := hgv
            have n30 : ∀ n, (binOp .neq 30 (.pointer (some ⟨g, 0, none⟩)) (.pointer (some ⟨b, o, none⟩))).run Try.prog (w.drewN n) = .ok (.bool true) (w.drewN n) := fun n => ne30_other (w.drewN n) hgb hcs HHB.out
            clear hcs
            have HR := hid (fun n => C28.out n g i _ hop)
            clear e HG HST C28 hop
            simp only [sgF, sgI, sgR, Option.isSome, Option.getD, Option.map] at C21
            go_wp2_with fail
            go_at_call 17
            refine (C17.out 0).mono ?_
            rintro e w' ⟨rfl, m1, rfl⟩
            go_wp2_with fail
            go_at_call 22
            refine (C22.out _).mono ?_
            rintro e w' ⟨rfl, m2, rfl⟩
            go_wp2_with fail
            go_at_call 21
            refine (C21.out _).mono ?_
            rintro e w' ⟨rfl, m3, rfl⟩
            by_cases hrc : r < z.call
            · rw [if_pos hrc] at HR
              go_wp2_with fail
              go_at_call 28
              refine (HR.out _).mono ?_
              rintro e w' ⟨rfl, m4, rfl⟩
              go_wp2
              go_ret
              exact ⟨rfl, _, rfl⟩
            · rw [if_neg hrc] at HR
              go_wp2_with fail
              go_at_call 28
              refine (HR.out _).mono ?_
              rintro e w' ⟨rfl, m4, rfl⟩
              go_wp2
              go_ret
              exact ⟨rfl, _, rfl⟩
end Go.Proofs.Qxb6618167a.Hist
