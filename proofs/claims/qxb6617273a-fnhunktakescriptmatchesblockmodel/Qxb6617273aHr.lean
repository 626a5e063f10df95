import Derived.Test.Qxb6617273aHq
import Derived.BigQuiet
import Derived.Deep.QuietTactic
namespace Go.Proofs.Qxb6617273a.Hunk
open Go.RowKit Go.PlainAid Go.Proofs.Qxb6617273a.QLen
attribute [local go_sem ↓] Go.wp_at_zero Go.wp_at_succ

theorem Fr.drewN {S : Nat → Prop} {a w : World} (h : Fr S a w) (n : Nat) : Fr S a (w.drewN n) := ⟨h.os, h.tape, h.output, h.size, h.block⟩

set_option maxHeartbeats 1000000 in
theorem fields_any (w : World) (hb : Nat) (line old new ol nl next : Int) (hdr : ByteArray) (d a : Bool)
    (hH : w.heap[hb]? = some (.cells #[.int .i64 line, .string hdr, .int .i64 old, .int .i64 new, .int .i64 ol, .int .i64 nl, .int .i64 next, .bool d, .bool a] 50 (0, 0))) :
    Calls Try.prog 18 #[.pointer (some ⟨hb, 0, none⟩)] w fun e w' => e = .returned (.tuple #[.int .i64 line, .string hdr, .int .i64 old, .int .i64 new, .int .i64 ol, .int .i64 nl, .int .i64 next, .bool d, .bool a]) ∧ ∃ n, w' = w.drewN n := by
  have c0 : w.cell? ⟨hb, 0, none⟩ = some (.int .i64 line) := blk_cell hH 0
  have c1 : w.cell? ⟨hb, 1, none⟩ = some (.string hdr) := blk_cell hH 1
  have c2 : w.cell? ⟨hb, 2, none⟩ = some (.int .i64 old) := blk_cell hH 2
  have c3 : w.cell? ⟨hb, 3, none⟩ = some (.int .i64 new) := blk_cell hH 3
  have c4 : w.cell? ⟨hb, 4, none⟩ = some (.int .i64 ol) := blk_cell hH 4
  have c5 : w.cell? ⟨hb, 5, none⟩ = some (.int .i64 nl) := blk_cell hH 5
  have c6 : w.cell? ⟨hb, 6, none⟩ = some (.int .i64 next) := blk_cell hH 6
  have c7 : w.cell? ⟨hb, 7, none⟩ = some (.bool d) := blk_cell hH 7
  have c8 : w.cell? ⟨hb, 8, none⟩ = some (.bool a) := blk_cell hH 8
  clear hH
  go_enter Try.func18, Try.ntmps18
  go_wp2
  go_quiet (fail)
  go_wp2
  refine bodyPost_ret (v := .tuple #[.int .i64 line, .string hdr, .int .i64 old, .int .i64 new, .int .i64 ol, .int .i64 nl, .int .i64 next, .bool d, .bool a]) (by simp [results, Try.results18, go_sem]) rfl ?_
  exact ⟨rfl, _, rfl⟩

/-! zzSameInt64s, at equal rows -/
set_option maxHeartbeats 1000000 in
theorem same64_any (w : World) (va vb : Option Addr) (ca cb : Nat) (Z : List Int) (hz : Z.length ≤ 1000000)
    (ha : w.ownsRow 0 2 1 (.slice va Z.length ca) Z.length (NX Z)) (hb : w.ownsRow 0 2 1 (.slice vb Z.length cb) Z.length (NX Z)) :
    Calls Try.prog 21 #[.slice va Z.length ca, .slice vb Z.length cb] w fun e w' => e = .returned (.bool true) ∧ ∃ n, w' = w.drewN n := by
  have HA := hid ha
  have HB := hid hb
  clear ha hb
  go_enter Try.func21, Try.ntmps21
  go_wp2
  go_loopw [5] (fun i wr => ∃ k n : Nat, k ≤ Z.length ∧ i = .int .i64 k ∧ wr = w.drewN n) (fun i _ => Z.length - (intOf i).toNat)
  case atStart => exact ⟨0, 0, Nat.zero_le _, rfl, rfl⟩
  case round =>
    obtain ⟨k, n, hk, rfl, rfl⟩ := hrel
    by_cases hlt : k < Z.length
    · obtain ⟨g, cap, hva, _, hg⟩ := HA.out.form (by omega)
      obtain ⟨g', cap', hvb, _, hg'⟩ := HB.out.form (by omega)
      simp only [Value.slice.injEq, true_and] at hva hvb
      obtain ⟨rfl, rfl⟩ := hva
      obtain ⟨rfl, rfl⟩ := hvb
      have c1 : w.cell? ⟨g, k, none⟩ = some (.int .i64 Z[k]) := by
        rw [HA.out.cellAt k (by omega)]; simp [NX, hlt]
      have c2 : w.cell? ⟨g', k, none⟩ = some (.int .i64 Z[k]) := by
        rw [HB.out.cellAt k (by omega)]; simp [NX, hlt]
      go_wp2
      go_quiet (fail)
      go_wp2
      go_roundw
      case rel => exact ⟨k + 1, _, by omega, by go_num, rfl⟩
      case measure => simp [intOf]; omega
    · go_wp2
      go_ret
      exact ⟨rfl, _, rfl⟩

set_option maxHeartbeats 1000000 in
theorem sameSpans_any (w : World) (va vb : Option Addr) (ca cb : Nat) (Z : List (Int × Int)) (hz : Z.length ≤ 1000000)
    (ha : w.ownsRow 0 36 2 (.slice va Z.length ca) Z.length (PX Z)) (hb : w.ownsRow 0 36 2 (.slice vb Z.length cb) Z.length (PX Z)) :
    Calls Try.prog 20 #[.slice va Z.length ca, .slice vb Z.length cb] w fun e w' => e = .returned (.bool true) ∧ ∃ n, w' = w.drewN n := by
  have HA := hid ha
  have HB := hid hb
  clear ha hb
  go_enter Try.func20, Try.ntmps20
  go_wp2
  go_loopw [5] (fun i wr => ∃ k n : Nat, k ≤ Z.length ∧ i = .int .i64 k ∧ wr = w.drewN n) (fun i _ => Z.length - (intOf i).toNat)
  case atStart => exact ⟨0, 0, Nat.zero_le _, rfl, rfl⟩
  case round =>
    obtain ⟨k, n, hk, rfl, rfl⟩ := hrel
    by_cases hlt : k < Z.length
    · obtain ⟨g, cap, hva, _, hg⟩ := HA.out.form (by omega)
      obtain ⟨g', cap', hvb, _, hg'⟩ := HB.out.form (by omega)
      simp only [Value.slice.injEq, true_and] at hva hvb
      obtain ⟨rfl, rfl⟩ := hva
      obtain ⟨rfl, rfl⟩ := hvb
      have c1 : w.cell? ⟨g, k * 2, none⟩ = some (.int .i64 Z[k].1) := row_get0 HA.out rfl k hlt
      have c2 : w.cell? ⟨g', k * 2, none⟩ = some (.int .i64 Z[k].1) := row_get0 HB.out rfl k hlt
      have c3 : w.cell? ⟨g, k * 2 + 1, none⟩ = some (.int .i64 Z[k].2) := row_get1 HA.out rfl k hlt
      have c4 : w.cell? ⟨g', k * 2 + 1, none⟩ = some (.int .i64 Z[k].2) := row_get1 HB.out rfl k hlt
      generalize Z[k].1 = x at c1 c2
      generalize Z[k].2 = y at c3 c4
      go_wp2
      go_quiet (fail)
      go_wp2
      go_roundw
      case rel => exact ⟨k + 1, _, by omega, by go_num, rfl⟩
      case measure => simp [intOf]; omega
    · go_wp2
      go_ret
      exact ⟨rfl, _, rfl⟩

def FF (whole : Bool) (A : List (Int × Int)) (vC : Value) (w : World) (e : Ending) (w' : World) : Prop :=
  ∃ ao cap, e = .returned (.tuple #[.bool whole, .slice ao A.length cap, vC]) ∧ w'.ownsRow 0 36 2 (.slice ao A.length cap) A.length (PX A) ∧ Fr (fun _ => False) w w'

set_option maxHeartbeats 1000000 in
theorem fileFields_none (w : World) (fb : Nat) (whole : Bool) (co : Option Addr) (cn cc : Nat)
    (hF : w.heap[fb]? = some (.cells #[.bool whole, .slice none 0 0, .slice co cn cc] 55 (0, 0))) :
    Calls Try.prog 19 #[.pointer (some ⟨fb, 0, none⟩)] w fun e w' => FF whole [] (.slice co cn cc) w e w' := by
  have q51 := neq51
  have c0 : w.cell? ⟨fb, 0, none⟩ = some (.bool whole) := blk_cell hF 0
  have c1 : w.cell? ⟨fb, 1, none⟩ = some (.slice none 0 0) := blk_cell hF 1
  have c2 : w.cell? ⟨fb, 2, none⟩ = some (.slice co cn cc) := blk_cell hF 2
  clear hF
  go_enter Try.func19, Try.ntmps19
  go_wp2
  go_quiet (fail)
  go_wp2
  go_ret3
  exact ⟨_, _, rfl, World.ownsRow_nil _ _ _ _, (Fr.refl _ _).drewN _⟩
set_option maxHeartbeats 1000000 in
theorem fileFields_some (w : World) (fb g cap : Nat) (whole : Bool) (co : Option Addr) (cn cc : Nat) (Z : List (Int × Int)) (hb : Z.length ≤ 1000000)
    (hF : w.heap[fb]? = some (.cells #[.bool whole, .slice (some ⟨g, 0, none⟩) Z.length cap, .slice co cn cc] 55 (0, 0))) (hA : w.ownsRow 0 53 2 (.slice (some ⟨g, 0, none⟩) Z.length cap) Z.length (PX Z)) :
    Calls Try.prog 19 #[.pointer (some ⟨fb, 0, none⟩)] w fun e w' => FF whole Z (.slice co cn cc) w e w' := by
  have q51 := neq51
  have HFF := hid hF
  have HO := hid hA
  have hltf := lt_of_block hF
  have c1 : w.cell? ⟨fb, 1, none⟩ = some (.slice (some ⟨g, 0, none⟩) Z.length cap) := blk_cell hF 1
  clear hF hA
  go_enter Try.func19, Try.ntmps19
  go_wp2_with (at_make; refine wpList_mk Try.underlying29 info36 _ _ rfl rfl _ _ rfl rfl Z.length Z.length (by omega) (by omega) (Nat.le_refl _) (by omega) (by decide) ?_)
  intro w1 hg hf hz
  have HF := hid hf
  have H0 := hid (row_new Z hb hg)
  clear hg hf hz q51 c1
  go_wp2
  go_loopw [6] (fun i wr => ∃ k : Nat, k ≤ Z.length ∧ i = .int .i64 k ∧ Hid (wr.ownsRow 0 36 2 (.slice (some ⟨w.heap.size, 0, none⟩) Z.length Z.length) Z.length (PX (upto Z (0, 0) k))) ∧ Hid (Fr (fun _ => False) w wr)) (fun i _ => Z.length - (intOf i).toNat)
  case atStart => exact ⟨0, Nat.zero_le _, rfl, H0, HF⟩
  case round =>
    clear HF H0
    obtain ⟨k, hk, rfl, HR, HFR⟩ := hrel
    have hFr : wr.heap[fb]? = some (.cells #[.bool whole, .slice (some ⟨g, 0, none⟩) Z.length cap, .slice co cn cc] 55 (0, 0)) := by
      rw [HFR.out.block fb hltf (fun h => h)]; exact HFF.out
    have e0 : wr.cell? ⟨fb, 0, none⟩ = some (.bool whole) := blk_cell hFr 0
    have e1 : wr.cell? ⟨fb, 1, none⟩ = some (.slice (some ⟨g, 0, none⟩) Z.length cap) := blk_cell hFr 1
    have e2 : wr.cell? ⟨fb, 2, none⟩ = some (.slice co cn cc) := blk_cell hFr 2
    clear hFr
    by_cases hlt2 : k < Z.length
    · have HOr := HFR.out.own HO.out (fun _ _ h => h)
      have c1 : wr.cell? ⟨g, k * 2, none⟩ = some (.int .i64 Z[k].1) := row_get0 HOr rfl k hlt2
      have c2 : wr.cell? ⟨g, k * 2 + 1, none⟩ = some (.int .i64 Z[k].2) := row_get1 HOr rfl k hlt2
      have d1 : ∃ x, wr.cell? ⟨w.heap.size, k * 2, none⟩ = some (.int .i64 x) := ⟨_, row_get0 HR.out (upto_len _ _ _) k (by rw [upto_len]; exact hlt2)⟩
      have d2 : ∃ x, wr.cell? ⟨w.heap.size, k * 2 + 1, none⟩ = some (.int .i64 x) := ⟨_, row_get1 HR.out (upto_len _ _ _) k (by rw [upto_len]; exact hlt2)⟩
      obtain ⟨x1, d1⟩ := d1
      obtain ⟨x2, d2⟩ := d2
      have f1 : wr.frozen? ⟨w.heap.size, k * 2, none⟩ = false := HR.out.frozenAt _
      have f2 : wr.frozen? ⟨w.heap.size, k * 2 + 1, none⟩ = false := HR.out.frozenAt _
      have N1 := hid (row_next k hlt2 HR.out)
      have N2 := hid (((HFR.out.setNew (p := ⟨w.heap.size, k * 2, none⟩) (Nat.le_refl _) (.int .i64 Z[k].1)).setNew (p := ⟨w.heap.size, k * 2 + 1, none⟩) (Nat.le_refl _) (.int .i64 Z[k].2)).drew)
      clear HOr HO HR HFR HFF
      go_wp2
      go_region
      go_wp2
      go_roundw
      case rel => exact ⟨k + 1, by omega, by go_num, N1.out, N2⟩
      case measure => simp [intOf]; omega
    · obtain rfl : k = Z.length := by omega
      rw [upto_all] at HR
      go_wp2
      go_quiet (fail)
      go_wp2
      go_ret3
      exact ⟨_, _, rfl, HR.out, HFR.out.drewN _⟩
theorem fileFields_any (w : World) (fb : Nat) (whole : Bool) (vA : Value) (co : Option Addr) (cn cc : Nat) (Z : List (Int × Int)) (hb : Z.length ≤ 1000000)
    (hF : w.heap[fb]? = some (.cells #[.bool whole, vA, .slice co cn cc] 55 (0, 0))) (hA : w.ownsRow 0 53 2 vA Z.length (PX Z)) :
    Calls Try.prog 19 #[.pointer (some ⟨fb, 0, none⟩)] w fun e w' => FF whole Z (.slice co cn cc) w e w' := by
  have hA' := hA
  rcases hA.2 with ⟨rfl, h0⟩ | ⟨g, cap, cur, rfl, _⟩
  · obtain rfl : Z = [] := List.eq_nil_of_length_eq_zero h0
    exact fileFields_none w fb whole co cn cc hF
  · exact fileFields_some w fb g cap whole co cn cc Z hb hF hA'
end Go.Proofs.Qxb6617273a.Hunk
