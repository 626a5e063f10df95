import Derived.Test.Qxb6618167aP0
namespace Go.Proofs.Qxb6618167a.Hist
open Go.RowKit Go.PlainAid
attribute [local go_sem ↓] Go.wp_at_zero Go.wp_at_succ

theorem Fr.drewN {S : Nat → Prop} {a w : World} (h : Fr S a w) (n : Nat) : Fr S a (w.drewN n) := ⟨h.os, h.tape, h.output, h.size, h.block⟩

/-! zzBytes: a copy of a slice of bytes -/
theorem brow_new {w : World} {g : Nat} (l : List UInt8) (hb : l.length ≤ 1048576) (hg : w.heap[g]? = some (.cells (madeCells #[Value.int .u8 0] l.length) 5 (0, 0))) :
    w.ownsRow 0 5 1 (.slice (some ⟨g, 0, none⟩) l.length l.length) l.length (UX (upto l 0 0)) := by
  refine own_of_block hg (by rw [size_made]; omega) (Nat.le_refl _) (by omega) ?_
  rw [upto_zero, made_one, List.take_of_length_le (by simp)]
  apply List.ext_getElem
  · simp [UX]
  · intro i h1 h2; simp [UX, U]
theorem brow_next {w : World} {g n cap : Nat} {l : List UInt8} (k : Nat) (hk : k < l.length) (h : w.ownsRow 0 5 1 (.slice (some ⟨g, 0, none⟩) n cap) n (UX (upto l 0 k))) :
    (w.setCell ⟨g, k, none⟩ (.int .u8 (l[k].toNat : Int))).ownsRow 0 5 1 (.slice (some ⟨g, 0, none⟩) n cap) n (UX (upto l 0 (k + 1))) := by
  have := (h.stored k (.int .u8 (l[k].toNat : Int))).1
  rw [← upto_set l 0 k hk]
  unfold UX at *
  rwa [List.map_set]
theorem byt_row {w : World} {g : Nat} {l : List UInt8} (h : w.ownsRow 0 5 1 (.slice (some ⟨g, 0, none⟩) l.length l.length) l.length (UX l)) (R : Nat → Prop) (hR : R g) : Byt R w (.slice (some ⟨g, 0, none⟩) l.length l.length) l :=
  ⟨_, _, rfl, fun h => by simp at h, fun h0 => ⟨g, 0, rfl, hR, (h.lt g rfl).2, fun i hi => by rw [Nat.zero_add, h.cellAt i (by omega), UX_get l i hi]⟩⟩

/-- what zzBytes leaves -/
def Copied (l : List UInt8) (w : World) (e : Ending) (w' : World) : Prop := ∃ ao cap, e = .returned (.slice ao l.length cap) ∧ Byt (fun b => w.heap.size ≤ b) w' (.slice ao l.length cap) l ∧ Fr (fun _ => False) w w'

set_option maxHeartbeats 1000000 in
theorem bytes_some (w : World) (ad : Addr) (cap : Nat) (l : List UInt8) (hb : l.length ≤ 1048576) (R : Nat → Prop) (hv : Byt R w (.slice (some ad) l.length cap) l) :
    Calls Try.prog 24 #[.slice (some ad) l.length cap] w fun e w' => Copied l w e w' := by
  have HV := hid hv
  clear hv
  have q33 := eql33
  go_enter Try.func24, Try.ntmps24
  go_wp2_with (at_make; refine wpList_mk Try.underlying33 info5 _ _ rfl rfl _ _ rfl rfl l.length l.length (by omega) (by omega) (Nat.le_refl _) (by omega) (by decide) ?_)
  intro w1 hg hf hz
  have HF := hid hf
  have H0 := hid (brow_new l hb hg)
  clear hg hf hz q33
  go_wp2
  go_loopw [4] (fun i wr => ∃ k : Nat, k ≤ l.length ∧ i = .int .i64 k ∧ Hid (wr.ownsRow 0 5 1 (.slice (some ⟨w.heap.size, 0, none⟩) l.length l.length) l.length (UX (upto l 0 k))) ∧ Hid (Fr (fun _ => False) w wr)) (fun i _ => l.length - (intOf i).toNat)
  case atStart => exact ⟨0, Nat.zero_le _, rfl, H0, HF⟩
  case round =>
    clear HF H0
    obtain ⟨k, hk, rfl, HR, HFR⟩ := hrel
    by_cases hlt : k < l.length
    · obtain ⟨ao', cap', e1, _, e3⟩ := HV.out
      obtain ⟨b, off, e4, _, _, e5⟩ := e3 (by omega)
      simp only [Value.slice.injEq, true_and] at e1
      obtain ⟨rfl, rfl⟩ := e1
      simp only [Option.some.injEq] at e4
      subst e4
      have c1 : wr.cell? ⟨b, off + k, none⟩ = some (.int .u8 (l[k].toNat : Int)) := HFR.out.cell (fun h => h) (e5 k hlt)
      have d1 : ∃ x, wr.cell? ⟨w.heap.size, k, none⟩ = some (.int .u8 x) := ⟨_, by rw [HR.out.cellAt k (by omega), UX_get _ _ (by rw [upto_len]; exact hlt)]⟩
      obtain ⟨x1, d1⟩ := d1
      have f1 : wr.frozen? ⟨w.heap.size, k, none⟩ = false := HR.out.frozenAt _
      have N1 := hid (brow_next k hlt HR.out)
      have N2 := hid (HFR.out.setNew (p := ⟨w.heap.size, k, none⟩) (Nat.le_refl _) (.int .u8 (l[k].toNat : Int)))
      clear e3 e5 HR HFR HV
      generalize (l[k].toNat : Int) = c at c1 N1 N2
      go_wp2
      go_roundw
      case rel => exact ⟨k + 1, by omega, by go_num, N1, N2⟩
      case measure => simp [intOf]; omega
    · obtain rfl : k = l.length := by omega
      rw [upto_all] at HR
      have N1 : Hid (Copied l w (.returned (.slice (some ⟨w.heap.size, 0, none⟩) l.length l.length)) wr) := ⟨_, _, rfl, byt_row HR.out _ (Nat.le_refl _), HFR.out⟩
      clear HR HFR HV
      go_wp2
      go_ret
      exact N1.out
set_option maxHeartbeats 400000 in
theorem bytes_none (w : World) : Calls Try.prog 24 #[.slice none 0 0] w fun e w' => Copied [] w e w' := by
  have q33 := eql33
  have N1 : Hid (Copied [] w (.returned (.slice none 0 0)) w) := ⟨_, _, rfl, ⟨_, _, rfl, fun _ => ⟨rfl, rfl⟩, fun h => by simp at h⟩, Fr.refl _ _⟩
  go_enter Try.func24, Try.ntmps24
  go_wp2
  go_ret
  exact N1.out
theorem bytes_any (w : World) (v : Value) (l : List UInt8) (hb : l.length ≤ 1048576) (R : Nat → Prop) (hv : Byt R w v l) : Calls Try.prog 24 #[v] w fun e w' => Copied l w e w' := by
  have hv' := hv
  obtain ⟨ao, cap, rfl, h2, _⟩ := hv
  cases ao with
  | none => obtain ⟨rfl, rfl⟩ := h2 rfl; exact bytes_none w
  | some ad => exact bytes_some w ad cap l hb R hv'

/-! zzSameBytes -/
set_option maxHeartbeats 1000000 in
theorem same_len (w : World) (va vb : Option Addr) (ca cb : Nat) (la lb : List UInt8) (hl : la.length = lb.length) (hb : la.length ≤ 1048576) (R Q : Nat → Prop) (ha : Byt R w (.slice va la.length ca) la) (hbb : Byt Q w (.slice vb lb.length cb) lb) :
    Calls Try.prog 30 #[.slice va la.length ca, .slice vb la.length cb] w fun e w' => e = .returned (.bool (decide (la = lb))) ∧ ∃ n, w' = w.drewN n := by
  have HA := hid ha
  have HB := hid hbb
  have HL := hid hl
  clear ha hbb hl
  go_enter Try.func30, Try.ntmps30
  go_wp2
  go_loopw [5] (fun i wr => ∃ k n : Nat, k ≤ la.length ∧ i = .int .i64 k ∧ wr = w.drewN n ∧ Hid (la.take k = lb.take k)) (fun i _ => la.length - (intOf i).toNat)
  case atStart => exact ⟨0, 0, Nat.zero_le _, rfl, rfl, rfl⟩
  case round =>
    obtain ⟨k, n, hk, rfl, rfl, HT⟩ := hrel
    by_cases hlt : k < la.length
    · have hlt2 : k < lb.length := by rw [← HL.out]; exact hlt
      obtain ⟨_, _, e1, _, e3⟩ := HA.out
      obtain ⟨b, off, e4, _, _, e5⟩ := e3 (by omega)
      simp only [Value.slice.injEq, true_and] at e1
      obtain ⟨rfl, rfl⟩ := e1
      subst e4
      obtain ⟨_, _, g1, _, g3⟩ := HB.out
      obtain ⟨b', off', g4, _, _, g5⟩ := g3 (by omega)
      simp only [Value.slice.injEq, true_and] at g1
      obtain ⟨rfl, rfl⟩ := g1
      subst g4
      have c1 : w.cell? ⟨b, off + k, none⟩ = some (.int .u8 (la[k].toNat : Int)) := e5 k hlt
      have c2 : w.cell? ⟨b', off' + k, none⟩ = some (.int .u8 (lb[k].toNat : Int)) := g5 k hlt2
      have HE : Hid (la[k] = lb[k] ↔ (la[k].toNat : Int) = (lb[k].toNat : Int)) := by
        show _ ↔ _
        rw [← UInt8.toNat_inj]; omega
      have HT2 : Hid (la[k] = lb[k] → la.take (k + 1) = lb.take (k + 1)) := fun h => by
        rw [List.take_succ_eq_append_getElem hlt, List.take_succ_eq_append_getElem hlt2, HT.out, h]
      have HN : Hid (¬ la[k] = lb[k] → decide (la = lb) = false) := fun h => by
        apply decide_eq_false; rintro rfl; exact h rfl
      clear e3 e5 g3 g5 HA HB HL HT
      by_cases heq : la[k] = lb[k]
      · have h1 := HE.out.1 heq
        have HT3 : Hid (la.take (k + 1) = lb.take (k + 1)) := HT2.out heq
        rw [← h1] at c2
        clear h1 heq HE HT2 HN
        generalize (la[k].toNat : Int) = x at c1 c2
        go_wp2
        go_quiet (fail)
        go_wp2
        go_roundw
        case rel => exact ⟨k + 1, _, by omega, by go_num, rfl, HT3⟩
        case measure => simp [intOf]; omega
      · have h1 : ((la[k].toNat : Int) != (lb[k].toNat : Int)) = true := by
          rw [bne_iff_ne]; exact fun h => heq (HE.out.2 h)
        have HN2 : Hid (decide (la = lb) = false) := HN.out heq
        clear heq HE HT2 HN
        generalize (la[k].toNat : Int) = x at c1 h1
        generalize (lb[k].toNat : Int) = y at c2 h1
        go_wp2
        go_quiet (fail)
        go_wp2
        go_ret
        exact ⟨ret_bool HN2.out.symm, _, World.drewN_drewN _ _ _⟩
    · obtain rfl : k = la.length := by omega
      have HN2 : Hid (decide (la = lb) = true) := by
        have h := HT.out
        rw [List.take_of_length_le (Nat.le_refl _), HL.out, List.take_of_length_le (Nat.le_refl _)] at h
        exact decide_eq_true h
      go_wp2
      go_ret
      exact ⟨ret_bool HN2.out.symm, _, rfl⟩
set_option maxHeartbeats 1000000 in
theorem same_no (w : World) (va vb : Option Addr) (ca cb na nb : Nat) (hl : ((na : Int) != (nb : Int)) = true) :
    Calls Try.prog 30 #[.slice va na ca, .slice vb nb cb] w fun e w' => e = .returned (.bool false) ∧ w' = w := by
  go_enter Try.func30, Try.ntmps30
  go_wp2
  go_ret
  exact ⟨rfl, rfl⟩
theorem same_any (w : World) (va vb : Value) (la lb : List UInt8) (h1 : la.length ≤ 1048576) (R Q : Nat → Prop) (ha : Byt R w va la) (hb : Byt Q w vb lb) :
    Calls Try.prog 30 #[va, vb] w fun e w' => e = .returned (.bool (decide (la = lb))) ∧ ∃ n, w' = w.drewN n := by
  have ha' := ha
  have hb' := hb
  obtain ⟨ao, ca, rfl, _⟩ := ha
  obtain ⟨bo, cb, rfl, _⟩ := hb
  by_cases hl : la.length = lb.length
  · rw [← hl]; exact same_len w ao bo ca cb la lb hl h1 R Q ha' hb'
  · have hd : decide (la = lb) = false := decide_eq_false (fun h => hl (by rw [h]))
    rw [hd]
    refine (same_no w ao bo ca cb _ _ (by rw [bne_iff_ne]; omega)).mono ?_
    rintro e w' ⟨rfl, rfl⟩
    exact ⟨rfl, 0, rfl⟩
end Go.Proofs.Qxb6618167a.Hist
