import Derived.Test.Qxb6617273aHzf
namespace Go.Proofs.Qxb6617273a.Hunk
open Go.RowKit Go.PlainAid Go.Proofs.Qxb6617273a.QLen
attribute [local go_sem ↓] Go.wp_at_zero Go.wp_at_succ

set_option maxRecDepth 1000000 in
set_option maxHeartbeats 4000000 in
theorem walk6_in (w : World) (line old new ol nl next : Int) (hdr : ByteArray) (d a whole : Bool) (ao co tp : Option Addr) (ac cc tc : Nat) (Z : List (Int × Int)) (C0 : List Int) (T : List ByteArray)
    (b1 : hdr.size ≤ 1048576) (b2 : Z.length ≤ 65536) (b3 : C0.length ≤ 131072) (b4 : T.length ≤ 65536) (hA : Ins w ao ac Z.length (PX Z)) (hC : Ins w co cc C0.length (NX C0)) (hT : Txt w tp T) (k1 : i64ok ol) (k2 : i64ok nl) (k3 : i64ok next) :
    Calls Try.prog 6 #[.agg #[.int .i64 line, .string hdr, .int .i64 old, .int .i64 new, .int .i64 ol, .int .i64 nl, .int .i64 next, .bool d, .bool a], .bool whole, .slice ao Z.length ac, .slice co C0.length cc, .slice tp T.length tc] w fun e w' => e = .returned (.bool true) ∧ Below w.heap.size w w' := by
  have HA := hid hA
  have HC := hid hC
  have HT := hid hT
  have K1 := hid k1
  have K2 := hid k2
  have K3 := hid k3
  clear hA hC hT k1 k2 k3
  have q29 := neq29
  go_enter Try.func6, Try.ntmps6
  go_upto_region 5 with (go_at_call 12; refine (bytes_any _ line old new ol nl next hdr d a whole ao co tp Z.length ac C0.length cc tc T (by unfold maxLen; omega) (by unfold maxLen; omega) (by unfold maxLen; omega) (by unfold maxLen; omega) ?_).mono ?_)
  · exact HT.out.fr ((Fr.refl _ _).alloc _)
  rintro e w1 ⟨b, rfl, hts, hf⟩
  have HB1 := hid ((Bse.new w (boxed line hdr old new ol nl next d a)).go hf)
  clear hf
  cases b with
  | false =>
    clear hts
    go_wp2_with fail
    go_ret
    exact ⟨rfl, HB1.out.fr.toBelow⟩
  | true =>
  have HTS := hid (hts rfl)
  clear hts
  have x1 : w1.cell? ⟨w.heap.size, 1, none⟩ = some (.string hdr) := blk_cell HB1.out.box 1
  go_upto_region 5 with fail
  rename_i Kx hKx Ky hKy
  have HKX := hid hKx
  clear hKx
  cases ao with
  | none =>
    have hz := (HA.out.1 rfl).1
    have Hz : Hid (Z = []) := List.eq_nil_of_length_eq_zero hz
    have Hac := hid (HA.out.1 rfl).2
    go_wp2_with fail
    refine HKX.out _ _ ?_
    have HAd : Hid (w1.ownsRow 0 36 2 (.slice none Z.length ac) Z.length (PX Z)) := by rw [Hz.out, Hac.out]; exact World.ownsRow_nil _ _ _ _
    exact stageB w w1 line old new ol nl next hdr d a whole none co tp ac cc tc Z C0 T b1 b2 b3 b4 HT HTS HC K1 K2 K3 HB1 HAd _ _ _ _ _ _ _ _ _ _ _ _ _ _ _ _ _ _ _ _ _ _ _ _ _ _ _ _ _ _ _ _ _ _ _ _ _ _ _ _ _ _ _ _ _ _ _ _ _ _ _ _ _ _ _ _ _ _ _ _ _ _ _ _ _ _ _ _ _ _ _ _ _ _ _ _ _ _ _ _ _ _ _ _ _ _ _ _ _ _ _ _ _ _ _ _ _ _ _ _ _ _ _ _ _ _ _ _ _ _ _ _ _ _ _ _ _ _ _ _ _ _ _ _ _ _ _ _ _ _ _ _ _ _ _ _ _ _ _ _ _ _ _ _ _ _ _ _ _ _ _ _ _ _ _ _ _ _ _ _ _ _ _ _ _ _ _ _ _ _ _ _ _ _ _ _ _ _ _ _ _ _ _ _ _ _ _ _ _ _ _ _ _ _ _ _ _ _ _ _ _ _ _ _ _ _ _ _ _ _ _ _ _ _ _ _ _ _ _ _ _ _ _ _ _ _ _ _ _ _ _ _ _ _ _ _ _ _ _ _ _ _ _ _ _ _ _ _ _ _ _ _ _ _ _ _ _ _ _ _ _ _ _ _ _ _ _ _ _ _ _ _ _ _ _ _ _ _ _ _ _ _ _ _ _ _ _ _ _ _ _ _ _ _ _ _ _ _ _ _ _ _ _ _ _ _ _ _ _ _ _ _ _ _ _ _ _ _ _ _ _ _ _ _ _ _ _ _ _ _ _ _ _ _ _ _ _ _ _ _ _ _ _ _ _ _ _ _ _ _ _ _ _ _ _ _ _ _ _ _ _ _ _ _ _ _ _ _ _ _ _ _ _ _ _ _ _
  | some ad =>
    go_wp2_with (at_make; refine wpList_mk Try.underlying29 info36 _ _ rfl rfl _ _ rfl rfl Z.length Z.length (by omega) (by omega) (Nat.le_refl _) (by omega) (by decide) ?_)
    intro w2 hg2 hf2 hz2
    have hA2 := ((HA.out.fr HB1.out.fr).fr hf2).2 ad rfl
    obtain ⟨w3, hrun, hg3, hf3, hz3⟩ := cp_run Try.underlying29 info36 hg2 3 Z.length Z.length ac (some ad) (PX Z) (by rw [PX_len]) (fun _ => ⟨ad, rfl, fun j v hj => (hA2 j v hj).1⟩) (by rw [PX_len, size_made]; exact Nat.le_refl _) (PX_one' Z)
    have HAd := hid (copied (n := Z.length) (m := Z.length) (size := 2) hg3 (size_made _ _) (PX_len Z) (Nat.le_refl _) (by omega))
    have HB3 : Hid (Bse w w3 (boxed line hdr old new ol nl next d a)) := HB1.out.go (hf2.via hf3 (by intro n hn h; omega))
    clear hA2 hg2 hf2 hz2 hg3 hf3 hz3
    go_wp2_with fail
    refine HKX.out _ _ ?_
    exact stageB w w3 line old new ol nl next hdr d a whole (some ⟨w1.heap.size, 0, none⟩) co tp Z.length cc tc Z C0 T b1 b2 b3 b4 HT HTS HC K1 K2 K3 HB3 HAd _ _ _ _ _ _ _ _ _ _ _ _ _ _ _ _ _ _ _ _ _ _ _ _ _ _ _ _ _ _ _ _ _ _ _ _ _ _ _ _ _ _ _ _ _ _ _ _ _ _ _ _ _ _ _ _ _ _ _ _ _ _ _ _ _ _ _ _ _ _ _ _ _ _ _ _ _ _ _ _ _ _ _ _ _ _ _ _ _ _ _ _ _ _ _ _ _ _ _ _ _ _ _ _ _ _ _ _ _ _ _ _ _ _ _ _ _ _ _ _ _ _ _ _ _ _ _ _ _ _ _ _ _ _ _ _ _ _ _ _ _ _ _ _ _ _ _ _ _ _ _ _ _ _ _ _ _ _ _ _ _ _ _ _ _ _ _ _ _ _ _ _ _ _ _ _ _ _ _ _ _ _ _ _ _ _ _ _ _ _ _ _ _ _ _ _ _ _ _ _ _ _ _ _ _ _ _ _ _ _ _ _ _ _ _ _ _ _ _ _ _ _ _ _ _ _ _ _ _ _ _ _ _ _ _ _ _ _ _ _ _ _ _ _ _ _ _ _ _ _ _ _ _ _ _ _ _ _ _ _ _ _ _ _ _ _ _ _ _ _ _ _ _ _ _ _ _ _ _ _ _ _ _ _ _ _ _ _ _ _ _ _ _ _ _ _ _ _ _ _ _ _ _ _ _ _ _ _ _ _ _ _ _ _ _ _ _ _ _ _ _ _ _ _ _ _ _ _ _ _ _ _ _ _ _ _ _ _ _ _ _ _ _ _ _ _ _ _ _ _ _ _ _ _ _ _ _ _ _ _ _ _ _ _ _ _ _ _ _ _ _ _ _ _ _ _ _

set_option maxRecDepth 1000000 in
set_option maxHeartbeats 4000000 in
theorem walk6_out (w : World) (line old new ol nl next : Int) (hdr : ByteArray) (d a whole : Bool) (ao co tp : Option Addr) (an ac cn cc tc : Nat) (T : List ByteArray)
    (h1 : hdr.size ≤ maxLen) (h2 : an ≤ maxLen) (h3 : cn ≤ maxLen) (h4 : T.length ≤ maxLen) (hT : Txt w tp T) (hout : ¬ (hdr.size ≤ 1048576 ∧ an ≤ 65536 ∧ cn ≤ 131072 ∧ T.length ≤ 65536)) :
    Calls Try.prog 6 #[.agg #[.int .i64 line, .string hdr, .int .i64 old, .int .i64 new, .int .i64 ol, .int .i64 nl, .int .i64 next, .bool d, .bool a], .bool whole, .slice ao an ac, .slice co cn cc, .slice tp T.length tc] w fun e w' => e = .returned (.bool true) ∧ Below w.heap.size w w' := by
  have HT := hid hT
  have H12 := bytes_any (w.alloc (boxed line hdr old new ol nl next d a)) line old new ol nl next hdr d a whole ao co tp an ac cn cc tc T h1 h2 h3 h4 (HT.out.fr ((Fr.refl _ _).alloc _))
  have HO := hid hout
  unfold maxLen at h1 h2 h3 h4
  clear hT hout
  go_enter Try.func6, Try.ntmps6
  go_wp2_with (go_at_call 12; refine H12.mono ?_)
  rintro e w1 ⟨b, rfl, hts, hf⟩
  have HB1 := hid ((Bse.new w (boxed line hdr old new ol nl next d a)).go hf)
  clear hf hts H12
  cases b with
  | false =>
    go_wp2_with fail
    go_ret
    exact ⟨rfl, HB1.out.fr.toBelow⟩
  | true =>
    have x1 : w1.cell? ⟨w.heap.size, 1, none⟩ = some (.string hdr) := blk_cell HB1.out.box 1
    by_cases g1 : hdr.size ≤ 1048576
    · by_cases g2 : an ≤ 65536
      · by_cases g3 : cn ≤ 131072
        · have g4 : ¬ T.length ≤ 65536 := fun h => HO.out ⟨g1, g2, g3, h⟩
          go_wp2_with fail
          go_ret
          exact ⟨rfl, HB1.out.fr.toBelow⟩
        · go_wp2_with fail
          go_ret
          exact ⟨rfl, HB1.out.fr.toBelow⟩
      · go_wp2_with fail
        go_ret
        exact ⟨rfl, HB1.out.fr.toBelow⟩
    · go_wp2_with fail
      go_ret
      exact ⟨rfl, HB1.out.fr.toBelow⟩
end Go.Proofs.Qxb6617273a.Hunk
