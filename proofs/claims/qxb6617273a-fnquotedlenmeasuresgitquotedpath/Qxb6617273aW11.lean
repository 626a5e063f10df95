import Derived.Test.Qxb6617273aQuote
import Derived.Outline
namespace Go.Proofs.Qxb6617273a.QLen
open Go.RowKit Go.PlainAid

theorem ret_string {l m : List UInt8} (h : l = m) : Ending.returned (.string ⟨l.toArray⟩) = .returned (.string ⟨m.toArray⟩) := by rw [h]
theorem own_cast {w : World} {B : Nat} {v : Value} {n : Nat} {xs : List Value} (L : List UInt8) (h : w.ownsRow B 5 1 v n xs) (hx : xs = L.map U) : w.ownsRow B 5 1 v L.length (L.map U) := by
  have h0 := h.1
  subst hx
  have : n = L.length := by simp at h0; omega
  rw [← this]; exact h

set_option maxHeartbeats 2000000 in
theorem quote_any (p : ByteArray) (w : World) (hp : p.size ≤ 131072) :
    Calls Try.prog 11 #[.string p] w fun e w' => e = .returned (.string ⟨(qs p.data.toList ++ [34]).toArray⟩) ∧ Below w.heap.size w w' := by
  have hb := get_bt p
  have hb0 := bt_nonneg p
  have hb1 := bt_le p
  obtain ⟨i0, hi, hz0, hz1, hz2⟩ := info_parts info5
  go_enter Try.func11, Try.ntmps11
  go_wp2_with (at_make; refine wpList_make_own _ rfl _ _ 34 rfl w.heap.size 5 i0 (.int .u8 0) 1 Try.underlying34 hi hz0 hz1 _ _ _ (4 * p.size + 2) rfl rfl (by omega) (by rw [hz2]; omega) (by unfold maxLen; omega) (Nat.le_refl _) ?_)
  intro w1 hown1 hgr1
  have hbe1 : Below w.heap.size w w1 := (Below.refl _ _).grown hgr1 (Nat.le_refl _) (fun k hk => by simp at hk)
  have hsz1 := hbe1.size
  clear hgr1
  go_wp2_with (at_builtin; refine wpList_append_lit hown1 hsz1 _ _ rfl rfl rfl [.int .u8 34] 1 1 rfl rfl (U_one [34]) (by omega) ?_)
  intro v2 w2 hown2 hbe2
  have hown2' : w2.ownsRow w.heap.size 5 1 v2 (qs (p.data.toList.take 0)).length ((qs (p.data.toList.take 0)).map U) := own_cast _ hown2 (by simp [qs, U])
  have hbe2' := hbe2 w hbe1
  clear hown2 hbe2 hown1 hbe1 hsz1
  go_wp2
  go_loopw [3, 4] (fun v i wr => ∃ k : Nat, k ≤ p.size ∧ i = .int .i64 k ∧ wr.ownsRow w.heap.size 5 1 v (qs (p.data.toList.take k)).length ((qs (p.data.toList.take k)).map U) ∧ Below w.heap.size w wr) (fun _ i _ => p.size - (intOf i).toNat)
  case atStart => exact ⟨0, by omega, rfl, hown2', hbe2'⟩
  case round =>
    clear hown2' hbe2'
    obtain ⟨k, hk, rfl, hown, hbe⟩ := hrel
    have hsz := hbe.size
    have hlen := qs_le (p.data.toList.take k)
    have hlk : (p.data.toList.take k).length ≤ k := List.length_take_le _ _
    by_cases hlt : k < p.size
    · obtain ⟨c, hc1, hc2⟩ := take_snoc p k hlt
      have HC := hid hc2
      have HT : Hid (qs (p.data.toList.take (k + 1)) = qs (p.data.toList.take k) ++ qb c) := by rw [hc1]; exact qs_snoc _ _
      clear hc1 hc2
      generalize qs (p.data.toList.take k) = Lk at hown hlen HT
      have b0 := hb0 k
      have b1 := hb1 k
      clear hb0 hb1
      have fin : ∀ (L : List Value) (v' : Value) (w' : World) (n : Nat), L = (qb c).map U → w'.ownsRow w.heap.size 5 1 v' n (Lk.map U ++ L) → w'.ownsRow w.heap.size 5 1 v' (qs (p.data.toList.take (k + 1))).length ((qs (p.data.toList.take (k + 1))).map U) := by
        intro L v' w' n hL ho
        refine own_cast _ ho ?_
        rw [HT.out, hL, List.map_append]
      have FIN := hid fin
      clear fin
      by_cases h1 : bt p k = 34
      · have e1 : (bt p k == 34) = true := by simp [h1]
        have HH := hid h1
        clear h1
        have HLL := hid (qb_quote c (bt p k) HC.out (Or.inl HH.out))
        go_wp2_with (at_builtin; refine wpList_append_lit hown hsz _ _ rfl rfl rfl [.int .u8 92, .int .u8 (bt p k)] 2 2 rfl rfl (by rw [HLL.out]; exact U_one _) (by omega) ?_)
        intro v' w' ho hbe'
        have R1 := FIN.out _ _ _ _ HLL.out ho
        have R2 := hbe' w hbe
        clear ho hbe'
        go_wp2
        go_roundw
        case rel => exact ⟨k + 1, by omega, by go_num, R1, R2⟩
        case measure => simp [intOf]; omega
      · have e1 : (bt p k == 34) = false := by simp [h1]
        by_cases h2 : bt p k = 92
        · have e2 : (bt p k == 92) = true := by simp [h2]
          have HH := hid h2
          clear h2
          have HLL := hid (qb_quote c (bt p k) HC.out (Or.inr HH.out))
          go_wp2_with (at_builtin; refine wpList_append_lit hown hsz _ _ rfl rfl rfl [.int .u8 92, .int .u8 (bt p k)] 2 2 rfl rfl (by rw [HLL.out]; exact U_one _) (by omega) ?_)
          intro v' w' ho hbe'
          have R1 := FIN.out _ _ _ _ HLL.out ho
          have R2 := hbe' w hbe
          clear ho hbe'
          go_wp2
          go_roundw
          case rel => exact ⟨k + 1, by omega, by go_num, R1, R2⟩
          case measure => simp [intOf]; omega
        · have e2 : (bt p k == 92) = false := by simp [h2]
          by_cases h3 : bt p k = 10
          · have e3 : (bt p k == 10) = true := by simp [h3]
            have HH := hid h3
            clear h3
            have HLL := hid (qb_nl c (bt p k) HC.out HH.out)
            go_wp2_with (at_builtin; refine wpList_append_lit hown hsz _ _ rfl rfl rfl [.int .u8 92, .int .u8 110] 2 2 rfl rfl (by rw [HLL.out]; exact U_one _) (by omega) ?_)
            intro v' w' ho hbe'
            have R1 := FIN.out _ _ _ _ HLL.out ho
            have R2 := hbe' w hbe
            clear ho hbe'
            go_wp2
            go_roundw
            case rel => exact ⟨k + 1, by omega, by go_num, R1, R2⟩
            case measure => simp [intOf]; omega
          · have e3 : (bt p k == 10) = false := by simp [h3]
            by_cases h4 : bt p k = 9
            · have e4 : (bt p k == 9) = true := by simp [h4]
              have HH := hid h4
              clear h4
              have HLL := hid (qb_tab c (bt p k) HC.out HH.out)
              go_wp2_with (at_builtin; refine wpList_append_lit hown hsz _ _ rfl rfl rfl [.int .u8 92, .int .u8 116] 2 2 rfl rfl (by rw [HLL.out]; exact U_one _) (by omega) ?_)
              intro v' w' ho hbe'
              have R1 := FIN.out _ _ _ _ HLL.out ho
              have R2 := hbe' w hbe
              clear ho hbe'
              go_wp2
              go_roundw
              case rel => exact ⟨k + 1, by omega, by go_num, R1, R2⟩
              case measure => simp [intOf]; omega
            · have e4 : (bt p k == 9) = false := by simp [h4]
              have HN := hid (show bt p k ≠ 34 ∧ bt p k ≠ 92 ∧ bt p k ≠ 10 ∧ bt p k ≠ 9 from ⟨h1, h2, h3, h4⟩)
              clear h1 h2 h3 h4
              by_cases h5 : bt p k < 32
              · have HLL := hid (qb_oct c (bt p k) HC.out HN.out (Or.inl h5))
                go_wp2_with (at_builtin; refine wpList_append_lit hown hsz _ _ rfl rfl rfl [.int .u8 92, .int .u8 (48 + bt p k / 64), .int .u8 (48 + bt p k / 8 % 8), .int .u8 (48 + bt p k % 8)] 4 4 rfl rfl (by rw [HLL.out]; exact U_one _) (by omega) ?_)
                intro v' w' ho hbe'
                have R1 := FIN.out _ _ _ _ HLL.out ho
                have R2 := hbe' w hbe
                clear ho hbe'
                go_wp2
                go_roundw
                case rel => exact ⟨k + 1, by omega, by go_num, R1, R2⟩
                case measure => simp [intOf]; omega
              · by_cases h6 : 127 ≤ bt p k
                · have HLL := hid (qb_oct c (bt p k) HC.out HN.out (Or.inr h6))
                  go_wp2_with (at_builtin; refine wpList_append_lit hown hsz _ _ rfl rfl rfl [.int .u8 92, .int .u8 (48 + bt p k / 64), .int .u8 (48 + bt p k / 8 % 8), .int .u8 (48 + bt p k % 8)] 4 4 rfl rfl (by rw [HLL.out]; exact U_one _) (by omega) ?_)
                  intro v' w' ho hbe'
                  have R1 := FIN.out _ _ _ _ HLL.out ho
                  have R2 := hbe' w hbe
                  clear ho hbe'
                  go_wp2
                  go_roundw
                  case rel => exact ⟨k + 1, by omega, by go_num, R1, R2⟩
                  case measure => simp [intOf]; omega
                · have HLL := hid (qb_self c (bt p k) HC.out HN.out ⟨by omega, by omega⟩)
                  go_wp2_with (at_builtin; refine wpList_append_lit hown hsz _ _ rfl rfl rfl [.int .u8 (bt p k)] 1 1 rfl rfl (by rw [HLL.out]; exact U_one _) (by omega) ?_)
                  intro v' w' ho hbe'
                  have R1 := FIN.out _ _ _ _ HLL.out ho
                  have R2 := hbe' w hbe
                  clear ho hbe'
                  go_wp2
                  go_roundw
                  case rel => exact ⟨k + 1, by omega, by go_num, R1, R2⟩
                  case measure => simp [intOf]; omega
    · obtain rfl : k = p.size := by omega
      have HT : Hid (p.data.toList.take p.size = p.data.toList) := List.take_of_length_le (by simp)
      rw [HT.out] at hown hlen hlk
      clear HT
      have hlq := qs_le p.data.toList
      have hll : p.data.toList.length = p.size := by simp
      have hlq2 : (qs p.data.toList).length ≤ 4 * p.size + 1 := by omega
      clear hlq hll hlen hlk hb0 hb1
      generalize hL : qs p.data.toList = L at hown hlq2
      have HL := hid hL
      clear hL
      go_wp2_with (at_builtin; refine wpList_append_lit hown hsz _ _ rfl rfl rfl [.int .u8 34] 1 1 rfl rfl (U_one [34]) (by omega) ?_)
      intro v' w' ho hbe'
      have R1 := own_cast (L ++ [34]) ho (by simp [U])
      have R2 := hbe' w hbe
      have R3 := string_own w' _ v' (L ++ [34]) (by simp) R1
      clear ho hbe' R1
      go_wp2
      go_ret
      exact ⟨ret_string (by rw [HL.out]), R2⟩
end Go.Proofs.Qxb6617273a.QLen
