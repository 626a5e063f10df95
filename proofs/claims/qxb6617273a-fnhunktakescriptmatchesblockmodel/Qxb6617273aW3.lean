import Derived.Test.Qxb6617273aQLen
import Derived.Handy
namespace Go.Proofs.Qxb6617273a.QLen
open Go.ChangeShapes Go.WideShapes Go.ChangeAt Go.RowKit Go.PlainAid

theorem hid {p : Prop} (h : p) : Hid p := h
theorem ret_eq {a b : Int} (h : a = b) : Ending.returned (.bool (a == b)) = .returned (.bool true) := by rw [h]; simp
theorem run_end (s : ByteArray) (q n j : Nat) (hj : q + 1 + n = j) (hr : ∀ i, q < i → i < j → bt s i = 92) (hx : q = 0 ∨ bt s q ≠ 92) : esc s j = decide (n % 2 = 1) := by
  subst hj; exact esc_run s (q + 1) n (fun i a b => hr i (by omega) (by omega)) (by omega) (by rcases hx with h | h; exact Or.inl (by omega); exact Or.inr h)

set_option maxHeartbeats 1000000 in
theorem walk3_yes (a0 : ByteArray) (w0 : a0.size ≤ 1048576) (w : World) (hh : hp a0.data.toList = true) :
    Calls Try.prog 3 #[.string a0] w fun e w' => e = .returned (.bool true) ∧ Grown w w' := by
  have hb := get_bt a0
  have H8 := zz_any a0 w (by omega)
  have HE : Hid (find (a0.data.toList.drop 1) (esc a0 1) 1 = qlen a0.data.toList) := by
    unfold qlen; rw [if_pos hh]; have : esc a0 1 = false := by simp [esc]
    rw [this]; exact rfl
  have hh2 := hh
  rw [hp_bt] at hh2
  have hh3 := of_decide_eq_true hh2
  have hpos : 0 < a0.size := hh3.1
  have e0 : (bt a0 0 == 34) = true := by simp [hh3.2]
  clear hh hh2 hh3
  go_enter Try.func3, Try.ntmps3
  go_wp2_with (first | (go_at_call 7; go_in) | fail)
  go_loop [3, 4] (fun v i => ∃ j : Nat, 1 ≤ j ∧ j ≤ a0.size ∧ v = .int .i64 (-1) ∧ i = .int .i64 j ∧ Hid (find (a0.data.toList.drop j) (esc a0 j) j = qlen a0.data.toList)) (fun _ i => a0.size - (intOf i).toNat)
  case atStart => exact ⟨1, by omega, by omega, rfl, rfl, HE⟩
  case round =>
    clear e0
    obtain ⟨j, hj1, hj2, rfl, rfl, HF⟩ := hrel
    clear HE
    by_cases hlt : j < a0.size
    · by_cases h34 : bt a0 j = 34
      · have e1 : (bt a0 j != 34) = false := by simp [h34]
        have H34 := hid h34
        clear h34
        go_wp2_with fail
        go_loop [5, 6] (fun c k => ∃ n q : Nat, q ≤ j ∧ n ≤ j ∧ Hid (q + 1 + n = j) ∧ c = .int .i64 n ∧ k = .int .i64 q ∧ Hid (∀ i, q < i → i < j → bt a0 i = 92)) (fun _ k => (intOf k).toNat)
        case atStart => exact ⟨0, j - 1, by omega, by omega, show _ = _ by omega, rfl, by congr 1; omega, fun i a b => by omega⟩
        case round =>
          obtain ⟨n, q, hq, hn, HM, rfl, rfl, HR⟩ := hrel
          by_cases hq0 : 1 ≤ q
          · by_cases h92 : bt a0 q = 92
            · have e2 : (bt a0 q == 92) = true := by simp [h92]
              have HR2 : Hid (∀ i, q - 1 < i → i < j → bt a0 i = 92) := fun i a b => by
                by_cases hi : i = q
                · rw [hi]; exact h92
                · exact HR.out i (by omega) b
              have HM2 : Hid (q - 1 + 1 + (n + 1) = j) := by have := HM.out; show _ = _; omega
              have hn2 : n + 1 ≤ j := by have := HM.out; omega
              clear h92
              go_wp2_with fail
              go_round
              case rel => exact ⟨n + 1, q - 1, by omega, hn2, HM2, by go_num, by congr 1; omega, HR2⟩
              case measure => simp [intOf]; omega
            · have e2 : (bt a0 q == 92) = false := by simp [h92]
              have hx := run_end a0 q n j HM.out HR.out (Or.inr h92)
              clear h92
              by_cases hpar : n % 2 = 0
              · have e3 : ((n : Int) % 2 == 0) = true := by simp; omega
                have HZ : Hid (qlen a0.data.toList = (j : Int) + 1) := by
                  rw [← HF.out]; exact find_law_yes a0 j hlt H34.out (by rw [hx]; simp; omega)
                clear hx
                go_wp2_with (go_at_call 8; refine H8.mono ?_; rintro e w' ⟨rfl, rfl⟩)
                go_ret
                exact ⟨ret_eq HZ.out, Grown.refl _⟩
              · have e3 : ((n : Int) % 2 == 0) = false := by simp; omega
                have HZ : Hid (find (a0.data.toList.drop (j + 1)) (esc a0 (j + 1)) (j + 1) = qlen a0.data.toList) := by
                  rw [← find_law_no a0 j hlt hj1 (Or.inr (by rw [hx]; simp; omega))]; exact HF
                clear hx
                go_wp2_with fail
                go_round
                case rel => exact ⟨j + 1, by omega, by omega, by omega, HZ⟩
                case measure => simp [intOf]; omega
          · obtain rfl : q = 0 := by omega
            have hx := run_end a0 0 n j HM.out HR.out (Or.inl rfl)
            by_cases hpar : n % 2 = 0
            · have e3 : ((n : Int) % 2 == 0) = true := by simp; omega
              have HZ : Hid (qlen a0.data.toList = (j : Int) + 1) := by
                rw [← HF.out]; exact find_law_yes a0 j hlt H34.out (by rw [hx]; simp; omega)
              clear hx
              go_wp2_with (go_at_call 8; refine H8.mono ?_; rintro e w' ⟨rfl, rfl⟩)
              go_ret
              exact ⟨ret_eq HZ.out, Grown.refl _⟩
            · have e3 : ((n : Int) % 2 == 0) = false := by simp; omega
              have HZ : Hid (find (a0.data.toList.drop (j + 1)) (esc a0 (j + 1)) (j + 1) = qlen a0.data.toList) := by
                rw [← find_law_no a0 j hlt hj1 (Or.inr (by rw [hx]; simp; omega))]; exact HF
              clear hx
              go_wp2_with fail
              go_round
              case rel => exact ⟨j + 1, by omega, by omega, by omega, HZ⟩
              case measure => simp [intOf]; omega
      · have e1 : (bt a0 j != 34) = true := by simp [h34]
        have HZ : Hid (find (a0.data.toList.drop (j + 1)) (esc a0 (j + 1)) (j + 1) = qlen a0.data.toList) := by
          rw [← find_law_no a0 j hlt hj1 (Or.inl h34)]; exact HF
        clear h34
        go_wp2_with fail
        go_round
        case rel => exact ⟨j + 1, by omega, by omega, rfl, by go_num, HZ⟩
        case measure => simp [intOf]; omega
    · have HZ : Hid (qlen a0.data.toList = -1) := by
        rw [← HF.out]; exact find_end a0 _ j (by omega)
      go_wp2_with (go_at_call 8; refine H8.mono ?_; rintro e w' ⟨rfl, rfl⟩)
      go_ret
      exact ⟨ret_eq HZ.out, Grown.refl _⟩

set_option maxHeartbeats 1000000 in
theorem walk3_no (a0 : ByteArray) (w0 : a0.size ≤ 1048576) (w : World) (hh : hp a0.data.toList = false) :
    Calls Try.prog 3 #[.string a0] w fun e w' => e = .returned (.bool true) ∧ Grown w w' := by
  have hb := get_bt a0
  have H8 := zz_any a0 w (by omega)
  have HZ : Hid (qlen a0.data.toList = -1) := by
    unfold qlen; rw [if_neg (by simp [hh])]; exact rfl
  have hh2 := hh
  rw [hp_bt] at hh2
  have hh3 := of_decide_eq_false hh2
  by_cases hpos : 0 < a0.size
  · have e0 : (bt a0 0 == 34) = false := by simp; omega
    clear hh hh2 hh3
    go_enter Try.func3, Try.ntmps3
    go_wp2_with (first | (go_at_call 7; go_in) | (go_at_call 8; refine H8.mono ?_; rintro e w' ⟨rfl, rfl⟩))
    go_ret
    exact ⟨ret_eq HZ.out, Grown.refl _⟩
  · clear hh hh2 hh3
    go_enter Try.func3, Try.ntmps3
    go_wp2_with (first | (go_at_call 7; go_in) | (go_at_call 8; refine H8.mono ?_; rintro e w' ⟨rfl, rfl⟩))
    go_ret
    exact ⟨ret_eq HZ.out, Grown.refl _⟩

set_option maxHeartbeats 400000 in
theorem walk3 (a0 : ByteArray) (w0 : a0.size ≤ maxLen) (w : World) :
    Calls Try.prog 3 #[.string a0] w fun e w' => e = .returned (.bool true) ∧ Grown w w' := by
  unfold maxLen at w0
  by_cases hbig : a0.size ≤ 1048576
  · cases hh : hp a0.data.toList with
    | true => exact walk3_yes a0 hbig w hh
    | false => exact walk3_no a0 hbig w hh
  · go_enter Try.func3, Try.ntmps3
    go_wp2
    go_ret
    exact ⟨rfl, Grown.refl _⟩
end Go.Proofs.Qxb6617273a.QLen
