import Derived.Test.Qxb6617273aW3
import Derived.Test.Qxb6617273aQPlain2
namespace Go.Proofs.Qxb6617273a.QLen
open Go.ChangeShapes Go.WideShapes Go.ChangeAt Go.RowKit Go.PlainAid

theorem zz_is (s : ByteArray) (w : World) (hs : s.size ≤ 2097152) (k : Int) (hk : qlen s.data.toList = k) :
    Calls Try.prog 8 #[.string s] w fun e w' => e = .returned (.int .i64 k) ∧ w' = w := by
  rw [← hk]; exact zz_any s w hs

set_option maxHeartbeats 1000000 in
theorem walk4_no (s t : ByteArray) (w0 : s.size ≤ 524288) (w1 : t.size ≤ 524288) (j : Nat) (hj : j ≤ s.size) (w : World)
    (hk : qlen s.data.toList = -1) (hc : ∀ j, qlen (s.data.toList.take j) = -1) :
    Calls Try.prog 4 #[.string s, .string t, .int .i64 j] w fun e w' => e = .returned (.bool true) ∧ Grown w w' := by
  have H8 := zz_is s w (by omega) (-1) hk
  have H8b := zz_is (s.extract 0 j) w (by simp; omega) (-1) (by rw [cut_list]; exact hc j)
  clear hk hc
  go_enter Try.func4, Try.ntmps4
  go_wp2_with (first | (go_at_call 9; go_in) | fail)
  refine H8.mono ?_
  rintro e w' ⟨rfl, rfl⟩
  go_wp2_with fail
  refine H8b.mono ?_
  rintro e w' ⟨rfl, rfl⟩
  go_wp2_with fail
  go_ret
  exact ⟨rfl, Grown.refl _⟩

set_option maxHeartbeats 1000000 in
theorem walk4_yes (s t : ByteArray) (w0 : s.size ≤ 524288) (w1 : t.size ≤ 524288) (j : Nat) (hj : j ≤ s.size) (w : World)
    (m : Nat) (hm2 : 2 ≤ m) (hm : m ≤ s.size) (hk : qlen s.data.toList = m) (hb0 : bt s 0 = 34) (hbm : bt s (m - 1) = 34) (ht : qlen (s.data.toList.take m ++ t.data.toList) = m)
    (hlo : m ≤ j → qlen (s.data.toList.take j) = m) (hhi : j < m → qlen (s.data.toList.take j) = -1) :
    Calls Try.prog 4 #[.string s, .string t, .int .i64 j] w fun e w' => e = .returned (.bool true) ∧ Grown w w' := by
  have hb := get_bt s
  have H8 := zz_is s w (by omega) m hk
  have H8c := zz_is (s.extract 0 m ++ t) w (by simp; omega) m (by rw [sum_list, cut_list]; exact ht)
  have e0 : (bt s 0 == 34) = true := by simp [hb0]
  have e1 : (bt s (m - 1) == 34) = true := by simp [hbm]
  have e2 : ((m : Int) != -1) = true := by simp
  by_cases hjm : m ≤ j
  · have H8b := zz_is (s.extract 0 j) w (by simp; omega) m (by rw [cut_list]; exact hlo hjm)
    clear hk ht hlo hhi hb0 hbm
    go_enter Try.func4, Try.ntmps4
    go_wp2_with (first | (go_at_call 9; go_in) | fail)
    refine H8.mono ?_
    rintro e w' ⟨rfl, rfl⟩
    go_wp2_with fail
    refine H8b.mono ?_
    rintro e w' ⟨rfl, rfl⟩
    go_wp2_with fail
    refine H8c.mono ?_
    rintro e w' ⟨rfl, rfl⟩
    go_wp2_with fail
    go_ret
    exact ⟨rfl, Grown.refl _⟩
  · have H8b := zz_is (s.extract 0 j) w (by simp; omega) (-1) (by rw [cut_list]; exact hhi (by omega))
    clear hk ht hlo hhi hb0 hbm
    go_enter Try.func4, Try.ntmps4
    go_wp2_with (first | (go_at_call 9; go_in) | fail)
    refine H8.mono ?_
    rintro e w' ⟨rfl, rfl⟩
    go_wp2_with fail
    refine H8b.mono ?_
    rintro e w' ⟨rfl, rfl⟩
    go_wp2_with fail
    refine H8c.mono ?_
    rintro e w' ⟨rfl, rfl⟩
    go_wp2_with fail
    go_ret
    exact ⟨rfl, Grown.refl _⟩

set_option maxHeartbeats 1000000 in
theorem walk4_out (s t : ByteArray) (w0 : s.size ≤ maxLen) (w1 : t.size ≤ maxLen) (j : Int) (w : World)
    (h : 524288 < s.size ∨ 524288 < t.size ∨ j < 0 ∨ (s.size : Int) < j) :
    Calls Try.prog 4 #[.string s, .string t, .int .i64 j] w fun e w' => e = .returned (.bool true) ∧ Grown w w' := by
  unfold maxLen at w0 w1
  by_cases h1 : 1048576 < s.size
  · go_enter Try.func4, Try.ntmps4
    go_wp2
    go_ret
    exact ⟨rfl, Grown.refl _⟩
  · by_cases h2 : 1048576 < t.size
    · go_enter Try.func4, Try.ntmps4
      go_wp2
      go_ret
      exact ⟨rfl, Grown.refl _⟩
    · by_cases h3 : 1048576 < s.size + t.size
      · go_enter Try.func4, Try.ntmps4
        go_wp2
        go_ret
        exact ⟨rfl, Grown.refl _⟩
      · by_cases h4 : 524288 < s.size
        · clear h
          go_enter Try.func4, Try.ntmps4
          go_wp2
          go_ret
          exact ⟨rfl, Grown.refl _⟩
        · by_cases h5 : 524288 < t.size
          · clear h
            go_enter Try.func4, Try.ntmps4
            go_wp2
            go_ret
            exact ⟨rfl, Grown.refl _⟩
          · by_cases h6 : j < 0
            · clear h
              go_enter Try.func4, Try.ntmps4
              go_wp2
              go_ret
              exact ⟨rfl, Grown.refl _⟩
            · have h7 : (s.size : Int) < j := by omega
              clear h
              go_enter Try.func4, Try.ntmps4
              go_wp2
              go_ret
              exact ⟨rfl, Grown.refl _⟩

theorem walk4 (a0 : ByteArray) (a1 : ByteArray) (a2 : Int) (w0 : a0.size ≤ maxLen) (w1 : a1.size ≤ maxLen) (_w2 : (Lit.int .i64 a2).wf = true) (w : World) :
    Calls Try.prog 4 #[.string a0, .string a1, .int .i64 a2] w fun e w' => e = .returned (.bool true) ∧ Grown w w' := by
  by_cases h : 524288 < a0.size ∨ 524288 < a1.size ∨ a2 < 0 ∨ (a0.size : Int) < a2
  · exact walk4_out a0 a1 w0 w1 a2 w h
  · obtain ⟨j, rfl⟩ := Int.eq_ofNat_of_zero_le (show 0 ≤ a2 by omega)
    have hsz : a0.data.toList.length = a0.size := by simp
    rcases qlen_facts a0.data.toList with ⟨h1, h2⟩ | ⟨m, h1, h2, h3, h4, h5, h6, h7⟩
    · exact walk4_no a0 a1 (by omega) (by omega) j (by omega) w h1 h2
    · exact walk4_yes a0 a1 (by omega) (by omega) j (by omega) w m h1 (by omega) h3 (bt_list a0 0 34 h4) (bt_list a0 (m - 1) 34 h5) (h6 _) (fun hh => qlen_ge _ m h6 j hh) (h7 j)
end Go.Proofs.Qxb6617273a.QLen
