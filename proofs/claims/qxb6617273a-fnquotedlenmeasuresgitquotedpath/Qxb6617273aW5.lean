import Derived.Test.Qxb6617273aW11
import Derived.Test.Qxb6617273aW4
namespace Go.Proofs.Qxb6617273a.QLen
open Go.RowKit Go.PlainAid

set_option maxHeartbeats 1000000 in
theorem walk5_in (p t : ByteArray) (w0 : p.size ≤ 131072) (w1 : t.size ≤ 262144) (w : World) :
    Calls Try.prog 5 #[.string p, .string t] w fun e w' => e = .returned (.bool true) ∧ Below w.heap.size w w' := by
  have H11 := quote_any p w w0
  have hlq := qs_le p.data.toList
  have hll : p.data.toList.length = p.size := by simp
  have hq1 : ∃ q : ByteArray, Hid (q = ⟨(qs p.data.toList ++ [34]).toArray⟩) := ⟨_, rfl⟩
  obtain ⟨q, HQ⟩ := hq1
  have hqs : q.size ≤ 4 * p.size + 2 ∧ 1 ≤ q.size := by
    have e : q.size = (qs p.data.toList).length + 1 := by
      rw [HQ.out]; show (qs p.data.toList ++ [34]).toArray.size = _; simp
    omega
  have hk1 : qlen (q ++ t).data.toList = q.size := by
    rw [sum_list, HQ.out]
    have := qlen_quoted p.data.toList t.data.toList
    simp only [ByteArray.size, List.size_toArray, List.length_append] at *
    rw [this]; simp
  have hk2 : qlen (q.extract 0 (q.size - 1)).data.toList = -1 := by
    rw [cut_list, HQ.out]
    have := qlen_open p.data.toList
    simp only [ByteArray.size, List.size_toArray, List.length_append]
    rw [← this]; congr 1; simp
  rw [← HQ.out] at H11
  obtain ⟨hqa, hqb⟩ := hqs
  clear hlq hll HQ
  go_enter Try.func5, Try.ntmps5
  go_wp2_with (first | (go_at_call 10; go_in) | fail)
  refine H11.mono ?_
  rintro e w2 ⟨rfl, hbe⟩
  clear H11
  have H8a := zz_is (q ++ t) w2 (by simp; omega) q.size hk1
  have H8b := zz_is (q.extract 0 (q.size - 1)) w2 (by simp; omega) (-1) hk2
  clear hk1 hk2
  go_wp2_with fail
  refine H8a.mono ?_
  rintro e w' ⟨rfl, rfl⟩
  go_wp2_with fail
  refine H8b.mono ?_
  rintro e w' ⟨rfl, rfl⟩
  go_wp2_with fail
  go_ret
  exact ⟨rfl, hbe⟩

set_option maxHeartbeats 1000000 in
theorem walk5_out (s t : ByteArray) (w0 : s.size ≤ maxLen) (w1 : t.size ≤ maxLen) (w : World) (h : 131072 < s.size ∨ 262144 < t.size) :
    Calls Try.prog 5 #[.string s, .string t] w fun e w' => e = .returned (.bool true) ∧ Below w.heap.size w w' := by
  unfold maxLen at w0 w1
  by_cases h1 : 1048576 < s.size
  · go_enter Try.func5, Try.ntmps5
    go_wp2
    go_ret
    exact ⟨rfl, Below.refl _ _⟩
  · by_cases h2 : 1048576 < t.size
    · go_enter Try.func5, Try.ntmps5
      go_wp2
      go_ret
      exact ⟨rfl, Below.refl _ _⟩
    · by_cases h3 : 1048576 < s.size + t.size
      · go_enter Try.func5, Try.ntmps5
        go_wp2
        go_ret
        exact ⟨rfl, Below.refl _ _⟩
      · by_cases h4 : 131072 < s.size
        · clear h
          go_enter Try.func5, Try.ntmps5
          go_wp2
          go_ret
          exact ⟨rfl, Below.refl _ _⟩
        · have h5 : 262144 < t.size := by omega
          clear h
          go_enter Try.func5, Try.ntmps5
          go_wp2
          go_ret
          exact ⟨rfl, Below.refl _ _⟩

theorem walk5 (a0 : ByteArray) (a1 : ByteArray) (w0 : a0.size ≤ maxLen) (w1 : a1.size ≤ maxLen) (w : World) :
    Calls Try.prog 5 #[.string a0, .string a1] w fun e w' => e = .returned (.bool true) ∧ Below w.heap.size w w' := by
  by_cases h : 131072 < a0.size ∨ 262144 < a1.size
  · exact walk5_out a0 a1 w0 w1 w h
  · exact walk5_in a0 a1 (by omega) (by omega) w
end Go.Proofs.Qxb6617273a.QLen
