import Derived.Test.Qxb6617273aW4
import Derived.Outline
import Derived.Deep.CutRange
namespace Go.Proofs.Qxb6617273a.Hunk
open Go.RowKit Go.PlainAid Go.Proofs.Qxb6617273a.QLen

def raw (s : ByteArray) : Int := if s.size = 0 ∨ (s.size = 1 ∧ bt s 0 = 13) then 32 else bt s 0
def kd (r : Int) : Int := if r = 32 ∨ r = 45 ∨ r = 43 ∨ r = 92 then r else 0

theorem full (s : ByteArray) (h : 1 ≤ s.size) : s.toList.isEmpty = false := by
  rw [ByteArray.toList_eq]
  cases hl : s.data.toList with
  | nil => have : s.data.toList.length = s.size := by simp
           rw [hl] at this; simp at this; omega
  | cons => rfl
theorem bare (s : ByteArray) (h : s.size = 0) : s.toList.isEmpty = true := by
  rw [ByteArray.toList_eq]
  cases hl : s.data.toList with
  | nil => rfl
  | cons => have : s.data.toList.length = s.size := by simp
            rw [hl] at this; simp at this; omega
theorem cut_bt (s : ByteArray) (n : Nat) (h : 1 ≤ n) (hn : n ≤ s.size) : bt (s.extract 0 n) 0 = bt s 0 := by
  obtain ⟨c, hc, hb⟩ := drop_bt s 0 (by omega)
  obtain ⟨d, hd, hb'⟩ := drop_bt (s.extract 0 n) 0 (by simp; omega)
  rw [List.drop_zero] at hc hd
  rw [cut_list, hc] at hd
  obtain ⟨m, rfl⟩ : ∃ m, n = m + 1 := ⟨n - 1, by omega⟩
  rw [List.take_succ_cons] at hd
  have := (List.cons.inj hd).1
  rw [← hb, ← hb', this]

set_option maxHeartbeats 400000 in
theorem kind_c (s : ByteArray) (w : World) (hs : s.size ≤ 2097152) (h0 : 1 ≤ s.size) (hl : (bt s (s.size - 1) == 13) = false) :
    Calls Try.prog 14 #[.string s] w fun e w' => e = .returned (.int .u8 (kd (bt s 0))) ∧ w' = w := by
  have hb := get_bt s
  have hf := full s h0
  go_enter Try.func14, Try.ntmps14
  go_wp2
  all_goals (go_ret; refine ⟨ret_int ?_, rfl⟩; simp_all [kd])
set_option maxHeartbeats 400000 in
theorem kind_d (s : ByteArray) (w : World) (hs : s.size ≤ 2097152) (h0 : 2 ≤ s.size) (hl : (bt s (s.size - 1) == 13) = true) :
    Calls Try.prog 14 #[.string s] w fun e w' => e = .returned (.int .u8 (kd (bt s 0))) ∧ w' = w := by
  have hb := get_bt s
  have hf := full (s.extract 0 (s.size - 1)) (by simp; omega)
  have hz : 1 ≤ (s.extract 0 (s.size - 1)).size := by simp; omega
  have hc := cut_bt s (s.size - 1) (by omega) (by omega)
  generalize hT : s.extract 0 (s.size - 1) = t at hf hz hc
  have HT := hid hT
  clear hT
  go_enter Try.func14, Try.ntmps14
  go_upto_region 4 with fail
  rw [HT.out]
  have hb2 := get_bt t
  clear hb hl
  go_wp2
  all_goals (go_ret; refine ⟨ret_int ?_, rfl⟩; simp_all [kd])
set_option maxHeartbeats 400000 in
theorem kind_b (s : ByteArray) (w : World) (h0 : s.size = 1) (hl : (bt s 0 == 13) = true) :
    Calls Try.prog 14 #[.string s] w fun e w' => e = .returned (.int .u8 32) ∧ w' = w := by
  have hb := get_bt s
  have hf := bare (s.extract 0 0) (by simp)
  go_enter Try.func14, Try.ntmps14
  go_wp2
  go_ret
  exact ⟨rfl, rfl⟩
set_option maxHeartbeats 400000 in
theorem kind_a (s : ByteArray) (w : World) (h0 : s.size = 0) :
    Calls Try.prog 14 #[.string s] w fun e w' => e = .returned (.int .u8 32) ∧ w' = w := by
  have hf := bare s h0
  go_enter Try.func14, Try.ntmps14
  go_wp2
  go_ret
  exact ⟨rfl, rfl⟩
theorem kd32 : kd 32 = 32 := by simp [kd]
theorem kind_any (s : ByteArray) (w : World) (hs : s.size ≤ 2097152) :
    Calls Try.prog 14 #[.string s] w fun e w' => e = .returned (.int .u8 (kd (raw s))) ∧ w' = w := by
  by_cases h0 : s.size = 0
  · have : raw s = 32 := by unfold raw; rw [if_pos (Or.inl h0)]
    rw [this, kd32]; exact kind_a s w h0
  · by_cases hl : bt s (s.size - 1) = 13
    · by_cases h1 : s.size = 1
      · rw [h1] at hl
        have : raw s = 32 := by unfold raw; rw [if_pos (Or.inr ⟨h1, hl⟩)]
        rw [this, kd32]; exact kind_b s w h1 (by simpa using hl)
      · have : raw s = bt s 0 := by unfold raw; rw [if_neg (by omega)]
        rw [this]; exact kind_d s w hs (by omega) (by simpa using hl)
    · have : raw s = bt s 0 := by
        unfold raw; rw [if_neg]
        rintro (h | ⟨h, h'⟩)
        · omega
        · rw [h] at hl; exact hl h'
      rw [this]; exact kind_c s w hs (by omega) (by simpa using hl)

/-! strings.TrimSuffix(s, "\r") -/
theorem ext_last (s : ByteArray) (h : 1 ≤ s.size) : ((s.extract (s.size - 1) s.size).toList == [13]) = (bt s (s.size - 1) == 13) := by
  obtain ⟨c, hc, hb⟩ := drop_bt s (s.size - 1) (by omega)
  rw [show s.size - 1 + 1 = s.size from by omega] at hc
  have hd : s.data.toList.drop s.size = [] := List.drop_eq_nil_of_le (by simp)
  rw [hd] at hc
  rw [ByteArray.toList_eq]
  have : (s.extract (s.size - 1) s.size).data.toList = [c] := by
    rw [ByteArray.data_extract, Array.toList_extract, List.extract_eq_take_drop, hc]
    rw [show s.size - (s.size - 1) = 1 from by omega]; rfl
  rw [this, ← hb, Bool.eq_iff_iff]
  simp
  exact u8_eq c 13 (by omega)
set_option maxHeartbeats 400000 in
theorem trim_yes (s : ByteArray) (w : World) (hs : s.size ≤ 2097152) (h0 : 1 ≤ s.size) (hl : (bt s (s.size - 1) == 13) = true) :
    Calls Try.prog 25 #[.string s, .string ⟨#[13]⟩] w fun e w' => e = .returned (.string (s.extract 0 (s.size - 1))) ∧ w' = w := by
  have he := ext_last s h0
  rw [hl] at he
  have h2 : (1 : Int) ≤ (s.size : Int) := by omega
  go_enter Try.func25, Try.ntmps25
  go_wp2
  go_ret
  exact ⟨rfl, rfl⟩
set_option maxHeartbeats 400000 in
theorem trim_no (s : ByteArray) (w : World) (hs : s.size ≤ 2097152) (h0 : 1 ≤ s.size) (hl : (bt s (s.size - 1) == 13) = false) :
    Calls Try.prog 25 #[.string s, .string ⟨#[13]⟩] w fun e w' => e = .returned (.string s) ∧ w' = w := by
  have he := ext_last s h0
  rw [hl] at he
  have h2 : (1 : Int) ≤ (s.size : Int) := by omega
  go_enter Try.func25, Try.ntmps25
  go_wp2
  go_ret
  exact ⟨rfl, rfl⟩
set_option maxHeartbeats 400000 in
theorem trim_bare (s : ByteArray) (w : World) (h0 : s.size = 0) :
    Calls Try.prog 25 #[.string s, .string ⟨#[13]⟩] w fun e w' => e = .returned (.string s) ∧ w' = w := by
  go_enter Try.func25, Try.ntmps25
  go_wp2
  go_ret
  exact ⟨rfl, rfl⟩
/-- what is left of a line: a string t, not empty with its first byte 'raw s', or empty where 'raw s' is a blank -/
theorem trim_any (s : ByteArray) (w : World) (hs : s.size ≤ 2097152) :
    ∃ t : ByteArray, t.size ≤ 2097152 ∧ ((t.toList.isEmpty = true ∧ raw s = 32) ∨ (t.toList.isEmpty = false ∧ 1 ≤ t.size ∧ bt t 0 = raw s)) ∧
      Calls Try.prog 25 #[.string s, .string ⟨#[13]⟩] w fun e w' => e = .returned (.string t) ∧ w' = w := by
  by_cases h0 : s.size = 0
  · exact ⟨s, hs, Or.inl ⟨bare s h0, by unfold raw; rw [if_pos (Or.inl h0)]⟩, trim_bare s w h0⟩
  · by_cases hl : bt s (s.size - 1) = 13
    · by_cases h1 : s.size = 1
      · rw [h1] at hl
        exact ⟨s.extract 0 (s.size - 1), by simp; omega, Or.inl ⟨bare _ (by simp; omega), by unfold raw; rw [if_pos (Or.inr ⟨h1, hl⟩)]⟩, trim_yes s w hs (by omega) (by rw [h1]; simpa using hl)⟩
      · exact ⟨s.extract 0 (s.size - 1), by simp; omega, Or.inr ⟨full _ (by simp; omega), by simp; omega, by unfold raw; rw [if_neg (by omega), cut_bt s _ (by omega) (by omega)]⟩, trim_yes s w hs (by omega) (by simpa using hl)⟩
    · refine ⟨s, hs, Or.inr ⟨full s (by omega), by omega, ?_⟩, trim_no s w hs (by omega) (by simpa using hl)⟩
      unfold raw; rw [if_neg]
      rintro (h | ⟨h, h'⟩)
      · omega
      · rw [h] at hl; exact hl h'
end Go.Proofs.Qxb6617273a.Hunk
