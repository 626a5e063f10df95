import Derived.Test.Qxb6617273aRows
import Derived.Test.Qxb6617273aQPlain
import Derived.WalkKit
import Derived.ProofKit
import Derived.Outline
namespace Go.Proofs.Qxb6617273a.QLen
open Go.RowKit Go.PlainAid

theorem ret_int {k : IntKind} {a b : Int} (h : a = b) : Ending.returned (.int k a) = .returned (.int k b) := by rw [h]
theorem ret_bool {a b : Bool} (h : a = b) : Ending.returned (.bool a) = .returned (.bool b) := by rw [h]

theorem ext_one (s : ByteArray) (h : 1 ≤ s.size) : ((s.extract 0 1).toList == [34]) = hp s.data.toList := by
  obtain ⟨c, hc, hb⟩ := drop_bt s 0 (by omega)
  simp only [List.drop_zero] at hc
  rw [ByteArray.toList_eq]
  have : (s.extract 0 1).data.toList = [c] := by
    rw [ByteArray.data_extract, Array.toList_extract, List.extract_eq_take_drop, List.drop_zero, hc]; rfl
  rw [this]; unfold hp; rw [hc]; simp

set_option maxHeartbeats 400000 in
theorem hasPrefix_any (s : ByteArray) (w : World) (hs : s.size ≤ 2097152) :
    Calls Try.prog 24 #[.string s, .string ⟨#[34]⟩] w fun e w' => e = .returned (.bool (hp s.data.toList)) ∧ w' = w := by
  by_cases h1 : 1 ≤ s.size
  · have HE : Hid (((s.extract 0 1).toList == [34]) = hp s.data.toList) := ext_one s h1
    have h2 : (1 : Int) ≤ (s.size : Int) := by omega
    go_enter Try.func24, Try.ntmps24
    go_wp2
    go_ret
    exact ⟨ret_bool HE.out, rfl⟩
  · have HE : Hid (false = hp s.data.toList) := by
      rw [hp_bt, decide_eq_false (by omega)]; exact rfl
    have h2 : ¬ (1 : Int) ≤ (s.size : Int) := by omega
    go_enter Try.func24, Try.ntmps24
    go_wp2
    go_ret
    exact ⟨ret_bool HE.out, rfl⟩

set_option maxHeartbeats 400000 in
theorem quotedLen_any (s : ByteArray) (w : World) (hs : s.size ≤ 2097152) :
    Calls Try.prog 22 #[.string s] w fun e w' => e = .returned (.int .i64 (qlen s.data.toList)) ∧ w' = w := by
  have hs' := hs
  have hb := get_bt s
  cases hh : hp s.data.toList with
  | false =>
    have HE : Hid (-1 = qlen s.data.toList) := by unfold qlen; rw [hh]; rfl
    have H24 := hasPrefix_any s w hs'
    rw [hh] at H24
    clear hh
    go_enter Try.func22, Try.ntmps22
    go_wp2_with (go_at_call 24; refine H24.mono ?_; rintro e w' ⟨rfl, rfl⟩)
    go_ret
    exact ⟨ret_int HE.out, rfl⟩
  | true =>
    have HE : Hid (find (s.data.toList.drop 1) false 1 = qlen s.data.toList) := by unfold qlen; rw [hh]; rfl
    have H24 := hasPrefix_any s w hs'
    rw [hh] at H24
    clear hh
    go_enter Try.func22, Try.ntmps22
    go_wp2_with (go_at_call 24; refine H24.mono ?_; rintro e w' ⟨rfl, rfl⟩)
    go_loop [3] (fun i => ∃ k : Nat, k ≤ s.size + 1 ∧ i = .int .i64 k ∧ Hid (find (s.data.toList.drop k) false k = qlen s.data.toList)) (fun i => s.size + 1 - (intOf i).toNat)
    case atStart => exact ⟨1, by omega, rfl, HE⟩
    case round =>
      clear H24
      obtain ⟨k, hk, rfl, HF⟩ := hrel
      by_cases hlt : k < s.size
      · by_cases h92 : bt s k = 92
        · have e1 : (bt s k == 92) = true := by simp [h92]
          have HG : Hid (find (s.data.toList.drop (k + 2)) false (k + 2) = qlen s.data.toList) := by
            have := HF.out; rw [find_esc s k hlt h92] at this; exact this
          clear h92 HE
          go_wp2
          go_round
          case rel => exact ⟨k + 2, by omega, by go_num, HG⟩
          case measure => simp [intOf]; omega
        · have e1 : (bt s k == 92) = false := by simp [h92]
          by_cases h34 : bt s k = 34
          · have e2 : (bt s k == 34) = true := by simp [h34]
            have HG : Hid ((k : Int) + 1 = qlen s.data.toList) := by
              have := HF.out; rw [find_q s k hlt h34] at this; exact this
            clear h34 h92 HE
            go_wp2
            go_ret
            exact ⟨ret_int HG.out, rfl⟩
          · have e2 : (bt s k == 34) = false := by simp [h34]
            have HG : Hid (find (s.data.toList.drop (k + 1)) false (k + 1) = qlen s.data.toList) := by
              have := HF.out; rw [find_oth s k hlt h92 h34] at this; exact this
            clear h34 h92 HE
            go_wp2
            go_round
            case rel => exact ⟨k + 1, by omega, by go_num, HG⟩
            case measure => simp [intOf]; omega
      · have HG : Hid (-1 = qlen s.data.toList) := by
          have := HF.out; rw [find_end s _ k (by omega)] at this; exact this
        go_wp2
        go_ret
        exact ⟨ret_int HG.out, rfl⟩

theorem zz_any (s : ByteArray) (w : World) (hs : s.size ≤ 2097152) :
    Calls Try.prog 8 #[.string s] w fun e w' => e = .returned (.int .i64 (qlen s.data.toList)) ∧ w' = w := by
  have H22 := quotedLen_any s w hs
  go_enter Try.func8, Try.ntmps8
  go_wp2_with (go_at_call 22; refine H22.mono ?_; rintro e w' ⟨rfl, rfl⟩)
  go_ret
  exact ⟨rfl, rfl⟩
end Go.Proofs.Qxb6617273a.QLen
