import Derived.Test.Qxb6617566aRows
import Derived.WalkKit
import Derived.ProofKit
import Derived.OpenShut
namespace Go.Proofs.Qxb6617566a.Nw
open Go.RowKit

theorem hid {p : Prop} (h : p) : Hid p := h
def nw (a b : Int) : Bool := if a = 0 ∧ b = 255 then true else if a = 255 ∧ b = 0 then false else decide (b < a)
theorem ret_bool {a b : Bool} (h : a = b) : Ending.returned (.bool a) = .returned (.bool b) := by rw [h]

set_option maxHeartbeats 400000 in
theorem newer_is (a b : Int) (w : World) (v : Bool) (hv : nw a b = v) :
    Calls Try.prog 4 #[.int .u8 a, .int .u8 b] w fun e w' => e = .returned (.bool v) ∧ w' = w := by
  subst hv
  by_cases h1 : a = 0
  · subst h1
    by_cases h2 : b = 255
    · subst h2
      go_enter Try.func4, Try.ntmps4
      go_wp2
      go_ret
      exact ⟨rfl, rfl⟩
    · have e2 : (b == 255) = false := by simp [h2]
      have H : Hid (nw 0 b = decide (b < 0)) := by unfold nw; rw [if_neg (by omega), if_neg (by omega)]; exact rfl
      go_enter Try.func4, Try.ntmps4
      go_wp2
      go_ret
      exact ⟨ret_bool H.out.symm, rfl⟩
  · have e1 : (a == 0) = false := by simp [h1]
    by_cases h2 : a = 255
    · subst h2
      by_cases h3 : b = 0
      · subst h3
        go_enter Try.func4, Try.ntmps4
        go_wp2
        go_ret
        exact ⟨rfl, rfl⟩
      · have e3 : (b == 0) = false := by simp [h3]
        have H : Hid (nw 255 b = decide (b < 255)) := by unfold nw; rw [if_neg (by omega), if_neg (by omega)]; exact rfl
        go_enter Try.func4, Try.ntmps4
        go_wp2
        go_ret
        exact ⟨ret_bool H.out.symm, rfl⟩
    · have e3 : (a == 255) = false := by simp [h2]
      have H : Hid (nw a b = decide (b < a)) := by unfold nw; rw [if_neg (by omega), if_neg (by omega)]; exact rfl
      go_enter Try.func4, Try.ntmps4
      go_wp2
      go_ret
      exact ⟨ret_bool H.out.symm, rfl⟩

theorem nw_self (a : Int) : nw a a = false := by unfold nw; rw [if_neg (by omega), if_neg (by omega)]; simp
theorem nw_flip (a b : Int) (h : a ≠ b) : nw b a = !nw a b := by
  unfold nw
  by_cases h1 : a = 0 ∧ b = 255
  · rw [if_pos h1, if_neg (by omega), if_pos (by omega)]; rfl
  · rw [if_neg h1]
    by_cases h2 : a = 255 ∧ b = 0
    · rw [if_pos h2, if_pos (by omega)]; rfl
    · rw [if_neg h2, if_neg (by omega), if_neg (by omega)]
      by_cases h3 : b < a
      · simp [h3]; omega
      · simp [h3]; omega

set_option maxHeartbeats 1000000 in
theorem walk_top (b : Int) (w : World) :
    Calls Try.prog 3 #[.int .u8 255, .int .u8 b] w fun e w' => e = .returned (.bool true) ∧ Grown w w' := by
  have H3 := newer_is 0 255 w true (by decide)
  have H4 := newer_is 255 0 w false (by decide)
  by_cases h : b = 255
  · subst h
    have H1 := newer_is 255 255 w false (nw_self 255)
    go_enter Try.func3, Try.ntmps3
    go_wp2_with fail
    refine H1.mono ?_
    rintro e w' ⟨rfl, rfl⟩
    go_wp2_with fail
    refine H1.mono ?_
    rintro e w' ⟨rfl, rfl⟩
    go_wp2_with fail
    refine H3.mono ?_
    rintro e w' ⟨rfl, rfl⟩
    go_wp2_with fail
    refine H4.mono ?_
    rintro e w' ⟨rfl, rfl⟩
    go_wp2_with fail
    go_ret
    exact ⟨rfl, Grown.refl _⟩
  · have e : (255 == b) = false := by simp; omega
    have hf := nw_flip 255 b (by omega)
    cases hb : nw 255 b with
    | true =>
      rw [hb] at hf
      have H1 := newer_is 255 b w true hb
      have H2 := newer_is b 255 w false hf
      clear hf hb h
      go_enter Try.func3, Try.ntmps3
      go_wp2_with fail
      refine H1.mono ?_
      rintro e w' ⟨rfl, rfl⟩
      go_wp2_with fail
      refine H2.mono ?_
      rintro e w' ⟨rfl, rfl⟩
      go_wp2_with fail
      refine H3.mono ?_
      rintro e w' ⟨rfl, rfl⟩
      go_wp2_with fail
      refine H4.mono ?_
      rintro e w' ⟨rfl, rfl⟩
      go_wp2_with fail
      go_ret
      exact ⟨rfl, Grown.refl _⟩
    | false =>
      rw [hb] at hf
      have H1 := newer_is 255 b w false hb
      have H2 := newer_is b 255 w true hf
      clear hf hb h
      go_enter Try.func3, Try.ntmps3
      go_wp2_with fail
      refine H1.mono ?_
      rintro e w' ⟨rfl, rfl⟩
      go_wp2_with fail
      refine H2.mono ?_
      rintro e w' ⟨rfl, rfl⟩
      go_wp2_with fail
      refine H3.mono ?_
      rintro e w' ⟨rfl, rfl⟩
      go_wp2_with fail
      refine H4.mono ?_
      rintro e w' ⟨rfl, rfl⟩
      go_wp2_with fail
      go_ret
      exact ⟨rfl, Grown.refl _⟩
theorem nw_next (a : Int) (h0 : 0 ≤ a) (h1 : a < 255) : nw (a + 1) a = true := by unfold nw; rw [if_neg (by omega), if_neg (by omega)]; simp; omega
theorem nw_prev (a : Int) (h0 : 0 ≤ a) (h1 : a < 255) : nw a (a + 1) = false := by unfold nw; rw [if_neg (by omega), if_neg (by omega)]; simp; omega
set_option maxHeartbeats 1000000 in
theorem walk_low (a b : Int) (h0 : 0 ≤ a) (h1 : a < 255) (w : World) :
    Calls Try.prog 3 #[.int .u8 a, .int .u8 b] w fun e w' => e = .returned (.bool true) ∧ Grown w w' := by
  have H3 := newer_is (a + 1) a w true (by first | exact nw_next a h0 h1 | exact nw_prev a h0 h1)
  have H4 := newer_is a (a + 1) w false (by first | exact nw_next a h0 h1 | exact nw_prev a h0 h1)
  by_cases h : a = b
  · subst h
    have H1 := newer_is a a w false (nw_self a)
    go_enter Try.func3, Try.ntmps3
    go_wp2_with fail
    refine H1.mono ?_
    rintro e w' ⟨rfl, rfl⟩
    go_wp2_with fail
    refine H1.mono ?_
    rintro e w' ⟨rfl, rfl⟩
    go_wp2_with fail
    refine H3.mono ?_
    rintro e w' ⟨rfl, rfl⟩
    go_wp2_with fail
    refine H4.mono ?_
    rintro e w' ⟨rfl, rfl⟩
    go_wp2_with fail
    go_ret
    exact ⟨rfl, Grown.refl _⟩
  · have e : (a == b) = false := by simp; omega
    have hf := nw_flip a b (by omega)
    cases hb : nw a b with
    | true =>
      rw [hb] at hf
      have H1 := newer_is a b w true hb
      have H2 := newer_is b a w false hf
      clear hf hb h
      go_enter Try.func3, Try.ntmps3
      go_wp2_with fail
      refine H1.mono ?_
      rintro e w' ⟨rfl, rfl⟩
      go_wp2_with fail
      refine H2.mono ?_
      rintro e w' ⟨rfl, rfl⟩
      go_wp2_with fail
      refine H3.mono ?_
      rintro e w' ⟨rfl, rfl⟩
      go_wp2_with fail
      refine H4.mono ?_
      rintro e w' ⟨rfl, rfl⟩
      go_wp2_with fail
      go_ret
      exact ⟨rfl, Grown.refl _⟩
    | false =>
      rw [hb] at hf
      have H1 := newer_is a b w false hb
      have H2 := newer_is b a w true hf
      clear hf hb h
      go_enter Try.func3, Try.ntmps3
      go_wp2_with fail
      refine H1.mono ?_
      rintro e w' ⟨rfl, rfl⟩
      go_wp2_with fail
      refine H2.mono ?_
      rintro e w' ⟨rfl, rfl⟩
      go_wp2_with fail
      refine H3.mono ?_
      rintro e w' ⟨rfl, rfl⟩
      go_wp2_with fail
      refine H4.mono ?_
      rintro e w' ⟨rfl, rfl⟩
      go_wp2_with fail
      go_ret
      exact ⟨rfl, Grown.refl _⟩
theorem walk3 (a0 : Int) (a1 : Int) (w0 : (Lit.int .u8 a0).wf = true) (w : World) :
    Calls Try.prog 3 #[.int .u8 a0, .int .u8 a1] w fun e w' => e = .returned (.bool true) ∧ Grown w w' := by
  have hb := bounds_u8 w0
  by_cases h : a0 = 255
  · subst h; exact walk_top a1 w
  · exact walk_low a0 a1 (by omega) (by omega) w
end Go.Proofs.Qxb6617566a.Nw
