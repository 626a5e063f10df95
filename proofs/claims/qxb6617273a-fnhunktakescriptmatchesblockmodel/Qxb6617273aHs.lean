import Derived.Test.Qxb6617273aHr
namespace Go.Proofs.Qxb6617273a.Hunk
open Go.RowKit Go.PlainAid Go.Proofs.Qxb6617273a.QLen
attribute [local go_sem ↓] Go.wp_at_zero Go.wp_at_succ

/-- what is known of a slice of strings that came in -/
def Txt (w : World) (tp : Option Addr) (T : List ByteArray) : Prop :=
  (∀ t ∈ T, t.size ≤ maxLen) ∧ (0 < T.length → ∃ b off, tp = some ⟨b, off, none⟩ ∧ b < w.heap.size ∧ ∀ i (h : i < T.length), w.cell? ⟨b, off + i, none⟩ = some (.string T[i]))

def SomeBool (T : List ByteArray) (w : World) (e : Ending) (w' : World) : Prop := ∃ b, e = .returned (.bool b) ∧ (b = true → ∀ t ∈ T, t.size ≤ 1048576) ∧ Fr (fun _ => False) w w'

set_option maxHeartbeats 1000000 in
theorem bytes_any (w : World) (line old new ol nl next : Int) (hdr : ByteArray) (d a whole : Bool) (ao co tp : Option Addr) (an ac cn cc tc : Nat) (T : List ByteArray) (h1 : hdr.size ≤ maxLen) (h2 : an ≤ maxLen) (h3 : cn ≤ maxLen) (h4 : T.length ≤ maxLen) (hT : Txt w tp T) :
    Calls Try.prog 12 #[.agg #[.int .i64 line, .string hdr, .int .i64 old, .int .i64 new, .int .i64 ol, .int .i64 nl, .int .i64 next, .bool d, .bool a], .bool whole, .slice ao an ac, .slice co cn cc, .slice tp T.length tc] w fun e w' => SomeBool T w e w' := by
  unfold maxLen at h1 h2 h3 h4
  have HT := hid hT
  clear hT
  go_enter Try.func12, Try.ntmps12
  go_wp2
  all_goals try (go_ret; refine ⟨false, rfl, ?_, (Fr.refl _ _).alloc _⟩; intro h; exact absurd h (by decide))
  go_loop [11, 12] (fun z i => ∃ (k : Nat) (n : Int), k ≤ T.length ∧ i = .int .i64 k ∧ z = .int .i64 n ∧ 0 ≤ n ∧ n ≤ 1048576 ∧ Hid (∀ t ∈ T.take k, t.size ≤ 1048576)) (fun _ i => T.length - (intOf i).toNat)
  case atStart => exact ⟨0, _, Nat.zero_le _, rfl, rfl, by omega, by omega, fun t ht => by simp at ht⟩
  case round =>
    obtain ⟨k, n, hk, rfl, rfl, hn0, hn1, HTK⟩ := hrel
    by_cases hlt : k < T.length
    · obtain ⟨b, off, rfl, hb, hc⟩ := HT.out.2 (by omega)
      have hs := HT.out.1 T[k] (List.getElem_mem hlt)
      unfold maxLen at hs
      have c1 : ∀ o, (w.alloc o).cell? ⟨b, off + k, none⟩ = some (.string T[k]) := fun o => (World.cell?_alloc_past _ _ _ hb).trans (hc k hlt)
      have HTK2 : Hid (T[k].size ≤ 1048576 → ∀ t ∈ T.take (k + 1), t.size ≤ 1048576) := fun h t ht => by
        rw [List.take_succ_eq_append_getElem hlt] at ht
        rcases List.mem_append.1 ht with h' | h'
        · exact HTK.out t h'
        · simp at h'; rw [h']; exact h
      clear hc
      generalize T[k] = t at c1 hs HTK2
      by_cases q1 : t.size ≤ 1048576
      · by_cases q2 : n + t.size ≤ 1048576
        · go_wp2
          go_round
          case rel => exact ⟨k + 1, _, by omega, by go_num, rfl, by omega, by omega, HTK2.out (by omega)⟩
          case measure => simp [intOf]; omega
        · go_wp2
          go_ret
          exact ⟨false, rfl, fun h => Bool.noConfusion h, (Fr.refl _ _).alloc _⟩
      · go_wp2
        go_ret
        exact ⟨false, rfl, fun h => Bool.noConfusion h, (Fr.refl _ _).alloc _⟩
    · go_wp2
      go_ret
      exact ⟨_, rfl, fun _ t ht => HTK.out t (by rw [List.take_of_length_le (by omega)]; exact ht), (Fr.refl _ _).alloc _⟩
end Go.Proofs.Qxb6617273a.Hunk
