import Derived.Test.Qxb6617273aQPlain
namespace Go.Proofs.Qxb6617273a.QLen
open Go.RowKit Go.PlainAid

theorem find_no : ∀ (l : List UInt8) (e : Bool) (i : Nat), find l e i = -1 → ∀ n, find (l.take n) e i = -1
  | [], _, _, _, n => by simp [find]
  | c :: r, e, i, h, 0 => by simp [find]
  | c :: r, e, i, h, n + 1 => by
    rw [find] at h
    rw [List.take_succ_cons, find]
    split at h
    · omega
    · next hc => rw [if_neg hc]; exact find_no r _ _ h n
theorem find_facts : ∀ (l : List UInt8) (e : Bool) (i : Nat), find l e i ≠ -1 →
    ∃ m : Nat, m < l.length ∧ find l e i = (i : Int) + m + 1 ∧ l[m]? = some 34 ∧ (∀ t, find (l.take (m + 1) ++ t) e i = (i : Int) + m + 1) ∧ (∀ n, n ≤ m → find (l.take n) e i = -1)
  | [], _, _, h => absurd rfl h
  | c :: r, e, i, h => by
    rw [find] at h
    by_cases hc : c = 34 ∧ e = false
    · refine ⟨0, by simp, ?_, by simp [hc.1], ?_, ?_⟩
      · rw [find, if_pos hc]; simp
      · intro t; simp only [Nat.zero_add, List.take_succ_cons, List.take_zero, List.cons_append, List.nil_append]; rw [find, if_pos hc]; simp
      · intro n hn; obtain rfl : n = 0 := by omega
        simp [find]
    · rw [if_neg hc] at h
      obtain ⟨m, h1, h2, h3, h4, h5⟩ := find_facts r _ _ h
      refine ⟨m + 1, by simp; omega, ?_, by simpa using h3, ?_, ?_⟩
      · rw [find, if_neg hc, h2]; omega
      · intro t; rw [List.take_succ_cons, List.cons_append, find, if_neg hc, h4 t]; omega
      · intro n hn
        cases n with
        | zero => simp [find]
        | succ n => rw [List.take_succ_cons, find, if_neg hc]; exact h5 n (by omega)
theorem hp_cons (c : UInt8) (r : List UInt8) : hp (c :: r) = (c == 34) := by simp [hp]
theorem qlen_cons (c : UInt8) (r : List UInt8) : qlen (c :: r) = if c = 34 then find r false 1 else -1 := by
  unfold qlen; rw [hp_cons]; simp
theorem qlen_nil : qlen [] = -1 := by simp [qlen, hp]

theorem qlen_facts (l : List UInt8) : (qlen l = -1 ∧ ∀ j, qlen (l.take j) = -1) ∨
    ∃ m : Nat, 2 ≤ m ∧ m ≤ l.length ∧ qlen l = m ∧ l[0]? = some 34 ∧ l[m - 1]? = some 34 ∧ (∀ t, qlen (l.take m ++ t) = m) ∧ (∀ j, j < m → qlen (l.take j) = -1) := by
  cases l with
  | nil => left; simp [qlen_nil]
  | cons c r =>
    by_cases hc : c = 34
    · by_cases hf : find r false 1 = -1
      · left; refine ⟨by rw [qlen_cons, if_pos hc, hf], fun j => ?_⟩
        cases j with
        | zero => simp [qlen_nil]
        | succ j => rw [List.take_succ_cons, qlen_cons, if_pos hc]; exact find_no _ _ _ hf j
      · right
        obtain ⟨m, h1, h2, h3, h4, h5⟩ := find_facts r false 1 hf
        refine ⟨m + 2, by omega, by simp; omega, ?_, by simp [hc], by simpa using h3, ?_, ?_⟩
        · rw [qlen_cons, if_pos hc, h2]; omega
        · intro t; rw [List.take_succ_cons, List.cons_append, qlen_cons, if_pos hc, h4]; omega
        · intro j hj
          cases j with
          | zero => simp [qlen_nil]
          | succ j => rw [List.take_succ_cons, qlen_cons, if_pos hc]; exact h5 j (by omega)
    · left; refine ⟨by rw [qlen_cons, if_neg hc], fun j => ?_⟩
      cases j with
      | zero => simp [qlen_nil]
      | succ j => rw [List.take_succ_cons, qlen_cons, if_neg hc]
theorem qlen_ge (l : List UInt8) (m : Nat) (h : ∀ t, qlen (l.take m ++ t) = m) (j : Nat) (hj : m ≤ j) : qlen (l.take j) = m := by
  have : l.take j = l.take m ++ (l.take j).drop m := by
    have e := List.take_append_drop m (l.take j)
    rw [List.take_take, Nat.min_eq_left hj] at e
    exact e.symm
  rw [this]; exact h _

/-! bytes of a cut, of a sum -/
theorem cut_list (s : ByteArray) (j : Nat) : (s.extract 0 j).data.toList = s.data.toList.take j := by
  rw [ByteArray.data_extract, Array.toList_extract, List.extract_eq_take_drop, List.drop_zero, Nat.sub_zero]
theorem sum_list (s t : ByteArray) : (s ++ t).data.toList = s.data.toList ++ t.data.toList := by
  rw [ByteArray.data_append]; simp
theorem bt_list (s : ByteArray) (k : Nat) (c : UInt8) (h : s.data.toList[k]? = some c) : bt s k = c.toNat := by
  obtain ⟨h1, h2⟩ := List.getElem?_eq_some_iff.1 h
  have h1' : k < s.size := by simpa using h1
  rw [← get_bt s k h1', ← h2]; rfl
end Go.Proofs.Qxb6617273a.QLen
