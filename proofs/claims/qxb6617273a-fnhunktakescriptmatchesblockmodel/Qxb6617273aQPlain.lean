import Derived.PlainAid
namespace Go.Proofs.Qxb6617273a.QLen
open Go.RowKit Go.PlainAid

/-- the scan: is the next byte escaped; where are we -/
def find : List UInt8 → Bool → Nat → Int
  | [], _, _ => -1
  | c :: r, e, i => if c = 34 ∧ e = false then (i : Int) + 1 else find r (c == 92 && !e) (i + 1)

def hp (l : List UInt8) : Bool := l[0]? == some 34
def qlen (l : List UInt8) : Int := if hp l = true then find (l.drop 1) false 1 else -1

theorem find_bd : ∀ (l : List UInt8) (e : Bool) (i : Nat), find l e i = -1 ∨ ((i : Int) + 1 ≤ find l e i ∧ find l e i ≤ (i : Int) + l.length)
  | [], _, _ => Or.inl rfl
  | c :: r, e, i => by
    unfold find
    split
    · right; simp; omega
    · rcases find_bd r (c == 92 && !e) (i + 1) with h | h
      · exact Or.inl h
      · right; simp at h ⊢; omega
theorem qlen_bd (l : List UInt8) : -1 ≤ qlen l ∧ qlen l ≤ l.length := by
  unfold qlen
  split
  · next h =>
    have hl : 0 < l.length := by
      cases l with
      | nil => simp [hp] at h
      | cons => simp
    have hd : (l.drop 1).length = l.length - 1 := List.length_drop
    rcases find_bd (l.drop 1) false 1 with h | h
    · omega
    · rw [hd] at h; omega
  · omega

theorem drop_bt (s : ByteArray) (k : Nat) (h : k < s.size) : ∃ c : UInt8, s.data.toList.drop k = c :: s.data.toList.drop (k + 1) ∧ (c.toNat : Int) = bt s k := by
  have h' : k < s.data.toList.length := by simpa using h
  exact ⟨s.data.toList[k], by rw [List.drop_eq_getElem_cons h'], by rw [← get_bt s k h]; rfl⟩
theorem u8_eq (c : UInt8) (n : Nat) (hn : n < 256) : c = UInt8.ofNat n ↔ (c.toNat : Int) = n := by
  rw [← UInt8.toNat_inj, UInt8.toNat_ofNat']; omega
theorem find_end (s : ByteArray) (e : Bool) (k : Nat) (h : s.size ≤ k) : find (s.data.toList.drop k) e k = -1 := by
  rw [List.drop_eq_nil_of_le (by simpa using h)]; rfl
theorem find_step (s : ByteArray) (e : Bool) (k : Nat) (h : k < s.size) :
    find (s.data.toList.drop k) e k = if bt s k = 34 ∧ e = false then (k : Int) + 1 else find (s.data.toList.drop (k + 1)) (decide (bt s k = 92) && !e) (k + 1) := by
  obtain ⟨c, hc, hb⟩ := drop_bt s k h
  rw [hc, find, ← hb]
  have e1 : (c = 34) ↔ ((c.toNat : Int) = 34) := u8_eq c 34 (by omega)
  have e2 : (c == 92) = decide ((c.toNat : Int) = 92) := by
    rw [Bool.eq_iff_iff]; simp; exact u8_eq c 92 (by omega)
  rw [e2]; simp only [e1]
theorem find_q (s : ByteArray) (k : Nat) (h : k < s.size) (hb : bt s k = 34) : find (s.data.toList.drop k) false k = (k : Int) + 1 := by
  rw [find_step s false k h, if_pos ⟨hb, rfl⟩]
theorem find_oth (s : ByteArray) (k : Nat) (h : k < s.size) (h1 : bt s k ≠ 92) (h2 : bt s k ≠ 34) :
    find (s.data.toList.drop k) false k = find (s.data.toList.drop (k + 1)) false (k + 1) := by
  rw [find_step s false k h, if_neg (by simp [h2])]; simp [h1]
theorem find_esc (s : ByteArray) (k : Nat) (h : k < s.size) (h1 : bt s k = 92) :
    find (s.data.toList.drop k) false k = find (s.data.toList.drop (k + 2)) false (k + 2) := by
  rw [find_step s false k h, if_neg (by omega)]
  simp only [h1, decide_true, Bool.not_false, Bool.and_self]
  by_cases h3 : k + 1 < s.size
  · rw [find_step s true (k + 1) h3, if_neg (by simp)]; simp
  · rw [find_end s _ (k + 1) (by omega), find_end s _ (k + 2) (by omega)]

theorem hp_bt (s : ByteArray) : hp s.data.toList = decide (0 < s.size ∧ bt s 0 = 34) := by
  unfold hp
  rw [Bool.eq_iff_iff]
  by_cases h : 0 < s.size
  · obtain ⟨c, hc, hb⟩ := drop_bt s 0 h
    simp only [List.drop_zero] at hc
    rw [hc, ← hb]
    simp [h]
    exact u8_eq c 34 (by omega)
  · have hz : s.data.toList.length = s.size := by simp
    have hn : s.data.toList = [] := List.eq_nil_of_length_eq_zero (by omega)
    rw [hn]; simp [h]

/-! the law's own count of backslashes -/
def esc (s : ByteArray) : Nat → Bool
  | 0 => false
  | j + 1 => decide (bt s j = 92 ∧ 1 ≤ j) && !esc s j
theorem esc_run (s : ByteArray) (m : Nat) : ∀ n : Nat, (∀ i, m ≤ i → i < m + n → bt s i = 92) → 1 ≤ m → (m = 1 ∨ bt s (m - 1) ≠ 92) → esc s (m + n) = decide (n % 2 = 1)
  | 0, _, h1, h2 => by
    obtain ⟨q, rfl⟩ : ∃ q, m = q + 1 := ⟨m - 1, by omega⟩
    simp at h2
    rcases h2 with h2 | h2 <;> simp [esc, h2]
  | n + 1, h, h1, h2 => by
    have ih := esc_run s m n (fun i a b => h i a (by omega)) h1 h2
    have hb := h (m + n) (by omega) (by omega)
    show esc s (m + n + 1) = _
    rw [esc, ih]
    have : 1 ≤ m + n := by omega
    simp only [hb, this, and_self, decide_true, Bool.true_and]
    rw [Bool.eq_iff_iff]; simp; omega
theorem find_law_no (s : ByteArray) (j : Nat) (h : j < s.size) (h1 : 1 ≤ j) (hn : bt s j ≠ 34 ∨ esc s j = true) :
    find (s.data.toList.drop j) (esc s j) j = find (s.data.toList.drop (j + 1)) (esc s (j + 1)) (j + 1) := by
  rw [find_step s _ j h, if_neg (by rcases hn with hn | hn <;> simp [hn])]
  rw [esc]; simp only [h1, and_true]
theorem find_law_yes (s : ByteArray) (j : Nat) (h : j < s.size) (hb : bt s j = 34) (he : esc s j = false) :
    find (s.data.toList.drop j) (esc s j) j = (j : Int) + 1 := by
  rw [find_step s _ j h, if_pos ⟨hb, he⟩]
end Go.Proofs.Qxb6617273a.QLen
