import Derived.Test.Qxb6617273aHt
namespace Go.Proofs.Qxb6617273a.Hunk
open Go.RowKit Go.PlainAid Go.Proofs.Qxb6617273a.QLen

def runs (s : St) (ks : List Int) : St := ks.foldl step s
theorem runs_nil (s : St) : runs s [] = s := rfl
theorem runs_snoc (s : St) (l : List Int) (k : Int) : runs s (l ++ [k]) = step (runs s l) k := by simp [runs]
theorem runs_app (s : St) (l m : List Int) : runs s (l ++ m) = runs (runs s l) m := by simp [runs]
def cnt (c : Int) (l : List Int) : Nat := (l.filter fun k => k = c).length
theorem cnt_nil (c : Int) : cnt c [] = 0 := rfl
theorem cnt_snoc (c : Int) (l : List Int) (k : Int) : cnt c (l ++ [k]) = cnt c l + if k = c then 1 else 0 := by
  unfold cnt; rw [List.filter_append]; by_cases h : k = c <;> simp [h]
theorem cnt_le (c : Int) (l : List Int) : cnt c l ≤ l.length := List.length_filter_le _ _
def has (c : Int) (l : List Int) : Bool := l.any fun k => k = c
theorem has_snoc (c : Int) (l : List Int) (k : Int) : has c (l ++ [k]) = (has c l || decide (k = c)) := by simp [has]

theorem snoc_ind {α : Type} {P : List α → Prop} (h0 : P []) (h1 : ∀ l a, P l → P (l ++ [a])) : ∀ l, P l := by
  intro l
  generalize hn : l.length = n
  induction n generalizing l with
  | zero => rw [List.eq_nil_of_length_eq_zero hn]; exact h0
  | succ n ih =>
    rcases List.eq_nil_or_concat l with rfl | ⟨m, a, rfl⟩
    · exact h0
    · rw [List.concat_eq_append] at *
      exact h1 m a (ih m (by simp at hn; omega))

def i64ok (n : Int) : Prop := wrap64 n = n
theorem ok_wrap (n : Int) : i64ok (wrap64 n) := by unfold i64ok wrap64; omega
theorem ok_of (n : Int) (h0 : -9223372036854775808 ≤ n) (h1 : n ≤ 9223372036854775807) : i64ok n := by unfold i64ok wrap64; omega
theorem wrap_sub (x y : Int) : wrap64 (wrap64 x - y) = wrap64 (x - y) := by unfold wrap64; omega
theorem wrap_add (x y : Int) : wrap64 (wrap64 x + y) = wrap64 (x + y) := by unfold wrap64; omega

theorem runs_ol (s : St) (h : i64ok s.ol) : ∀ l, (runs s l).ol = wrap64 (s.ol - (cnt 32 l : Int) - (cnt 45 l : Int)) := by
  apply snoc_ind
  · rw [runs_nil, cnt_nil, cnt_nil]; show s.ol = wrap64 (s.ol - 0 - 0); rw [Int.sub_zero, Int.sub_zero, h]
  · intro l k ih
    rw [runs_snoc, cnt_snoc, cnt_snoc]
    unfold step
    by_cases h1 : k = 32
    · subst h1
      rw [if_pos rfl, if_pos rfl, if_neg (by decide)]
      show wrap64 ((runs s l).ol - 1) = _
      rw [ih, wrap_sub]; congr 1; omega
    · rw [if_neg h1, if_neg h1]
      by_cases h2 : k = 45
      · subst h2
        rw [if_pos rfl, if_pos rfl]
        show wrap64 ((runs s l).ol - 1) = _
        rw [ih, wrap_sub]; congr 1; omega
      · rw [if_neg h2, if_neg h2]
        by_cases h3 : k = 43
        · rw [if_pos h3]; show (runs s l).ol = _; rw [ih]; congr 1
        · rw [if_neg h3]; rw [ih]; congr 1
theorem runs_nl (s : St) (h : i64ok s.nl) : ∀ l, (runs s l).nl = wrap64 (s.nl - (cnt 32 l : Int) - (cnt 43 l : Int)) := by
  apply snoc_ind
  · rw [runs_nil, cnt_nil, cnt_nil]; show s.nl = wrap64 (s.nl - 0 - 0); rw [Int.sub_zero, Int.sub_zero, h]
  · intro l k ih
    rw [runs_snoc, cnt_snoc, cnt_snoc]
    unfold step
    by_cases h1 : k = 32
    · subst h1
      rw [if_pos rfl, if_pos rfl, if_neg (by decide)]
      show wrap64 ((runs s l).nl - 1) = _
      rw [ih, wrap_sub]; congr 1; omega
    · rw [if_neg h1, if_neg h1]
      by_cases h2 : k = 45
      · subst h2
        rw [if_pos rfl, if_neg (by decide)]
        show (runs s l).nl = _
        rw [ih]; congr 1
      · rw [if_neg h2]
        by_cases h3 : k = 43
        · subst h3
          rw [if_pos rfl, if_pos rfl]; show wrap64 ((runs s l).nl - 1) = _; rw [ih, wrap_sub]; congr 1; omega
        · rw [if_neg h3, if_neg h3]; rw [ih]; congr 1

def ext (A : List (Int × Int)) (first last : Int) : List (Int × Int) := match A.getLast? with
  | some p => if p.2 = wrap64 (first - 1) then A.dropLast ++ [(p.1, last)] else A ++ [(first, last)]
  | none => [(first, last)]
theorem ext_self (A : List (Int × Int)) (n : Int) : ext A n n = addL A n := rfl
theorem ext_set (B : List (Int × Int)) (a b f l : Int) (h : b = wrap64 (f - 1)) : ext (B ++ [(a, b)]) f l = B ++ [(a, l)] := by
  unfold ext; simp [h]
theorem ext_app (B : List (Int × Int)) (a b f l : Int) (h : ¬ b = wrap64 (f - 1)) : ext (B ++ [(a, b)]) f l = B ++ [(a, b)] ++ [(f, l)] := by
  unfold ext; simp [h]
theorem ext_nil (f l : Int) : ext [] f l = [(f, l)] := rfl
theorem ext_tail (A : List (Int × Int)) (f l : Int) : ∃ B a, ext A f l = B ++ [(a, l)] ∧ ∀ l', ext A f l' = B ++ [(a, l')] := by
  rcases List.eq_nil_or_concat A with rfl | ⟨B, ⟨a, b⟩, rfl⟩
  · exact ⟨[], f, rfl, fun _ => rfl⟩
  · rw [List.concat_eq_append]
    by_cases h : b = wrap64 (f - 1)
    · exact ⟨B, a, ext_set B a b f l h, fun l' => ext_set B a b f l' h⟩
    · exact ⟨B ++ [(a, b)], f, ext_app B a b f l h, fun l' => ext_app B a b f l' h⟩
theorem addL_ext (A : List (Int × Int)) (f l n : Int) (h : l = wrap64 (n - 1)) : addL (ext A f l) n = ext A f n := by
  obtain ⟨B, a, h1, h2⟩ := ext_tail A f l
  rw [h1, h2 n, addL_set B a l n h]

/-- a block: no line in it is a context line -/
theorem block_is (s : St) (hs : i64ok s.next) : ∀ l : List Int, (∀ k ∈ l, ¬ k = 32) →
    (runs s l).next = wrap64 (s.next + (cnt 43 l : Int)) ∧ (runs s l).del = (s.del || has 45 l) ∧ (runs s l).add = (s.add || decide (0 < cnt 43 l)) ∧
    (runs s l).A = (if 0 < cnt 43 l then ext s.A s.next (wrap64 (wrap64 (s.next + (cnt 43 l : Int)) - 1)) else s.A) ∧ (runs s l).C = s.C := by
  intro l
  revert l
  refine snoc_ind (P := fun l => (∀ k ∈ l, ¬ k = 32) → _) ?_ ?_
  · intro _
    rw [runs_nil, cnt_nil]
    refine ⟨?_, by simp [has], by simp, by simp, rfl⟩
    show s.next = wrap64 (s.next + 0); rw [Int.add_zero, hs]
  · intro l k ih hk
    have h1 : ¬ k = 32 := hk k (by simp)
    obtain ⟨i1, i2, i3, i4, i5⟩ := ih (fun x hx => hk x (by simp [hx]))
    rw [runs_snoc, cnt_snoc, has_snoc]
    unfold step
    rw [if_neg h1]
    by_cases h2 : k = 45
    · subst h2
      rw [if_pos rfl, if_neg (show ¬ (45 : Int) = 43 by decide), Nat.add_zero]
      exact ⟨i1, by simp, i3, i4, i5⟩
    · rw [if_neg h2]
      by_cases h3 : k = 43
      · subst h3
        rw [if_pos rfl, if_pos rfl]
        refine ⟨?_, ?_, ?_, ?_, i5⟩
        · show wrap64 ((runs s l).next + 1) = _
          rw [i1, wrap_add]; congr 1; omega
        · show (runs s l).del = _
          rw [i2]; simp
        · simp
        · rw [if_pos (by omega)]
          show addL (runs s l).A (runs s l).next = _
          rw [i4, i1]
          have e : wrap64 (wrap64 (s.next + ((cnt 43 l + 1 : Nat) : Int)) - 1) = wrap64 (s.next + (cnt 43 l : Int)) := by
            rw [wrap_sub]; congr 1; omega
          rw [e]
          by_cases hp : 0 < cnt 43 l
          · rw [if_pos hp]; exact addL_ext _ _ _ _ rfl
          · rw [if_neg hp]
            have hz : cnt 43 l = 0 := by omega
            rw [hz]
            have : wrap64 (s.next + ((0 : Nat) : Int)) = s.next := by
              show wrap64 (s.next + 0) = s.next; rw [Int.add_zero, hs]
            rw [this, ext_self]
      · rw [if_neg h3, if_neg h3, Nat.add_zero]
        have hd : decide (k = 45) = false := decide_eq_false h2
        rw [hd, Bool.or_false]
        exact ⟨i1, i2, i3, i4, i5⟩
theorem step_kd (s : St) (r : Int) : step s (kd r) = step s r := by
  unfold kd
  by_cases h : r = 32 ∨ r = 45 ∨ r = 43 ∨ r = 92
  · rw [if_pos h]
  · rw [if_neg h]
    rw [step_not s 0 (by decide) (by decide) (by decide), step_not s r (by omega) (by omega) (by omega)]
theorem addL_len (A : List (Int × Int)) (n : Int) : (addL A n).length ≤ A.length + 1 := by
  rcases List.eq_nil_or_concat A with rfl | ⟨B, ⟨a, b⟩, rfl⟩
  · simp [addL]
  · rw [List.concat_eq_append]
    by_cases h : b = wrap64 (n - 1)
    · rw [addL_set B a b n h]; simp
    · rw [addL_app B a b n h]; simp
theorem step_len (s : St) (k : Int) : (step s k).A.length ≤ s.A.length + 1 ∧ (step s k).C.length ≤ s.C.length + 1 := by
  unfold step
  split
  · refine ⟨by simp, ?_⟩
    unfold cutC; split <;> simp
  · split
    · simp
    · split
      · exact ⟨addL_len _ _, by simp⟩
      · simp
theorem step_next (s : St) (k : Int) (h : i64ok s.next) : i64ok (step s k).next := by
  unfold step
  split
  · exact ok_wrap _
  · split
    · exact h
    · split
      · exact ok_wrap _
      · exact h
theorem runs_facts (s : St) (h : i64ok s.next) : ∀ l, (runs s l).A.length ≤ s.A.length + l.length ∧ (runs s l).C.length ≤ s.C.length + l.length ∧ i64ok (runs s l).next := by
  apply snoc_ind
  · exact ⟨by simp [runs], by simp [runs], h⟩
  · intro l k ih
    rw [runs_snoc]
    have := step_len (runs s l) k
    have hl : (l ++ [k]).length = l.length + 1 := by simp
    exact ⟨by omega, by omega, step_next _ _ ih.2.2⟩
end Go.Proofs.Qxb6617273a.Hunk
