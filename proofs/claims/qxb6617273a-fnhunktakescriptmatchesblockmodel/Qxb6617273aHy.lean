import Derived.Test.Qxb6617273aHzc
namespace Go.Proofs.Qxb6617273a.Hunk
open Go.RowKit Go.PlainAid Go.Proofs.Qxb6617273a.QLen

/-- the kinds from line j to line i -/
def seg (T : List ByteArray) (j i : Nat) : List Int := ((kinds T).take i).drop j
theorem seg_self (T : List ByteArray) (j : Nat) : seg T j j = [] := by unfold seg; rw [List.drop_eq_nil_of_le]; rw [List.length_take]; omega
theorem seg_take (T : List ByteArray) (j i : Nat) (h : j ≤ i) : (kinds T).take i = (kinds T).take j ++ seg T j i := by
  unfold seg
  have e := List.take_append_drop j ((kinds T).take i)
  rw [List.take_take, Nat.min_eq_left h] at e
  exact e.symm
theorem seg_snoc (T : List ByteArray) (j i : Nat) (h : j ≤ i) (hi : i < T.length) : seg T j (i + 1) = seg T j i ++ [kd (raw T[i])] := by
  unfold seg
  have hk : i < (kinds T).length := by rw [kinds_len]; exact hi
  rw [List.take_succ_eq_append_getElem hk, List.drop_append_of_le_length (by rw [List.length_take]; omega), kinds_get T i hi]
theorem seg_len (T : List ByteArray) (j i : Nat) : (seg T j i).length ≤ i := by
  unfold seg; rw [List.length_drop, List.length_take]; omega

section
variable (s0 S : St) (T : List ByteArray) (j i : Nat)
theorem end0 (hj : j ≤ i) (hS : S = runs s0 ((kinds T).take j)) (hok : i64ok S.next) (hno : ∀ k ∈ seg T j i, ¬ k = 32) (hp : cnt 43 (seg T j i) = 0) :
    ∃ x y, runs s0 ((kinds T).take i) = ⟨x, y, S.next, (S.del || has 45 (seg T j i)), S.add, S.A, S.C⟩ := by
  rw [seg_take T j i hj, runs_app, ← hS]
  obtain ⟨h1, h2, h3, h4, h5⟩ := block_is S hok (seg T j i) hno
  refine ⟨(runs S (seg T j i)).ol, (runs S (seg T j i)).nl, ?_⟩
  rw [hp] at h1 h3 h4
  have e : wrap64 (S.next + ((0 : Nat) : Int)) = S.next := by show wrap64 (S.next + 0) = _; rw [Int.add_zero, hok]
  rw [e] at h1
  simp at h3 h4
  rw [← h1, ← h2, ← h3, ← h4, ← h5]
theorem end1 (hj : j ≤ i) (hS : S = runs s0 ((kinds T).take j)) (hok : i64ok S.next) (hno : ∀ k ∈ seg T j i, ¬ k = 32) (hp : 0 < cnt 43 (seg T j i)) :
    ∃ x y, runs s0 ((kinds T).take i) = ⟨x, y, wrap64 (S.next + (cnt 43 (seg T j i) : Int)), (S.del || has 45 (seg T j i)), true, ext S.A S.next (wrap64 (wrap64 (S.next + (cnt 43 (seg T j i) : Int)) - 1)), S.C⟩ := by
  rw [seg_take T j i hj, runs_app, ← hS]
  obtain ⟨h1, h2, h3, h4, h5⟩ := block_is S hok (seg T j i) hno
  refine ⟨(runs S (seg T j i)).ol, (runs S (seg T j i)).nl, ?_⟩
  rw [if_pos hp] at h4
  have e3 : (S.add || decide (0 < cnt 43 (seg T j i))) = true := by simp [hp]
  rw [e3] at h3
  rw [← h4, ← h5, ← h3, ← h2, ← h1]
theorem after32 (hi : i < T.length) (h32 : kd (raw T[i]) = 32) (R : St) (hR : runs s0 ((kinds T).take i) = R) :
    ∃ x y, (⟨x, y, wrap64 (R.next + 1), false, false, R.A, cutC R.C R.next R.del R.add⟩ : St) = runs s0 ((kinds T).take (i + 1)) := by
  have hk : i < (kinds T).length := by rw [kinds_len]; exact hi
  rw [List.take_succ_eq_append_getElem hk, runs_snoc, kinds_get T i hi, h32, hR]
  exact ⟨wrap64 (R.ol - 1), wrap64 (R.nl - 1), rfl⟩
end

/-- the model's rows -/
def Inv (W : World) (wa wc : Option Addr) (wac wcc : Nat) (A : List (Int × Int)) (C : List Int) (wr : World) : Prop :=
  wr.ownsRow 0 36 2 (.slice wa A.length wac) A.length (PX A) ∧ wr.ownsRow 0 2 1 (.slice wc C.length wcc) C.length (NX C) ∧
  (∀ k, (Value.slice wa A.length wac).ownBlock = some k → W.heap.size ≤ k) ∧ (∀ k, (Value.slice wc C.length wcc).ownBlock = some k → W.heap.size ≤ k) ∧ Fr (fun k => W.heap.size ≤ k) W wr
theorem Inv.row {W : World} {wa wc : Option Addr} {wac wcc : Nat} {A : List (Int × Int)} {C : List Int} {wr : World} (h : Inv W wa wc wac wcc A C wr) {base : Nat} {e : TypeId} {size : Nat} {v : Value} {n : Nat} {xs : List Value} (ho : W.ownsRow base e size v n xs) : wr.ownsRow base e size v n xs :=
  h.2.2.2.2.own ho (fun k hk h => by have := (ho.lt k hk).2; omega)
theorem inv_set {W : World} {wc : Option Addr} {g wac wcc : Nat} {B : List (Int × Int)} {x y : Int} {C : List Int} {wr : World} (h : Inv W (some ⟨g, 0, none⟩) wc wac wcc (B ++ [(x, y)]) C wr) (n : Int) :
    Inv W (some ⟨g, 0, none⟩) wc wac wcc (B ++ [(x, n)]) C (wr.setCell ⟨g, B.length * 2 + 1, none⟩ (.int .i64 n)) := by
  obtain ⟨h1, h2, h3, h4, h5⟩ := h
  have l1 : (B ++ [(x, y)]).length = B.length + 1 := by simp
  have l2 : (B ++ [(x, n)]).length = B.length + 1 := by simp
  unfold Inv
  rw [l2]; rw [l1] at h1 h3
  refine ⟨?_, ?_, h3, h4, ?_⟩
  · have := (h1.stored (B.length * 2 + 1) (.int .i64 n)).1
    rwa [PX_setlast] at this
  · exact own_blk h2 fun k hk => Below.heap_setCell _ _ _ _ (by
      rintro rfl
      exact own_apart h1 h2 (by decide) _ rfl hk)
  · exact Fr.set (p := ⟨g, B.length * 2 + 1, none⟩) h5 (h3 g rfl) _
theorem inv_app {W : World} {wa wc : Option Addr} {g cap wac wcc : Nat} {A : List (Int × Int)} {f l : Int} {C : List Int} {wr w1 : World} {o : Obj} (h : Inv W wa wc wac wcc A C wr)
    (h1 : w1.ownsRow 0 36 2 (.slice (some ⟨g, 0, none⟩) (A.length + 1) cap) (A.length + 1) (PX A ++ [.int .i64 f, .int .i64 l])) (hg : (wr.alloc o).grownBy w1 (Value.slice wa A.length wac).ownBlock) (hat : (Value.slice wa A.length wac).ownBlock = some g ∨ g = wr.heap.size + 1) :
    Inv W (some ⟨g, 0, none⟩) wc cap wcc (A ++ [(f, l)]) C w1 := by
  obtain ⟨q1, q2, q3, q4, q5⟩ := h
  have l1 : (A ++ [(f, l)]).length = A.length + 1 := by simp
  unfold Inv
  rw [l1]
  refine ⟨by rw [PX_app, PX_one]; exact h1, ?_, ?_, q4, ?_⟩
  · refine own_blk (q2.alloc o) fun k hk => hg.block k ((q2.alloc o).lt k hk).2 (fun e => own_apart q1 q2 (by decide) k e.symm hk)
  · intro k hk
    simp [Value.ownBlock] at hk; subst hk
    rcases hat with h | h
    · exact q3 g h
    · have := q5.size; omega
  · exact Fr.grown (q5.alloc o) hg fun k hk _ => q3 k hk
theorem inv_cut {W : World} {wa wc : Option Addr} {g cap wac wcc : Nat} {A : List (Int × Int)} {x : Int} {C : List Int} {wr w1 : World} {o : Obj} (h : Inv W wa wc wac wcc A C wr)
    (h1 : w1.ownsRow 0 2 1 (.slice (some ⟨g, 0, none⟩) (C.length + 1) cap) (C.length + 1) (NX C ++ [.int .i64 x])) (hg : (wr.alloc o).grownBy w1 (Value.slice wc C.length wcc).ownBlock) (hat : (Value.slice wc C.length wcc).ownBlock = some g ∨ g = wr.heap.size + 1) :
    Inv W wa (some ⟨g, 0, none⟩) wac cap A (C ++ [x]) w1 := by
  obtain ⟨q1, q2, q3, q4, q5⟩ := h
  have l1 : (C ++ [x]).length = C.length + 1 := by simp
  unfold Inv
  rw [l1]
  refine ⟨?_, ?_, q3, ?_, ?_⟩
  · refine own_blk (q1.alloc o) fun k hk => hg.block k ((q1.alloc o).lt k hk).2 (fun e => own_apart q2 q1 (by decide) k e.symm hk)
  · simpa [NX] using h1
  · intro k hk
    simp [Value.ownBlock] at hk; subst hk
    rcases hat with h | h
    · exact q4 g h
    · have := q5.size; omega
  · exact Fr.grown (q5.alloc o) hg fun k hk _ => q4 k hk
end Go.Proofs.Qxb6617273a.Hunk
