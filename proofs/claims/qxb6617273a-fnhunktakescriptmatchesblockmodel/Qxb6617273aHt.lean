import Derived.Test.Qxb6617273aHe
namespace Go.Proofs.Qxb6617273a.Hunk
open Go.RowKit Go.PlainAid Go.Proofs.Qxb6617273a.QLen
attribute [local go_sem ↓] Go.wp_at_zero Go.wp_at_succ

structure St where
  ol : Int
  nl : Int
  next : Int
  del : Bool
  add : Bool
  A : List (Int × Int)
  C : List Int

def step (s : St) (r : Int) : St :=
  if r = 32 then ⟨wrap64 (s.ol - 1), wrap64 (s.nl - 1), wrap64 (s.next + 1), false, false, s.A, cutC s.C s.next s.del s.add⟩
  else if r = 45 then ⟨wrap64 (s.ol - 1), s.nl, s.next, true, s.add, s.A, s.C⟩
  else if r = 43 then ⟨s.ol, wrap64 (s.nl - 1), wrap64 (s.next + 1), s.del, true, addL s.A s.next, s.C⟩
  else s

def PS (N0 : Nat) (cb : Option Nat) (hb fb : Nat) (l0 l1 l2 l3 whole : Value) (s : St) (w : World) : Prop :=
  w.heap[hb]? = some (.cells #[l0, l1, l2, l3, .int .i64 s.ol, .int .i64 s.nl, .int .i64 s.next, .bool s.del, .bool s.add] 50 (0, 0)) ∧
  ∃ vA vC, w.heap[fb]? = some (.cells #[whole, vA, vC] 55 (0, 0)) ∧ w.ownsRow 0 53 2 vA s.A.length (PX s.A) ∧ w.ownsRow 0 2 1 vC s.C.length (NX s.C) ∧
    (∀ k, vA.ownBlock = some k → N0 ≤ k ∨ cb = some k) ∧ (∀ k, vC.ownBlock = some k → N0 ≤ k ∨ cb = some k) ∧ N0 ≤ hb ∧ N0 ≤ fb


/-- two rows of different element types lie in different blocks -/
theorem own_apart {w : World} {base base' : Nat} {e e' : TypeId} {size size' : Nat} {v v' : Value} {n n' : Nat} {xs xs' : List Value} (h : w.ownsRow base e size v n xs) (h' : w.ownsRow base' e' size' v' n' xs') (hne : e ≠ e') : ∀ k, v.ownBlock = some k → v'.ownBlock ≠ some k := by
  intro k hk hk'
  rcases h.2 with ⟨rfl, _⟩ | ⟨g, cap, cur, rfl, _, hg, _⟩
  · simp [Value.ownBlock] at hk
  · simp [Value.ownBlock] at hk
    subst hk
    exact own_ne h' hg hne hk'

theorem ps_upd {N0 : Nat} {cb : Option Nat} {hb fb : Nat} {l0 l1 l2 l3 whole : Value} {s : St} {w : World} (h : PS N0 cb hb fb l0 l1 l2 l3 whole s w) (s' : St) (hA : s'.A = s.A) (hC : s'.C = s.C) (w' : World)
    (hk : ∀ k, k ≠ hb → w'.heap[k]? = w.heap[k]?)
    (hH' : w'.heap[hb]? = some (.cells #[l0, l1, l2, l3, .int .i64 s'.ol, .int .i64 s'.nl, .int .i64 s'.next, .bool s'.del, .bool s'.add] 50 (0, 0))) : PS N0 cb hb fb l0 l1 l2 l3 whole s' w' := by
  obtain ⟨hH, vA, vC, hF, h1, h2, h3, h4, h5, h6⟩ := h
  have n1 := own_ne h1 hH (by decide)
  have n2 := own_ne h2 hH (by decide)
  have n3 : hb ≠ fb := blk_ne hH hF (by decide)
  refine ⟨hH', vA, vC, by rw [hk fb (Ne.symm n3)]; exact hF, ?_, ?_, h3, h4, h5, h6⟩
  · rw [hA]; exact own_blk h1 fun k e => hk k (by rintro rfl; exact n1 e)
  · rw [hC]; exact own_blk h2 fun k e => hk k (by rintro rfl; exact n2 e)

theorem ps_26 {N0 : Nat} {cb : Option Nat} {hb fb : Nat} {l0 l1 l2 l3 whole vA vC : Value} {s : St} {w w' : World} (hN : N0 ≤ w.heap.size)
    (hH : w.heap[hb]? = some (.cells #[l0, l1, l2, l3, .int .i64 s.ol, .int .i64 s.nl, .int .i64 s.next, .bool s.del, .bool s.add] 50 (0, 0)))
    (hF : w.heap[fb]? = some (.cells #[whole, vA, vC] 55 (0, 0))) (h1 : w.ownsRow 0 53 2 vA s.A.length (PX s.A)) (h2 : w.ownsRow 0 2 1 vC s.C.length (NX s.C))
    (h3 : ∀ k, vA.ownBlock = some k → N0 ≤ k ∨ cb = some k) (h4 : ∀ k, vC.ownBlock = some k → N0 ≤ k ∨ cb = some k) (h5 : N0 ≤ hb) (h6 : N0 ≤ fb)
    (hL : Left26 hb fb l0 l1 l2 l3 (.int .i64 s.ol) (.int .i64 s.nl) (.int .i64 s.next) whole vA vC (cutC s.C s.next s.del s.add) w w') :
    PS N0 cb hb fb l0 l1 l2 l3 whole ⟨s.ol, s.nl, s.next, false, false, s.A, cutC s.C s.next s.del s.add⟩ w' ∧ Fr (fun k => N0 ≤ k ∨ cb = some k) w w' := by
  obtain ⟨q1, vC', q2, q3, q4, q5⟩ := hL
  refine ⟨⟨q1, vA, vC', q2, ?_, q3, h3, ?_, h5, h6⟩, q5.mono ?_⟩
  · refine own_blk h1 fun k e => ?_
    obtain ⟨g, cap, cur, rfl, _, hg, _⟩ : ∃ g cap cur, vA = .slice (some ⟨g, 0, none⟩) s.A.length cap ∧ 0 ≤ g ∧ w.heap[g]? = some (.cells cur 53 (0, 0)) ∧ True := by
      rcases h1.2 with ⟨rfl, _⟩ | ⟨g, cap, cur, rfl, a, b, _⟩
      · simp [Value.ownBlock] at e
      · exact ⟨g, cap, cur, rfl, a, b, trivial⟩
    simp [Value.ownBlock] at e
    subst e
    refine q5.block g (lt_of_block hg) ?_
    rintro (h | h | h)
    · subst h; exact own_ne h1 hH (by decide) rfl
    · subst h; exact own_ne h1 hF (by decide) rfl
    · exact own_ne h2 hg (by decide) h
  · intro k hk
    rcases q4 k hk with h | h
    · exact h4 k h
    · exact Or.inl (by omega)
  · rintro k _ (h | h | h)
    · exact Or.inl (by omega)
    · exact Or.inl (by omega)
    · exact h4 k h
theorem ps_27 {N0 : Nat} {cb : Option Nat} {hb fb : Nat} {l0 l1 l2 l3 whole vA vC : Value} {s : St} {w w' : World} (hN : N0 ≤ w.heap.size)
    (hH : w.heap[hb]? = some (.cells #[l0, l1, l2, l3, .int .i64 s.ol, .int .i64 s.nl, .int .i64 s.next, .bool s.del, .bool s.add] 50 (0, 0)))
    (hF : w.heap[fb]? = some (.cells #[whole, vA, vC] 55 (0, 0))) (h1 : w.ownsRow 0 53 2 vA s.A.length (PX s.A)) (h2 : w.ownsRow 0 2 1 vC s.C.length (NX s.C))
    (h3 : ∀ k, vA.ownBlock = some k → N0 ≤ k ∨ cb = some k) (h4 : ∀ k, vC.ownBlock = some k → N0 ≤ k ∨ cb = some k) (h5 : N0 ≤ hb) (h6 : N0 ≤ fb)
    (hL : Left27 fb whole vA vC (addL s.A s.next) w w') :
    PS N0 cb hb fb l0 l1 l2 l3 whole ⟨s.ol, s.nl, s.next, s.del, s.add, addL s.A s.next, s.C⟩ w' ∧ Fr (fun k => N0 ≤ k ∨ cb = some k) w w' := by
  obtain ⟨vA', q2, q3, q4, q5⟩ := hL
  have n3 : hb ≠ fb := blk_ne hH hF (by decide)
  refine ⟨⟨?_, vA', vC, q2, q3, ?_, ?_, h4, h5, h6⟩, q5.mono ?_⟩
  · rw [q5.block hb (lt_of_block hH)]
    · exact hH
    · rintro (h | h)
      · exact n3 h
      · exact own_ne h1 hH (by decide) h
  · refine own_blk h2 fun k e => ?_
    obtain ⟨g, cap, cur, rfl, _, hg, _⟩ : ∃ g cap cur, vC = .slice (some ⟨g, 0, none⟩) s.C.length cap ∧ 0 ≤ g ∧ w.heap[g]? = some (.cells cur 2 (0, 0)) ∧ True := by
      rcases h2.2 with ⟨rfl, _⟩ | ⟨g, cap, cur, rfl, a, b, _⟩
      · simp [Value.ownBlock] at e
      · exact ⟨g, cap, cur, rfl, a, b, trivial⟩
    simp [Value.ownBlock] at e
    subst e
    refine q5.block g (lt_of_block hg) ?_
    rintro (h | h)
    · subst h; exact own_ne h2 hF (by decide) rfl
    · exact own_ne h1 hg (by decide) h
  · intro k hk
    rcases q4 k hk with h | h
    · exact h3 k h
    · exact Or.inl (by omega)
  · rintro k _ (h | h)
    · exact Or.inl (by omega)
    · exact h3 k h

/-- what one line leaves -/
def Took (N0 : Nat) (cb : Option Nat) (hb fb : Nat) (l0 l1 l2 l3 whole : Value) (s : St) (w w' : World) : Prop :=
  PS N0 cb hb fb l0 l1 l2 l3 whole s w' ∧ Fr (fun k => N0 ≤ k ∨ cb = some k) w w'

theorem Took.drew {N0 : Nat} {cb : Option Nat} {hb fb : Nat} {l0 l1 l2 l3 whole : Value} {s : St} {w w' : World} (h : Took N0 cb hb fb l0 l1 l2 l3 whole s w w') : Took N0 cb hb fb l0 l1 l2 l3 whole s w w'.drew := ⟨h.1, h.2.drew⟩

theorem three_set {N0 : Nat} {cb : Option Nat} {hb fb : Nat} {l0 l1 l2 l3 whole : Value} {s : St} {w w0 : World} (h : Took N0 cb hb fb l0 l1 l2 l3 whole s w0 w) (i j k : Nat) (x y z : Value) (s' : St) (hA : s'.A = s.A) (hC : s'.C = s.C)
    (hs : (((#[l0, l1, l2, l3, .int .i64 s.ol, .int .i64 s.nl, .int .i64 s.next, .bool s.del, .bool s.add] : Array Value).setIfInBounds i x).setIfInBounds j y).setIfInBounds k z = #[l0, l1, l2, l3, .int .i64 s'.ol, .int .i64 s'.nl, .int .i64 s'.next, .bool s'.del, .bool s'.add]) :
    Took N0 cb hb fb l0 l1 l2 l3 whole s' w0 (((w.setCell ⟨hb, i, none⟩ x).setCell ⟨hb, j, none⟩ y).setCell ⟨hb, k, none⟩ z) := by
  obtain ⟨h, hf⟩ := h
  have h5 : N0 ≤ hb := by obtain ⟨_, _, _, _, _, _, _, _, a, _⟩ := h; exact a
  have q := blk_set (blk_set (blk_set h.1 i x) j y) k z
  rw [hs] at q
  refine ⟨ps_upd h s' hA hC _ (fun m hm => ?_) q, ?_⟩
  · rw [Below.heap_setCell _ _ _ _ hm, Below.heap_setCell _ _ _ _ hm, Below.heap_setCell _ _ _ _ hm]
  · exact Fr.set (p := ⟨hb, k, none⟩) (Fr.set (p := ⟨hb, j, none⟩) (Fr.set (p := ⟨hb, i, none⟩) hf (Or.inl h5) _) (Or.inl h5) _) (Or.inl h5) _

section
variable {N0 : Nat} {cb : Option Nat} {hb fb : Nat} {l0 l1 l2 l3 whole : Value} {s : St} {w : World}

set_option maxHeartbeats 1000000 in
theorem take_32 (h : PS N0 cb hb fb l0 l1 l2 l3 whole s w) (hN : N0 ≤ w.heap.size) (hl : s.C.length ≤ 1000000) (x t : ByteArray) (ht : t.size ≤ 2097152) (he : t.toList.isEmpty = true ∨ (t.toList.isEmpty = false ∧ 1 ≤ t.size ∧ (bt t 0 = 32)))
    (H25 : Calls Try.prog 25 #[.string x, .string ⟨#[13]⟩] w fun e w' => e = .returned (.string t) ∧ w' = w) :
    Calls Try.prog 23 #[.pointer (some ⟨hb, 0, none⟩), .string x, .pointer (some ⟨fb, 0, none⟩)] w fun e w' => e = .returned (.bool true) ∧ Took N0 cb hb fb l0 l1 l2 l3 whole (step s 32) w w' := by
  obtain ⟨hH, vA, vC, hF, h1, h2, h3, h4, h5, h6⟩ := h
  have H26 := endRun_any w hb fb l0 l1 l2 l3 (.int .i64 s.ol) (.int .i64 s.nl) whole vA vC s.next s.del s.add s.C hl hH hF h2
  have HP := hid (fun w' => ps_26 (w' := w') hN hH hF h1 h2 h3 h4 h5 h6)
  clear hH hF h1 h2 h3 h4 h5 h6
  rcases he with he | ⟨he, hs, hb32⟩
  · go_enter Try.func23, Try.ntmps23
    go_wp2_with fail
    refine H25.mono ?_
    rintro e w' ⟨rfl, rfl⟩
    go_wp2_with fail
    refine H26.mono ?_
    rintro e w1 ⟨rfl, hL⟩
    have hp := HP.out w1 hL
    have hH := hp.1.1
    have HT := hid (three_set hp 4 5 6 (.int .i64 (wrap64 (s.ol - 1))) (.int .i64 (wrap64 (s.nl - 1))) (.int .i64 (wrap64 (s.next + 1))) (step s 32) rfl rfl rfl)
    have c4 : w1.cell? ⟨hb, 4, none⟩ = some (.int .i64 s.ol) := blk_cell hH 4
    have c5 : w1.cell? ⟨hb, 5, none⟩ = some (.int .i64 s.nl) := blk_cell hH 5
    have c6 : w1.cell? ⟨hb, 6, none⟩ = some (.int .i64 s.next) := blk_cell hH 6
    have f4 : w1.frozen? ⟨hb, 4, none⟩ = false := blk_free hH 4
    have f5 : w1.frozen? ⟨hb, 5, none⟩ = false := blk_free hH 5
    have f6 : w1.frozen? ⟨hb, 6, none⟩ = false := blk_free hH 6
    clear hH hp HP hL H25 H26
    go_wp2_with fail
    go_region
    go_wp2_with fail
    go_ret
    exact ⟨rfl, HT.out.drew⟩
  · have hbt := get_bt t
    go_enter Try.func23, Try.ntmps23
    go_wp2_with fail
    refine H25.mono ?_
    rintro e w' ⟨rfl, rfl⟩
    go_wp2_with fail
    refine H26.mono ?_
    rintro e w1 ⟨rfl, hL⟩
    have hp := HP.out w1 hL
    have hH := hp.1.1
    have HT := hid (three_set hp 4 5 6 (.int .i64 (wrap64 (s.ol - 1))) (.int .i64 (wrap64 (s.nl - 1))) (.int .i64 (wrap64 (s.next + 1))) (step s 32) rfl rfl rfl)
    have c4 : w1.cell? ⟨hb, 4, none⟩ = some (.int .i64 s.ol) := blk_cell hH 4
    have c5 : w1.cell? ⟨hb, 5, none⟩ = some (.int .i64 s.nl) := blk_cell hH 5
    have c6 : w1.cell? ⟨hb, 6, none⟩ = some (.int .i64 s.next) := blk_cell hH 6
    have f4 : w1.frozen? ⟨hb, 4, none⟩ = false := blk_free hH 4
    have f5 : w1.frozen? ⟨hb, 5, none⟩ = false := blk_free hH 5
    have f6 : w1.frozen? ⟨hb, 6, none⟩ = false := blk_free hH 6
    clear hH hp HP hL H25 H26 hbt
    go_wp2_with fail
    go_region
    go_wp2_with fail
    go_ret
    exact ⟨rfl, HT.out.drew⟩

set_option maxHeartbeats 1000000 in
theorem take_43 (h : PS N0 cb hb fb l0 l1 l2 l3 whole s w) (hN : N0 ≤ w.heap.size) (hl : s.A.length ≤ 1000000) (x t : ByteArray) (ht : t.size ≤ 2097152) (he : t.toList.isEmpty = false) (hs : 1 ≤ t.size) (hb43 : bt t 0 = 43)
    (H25 : Calls Try.prog 25 #[.string x, .string ⟨#[13]⟩] w fun e w' => e = .returned (.string t) ∧ w' = w) :
    Calls Try.prog 23 #[.pointer (some ⟨hb, 0, none⟩), .string x, .pointer (some ⟨fb, 0, none⟩)] w fun e w' => e = .returned (.bool true) ∧ Took N0 cb hb fb l0 l1 l2 l3 whole (step s 43) w w' := by
  obtain ⟨hH, vA, vC, hF, h1, h2, h3, h4, h5, h6⟩ := h
  have H27 := addLine_any w fb s.next whole vA vC s.A hl hF h1
  have HP := hid (fun w' => ps_27 (w' := w') hN hH hF h1 h2 h3 h4 h5 h6)
  have b6 : w.cell? ⟨hb, 6, none⟩ = some (.int .i64 s.next) := blk_cell hH 6
  clear hH hF h1 h2 h3 h4 h5 h6
  have hbt := get_bt t
  go_enter Try.func23, Try.ntmps23
  go_wp2_with fail
  refine H25.mono ?_
  rintro e w' ⟨rfl, rfl⟩
  go_wp2_with fail
  refine H27.mono ?_
  rintro e w1 ⟨rfl, hL⟩
  have hp := HP.out w1 hL
  have hH := hp.1.1
  have HT := hid (three_set hp 5 6 8 (.int .i64 (wrap64 (s.nl - 1))) (.int .i64 (wrap64 (s.next + 1))) (.bool true) (step s 43) rfl rfl rfl)
  have c5 : w1.cell? ⟨hb, 5, none⟩ = some (.int .i64 s.nl) := blk_cell hH 5
  have c6 : w1.cell? ⟨hb, 6, none⟩ = some (.int .i64 s.next) := blk_cell hH 6
  have c8 : w1.cell? ⟨hb, 8, none⟩ = some (.bool s.add) := blk_cell hH 8
  have f5 : w1.frozen? ⟨hb, 5, none⟩ = false := blk_free hH 5
  have f6 : w1.frozen? ⟨hb, 6, none⟩ = false := blk_free hH 6
  have f8 : w1.frozen? ⟨hb, 8, none⟩ = false := blk_free hH 8
  clear hH hp HP hL H25 H27 hbt b6
  go_wp2_with fail
  go_region
  go_wp2_with fail
  go_ret
  exact ⟨rfl, HT.out.drew⟩

theorem two_set {N0 : Nat} {cb : Option Nat} {hb fb : Nat} {l0 l1 l2 l3 whole : Value} {s : St} {w : World} (h : PS N0 cb hb fb l0 l1 l2 l3 whole s w) :
    Took N0 cb hb fb l0 l1 l2 l3 whole (step s 45) w ((w.setCell ⟨hb, 4, none⟩ (.int .i64 (wrap64 (s.ol - 1)))).setCell ⟨hb, 7, none⟩ (.bool true)) := by
  have h5 : N0 ≤ hb := by obtain ⟨_, _, _, _, _, _, _, _, a, _⟩ := h; exact a
  have q := blk_set (blk_set h.1 4 (.int .i64 (wrap64 (s.ol - 1)))) 7 (.bool true)
  refine ⟨ps_upd h (step s 45) rfl rfl _ (fun m hm => ?_) (by rw [q]; rfl), ?_⟩
  · rw [Below.heap_setCell _ _ _ _ hm, Below.heap_setCell _ _ _ _ hm]
  · exact Fr.set (p := ⟨hb, 7, none⟩) (Fr.set (p := ⟨hb, 4, none⟩) (Fr.refl _ _) (Or.inl h5) _) (Or.inl h5) _

set_option maxHeartbeats 1000000 in
theorem take_45 (h : PS N0 cb hb fb l0 l1 l2 l3 whole s w) (x t : ByteArray) (ht : t.size ≤ 2097152) (he : t.toList.isEmpty = false) (hs : 1 ≤ t.size) (hb45 : bt t 0 = 45)
    (H25 : Calls Try.prog 25 #[.string x, .string ⟨#[13]⟩] w fun e w' => e = .returned (.string t) ∧ w' = w) :
    Calls Try.prog 23 #[.pointer (some ⟨hb, 0, none⟩), .string x, .pointer (some ⟨fb, 0, none⟩)] w fun e w' => e = .returned (.bool true) ∧ Took N0 cb hb fb l0 l1 l2 l3 whole (step s 45) w w' := by
  have hH := h.1
  have HT := hid (two_set h)
  have c4 : w.cell? ⟨hb, 4, none⟩ = some (.int .i64 s.ol) := blk_cell hH 4
  have c7 : w.cell? ⟨hb, 7, none⟩ = some (.bool s.del) := blk_cell hH 7
  have f4 : w.frozen? ⟨hb, 4, none⟩ = false := blk_free hH 4
  have f7 : w.frozen? ⟨hb, 7, none⟩ = false := blk_free hH 7
  clear hH h
  have hbt := get_bt t
  go_enter Try.func23, Try.ntmps23
  go_wp2_with fail
  refine H25.mono ?_
  rintro e w' ⟨rfl, rfl⟩
  go_wp2_with fail
  go_ret
  exact ⟨rfl, HT.out⟩

set_option maxHeartbeats 1000000 in
theorem take_92 (h : PS N0 cb hb fb l0 l1 l2 l3 whole s w) (x t : ByteArray) (ht : t.size ≤ 2097152) (he : t.toList.isEmpty = false) (hs : 1 ≤ t.size) (hb92 : bt t 0 = 92)
    (H25 : Calls Try.prog 25 #[.string x, .string ⟨#[13]⟩] w fun e w' => e = .returned (.string t) ∧ w' = w) :
    Calls Try.prog 23 #[.pointer (some ⟨hb, 0, none⟩), .string x, .pointer (some ⟨fb, 0, none⟩)] w fun e w' => e = .returned (.bool true) ∧ Took N0 cb hb fb l0 l1 l2 l3 whole s w w' := by
  have HT : Hid (Took N0 cb hb fb l0 l1 l2 l3 whole s w w) := ⟨h, Fr.refl _ _⟩
  clear h
  have hbt := get_bt t
  go_enter Try.func23, Try.ntmps23
  go_wp2_with fail
  refine H25.mono ?_
  rintro e w' ⟨rfl, rfl⟩
  go_wp2_with fail
  go_ret
  exact ⟨rfl, HT.out⟩

set_option maxHeartbeats 1000000 in
theorem take_not (h : PS N0 cb hb fb l0 l1 l2 l3 whole s w) (x t : ByteArray) (ht : t.size ≤ 2097152) (he : t.toList.isEmpty = false) (hs : 1 ≤ t.size)
    (e1 : (bt t 0 == 32) = false) (e2 : (bt t 0 == 45) = false) (e3 : (bt t 0 == 43) = false) (e4 : (bt t 0 == 92) = false)
    (H25 : Calls Try.prog 25 #[.string x, .string ⟨#[13]⟩] w fun e w' => e = .returned (.string t) ∧ w' = w) :
    Calls Try.prog 23 #[.pointer (some ⟨hb, 0, none⟩), .string x, .pointer (some ⟨fb, 0, none⟩)] w fun e w' => e = .returned (.bool false) ∧ Took N0 cb hb fb l0 l1 l2 l3 whole s w w' := by
  have HT : Hid (Took N0 cb hb fb l0 l1 l2 l3 whole s w w) := ⟨h, Fr.refl _ _⟩
  clear h
  have hbt := get_bt t
  go_enter Try.func23, Try.ntmps23
  go_wp2_with fail
  refine H25.mono ?_
  rintro e w' ⟨rfl, rfl⟩
  go_wp2_with fail
  go_ret
  exact ⟨rfl, HT.out⟩

theorem step_not (s : St) (r : Int) (h1 : ¬ r = 32) (h2 : ¬ r = 45) (h3 : ¬ r = 43) : step s r = s := by
  unfold step; rw [if_neg h1, if_neg h2, if_neg h3]
theorem take_any (h : PS N0 cb hb fb l0 l1 l2 l3 whole s w) (hN : N0 ≤ w.heap.size) (hl1 : s.A.length ≤ 1000000) (hl2 : s.C.length ≤ 1000000) (x : ByteArray) (hx : x.size ≤ 2097152) :
    Calls Try.prog 23 #[.pointer (some ⟨hb, 0, none⟩), .string x, .pointer (some ⟨fb, 0, none⟩)] w fun e w' => e = .returned (.bool (kd (raw x) != 0)) ∧ Took N0 cb hb fb l0 l1 l2 l3 whole (step s (raw x)) w w' := by
  obtain ⟨t, ht, hr, H25⟩ := trim_any x w hx
  generalize raw x = r at hr
  by_cases h32 : r = 32
  · subst h32
    exact take_32 h hN hl2 x t ht (by rcases hr with ⟨a, _⟩ | ⟨a, b, c⟩; exact Or.inl a; exact Or.inr ⟨a, b, c⟩) H25
  · rcases hr with ⟨_, a⟩ | ⟨a, b, c⟩
    · exact absurd a h32
    · subst c
      by_cases h45 : bt t 0 = 45
      · rw [h45]; exact take_45 h x t ht a b h45 H25
      · by_cases h43 : bt t 0 = 43
        · rw [h43]; exact take_43 h hN hl1 x t ht a b h43 H25
        · rw [step_not s _ h32 h45 h43]
          by_cases h92 : bt t 0 = 92
          · rw [h92]; exact take_92 h x t ht a b h92 H25
          · have : kd (bt t 0) = 0 := by unfold kd; rw [if_neg (by omega)]
            rw [this]
            exact take_not h x t ht a b (by simpa using h32) (by simpa using h45) (by simpa using h43) (by simpa using h92) H25
set_option maxHeartbeats 400000 in
theorem zzTake_any (h : PS N0 cb hb fb l0 l1 l2 l3 whole s w) (hN : N0 ≤ w.heap.size) (hl1 : s.A.length ≤ 1000000) (hl2 : s.C.length ≤ 1000000) (x : ByteArray) (hx : x.size ≤ 2097152) :
    Calls Try.prog 17 #[.pointer (some ⟨hb, 0, none⟩), .string x, .pointer (some ⟨fb, 0, none⟩)] w fun e w' => e = .returned (.bool (kd (raw x) != 0)) ∧ Took N0 cb hb fb l0 l1 l2 l3 whole (step s (raw x)) w w' := by
  have H23 := take_any h hN hl1 hl2 x hx
  clear h
  go_enter Try.func17, Try.ntmps17
  go_wp2_with fail
  refine H23.mono ?_
  rintro e w' ⟨rfl, hT⟩
  have HT := hid hT
  clear hT H23
  go_wp2_with fail
  go_ret
  exact ⟨rfl, HT.out⟩
end
end Go.Proofs.Qxb6617273a.Hunk
