import Derived.Test.Qxb6618167aPB
namespace Go.Proofs.Qxb6618167a.Hist
open Go.RowKit Go.PlainAid

def see (r : Int) (e : Ent) (st : St) : St := match st e.val with
  | some f => if (!f.seen || decide (r < f.ret)) then upd st e.val { f with seen := true, index := e.idx, ret := r } else st
  | none => st
def gatherF (z : Zp) (st : St) : St :=
  if isApp z then (match st z.val with | some f => upd st z.val { f with appends := f.appends + 1 } | none => st)
  else if isOk z then z.ents.foldl (fun st e => see z.ret e st) st else st
def sg (r : Int) (ix : Option Int) (acc : Option (Int × Int)) : Option (Int × Int) :=
  match ix with
  | none => acc
  | some i => (match acc with | none => some (r, i) | some (q, j) => if r < q then some (r, i) else some (q, j))
def sight (M : List Zp) (v : List UInt8) : Option (Int × Int) := M.foldl (fun acc z => sg z.ret (first z v) acc) none
def fateOf (c n : Int) (s : Option (Int × Int)) : Fate := ⟨c, n, s.isSome, (s.map (·.2)).getD 0, (s.map (·.1)).getD 0⟩

theorem sg_idem (r i : Int) (x : Option Int) (s : Option (Int × Int)) : sg r x (sg r (some i) s) = sg r (some i) s := by
  cases x with
  | none => rfl
  | some j =>
    cases s with
    | none => simp [sg]
    | some p =>
      obtain ⟨q, k⟩ := p
      by_cases h : r < q
      · simp [sg, h]
      · simp [sg, h]
theorem see_other {r : Int} {e : Ent} {st : St} {v : List UInt8} (h : e.val ≠ v) : see r e st v = st v := by
  unfold see
  cases st e.val with
  | none => rfl
  | some f =>
    simp only
    split
    · exact upd_other _ _ (fun h' => h h'.symm)
    · rfl
theorem see_same {r : Int} {e : Ent} {st : St} {c n : Int} {s : Option (Int × Int)} (h : st e.val = some (fateOf c n s)) : see r e st e.val = some (fateOf c n (sg r (some e.idx) s)) := by
  unfold see
  rw [h]
  cases s with
  | none => simp [fateOf, sg, upd_same]
  | some p =>
    obtain ⟨q, k⟩ := p
    by_cases hq : r < q
    · simp [fateOf, sg, upd_same, hq]
    · simp [fateOf, sg, hq, h]
theorem see_none {r : Int} {e : Ent} {st : St} {v : List UInt8} (h : st v = none) : see r e st v = none := by
  by_cases hv : e.val = v
  · subst hv; unfold see; rw [h]; exact h
  · rw [see_other hv]; exact h
theorem ents_none {r : Int} {v : List UInt8} : ∀ (es : List Ent) (st : St), st v = none → es.foldl (fun st e => see r e st) st v = none
  | [], _, h => h
  | e :: es, st, h => by rw [List.foldl_cons]; exact ents_none es _ (see_none h)
theorem ents_at {r : Int} {v : List UInt8} {c n : Int} : ∀ (es : List Ent) (st : St) (s : Option (Int × Int)), st v = some (fateOf c n s) → es.foldl (fun st e => see r e st) st v = some (fateOf c n (sg r (fe es v) s))
  | [], _, _, h => h
  | e :: es, st, s, h => by
    rw [List.foldl_cons]
    by_cases hv : e.val = v
    · subst hv
      rw [ents_at es _ _ (see_same h), sg_idem]
      simp [fe]
    · rw [ents_at es _ s (by rw [see_other hv]; exact h)]
      simp [fe, hv]
theorem gather_none {z : Zp} {st : St} {v : List UInt8} (h : st v = none) : gatherF z st v = none := by
  unfold gatherF
  cases isApp z with
  | true =>
    simp only [if_true]
    cases hz : st z.val with
    | none => exact h
    | some f =>
      simp only
      rw [upd_other _ _ (fun e => by rw [e, hz] at h; simp at h)]; exact h
  | false =>
    cases isOk z with
    | true => simp; exact ents_none _ _ h
    | false => simp [h]
theorem gather_at {z : Zp} {st : St} {v : List UInt8} {c n : Int} {s : Option (Int × Int)} (h : st v = some (fateOf c n s)) : gatherF z st v = some (fateOf c (n + if ap v z then 1 else 0) (sg z.ret (first z v) s)) := by
  unfold gatherF first ap
  cases isApp z with
  | true =>
    simp only [if_true, Bool.not_true, Bool.false_and, Bool.true_and, Bool.false_eq_true, if_false, sg]
    by_cases hv : z.val = v
    · subst hv
      rw [h]
      simp [upd_same, fateOf]
    · have hne : v ≠ z.val := fun e => hv e.symm
      cases hz : st z.val with
      | none => simp [h, hv]
      | some f => simp [upd_other _ _ hne, h, hv]
  | false =>
    cases isOk z with
    | true => simp; exact ents_at _ _ _ h
    | false => simp [h, sg]
def gath (st : St) (M : List Zp) : St := M.foldl (fun st z => gatherF z st) st
theorem gath_snoc (st : St) (M : List Zp) (z : Zp) : gath st (M ++ [z]) = gatherF z (gath st M) := by simp [gath, List.foldl_append]
theorem sight_snoc (M : List Zp) (z : Zp) (v : List UInt8) : sight (M ++ [z]) v = sg z.ret (first z v) (sight M v) := by simp [sight, List.foldl_append]
theorem apps_snoc (M : List Zp) (z : Zp) (v : List UInt8) : appsOf (M ++ [z]) v = appsOf M v + if ap v z then 1 else 0 := by simp [appsOf, List.countP_append]
theorem gath_st (st : St) (v : List UInt8) (a : Option Int) (h : st v = a.map fresh) : ∀ M, gath st M v = a.map (fun c => fateOf c (appsOf M v) (sight M v)) := by
  refine noted_ind _ ?_ fun M z ih => ?_
  · rw [gath, List.foldl_nil, h]; rfl
  · rw [gath_snoc]
    cases a with
    | none => exact gather_none ih
    | some c =>
      rw [gather_at (c := c) (n := appsOf M v) (s := sight M v) ih, sight_snoc, apps_snoc]
      simp only [Option.map_some]
      congr 2
      split <;> simp

/-! the first sighting -/
theorem sight_none (v : List UInt8) : ∀ M, sight M v = none → ∀ z ∈ M, first z v = none := by
  refine noted_ind _ (fun _ z hz => by simp at hz) fun M z ih h y hy => ?_
  rw [sight_snoc] at h
  have h1 : first z v = none := by
    cases hf : first z v with
    | none => rfl
    | some i =>
      rw [hf] at h
      cases hs : sight M v with
      | none => rw [hs] at h; simp [sg] at h
      | some p => rw [hs] at h; simp only [sg] at h; split at h <;> simp at h
  rw [h1] at h
  rcases List.mem_append.1 hy with h' | h'
  · exact ih h y h'
  · simp at h'; rw [h']; exact h1
theorem sight_some (v : List UInt8) : ∀ M r i, sight M v = some (r, i) → (∃ A z B, M = A ++ z :: B ∧ first z v = some i ∧ z.ret = r ∧ ∀ y ∈ A, first y v = none ∨ y.ret ≠ r) ∧ ∀ y ∈ M, first y v = none ∨ r ≤ y.ret := by
  refine noted_ind _ (fun r i h => by simp [sight] at h) fun M z ih r i h => ?_
  rw [sight_snoc] at h
  cases hf : first z v with
  | none =>
    rw [hf] at h
    obtain ⟨⟨A, x, B, e1, e2, e3, e4⟩, e5⟩ := ih r i h
    refine ⟨⟨A, x, B ++ [z], by rw [e1]; simp, e2, e3, e4⟩, fun y hy => ?_⟩
    rcases List.mem_append.1 hy with h' | h'
    · exact e5 y h'
    · simp at h'; rw [h']; exact Or.inl hf
  | some k =>
    rw [hf] at h
    cases hs : sight M v with
    | none =>
      rw [hs] at h
      simp only [sg, Option.some.injEq, Prod.mk.injEq] at h
      obtain ⟨rfl, rfl⟩ := h
      have hn := sight_none v M hs
      refine ⟨⟨M, z, [], rfl, hf, rfl, fun y hy => Or.inl (hn y hy)⟩, fun y hy => ?_⟩
      rcases List.mem_append.1 hy with h' | h'
      · exact Or.inl (hn y h')
      · simp at h'; rw [h']; exact Or.inr (Int.le_refl _)
    | some p =>
      obtain ⟨q, j⟩ := p
      rw [hs] at h
      obtain ⟨⟨A, x, B, e1, e2, e3, e4⟩, e5⟩ := ih q j hs
      by_cases hq : z.ret < q
      · simp only [sg, hq, if_true, Option.some.injEq, Prod.mk.injEq] at h
        obtain ⟨rfl, rfl⟩ := h
        refine ⟨⟨M, z, [], rfl, hf, rfl, fun y hy => ?_⟩, fun y hy => ?_⟩
        · rcases e5 y hy with h' | h'
          · exact Or.inl h'
          · exact Or.inr (by omega)
        · rcases List.mem_append.1 hy with h' | h'
          · rcases e5 y h' with h'' | h''
            · exact Or.inl h''
            · exact Or.inr (by omega)
          · simp at h'; rw [h']; exact Or.inr (Int.le_refl _)
      · simp only [sg, hq, if_false, Option.some.injEq, Prod.mk.injEq] at h
        obtain ⟨rfl, rfl⟩ := h
        refine ⟨⟨A, x, B ++ [z], by rw [e1]; simp, e2, e3, e4⟩, fun y hy => ?_⟩
        rcases List.mem_append.1 hy with h' | h'
        · exact e5 y h'
        · simp at h'; rw [h']; exact Or.inr (by omega)
/-- the first operation of the least return that holds v has the index -/
theorem sight_first {L : List Zp} {v : List UInt8} {r i : Int} (h : sight L v = some (r, i)) (k : Nat) (hk : k < L.length) (hb : ∀ y ∈ L.take k, first y v = none ∨ y.ret ≠ r) (h1 : (first L[k] v).isSome = true) (h2 : L[k].ret = r) : first L[k] v = some i := by
  obtain ⟨⟨A, z, B, e1, e2, e3, e4⟩, _⟩ := sight_some v L r i h
  have hA : A.length < L.length := by rw [e1]; simp
  have hz : L[A.length] = z := by simp [e1]
  rcases Nat.lt_trichotomy k A.length with hlt | heq | hgt
  · have hm : L[k] ∈ A := by
      have : L[k] = A[k] := by simp [e1, List.getElem_append_left hlt]
      rw [this]; exact List.getElem_mem _
    rcases e4 _ hm with h' | h'
    · rw [h'] at h1; simp at h1
    · exact absurd h2 h'
  · subst heq; rw [hz]; exact e2
  · have hm : z ∈ L.take k := by rw [← hz, List.mem_take_iff_getElem]; exact ⟨A.length, by omega, rfl⟩
    rcases hb _ hm with h' | h'
    · rw [e2] at h'; simp at h'
    · exact absurd e3 h'
theorem sight_found {L : List Zp} {v : List UInt8} {r i : Int} (h : sight L v = some (r, i)) (hb : ∀ y ∈ L, first y v = none ∨ y.ret ≠ r) : False := by
  obtain ⟨⟨A, z, B, e1, e2, e3, _⟩, _⟩ := sight_some v L r i h
  rcases hb z (by rw [e1]; simp) with h' | h'
  · rw [e2] at h'; simp at h'
  · exact h' e3
end Go.Proofs.Qxb6618167a.Hist
