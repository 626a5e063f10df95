import Derived.Test.Qxb6618167aP8
import Derived.Test.Qxb6618167aP3
namespace Go.Proofs.Qxb6618167a.Hist
open Go.RowKit Go.PlainAid
attribute [local go_sem ↓] Go.wp_at_zero Go.wp_at_succ

theorem OpAt.mono {R R' : Nat → Prop} {w : World} {b o : Nat} {z : Zp} (h : OpAt R w b o z) (hr : ∀ b, b < w.heap.size → R b → R' b) : OpAt R' w b o z := by
  obtain ⟨vv, ve, c0, c1, c2, c3, c4, c5, c6, c7, c8, c9, c10, h1, h2⟩ := h
  exact ⟨vv, ve, c0, c1, c2, c3, c4, c5, c6, c7, c8, c9, c10, h1.mono hr, h2.mono hr⟩
theorem OpsAt.low {Q R : Nat → Prop} {w : World} {ao : Option Addr} {L : List Zp} (h : OpsAt Q R w ao L) {n : Nat} (hn : w.heap.size ≤ n) : OpsAt (fun b => b < n) (fun b => b < n) w ao L := by
  intro h0
  obtain ⟨b, off, q1, _, q3, q4⟩ := h h0
  exact ⟨b, off, q1, by omega, q3, fun i hi => (q4 i hi).mono (fun b hb _ => by omega)⟩

/-! backwards is as forwards -/
theorem ntd_comm (v : List UInt8) (acc : Option Int) (a b : Zp) : ntd v (ntd v acc a) b = ntd v (ntd v acc b) a := by
  cases ha : (una a && decide (a.val = v)) with
  | false => rw [ntd_no ha, ntd_no (z := a) ha]
  | true =>
    cases hb : (una b && decide (b.val = v)) with
    | false => rw [ntd_no (z := b) hb, ntd_no (z := b) hb]
    | true =>
      simp only [ntd, ha, hb, if_true]
      cases acc <;> simp only [Option.some.injEq] <;> (repeat' split) <;> omega
theorem noted_rev (L : List Zp) (v : List UInt8) : noted L.reverse v = noted L v := by
  unfold noted
  exact (List.reverse_perm L).foldl_eq' (fun x _ y _ z => ntd_comm v z x y) none
theorem len_le {α : Type} [DecidableEq α] : ∀ (a b : List α), a.Nodup → (∀ x ∈ a, x ∈ b) → a.length ≤ b.length
  | [], _, _, _ => Nat.zero_le _
  | x :: a, b, hn, hs => by
    have hx := hs x (by simp)
    have h1 := List.length_erase_of_mem hx
    have hp : 0 < b.length := List.length_pos_of_mem hx
    rw [List.nodup_cons] at hn
    have := len_le a (b.erase x) hn.2 (fun y hy => (List.mem_erase_of_ne (fun (e : y = x) => hn.1 (by rw [← e]; exact hy))).2 (hs y (by simp [hy])))
    simp; omega
theorem keys_of : ∀ M, ∃ ks : List (List UInt8), ks.Nodup ∧ (∀ v, v ∈ ks ↔ (noted M v).isSome = true) ∧ ks.length = nOf M := by
  refine noted_ind _ ⟨[], List.nodup_nil, fun v => by simp [noted], rfl⟩ fun M z ih => ?_
  obtain ⟨ks, h1, h2, h3⟩ := ih
  cases hu : (una z && (noted M z.val).isNone) with
  | false =>
    refine ⟨ks, h1, fun v => ?_, by rw [nOf_snoc, hu, h3]; rfl⟩
    rw [h2, noted_some, noted_some, List.any_append]
    cases hz : una z with
    | false => simp [hz]
    | true =>
      have hs : (noted M z.val).isSome = true := by rw [hz] at hu; cases hq : noted M z.val <;> simp [hq] at hu ⊢
      rw [noted_some] at hs
      by_cases hv : z.val = v
      · subst hv; rw [hs]; simp
      · simp [hv]
  | true =>
    have hz : una z = true := by revert hu; cases una z <;> simp
    have hno : (noted M z.val).isSome = false := by rw [hz] at hu; cases hq : noted M z.val <;> simp [hq] at hu ⊢
    refine ⟨z.val :: ks, List.nodup_cons.2 ⟨fun hm => by rw [h2, hno] at hm; simp at hm, h1⟩, fun v => ?_, by rw [nOf_snoc, hu]; simp [h3]⟩
    rw [List.mem_cons, h2, noted_some, noted_some, List.any_append]
    by_cases hv : z.val = v
    · subst hv; simp [hz]
    · have hv' : ¬ v = z.val := fun e => hv e.symm
      simp [hv, hv']
theorem nOf_rev (L : List Zp) : nOf L.reverse = nOf L := by
  obtain ⟨a, a1, a2, a3⟩ := keys_of L.reverse
  obtain ⟨b, b1, b2, b3⟩ := keys_of L
  rw [← a3, ← b3]
  exact Nat.le_antisymm (len_le a b a1 fun x hx => by rw [b2, ← noted_rev]; exact (a2 x).1 hx) (len_le b a b1 fun x hx => by rw [a2, noted_rev]; exact (b2 x).1 hx)
end Go.Proofs.Qxb6618167a.Hist
