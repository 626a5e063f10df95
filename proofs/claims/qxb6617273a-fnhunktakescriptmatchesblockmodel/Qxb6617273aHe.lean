import Derived.Test.Qxb6617273aHm
import Derived.Deep.DrawnRows
import Derived.Deep.RegionLaw
namespace Go.Proofs.Qxb6617273a.Hunk
open Go.RowKit Go.PlainAid Go.Proofs.Qxb6617273a.QLen
attribute [local go_sem ↓] Go.wp_at_zero Go.wp_at_succ

/-- an append in a region that draws its order -/
theorem step_app {W : World} {v : Value} {n : Nat} {xs : List Value} {t e : TypeId} {z : Value} {size bytes : Nat} (hu : Try.prog.underlying t = some (.slice e))
    (hinf : (Try.prog.info? e).map (fun i => (i.zero, i.size, i.bytes)) = some (some z, size, bytes)) (hzs : z.cells.size = size) (hsz : 0 < size)
    (hown : W.ownsRow 0 e size v n xs) {B : Nat} {L : List Value} (hblk : W.heap[B]? = some (.cells L.toArray e (0, 0))) {ops : Array Oper} {o : Oper} {a : Act} {K : Act → World → Prop} {Q : Exit → Act → World → Prop} {E : Prop} (s x : Operand) (hgd : o.guard = none)
    (ho : o.op = .call { callee := .builtin .append, args := #[s, x], argTypes := #[t, t] }) (hs : a.eval s = v)
    (m c : Nat) (hx : a.eval x = .slice (some ⟨B, 0, none⟩) m c) (hm : L.length = m * size) (h0 : 0 < m) (h1 : ∀ u ∈ L, u.oneCell' = true) (hb1 : n + m ≤ 1000000000) (hb2 : (n + m) * bytes ≤ 100000000000) (H : Nat) (hH : W.heap.size = H)
    (h : ∀ g cap w', w'.ownsRow 0 e size (.slice (some ⟨g, 0, none⟩) (n + m) cap) (n + m) (xs ++ L) → W.grownBy w' v.ownBlock → (v.ownBlock = some g ∨ g = H) → g < w'.heap.size → K (a.put o.dst (.slice (some ⟨g, 0, none⟩) (n + m) cap)) w') :
    if Region.wanted o (yielded ops a.tmps) = true then Oper.wp Try.prog o a W K Q else E := by
  obtain ⟨i0, hi, hz0, hz1, hz2⟩ := info_parts hinf
  exact step_append_lies W hgd s x t ho 0 e i0 z size bytes hu hi hz0 hz1 hz2 hzs hsz v n xs hs hown ⟨B, 0, none⟩ m c L hx hm (by simpa using World.news_of_block hblk) h1 h0 (by unfold maxLen; omega) (by omega) (Nat.zero_le _) H hH h

theorem grown_blk {w w1 : World} {o : Obj} {row : Option Nat} (hg : (w.alloc o).grownBy w1 row) {b : Nat} {x : Obj} (hb : w.heap[b]? = some x) (hne : row ≠ some b) : w1.heap[b]? = some x := by
  have hlt := lt_of_block hb
  rw [hg.block b (by simp; omega) (fun e => hne e.symm), Below.heap_alloc _ _ _ hlt]; exact hb

/-- what endRun leaves -/
def Left26 (hb fb : Nat) (l0 l1 l2 l3 l4 l5 next whole vA vC : Value) (C' : List Int) (w w' : World) : Prop :=
  w'.heap[hb]? = some (.cells #[l0, l1, l2, l3, l4, l5, next, .bool false, .bool false] 50 (0, 0)) ∧
  ∃ vC', w'.heap[fb]? = some (.cells #[whole, vA, vC'] 55 (0, 0)) ∧ w'.ownsRow 0 2 1 vC' C'.length (NX C') ∧ (∀ k, vC'.ownBlock = some k → vC.ownBlock = some k ∨ w.heap.size ≤ k) ∧ Fr (fun k => k = hb ∨ k = fb ∨ vC.ownBlock = some k) w w'

theorem blk_ne {w : World} {a b T U : Nat} {cs ds : Array Value} (ha : w.heap[a]? = some (.cells cs T (0, 0))) (hb : w.heap[b]? = some (.cells ds U (0, 0))) (h : T ≠ U) : a ≠ b := by
  rintro rfl; rw [ha] at hb; simp at hb; exact h hb.2

theorem left26_cut (w w1 : World) (hb fb g cap : Nat) (l0 l1 l2 l3 l4 l5 next whole vA vC : Value) (d a : Bool) (x : Int) (C : List Int)
    (hH : w.heap[hb]? = some (.cells #[l0, l1, l2, l3, l4, l5, next, .bool d, .bool a] 50 (0, 0)))
    (hF : w.heap[fb]? = some (.cells #[whole, vA, vC] 55 (0, 0))) (hC : w.ownsRow 0 2 1 vC C.length (NX C)) (o : Obj)
    (h1 : w1.ownsRow 0 2 1 (.slice (some ⟨g, 0, none⟩) (C.length + 1) cap) (C.length + 1) (NX C ++ [.int .i64 x])) (hg : (w.alloc o).grownBy w1 vC.ownBlock)
    (hat : vC.ownBlock = some g ∨ g = w.heap.size + 1) :
    Left26 hb fb l0 l1 l2 l3 l4 l5 next whole vA vC (C ++ [x]) w (((w1.setCell ⟨fb, 2, none⟩ (.slice (some ⟨g, 0, none⟩) (C.length + 1) cap)).setCell ⟨hb, 7, none⟩ (.bool false)).setCell ⟨hb, 8, none⟩ (.bool false)) := by
  have hn1 := own_ne hC hF (by decide)
  have hn2 := own_ne hC hH (by decide)
  have hhf : hb ≠ fb := blk_ne hH hF (by decide)
  have kH := grown_blk hg hH hn2
  have kF := grown_blk hg hF hn1
  have hgf : g ≠ fb := by
    rcases hat with h | h
    · intro e; subst e; exact hn1 h
    · have := lt_of_block hF; omega
  have hgh : g ≠ hb := by
    rcases hat with h | h
    · intro e; subst e; exact hn2 h
    · have := lt_of_block hH; omega
  have q1 : (w1.setCell ⟨fb, 2, none⟩ (.slice (some ⟨g, 0, none⟩) (C.length + 1) cap)).heap[hb]? = some (.cells #[l0, l1, l2, l3, l4, l5, next, .bool d, .bool a] 50 (0, 0)) := by
    rw [Below.heap_setCell _ _ _ _ hhf]; exact kH
  have q2 := blk_set q1 7 (.bool false)
  have q3 := blk_set q2 8 (.bool false)
  refine ⟨by rw [q3]; rfl, .slice (some ⟨g, 0, none⟩) (C.length + 1) cap, ?_, ?_, ?_, ?_⟩
  · rw [Below.heap_setCell _ _ _ _ (Ne.symm hhf), Below.heap_setCell _ _ _ _ (Ne.symm hhf), blk_set kF 2]; rfl
  · have h2 := own_blk (w' := ((w1.setCell ⟨fb, 2, none⟩ (.slice (some ⟨g, 0, none⟩) (C.length + 1) cap)).setCell ⟨hb, 7, none⟩ (.bool false)).setCell ⟨hb, 8, none⟩ (.bool false)) h1 (fun k hk => by
      simp [Value.ownBlock] at hk; subst hk
      rw [Below.heap_setCell _ _ _ _ hgh, Below.heap_setCell _ _ _ _ hgh, Below.heap_setCell _ _ _ _ hgf])
    simpa [NX] using h2
  · intro k hk
    simp [Value.ownBlock] at hk; subst hk
    rcases hat with h | h
    · exact Or.inl h
    · exact Or.inr (by omega)
  · have f0 : Fr (fun k => k = hb ∨ k = fb ∨ vC.ownBlock = some k) w w1 := Fr.grown ((Fr.refl _ w).alloc o) hg fun k hk _ => Or.inr (Or.inr hk)
    exact Fr.set (p := ⟨hb, 8, none⟩) (Fr.set (p := ⟨hb, 7, none⟩) (Fr.set (p := ⟨fb, 2, none⟩) f0 (Or.inr (Or.inl rfl)) _) (Or.inl rfl) _) (Or.inl rfl) _
theorem left26_no (w : World) (hb fb : Nat) (l0 l1 l2 l3 l4 l5 next whole vA vC : Value) (d a : Bool) (C : List Int)
    (hH : w.heap[hb]? = some (.cells #[l0, l1, l2, l3, l4, l5, next, .bool d, .bool a] 50 (0, 0)))
    (hF : w.heap[fb]? = some (.cells #[whole, vA, vC] 55 (0, 0))) (hC : w.ownsRow 0 2 1 vC C.length (NX C)) :
    Left26 hb fb l0 l1 l2 l3 l4 l5 next whole vA vC C w ((w.setCell ⟨hb, 7, none⟩ (.bool false)).setCell ⟨hb, 8, none⟩ (.bool false)) := by
  have hn2 := own_ne hC hH (by decide)
  have hhf : hb ≠ fb := blk_ne hH hF (by decide)
  have q2 := blk_set hH 7 (.bool false)
  have q3 := blk_set q2 8 (.bool false)
  refine ⟨by rw [q3]; rfl, vC, ?_, ?_, fun k hk => Or.inl hk, ?_⟩
  · rw [Below.heap_setCell _ _ _ _ (Ne.symm hhf), Below.heap_setCell _ _ _ _ (Ne.symm hhf)]; exact hF
  · exact own_blk hC (fun k hk => by
      have : k ≠ hb := by rintro rfl; exact hn2 hk
      rw [Below.heap_setCell _ _ _ _ this, Below.heap_setCell _ _ _ _ this])
  · exact Fr.set (p := ⟨hb, 8, none⟩) (Fr.set (p := ⟨hb, 7, none⟩) (Fr.refl _ w) (Or.inl rfl) _) (Or.inl rfl) _

def cutC (C : List Int) (next : Int) (d a : Bool) : List Int := if d = true ∧ a = false then C ++ [wrap64 (next - 1)] else C

set_option maxHeartbeats 1000000 in
theorem endRun_cut (w : World) (hb fb : Nat) (l0 l1 l2 l3 l4 l5 whole vA : Value) (ao : Option Addr) (cap : Nat) (next : Int) (C : List Int) (hl : C.length ≤ 1000000)
    (hH : w.heap[hb]? = some (.cells #[l0, l1, l2, l3, l4, l5, .int .i64 next, .bool true, .bool false] 50 (0, 0)))
    (hF : w.heap[fb]? = some (.cells #[whole, vA, .slice ao C.length cap] 55 (0, 0))) (hC : w.ownsRow 0 2 1 (.slice ao C.length cap) C.length (NX C)) :
    Calls Try.prog 26 #[.pointer (some ⟨hb, 0, none⟩), .pointer (some ⟨fb, 0, none⟩)] w fun e w' => e = .returned (.tuple #[]) ∧ Left26 hb fb l0 l1 l2 l3 l4 l5 (.int .i64 next) whole vA (.slice ao C.length cap) (C ++ [wrap64 (next - 1)]) w w' := by
  have c6 : w.cell? ⟨hb, 6, none⟩ = some (.int .i64 next) := blk_cell hH 6
  have c7 : w.cell? ⟨hb, 7, none⟩ = some (.bool true) := blk_cell hH 7
  have c8 : w.cell? ⟨hb, 8, none⟩ = some (.bool false) := blk_cell hH 8
  have d2 : w.cell? ⟨fb, 2, none⟩ = some (.slice ao C.length cap) := blk_cell hF 2
  have hhf : hb ≠ fb := blk_ne hH hF (by decide)
  have hlt2 := lt_of_block hF
  have e2 : ∀ o, (w.alloc o).cell? ⟨fb, 2, none⟩ = some (.slice ao C.length cap) := fun o => (World.cell?_alloc_past _ _ _ hlt2).trans d2
  have HX := hid (fun w1 g cap' o => left26_cut w w1 hb fb g cap' l0 l1 l2 l3 l4 l5 (.int .i64 next) whole vA (.slice ao C.length cap) true false (wrap64 (next - 1)) C hH hF hC o)
  have HC := hid hC
  have HH := hid hH
  have HF := hid hF
  have HN1 := hid (own_ne hC hF (by decide))
  have HN2 := hid (own_ne hC hH (by decide))
  clear hH hF hC
  go_enter Try.func26, Try.ntmps26
  go_wp2
  go_region_law
    ((refine step_app Try.underlying30 info2 rfl (by decide) (n := C.length) (xs := NX C) (L := [.int .i64 (IntKind.i64.wrap (next - 1))]) (by exact HC.out.alloc _) (by exact heap_alloc_new w _) _ _ (by rfl) (by rfl) (by rfl) 1 1 (by rfl) (by rfl) (by decide) (one_one _) (by omega) (by omega) (w.heap.size + 1) (by simp) ?_; intro g cap' w1 h1 hg hat hlt; have hg' : (w.alloc (.cells #[.int .i64 (IntKind.i64.wrap (next - 1))] 2)).grownBy w1 (Value.slice ao C.length cap).ownBlock := ⟨hg.os, hg.tape, hg.output, hg.size, hg.block⟩; have kH := grown_blk hg' HH.out HN2.out; have kF := grown_blk hg' HF.out HN1.out; have k6 : w1.cell? ⟨hb, 6, none⟩ = some (.int .i64 next) := blk_cell kH 6; have k2 : w1.cell? ⟨fb, 2, none⟩ = some (.slice ao C.length cap) := blk_cell kF 2; have z2 : w1.frozen? ⟨fb, 2, none⟩ = false := blk_free kF 2; have z7 : w1.frozen? ⟨hb, 7, none⟩ = false := blk_free kH 7; have z8 : w1.frozen? ⟨hb, 8, none⟩ = false := blk_free kH 8; have k7 : w1.cell? ⟨hb, 7, none⟩ = some (.bool true) := blk_cell kH 7; have k8 : w1.cell? ⟨hb, 8, none⟩ = some (.bool false) := blk_cell kH 8))
  all_goals
    have HL := hid (HX.out w1 g cap' _ (by rw [i64_is] at h1; exact h1) hg' hat)
    clear HX HC HH HF HN1 HN2 h1 hg hat hg' kH kF c6 c7 c8 d2 e2 k6
    go_wp2
    go_returns
    exact ⟨rfl, HL.out⟩
set_option maxHeartbeats 400000 in
theorem endRun_no (w : World) (hb fb : Nat) (l0 l1 l2 l3 l4 l5 next whole vA vC : Value) (d a : Bool) (C : List Int) (hda : ¬ (d = true ∧ a = false))
    (hH : w.heap[hb]? = some (.cells #[l0, l1, l2, l3, l4, l5, next, .bool d, .bool a] 50 (0, 0)))
    (hF : w.heap[fb]? = some (.cells #[whole, vA, vC] 55 (0, 0))) (hC : w.ownsRow 0 2 1 vC C.length (NX C)) :
    Calls Try.prog 26 #[.pointer (some ⟨hb, 0, none⟩), .pointer (some ⟨fb, 0, none⟩)] w fun e w' => e = .returned (.tuple #[]) ∧ Left26 hb fb l0 l1 l2 l3 l4 l5 next whole vA vC C w w' := by
  have c7 : w.cell? ⟨hb, 7, none⟩ = some (.bool d) := blk_cell hH 7
  have c8 : w.cell? ⟨hb, 8, none⟩ = some (.bool a) := blk_cell hH 8
  have f7 : w.frozen? ⟨hb, 7, none⟩ = false := blk_free hH 7
  have f8 : w.frozen? ⟨hb, 8, none⟩ = false := blk_free hH 8
  have HL := hid (left26_no w hb fb l0 l1 l2 l3 l4 l5 next whole vA vC d a C hH hF hC)
  clear hH hF hC
  cases d with
  | false =>
    clear hda
    go_enter Try.func26, Try.ntmps26
    go_wp2
    go_returns
    exact ⟨rfl, HL.out⟩
  | true =>
    cases a with
    | true =>
      clear hda
      go_enter Try.func26, Try.ntmps26
      go_wp2
      go_returns
      exact ⟨rfl, HL.out⟩
    | false => exact absurd ⟨rfl, rfl⟩ hda
theorem endRun_any (w : World) (hb fb : Nat) (l0 l1 l2 l3 l4 l5 whole vA vC : Value) (next : Int) (d a : Bool) (C : List Int) (hl : C.length ≤ 1000000)
    (hH : w.heap[hb]? = some (.cells #[l0, l1, l2, l3, l4, l5, .int .i64 next, .bool d, .bool a] 50 (0, 0)))
    (hF : w.heap[fb]? = some (.cells #[whole, vA, vC] 55 (0, 0))) (hC : w.ownsRow 0 2 1 vC C.length (NX C)) :
    Calls Try.prog 26 #[.pointer (some ⟨hb, 0, none⟩), .pointer (some ⟨fb, 0, none⟩)] w fun e w' => e = .returned (.tuple #[]) ∧ Left26 hb fb l0 l1 l2 l3 l4 l5 (.int .i64 next) whole vA vC (cutC C next d a) w w' := by
  unfold cutC
  by_cases hda : d = true ∧ a = false
  · rw [if_pos hda]
    obtain ⟨rfl, rfl⟩ := hda
    obtain ⟨ao, cap, rfl⟩ := own_form hC
    exact endRun_cut w hb fb l0 l1 l2 l3 l4 l5 whole vA ao cap next C hl hH hF hC
  · rw [if_neg hda]
    exact endRun_no w hb fb l0 l1 l2 l3 l4 l5 _ whole vA vC d a C hda hH hF hC
end Go.Proofs.Qxb6617273a.Hunk
