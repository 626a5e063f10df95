import Derived.Test.Qxb6617273aHk
import Derived.Deep.AppendLies
import Derived.Deep.RegionHeld3
import Derived.BigRegion
import Derived.Handy
namespace Go.Proofs.Qxb6617273a.Hunk
open Go.RowKit Go.PlainAid Go.Proofs.Qxb6617273a.QLen

/-- the blocks outside S, and all but memory, are as they were -/
structure Fr (S : Nat → Prop) (w w' : World) : Prop where
  os : w'.os = w.os
  tape : w'.tape = w.tape
  output : w'.output = w.output
  size : w.heap.size ≤ w'.heap.size
  block : ∀ k, k < w.heap.size → ¬ S k → w'.heap[k]? = w.heap[k]?

section
variable {w : World} {b T : Nat} {cs : Array Value}
theorem blk_cell (h : w.heap[b]? = some (.cells cs T (0, 0))) (i : Nat) : w.cell? ⟨b, i, none⟩ = cs[i]? := by simp [World.cell?, h]
theorem blk_free (h : w.heap[b]? = some (.cells cs T (0, 0))) (i : Nat) : w.frozen? ⟨b, i, none⟩ = false := by simp [World.frozen?, h]
theorem blk_set (h : w.heap[b]? = some (.cells cs T (0, 0))) (i : Nat) (u : Value) : (w.setCell ⟨b, i, none⟩ u).heap[b]? = some (.cells (cs.setIfInBounds i u) T (0, 0)) := by
  have hlt := lt_of_block h
  have h' : w.heap[b] = .cells cs T (0, 0) := by simpa [Array.getElem?_eq_getElem hlt] using h
  show (w.heap.modify b _)[b]? = _
  rw [Array.getElem?_eq_getElem (by simpa using hlt), Array.getElem_modify_self, h']
  rfl
end

/-- rows of pairs, rows of numbers -/
def PX (l : List (Int × Int)) : List Value := l.flatMap fun p => [.int .i64 p.1, .int .i64 p.2]
def NX (l : List Int) : List Value := l.map (Value.int .i64)
theorem PX_len : ∀ l : List (Int × Int), (PX l).length = l.length * 2
  | [] => rfl
  | p :: l => by have := PX_len l; simp only [PX, List.flatMap_cons, List.length_append, List.length_cons, List.length_nil] at *; omega
theorem PX_app (l m : List (Int × Int)) : PX (l ++ m) = PX l ++ PX m := by simp [PX]
theorem PX_one (a b : Int) : PX [(a, b)] = [.int .i64 a, .int .i64 b] := rfl

def addL (l : List (Int × Int)) (n : Int) : List (Int × Int) := match l.getLast? with
  | some p => if p.2 = wrap64 (n - 1) then l.dropLast ++ [(p.1, n)] else l ++ [(n, n)]
  | none => [(n, n)]

theorem info53 : (Try.prog.info? 53).map (fun i => (i.zero, i.size, i.bytes)) = some (some (.agg #[.int .i64 0, .int .i64 0]), 2, 16) := by kernel_rfl
theorem info36 : (Try.prog.info? 36).map (fun i => (i.zero, i.size, i.bytes)) = some (some (.agg #[.int .i64 0, .int .i64 0]), 2, 16) := by kernel_rfl
theorem info2 : (Try.prog.info? 2).map (fun i => (i.zero, i.size, i.bytes)) = some (some (.int .i64 0), 1, 8) := by kernel_rfl


theorem own_form {w : World} {base : Nat} {e : TypeId} {size : Nat} {v : Value} {n : Nat} {xs : List Value} (h : w.ownsRow base e size v n xs) : ∃ ao cap, v = .slice ao n cap := by
  rcases h.2 with ⟨rfl, rfl⟩ | ⟨g, cap, _, rfl, _⟩
  · exact ⟨_, _, rfl⟩
  · exact ⟨_, _, rfl⟩
/-- a block of another element type is not the row's -/
theorem own_ne {w : World} {base : Nat} {e T : TypeId} {size : Nat} {v : Value} {n : Nat} {xs : List Value} {b : Nat} {cs : Array Value} {z : Nat × Nat} (h : w.ownsRow base e size v n xs) (hb : w.heap[b]? = some (.cells cs T z)) (hne : T ≠ e) : v.ownBlock ≠ some b := by
  intro hv
  rcases h.2 with ⟨rfl, _⟩ | ⟨g, cap, cur, rfl, _, hg, _⟩
  · simp [Value.ownBlock] at hv
  · simp [Value.ownBlock] at hv
    subst hv
    rw [hg] at hb
    simp at hb
    exact hne hb.2.1.symm
theorem own_blk {w w' : World} {base : Nat} {e : TypeId} {size : Nat} {v : Value} {n : Nat} {xs : List Value} (h : w.ownsRow base e size v n xs) (hk : ∀ k, v.ownBlock = some k → w'.heap[k]? = w.heap[k]?) : w'.ownsRow base e size v n xs := by
  refine ⟨h.1, ?_⟩
  rcases h.2 with h' | ⟨g, cap, cur, rfl, hg, hh, r⟩
  · exact Or.inl h'
  · exact Or.inr ⟨g, cap, cur, rfl, hg, by rw [hk g rfl]; exact hh, r⟩
theorem Fr.refl (S : Nat → Prop) (w : World) : Fr S w w := ⟨rfl, rfl, rfl, Nat.le_refl _, fun _ _ _ => rfl⟩
theorem Fr.trans {S : Nat → Prop} {a b c : World} (h : Fr S a b) (k : Fr S b c) : Fr S a c :=
  ⟨k.os.trans h.os, k.tape.trans h.tape, k.output.trans h.output, Nat.le_trans h.size k.size, fun i hi hn => (k.block i (Nat.lt_of_lt_of_le hi h.size) hn).trans (h.block i hi hn)⟩
theorem Fr.mono {S S' : Nat → Prop} {a b : World} (h : Fr S a b) (hS : ∀ k, k < a.heap.size → S k → S' k) : Fr S' a b := ⟨h.os, h.tape, h.output, h.size, fun i hi hn => h.block i hi (fun hs => hn (hS i hi hs))⟩
theorem Fr.set {S : Nat → Prop} {a w : World} (h : Fr S a w) {p : Addr} (hp : S p.block) (u : Value) : Fr S a (w.setCell p u) :=
  ⟨h.os, h.tape, h.output, by simpa using h.size, fun k hk hn => (Below.heap_setCell w p u k (fun e => hn (by rw [e]; exact hp))).trans (h.block k hk hn)⟩
theorem Fr.alloc {S : Nat → Prop} {a w : World} (h : Fr S a w) (o : Obj) : Fr S a (w.alloc o) :=
  ⟨h.os, h.tape, h.output, by simp; have := h.size; omega, fun k hk hn => (Below.heap_alloc _ _ _ (Nat.lt_of_lt_of_le hk h.size)).trans (h.block k hk hn)⟩
theorem Fr.drew {S : Nat → Prop} {a w : World} (h : Fr S a w) : Fr S a w.drew := ⟨h.os, h.tape, h.output, h.size, h.block⟩
theorem Fr.grown {S : Nat → Prop} {a w w' : World} {row : Option Nat} (h : Fr S a w) (hg : w.grownBy w' row) (hr : ∀ k, row = some k → k < a.heap.size → S k) : Fr S a w' :=
  ⟨hg.os.trans h.os, hg.tape.trans h.tape, hg.output.trans h.output, Nat.le_trans h.size hg.size, fun k hk hn => (hg.block k (Nat.lt_of_lt_of_le hk h.size) (fun e => hn (hr k e.symm hk))).trans (h.block k hk hn)⟩
theorem Fr.below {N : Nat} {a w : World} (h : Fr (fun k => N ≤ k) a w) (hN : N ≤ a.heap.size) : Below N a w := ⟨h.os, h.tape, h.output, h.size, fun k hk => h.block k (by omega) (by omega)⟩

theorem PX_last (B : List (Int × Int)) (a b : Int) : (PX (B ++ [(a, b)]))[B.length * 2 + 1]? = some (.int .i64 b) := by
  rw [PX_app, List.getElem?_append_right (by rw [PX_len]; omega), PX_len, PX_one]
  rw [show B.length * 2 + 1 - B.length * 2 = 1 from by omega]; rfl
theorem PX_setlast (B : List (Int × Int)) (a b n : Int) : (PX (B ++ [(a, b)])).set (B.length * 2 + 1) (.int .i64 n) = PX (B ++ [(a, n)]) := by
  rw [PX_app, List.set_append_right _ _ (by rw [PX_len]; omega), PX_len, PX_one, PX_app, PX_one]
  rw [show B.length * 2 + 1 - B.length * 2 = 1 from by omega]; rfl
theorem addL_set (B : List (Int × Int)) (a b n : Int) (h : b = wrap64 (n - 1)) : addL (B ++ [(a, b)]) n = B ++ [(a, n)] := by
  unfold addL; simp [h]
theorem addL_app (B : List (Int × Int)) (a b n : Int) (h : ¬ b = wrap64 (n - 1)) : addL (B ++ [(a, b)]) n = B ++ [(a, b)] ++ [(n, n)] := by
  unfold addL; simp [h]
theorem addL_nil (n : Int) : addL [] n = [] ++ [(n, n)] := rfl

/-- what addLine leaves -/
def Left27 (fb : Nat) (whole vA vC : Value) (A' : List (Int × Int)) (w w' : World) : Prop :=
  ∃ vA', w'.heap[fb]? = some (.cells #[whole, vA', vC] 55 (0, 0)) ∧ w'.ownsRow 0 53 2 vA' A'.length (PX A') ∧ (∀ k, vA'.ownBlock = some k → vA.ownBlock = some k ∨ w.heap.size ≤ k) ∧ Fr (fun k => k = fb ∨ vA.ownBlock = some k) w w'

set_option maxHeartbeats 400000 in
theorem addLine_set (w : World) (fb g cap : Nat) (a b line : Int) (whole vC : Value) (B : List (Int × Int)) (hmb : B.length ≤ 1000000)
    (hF : w.heap[fb]? = some (.cells #[whole, .slice (some ⟨g, 0, none⟩) (B.length + 1) cap, vC] 55 (0, 0)))
    (hA : w.ownsRow 0 53 2 (.slice (some ⟨g, 0, none⟩) (B.length + 1) cap) (B.length + 1) (PX (B ++ [(a, b)]))) (hb : b = wrap64 (line - 1)) :
    Calls Try.prog 27 #[.pointer (some ⟨fb, 0, none⟩), .int .i64 line] w fun e w' => e = .returned (.tuple #[]) ∧ Left27 fb whole (.slice (some ⟨g, 0, none⟩) (B.length + 1) cap) vC (addL (B ++ [(a, b)]) line) w w' := by
  have c1 : w.cell? ⟨fb, 1, none⟩ = some (.slice (some ⟨g, 0, none⟩) (B.length + 1) cap) := blk_cell hF 1
  have d1 : w.cell? ⟨g, B.length * 2 + 1, none⟩ = some (.int .i64 b) := by rw [hA.cellAt _ (by omega), PX_last]
  have d2 : w.frozen? ⟨g, B.length * 2 + 1, none⟩ = false := hA.frozenAt _
  have e1 : (b == wrap64 (line - 1)) = true := by simp [hb]
  have hne := own_ne hA hF (by decide)
  have hfin : Left27 fb whole (.slice (some ⟨g, 0, none⟩) (B.length + 1) cap) vC (addL (B ++ [(a, b)]) line) w (w.setCell ⟨g, B.length * 2 + 1, none⟩ (.int .i64 line)) := by
    refine ⟨.slice (some ⟨g, 0, none⟩) (B.length + 1) cap, ?_, ?_, fun k hk => Or.inl hk, (Fr.refl _ _).set (Or.inr rfl) _⟩
    · rw [Below.heap_setCell _ _ _ _ (fun e => hne (by simp [Value.ownBlock, e]))]; exact hF
    · rw [addL_set B a b line hb]
      have := (hA.stored (B.length * 2 + 1) (.int .i64 line)).1
      rw [PX_setlast] at this
      simpa using this
  have HF := hid hfin
  clear hfin hne hF hA hb
  go_enter Try.func27, Try.ntmps27
  go_wp2
  go_returns
  exact ⟨rfl, HF.out⟩

theorem ne_last (A : List (Int × Int)) (line : Int) (h : A = [] ∨ ∃ B a b, A = B ++ [(a, b)] ∧ ¬ b = wrap64 (line - 1)) : addL A line = A ++ [(line, line)] := by
  rcases h with rfl | ⟨B, a, b, rfl, h⟩
  · rfl
  · exact addL_app B a b line h
/-- behind the append onto the row in the field, and the store of the new slice into it -/
theorem left_app (w w1 : World) (fb g cap : Nat) (line : Int) (whole vA vC : Value) (A : List (Int × Int)) (hF : w.heap[fb]? = some (.cells #[whole, vA, vC] 55 (0, 0)))
    (hA : w.ownsRow 0 53 2 vA A.length (PX A)) (o : Obj) (hn : addL A line = A ++ [(line, line)])
    (h1 : w1.ownsRow 0 53 2 (.slice (some ⟨g, 0, none⟩) (A.length + 1) cap) (A.length + 1) (PX A ++ [.int .i64 line, .int .i64 line])) (hg : (w.alloc o).grownBy w1 vA.ownBlock)
    (hat : vA.ownBlock = some g ∨ g = w.heap.size + 1) : Left27 fb whole vA vC (addL A line) w (w1.setCell ⟨fb, 1, none⟩ (.slice (some ⟨g, 0, none⟩) (A.length + 1) cap)) := by
  have hne := own_ne hA hF (by decide)
  have hlt := lt_of_block hF
  have hF1 : w1.heap[fb]? = some (.cells #[whole, vA, vC] 55 (0, 0)) := by
    rw [hg.block fb (by simp; omega) (fun e => hne e.symm), Below.heap_alloc _ _ _ hlt]; exact hF
  have hgf : g ≠ fb := by
    rcases hat with h | h
    · intro e; subst e; exact hne h
    · omega
  refine ⟨.slice (some ⟨g, 0, none⟩) (A.length + 1) cap, ?_, ?_, ?_, ?_⟩
  · rw [blk_set hF1]; rfl
  · rw [hn]
    have := own_blk (w' := w1.setCell ⟨fb, 1, none⟩ (.slice (some ⟨g, 0, none⟩) (A.length + 1) cap)) h1 (fun k hk => Below.heap_setCell _ _ _ _ (by simp [Value.ownBlock] at hk; intro e; exact hgf (by rw [hk, e])))
    rw [PX_app, PX_one]; simpa using this
  · intro k hk
    simp [Value.ownBlock] at hk
    subst hk
    rcases hat with h | h
    · exact Or.inl h
    · exact Or.inr (by omega)
  · exact Fr.set (S := fun k => k = fb ∨ vA.ownBlock = some k) (p := ⟨fb, 1, none⟩) (Fr.grown ((Fr.refl _ w).alloc o) hg fun k hk _ => Or.inr hk) (Or.inl rfl) _

/-- an append of new cells, laid in a block of their own, onto a row that is owned -/
theorem wpList_app {wr : World} {v : Value} {n : Nat} {xs : List Value} {t e : TypeId} {z : Value} {size bytes : Nat} (hu : Try.prog.underlying t = some (.slice e))
    (hinf : (Try.prog.info? e).map (fun i => (i.zero, i.size, i.bytes)) = some (some z, size, bytes)) (hzs : z.cells.size = size) (hsz : 0 < size)
    (hown : wr.ownsRow 0 e size v n xs) {ops : Array Oper} {rest : List Oper} {o : Oper} {a : Act} {Q : Exit → Act → World → Prop} (s x : Operand) (hgd : o.guard = none)
    (ho : o.op = .call { callee := .builtin .append, args := #[s, x], argTypes := #[t, t] }) (hs : a.eval s = v)
    (L : List Value) (m c : Nat) (hx : a.eval x = .slice (some ⟨wr.heap.size, 0, none⟩) m c) (hm : L.length = m * size) (h0 : 0 < m) (h1 : ∀ u ∈ L, u.oneCell' = true) (hb1 : n + m ≤ 1000000000) (hb2 : (n + m) * bytes ≤ 100000000000)
    (h : ∀ g cap w', w'.ownsRow 0 e size (.slice (some ⟨g, 0, none⟩) (n + m) cap) (n + m) (xs ++ L) → (wr.alloc (.cells L.toArray e)).grownBy w' v.ownBlock → (v.ownBlock = some g ∨ g = wr.heap.size + 1) → g < w'.heap.size → wpList Try.prog ops Q rest (a.put o.dst (.slice (some ⟨g, 0, none⟩) (n + m) cap)) w') :
    wpList Try.prog ops Q (o :: rest) a (wr.alloc (.cells L.toArray e)) := by
  obtain ⟨i0, hi, hz0, hz1, hz2⟩ := info_parts hinf
  exact wpList_append_lies _ hgd s x t ho 0 e i0 z size bytes hu hi hz0 hz1 hz2 hzs hsz v n xs hs (hown.alloc _) ⟨wr.heap.size, 0, none⟩ m c L hx hm (by simpa using World.news_of_block (heap_alloc_new wr (.cells L.toArray e))) h1 h0 (by unfold maxLen; omega) (by omega) (Nat.zero_le _) (wr.heap.size + 1) (by simp) h
theorem two_one (a b : Int) : ∀ u ∈ [Value.int .i64 a, .int .i64 b], u.oneCell' = true := by
  intro u hu; simp at hu; rcases hu with rfl | rfl <;> rfl
theorem one_one (a : Int) : ∀ u ∈ [Value.int .i64 a], u.oneCell' = true := by
  intro u hu; simp at hu; subst hu; rfl

set_option maxHeartbeats 400000 in
theorem addLine_nil (w : World) (fb : Nat) (ao : Option Addr) (cap : Nat) (line : Int) (whole vC : Value)
    (hF : w.heap[fb]? = some (.cells #[whole, .slice ao 0 cap, vC] 55 (0, 0)))
    (hA : w.ownsRow 0 53 2 (.slice ao 0 cap) 0 (PX [])) :
    Calls Try.prog 27 #[.pointer (some ⟨fb, 0, none⟩), .int .i64 line] w fun e w' => e = .returned (.tuple #[]) ∧ Left27 fb whole (.slice ao 0 cap) vC (addL [] line) w w' := by
  have HF := hid (fun w1 g cap' o => left_app w w1 fb g cap' line whole (.slice ao 0 cap) vC [] hF hA o (ne_last [] line (Or.inl rfl)))
  have c1 : w.cell? ⟨fb, 1, none⟩ = some (.slice ao 0 cap) := blk_cell hF 1
  have f1 : w.frozen? ⟨fb, 1, none⟩ = false := blk_free hF 1
  have hlt := lt_of_block hF
  have HNE := hid (own_ne hA hF (by decide))
  have HA := hid hA
  clear hA hF
  go_enter Try.func27, Try.ntmps27
  go_wp2_with (at_builtin; refine wpList_app Try.underlying51 info53 rfl (by decide) HA.out _ _ rfl rfl (by rfl) [.int .i64 line, .int .i64 line] 1 1 (by rfl) rfl (by decide) (two_one _ _) (by omega) (by omega) ?_)
  intro g cap' w1 h1 hg hat hlt1
  have H1 := HF.out w1 g cap' _ h1 hg hat
  have c2 : w1.cell? ⟨fb, 1, none⟩ = some (.slice ao 0 cap) := by rw [hg.cell_far _ (by simp; omega) (Ne.symm HNE.out)]; rw [World.cell?_alloc_past _ _ _ hlt]; exact c1
  have f2 : w1.frozen? ⟨fb, 1, none⟩ = false := by rw [hg.frozen_far _ (by simp; omega) (Ne.symm HNE.out)]; rw [World.frozen?_alloc_past _ _ _ hlt]; exact f1
  have HH := hid H1
  clear H1 h1 hg hat HF HA HNE c1 f1
  go_wp2
  go_returns
  exact ⟨rfl, HH.out⟩
set_option maxHeartbeats 400000 in
theorem addLine_app (w : World) (fb g cap : Nat) (a b line : Int) (whole vC : Value) (B : List (Int × Int)) (hmb : B.length ≤ 1000000)
    (hF : w.heap[fb]? = some (.cells #[whole, .slice (some ⟨g, 0, none⟩) (B.length + 1) cap, vC] 55 (0, 0)))
    (hA : w.ownsRow 0 53 2 (.slice (some ⟨g, 0, none⟩) (B.length + 1) cap) (B.length + 1) (PX (B ++ [(a, b)]))) (hb : ¬ b = wrap64 (line - 1)) :
    Calls Try.prog 27 #[.pointer (some ⟨fb, 0, none⟩), .int .i64 line] w fun e w' => e = .returned (.tuple #[]) ∧ Left27 fb whole (.slice (some ⟨g, 0, none⟩) (B.length + 1) cap) vC (addL (B ++ [(a, b)]) line) w w' := by
  have hll : (B ++ [(a, b)]).length = B.length + 1 := by simp
  have HF : Hid (∀ w1 g' cap' o, w1.ownsRow 0 53 2 (.slice (some ⟨g', 0, none⟩) (B.length + 1 + 1) cap') (B.length + 1 + 1) (PX (B ++ [(a, b)]) ++ [.int .i64 line, .int .i64 line]) →
      (w.alloc o).grownBy w1 (Value.slice (some ⟨g, 0, none⟩) (B.length + 1) cap).ownBlock → ((Value.slice (some ⟨g, 0, none⟩) (B.length + 1) cap).ownBlock = some g' ∨ g' = w.heap.size + 1) →
      Left27 fb whole (.slice (some ⟨g, 0, none⟩) (B.length + 1) cap) vC (addL (B ++ [(a, b)]) line) w (w1.setCell ⟨fb, 1, none⟩ (.slice (some ⟨g', 0, none⟩) (B.length + 1 + 1) cap'))) := by
    have := fun w1 g' cap' o => left_app w w1 fb g' cap' line whole (.slice (some ⟨g, 0, none⟩) (B.length + 1) cap) vC (B ++ [(a, b)]) hF (by rw [hll]; exact hA) o (ne_last _ line (Or.inr ⟨B, a, b, rfl, hb⟩))
    rw [hll] at this
    exact this
  have c1 : w.cell? ⟨fb, 1, none⟩ = some (.slice (some ⟨g, 0, none⟩) (B.length + 1) cap) := blk_cell hF 1
  have f1 : w.frozen? ⟨fb, 1, none⟩ = false := blk_free hF 1
  have d1 : w.cell? ⟨g, B.length * 2 + 1, none⟩ = some (.int .i64 b) := by rw [hA.cellAt _ (by omega), PX_last]
  have e1 : (b == wrap64 (line - 1)) = false := by simp [hb]
  have hlt := lt_of_block hF
  have HNE := hid (own_ne hA hF (by decide))
  have HA := hid hA
  clear hA hF hll hb
  go_enter Try.func27, Try.ntmps27
  go_wp2_with (at_builtin; refine wpList_app Try.underlying51 info53 rfl (by decide) HA.out _ _ rfl rfl (by rfl) [.int .i64 line, .int .i64 line] 1 1 (by rfl) rfl (by decide) (two_one _ _) (by omega) (by omega) ?_)
  intro g' cap' w1 h1 hg hat hlt1
  have H1 := HF.out w1 g' cap' _ h1 hg hat
  have c2 : w1.cell? ⟨fb, 1, none⟩ = some (.slice (some ⟨g, 0, none⟩) (B.length + 1) cap) := by rw [hg.cell_far _ (by simp; omega) (Ne.symm HNE.out)]; rw [World.cell?_alloc_past _ _ _ hlt]; exact c1
  have f2 : w1.frozen? ⟨fb, 1, none⟩ = false := by rw [hg.frozen_far _ (by simp; omega) (Ne.symm HNE.out)]; rw [World.frozen?_alloc_past _ _ _ hlt]; exact f1
  have HH := hid H1
  clear H1 h1 hg hat HF HA HNE c1 f1 d1
  go_wp2
  go_returns
  exact ⟨rfl, HH.out⟩

theorem addLine_any (w : World) (fb : Nat) (line : Int) (whole vA vC : Value) (A : List (Int × Int)) (hmb : A.length ≤ 1000000)
    (hF : w.heap[fb]? = some (.cells #[whole, vA, vC] 55 (0, 0))) (hA : w.ownsRow 0 53 2 vA A.length (PX A)) :
    Calls Try.prog 27 #[.pointer (some ⟨fb, 0, none⟩), .int .i64 line] w fun e w' => e = .returned (.tuple #[]) ∧ Left27 fb whole vA vC (addL A line) w w' := by
  rcases List.eq_nil_or_concat A with rfl | ⟨B, ⟨a, b⟩, rfl⟩
  · obtain ⟨ao, cap, rfl⟩ := own_form hA
    exact addLine_nil w fb ao cap line whole vC hF hA
  · rw [List.concat_eq_append] at *
    have hll : (B ++ [(a, b)]).length = B.length + 1 := by simp
    rw [hll] at hA hmb
    obtain ⟨g, cap, rfl, _, _⟩ := hA.form (by omega)
    by_cases hb : b = wrap64 (line - 1)
    · exact addLine_set w fb g cap a b line whole vC B (by omega) hF hA hb
    · exact addLine_app w fb g cap a b line whole vC B (by omega) hF hA hb
end Go.Proofs.Qxb6617273a.Hunk
