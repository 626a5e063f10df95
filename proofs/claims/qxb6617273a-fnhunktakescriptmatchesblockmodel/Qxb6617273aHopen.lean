import Derived.Test.Qxb6617273aHzc
import Derived.Test.Qxb6617273aHl
import Derived.ProofKit
import Derived.OpenShut
import Derived.SliceStrings
namespace Go.Proofs.Qxb6617273a.Hunk
open Go.ChangeShapes Go.WideShapes Go.ChangeAt Go.RowKit

theorem list9 {α : Type} : ∀ l : List α, l.length = 9 → ∃ a b c d e f g h i, l = [a, b, c, d, e, f, g, h, i]
  | [a, b, c, d, e, f, g, h, i], _ => ⟨a, b, c, d, e, f, g, h, i, rfl⟩
theorem cells28 : Try.prog.cellsOf 28 = 9 := by kernel_rfl
theorem cells9 : Try.prog.cellsOf 9 = 1 := by kernel_rfl
theorem cells2 : Try.prog.cellsOf 2 = 1 := by kernel_rfl
theorem cells3 : Try.prog.cellsOf 3 = 1 := by kernel_rfl
theorem cells4 : Try.prog.cellsOf 4 = 1 := by kernel_rfl
theorem cells36 : Try.prog.cellsOf 36 = 2 := by kernel_rfl

section
variable {H : Type} {enc : TypeId × Value → H} {w : World} {base : Nat} {spare : Nat → Bool} {held : Bool}

theorem wf_ok {n : Int} (h : (Lit.int .i64 n).wf = true) : i64ok n := by
  have := bounds_i64 h
  exact ok_of n this.1 this.2

theorem open28 {r : Reach} {b0 : Nat} {v : Value} {d : DataW H} {p : List MemPlace} (hv : Value.okWide Try.prog w r b0 28 v) (h : DataW.Trod enc Try.prog w base spare held 28 v d p) :
    ∃ (line old new ol nl next : Int) (hdr : ByteArray) (de ad : Bool), v = .agg #[.int .i64 line, .string hdr, .int .i64 old, .int .i64 new, .int .i64 ol, .int .i64 nl, .int .i64 next, .bool de, .bool ad] ∧ hdr.size ≤ maxLen ∧ i64ok ol ∧ i64ok nl ∧ i64ok next := by
  obtain ⟨cs, rfl, hsz⟩ := okWide_struct Try.underlying28 hv
  rw [cells28] at hsz
  obtain ⟨c0, c1, c2, c3, c4, c5, c6, c7, c8, hl⟩ := list9 cs.toList (by rw [Array.length_toList]; exact hsz)
  obtain rfl : cs = #[c0, c1, c2, c3, c4, c5, c6, c7, c8] := by cases cs; simp_all
  obtain ⟨fuel, hf⟩ := h
  obtain ⟨xs, n, _, _, _, hlen, hfs⟩ := DataW.trod_struct Try.underlying28 hf
  obtain ⟨y0, y1, y2, y3, y4, y5, y6, y7, y8, rfl⟩ := list9 xs (by simpa using hlen)
  have g0 : DataW.trod enc Try.prog w base spare held n 3 (([c0, c1, c2, c3, c4, c5, c6, c7, c8].drop 0).take (Try.prog.cellsOf 3)) = some y0 := hfs 0 _ rfl
  have g1 : DataW.trod enc Try.prog w base spare held n 9 (([c0, c1, c2, c3, c4, c5, c6, c7, c8].drop 1).take (Try.prog.cellsOf 9)) = some y1 := hfs 1 _ rfl
  have g2 : DataW.trod enc Try.prog w base spare held n 2 (([c0, c1, c2, c3, c4, c5, c6, c7, c8].drop 2).take (Try.prog.cellsOf 2)) = some y2 := hfs 2 _ rfl
  have g3 : DataW.trod enc Try.prog w base spare held n 2 (([c0, c1, c2, c3, c4, c5, c6, c7, c8].drop 3).take (Try.prog.cellsOf 2)) = some y3 := hfs 3 _ rfl
  have g4 : DataW.trod enc Try.prog w base spare held n 2 (([c0, c1, c2, c3, c4, c5, c6, c7, c8].drop 4).take (Try.prog.cellsOf 2)) = some y4 := hfs 4 _ rfl
  have g5 : DataW.trod enc Try.prog w base spare held n 2 (([c0, c1, c2, c3, c4, c5, c6, c7, c8].drop 5).take (Try.prog.cellsOf 2)) = some y5 := hfs 5 _ rfl
  have g6 : DataW.trod enc Try.prog w base spare held n 2 (([c0, c1, c2, c3, c4, c5, c6, c7, c8].drop 6).take (Try.prog.cellsOf 2)) = some y6 := hfs 6 _ rfl
  have g7 : DataW.trod enc Try.prog w base spare held n 4 (([c0, c1, c2, c3, c4, c5, c6, c7, c8].drop 7).take (Try.prog.cellsOf 4)) = some y7 := hfs 7 _ rfl
  have g8 : DataW.trod enc Try.prog w base spare held n 4 (([c0, c1, c2, c3, c4, c5, c6, c7, c8].drop 8).take (Try.prog.cellsOf 4)) = some y8 := hfs 8 _ rfl
  rw [cells3] at g0
  rw [cells9] at g1
  rw [cells2] at g2 g3 g4 g5 g6
  rw [cells4] at g7 g8
  obtain ⟨a0, e0, _, _⟩ := DataW.trod_int Try.underlying3 g0
  obtain ⟨a1, e1, _, s1⟩ := DataW.trod_string Try.underlying9 g1
  obtain ⟨a2, e2, _, _⟩ := DataW.trod_int Try.underlying2 g2
  obtain ⟨a3, e3, _, _⟩ := DataW.trod_int Try.underlying2 g3
  obtain ⟨a4, e4, _, s4⟩ := DataW.trod_int Try.underlying2 g4
  obtain ⟨a5, e5, _, s5⟩ := DataW.trod_int Try.underlying2 g5
  obtain ⟨a6, e6, _, s6⟩ := DataW.trod_int Try.underlying2 g6
  obtain ⟨a7, e7, _⟩ := DataW.trod_bool Try.underlying4 g7
  obtain ⟨a8, e8, _⟩ := DataW.trod_bool Try.underlying4 g8
  simp only [List.drop_zero, List.drop_succ_cons, List.take_succ_cons, List.take_zero, List.cons.injEq, and_true] at e0 e1 e2 e3 e4 e5 e6 e7 e8
  subst e0 e1 e2 e3 e4 e5 e6 e7 e8
  exact ⟨a0, a2, a3, a4, a5, a6, a1, a7, a8, rfl, s1, wf_ok s4, wf_ok s5, wf_ok s6⟩

def pairOf : DataW H × List MemPlace → Int × Int
  | (.agg [.lit (.int _ a), .lit (.int _ b)], _) => (a, b)
  | _ => (0, 0)

/-- a slice of pairs that came in -/
theorem open29 {ao : Option Addr} {len cap : Nat} {d : DataW H} {p : List MemPlace} (h : DataW.Trod enc Try.prog w base spare held 29 (.slice ao len cap) d p) :
    ∃ Z : List (Int × Int), Z.length = len ∧ len ≤ maxLen ∧ Ins w ao cap len (PX Z) := by
  obtain ⟨fuel, hf⟩ := h
  rcases DataW.trod_slice Try.underlying29 hf with ⟨hcs, _⟩ | ⟨a, l, c, elems, rest, n, _, hcs, _, _, hl, hm, hlen, hel, _⟩
  · simp [Value.cells] at hcs
    obtain ⟨rfl, rfl, rfl⟩ := hcs
    exact ⟨[], rfl, by unfold maxLen; omega, fun _ => ⟨rfl, rfl⟩, fun ad h => by cases h⟩
  · simp [Value.cells] at hcs
    obtain ⟨rfl, rfl, rfl⟩ := hcs
    refine ⟨elems.map pairOf, by simpa using hlen, by omega, fun h => by simp at h, ?_⟩
    intro ad had j v hj
    cases had
    have hjl : j < len * 2 := by
      have := (List.getElem?_eq_some_iff.1 hj).1
      rw [PX_len] at this; simpa [hlen] using this
    have hi : j / 2 < len := by omega
    have he := hel (j / 2) hi
    rw [cells36] at he
    have hie : j / 2 < elems.length := by omega
    rw [List.getElem?_eq_getElem hie, Option.bind_eq_some_iff] at he
    obtain ⟨cs', hcs, hy⟩ := he
    obtain ⟨_, hcl, hcc⟩ := World.cells?_some hcs
    obtain ⟨xs, m, _, hx, _, hxl, hxs⟩ := DataW.trod_array Try.underlying36 hy
    obtain ⟨x0, x1, rfl⟩ : ∃ x0 x1, xs = [x0, x1] := by
      match xs, hxl with
      | [x0, x1], _ => exact ⟨x0, x1, rfl⟩
    obtain ⟨k0, k1, rfl⟩ : ∃ k0 k1, cs' = [k0, k1] := by
      match cs', hcl with
      | [k0, k1], _ => exact ⟨k0, k1, rfl⟩
    have t0 := hxs 0 (by omega)
    have t1 := hxs 1 (by omega)
    rw [cells2] at t0 t1
    simp only [Nat.zero_mul, Nat.one_mul, List.drop_zero, List.drop_succ_cons, List.take_succ_cons, List.take_zero, List.getElem?_cons_zero, List.getElem?_cons_succ] at t0 t1
    obtain ⟨n0, z0, rfl, _⟩ := DataW.trod_int Try.underlying2 t0
    obtain ⟨n1, z1, rfl, _⟩ := DataW.trod_int Try.underlying2 t1
    simp only [List.cons.injEq, and_true] at z0 z1
    subst z0 z1
    have hc0 := hcc 0 (by omega)
    have hc1 := hcc 1 (by omega)
    rw [Addr.add_add] at hc0 hc1
    simp only [List.getElem?_cons_zero, List.getElem?_cons_succ] at hc0 hc1
    have hp : (elems.map pairOf)[j / 2]'(by simpa using hie) = (n0, n1) := by
      rw [List.getElem_map, hx]; rfl
    have hjc : w.cell? (a.add j) = some v := by
      rcases (show j = j / 2 * 2 ∨ j = j / 2 * 2 + 1 by omega) with hj2 | hj2
      · have := PX_get0 (elems.map pairOf) (j / 2) (by simpa using hie)
        rw [← hj2, hj, hp] at this
        rw [this]
        rw [Nat.add_zero, ← hj2] at hc0
        exact hc0
      · have := PX_get1 (elems.map pairOf) (j / 2) (by simpa using hie)
        rw [← hj2, hj, hp] at this
        rw [this]
        rw [← hj2] at hc1
        exact hc1
    exact ⟨hjc, World.block_lt_of_cell? w _ hjc⟩

theorem open30 {ao : Option Addr} {len cap : Nat} {d : DataW H} {p : List MemPlace} (h : DataW.Trod enc Try.prog w base spare held 30 (.slice ao len cap) d p) :
    ∃ Z : List Int, Z.length = len ∧ len ≤ maxLen ∧ Ins w ao cap len (NX Z) := by
  obtain ⟨fuel, hf⟩ := h
  rcases open_ints Try.underlying30 Try.underlying2 cells2 hf with ⟨hcs, _⟩ | ⟨a, l, c, zs, hcs, _, hl, hm, hz, _, hcell, _⟩
  · simp [Value.cells] at hcs
    obtain ⟨rfl, rfl, rfl⟩ := hcs
    exact ⟨[], rfl, by unfold maxLen; omega, fun _ => ⟨rfl, rfl⟩, fun ad h => by cases h⟩
  · simp [Value.cells] at hcs
    obtain ⟨rfl, rfl, rfl⟩ := hcs
    have hzl : len ≤ zs.length := by rw [hz]; split <;> omega
    refine ⟨zs.take len, by simp; omega, by omega, fun h => by simp at h, ?_⟩
    intro ad had j v hj
    cases had
    have hjl := (List.getElem?_eq_some_iff.1 hj).1
    simp [NX] at hjl
    have hc := hcell j (by omega)
    have hv : v = .int .i64 (zs.getD j 0) := by
      simp only [NX, List.getElem?_map, List.getElem?_take] at hj
      rw [if_pos (by omega), List.getElem?_eq_getElem (by omega)] at hj
      simp at hj
      rw [← hj, List.getD_eq_getElem?_getD, List.getElem?_eq_getElem (by omega)]; rfl
    rw [hv]
    exact ⟨hc, World.block_lt_of_cell? w _ hc⟩

theorem open31 {ao : Option Addr} {len cap : Nat} {d : DataW H} {p : List MemPlace} (h : DataW.Trod enc Try.prog w base spare held 31 (.slice ao len cap) d p) :
    ∃ T : List ByteArray, T.length = len ∧ len ≤ maxLen ∧ Txt w ao T := by
  obtain ⟨fuel, hf⟩ := h
  rcases open_strings Try.underlying31 Try.underlying9 cells9 hf with ⟨hcs, _⟩ | ⟨a, l, c, ss, hcs, _, hl, hm, hz, _, hcell, hsz⟩
  · simp [Value.cells] at hcs
    obtain ⟨rfl, rfl, rfl⟩ := hcs
    exact ⟨[], rfl, by unfold maxLen; omega, fun t ht => by simp at ht, fun h => by simp at h⟩
  · simp [Value.cells] at hcs
    obtain ⟨rfl, rfl, rfl⟩ := hcs
    have hzl : len ≤ ss.length := by rw [hz]; split <;> omega
    have hl9 : (ss.take len).length = len := by simp; omega
    refine ⟨ss.take len, hl9, by omega, fun t ht => hsz t (List.mem_of_mem_take ht), fun h0 => ?_⟩
    rw [hl9] at h0
    obtain ⟨b, off, spot⟩ := a
    have hspot : spot = none := by simpa [Addr.add] using World.cell?_spot (hcell 0 (by omega))
    subst hspot
    refine ⟨b, off, rfl, ?_, fun i hi => ?_⟩
    · have := World.block_lt_of_cell? w _ (hcell 0 (by omega)); simpa [Addr.add] using this
    · have hi' : i < ss.length := by simp at hi; omega
      have hc := hcell i hi'
      rw [Go.WideShapes.add_plain] at hc
      rw [hc, List.getElem_take, List.getD_eq_getElem?_getD, List.getElem?_eq_getElem hi']; rfl
end
end Go.Proofs.Qxb6617273a.Hunk
