import Derived.Test.Qxb6618167aP2
import Derived.ProofKit
import Derived.OpenShut
namespace Go.Proofs.Qxb6618167a.Hist
open Go.ChangeShapes Go.WideShapes Go.ChangeAt Go.RowKit

theorem cells47 : Try.prog.cellsOf 47 = 11 := by kernel_rfl
theorem cells9 : Try.prog.cellsOf 9 = 1 := by kernel_rfl
theorem cells2 : Try.prog.cellsOf 2 = 1 := by kernel_rfl
theorem cells3 : Try.prog.cellsOf 3 = 1 := by kernel_rfl
theorem cells33 : Try.prog.cellsOf 33 = 1 := by kernel_rfl
theorem cells34 : Try.prog.cellsOf 34 = 1 := by kernel_rfl
theorem cells45 : Try.prog.cellsOf 45 = 1 := by kernel_rfl
theorem cells5 : Try.prog.cellsOf 5 = 1 := by kernel_rfl
theorem cells55 : Try.prog.cellsOf 55 = 2 := by kernel_rfl

theorem list11 {α : Type} : ∀ l : List α, l.length = 11 → ∃ a b c d e f g h i j k, l = [a, b, c, d, e, f, g, h, i, j, k]
  | [a, b, c, d, e, f, g, h, i, j, k], _ => ⟨a, b, c, d, e, f, g, h, i, j, k, rfl⟩
theorem list2 {α : Type} : ∀ l : List α, l.length = 2 → ∃ a b, l = [a, b]
  | [a, b], _ => ⟨a, b, rfl⟩
theorem list_of {α : Type} (P : Nat → α → Prop) : ∀ n, (∀ i, i < n → ∃ a, P i a) → ∃ l : List α, l.length = n ∧ ∀ i (h : i < l.length), P i l[i]
  | 0, _ => ⟨[], rfl, fun i h => by simp at h⟩
  | n + 1, h => by
    obtain ⟨l, h1, h2⟩ := list_of P n (fun i hi => h i (by omega))
    obtain ⟨a, ha⟩ := h n (by omega)
    refine ⟨l ++ [a], by simp [h1], fun i hi => ?_⟩
    by_cases hin : i < l.length
    · rw [List.getElem_append_left hin]; exact h2 i hin
    · have : i = l.length := by simp at hi; omega
      subst this
      rw [List.getElem_append_right (Nat.le_refl _)]
      simp only [Nat.sub_self, List.getElem_cons_zero]
      rw [h1]; exact ha
def u8of (z : Int) : UInt8 := UInt8.ofNat z.toNat
theorem u8of_nat {z : Int} (h : 0 ≤ z ∧ z ≤ 255) : ((u8of z).toNat : Int) = z := by
  unfold u8of; rw [UInt8.toNat_ofNat']; omega

section
variable {H : Type} {enc : TypeId × Value → H} {w : World} {base : Nat} {spare : Nat → Bool} {held : Bool}

theorem byt_open {fuel : Nat} {c : Value} {x : DataW H × List MemPlace} (h : DataW.trod enc Try.prog w base spare held fuel 33 [c] = some x) : ∃ l : List UInt8, l.length ≤ maxLen ∧ Byt (fun b => b < w.heap.size) w c l := by
  rcases open_ints Try.underlying33 Try.underlying5 cells5 h with ⟨hcs, _⟩ | ⟨a, len, cap, zs, hcs, _, hl, hm, hz, _, hcell, hwf⟩
  · simp only [List.cons.injEq, and_true] at hcs
    subst hcs
    exact ⟨[], Nat.zero_le _, _, _, rfl, fun _ => ⟨rfl, rfl⟩, fun h => by simp at h⟩
  · simp only [List.cons.injEq, and_true] at hcs
    subst hcs
    have hzl : len ≤ zs.length := by rw [hz]; split <;> omega
    have hlen : ((zs.take len).map u8of).length = len := by simp; omega
    refine ⟨(zs.take len).map u8of, by omega, some a, cap, by rw [hlen], fun h => by simp at h, fun h0 => ?_⟩
    rw [hlen] at h0
    obtain ⟨b, off, spot⟩ := a
    have hspot : spot = none := by simpa [Addr.add] using World.cell?_spot (hcell 0 (by omega))
    subst hspot
    have hbl : b < w.heap.size := by have := World.block_lt_of_cell? w _ (hcell 0 (by omega)); simpa [Addr.add] using this
    refine ⟨b, off, rfl, hbl, hbl, fun i hi => ?_⟩
    rw [hlen] at hi
    have hi' : i < zs.length := by omega
    have hc := hcell i hi'
    rw [add_plain] at hc
    rw [hc, List.getElem_map, List.getElem_take, u8of_nat (bounds_u8 (hwf _ (List.getElem_mem hi'))), List.getD_eq_getElem?_getD, List.getElem?_eq_getElem hi']
    rfl

theorem slice_open {T e k : Nat} (hT : Try.prog.underlying T = some (.slice e)) (hk : Try.prog.cellsOf e = k) (hk0 : 0 < k) {fuel : Nat} {c : Value} {x : DataW H × List MemPlace} (h : DataW.trod enc Try.prog w base spare held fuel T [c] = some x) :
    c = .slice none 0 0 ∨ ∃ a len cap n, c = .slice (some a) len cap ∧ len ≤ maxLen ∧ (0 < len → ∃ b off, a = ⟨b, off, none⟩ ∧ b < w.heap.size ∧ ∀ i, i < len → ∃ cs y, cs.length = k ∧ (∀ j, j < k → w.cell? ⟨b, off + i * k + j, none⟩ = cs[j]?) ∧ DataW.trod enc Try.prog w base spare held n e cs = some y) := by
  rcases DataW.trod_slice hT h with ⟨hcs, _⟩ | ⟨a, len, cap, elems, rest, n, _, hcs, _, _, hl, hm, hlen, hel, _⟩
  · simp only [List.cons.injEq, and_true] at hcs
    exact Or.inl hcs
  · simp only [List.cons.injEq, and_true] at hcs
    subst hcs
    refine Or.inr ⟨a, len, cap, n, rfl, by omega, fun h0 => ?_⟩
    have hall : ∀ i, i < len → ∃ cs y, cs.length = k ∧ (∀ j, j < k → w.cell? (a.add (i * k + j)) = cs[j]?) ∧ DataW.trod enc Try.prog w base spare held n e cs = some y := fun i hi => by
      have he := hel i hi
      rw [hk, List.getElem?_eq_getElem (by omega), Option.bind_eq_some_iff] at he
      obtain ⟨cs', hcs, hy⟩ := he
      obtain ⟨_, hcl, hcc⟩ := World.cells?_some hcs
      exact ⟨cs', _, hcl, fun j hj => by rw [← hcc j hj, Addr.add_add], hy⟩
    obtain ⟨b, off, spot⟩ := a
    obtain ⟨cs, y, q1, q2, _⟩ := hall 0 h0
    have hc0 : ∃ v, w.cell? ((⟨b, off, spot⟩ : Addr).add 0) = some v := by
      have := q2 0 hk0
      rw [Nat.zero_mul, List.getElem?_eq_getElem (by omega)] at this
      exact ⟨_, this⟩
    obtain ⟨v0, hc0⟩ := hc0
    have hspot : spot = none := by simpa [Addr.add] using World.cell?_spot hc0
    subst hspot
    refine ⟨b, off, rfl, by have := World.block_lt_of_cell? w _ hc0; simpa [Addr.add] using this, fun i hi => ?_⟩
    obtain ⟨cs, y, q1, q2, q3⟩ := hall i hi
    exact ⟨cs, y, q1, fun j hj => by have := q2 j hj; rw [add_plain] at this; rw [← this, Nat.add_assoc], q3⟩

theorem ent_open {fuel : Nat} {cs : List Value} {x : DataW H × List MemPlace} (hl : cs.length = 2) (h : DataW.trod enc Try.prog w base spare held fuel 55 cs = some x) :
    ∃ e : Ent, e.val.length ≤ maxLen ∧ ∃ vv, cs = [.int .u64 e.idx, vv] ∧ Byt (fun b => b < w.heap.size) w vv e.val := by
  obtain ⟨c0, c1, rfl⟩ := list2 cs hl
  obtain ⟨xs, n, _, _, _, hlen, hfs⟩ := DataW.trod_struct Try.underlying55 h
  obtain ⟨y0, y1, rfl⟩ := list2 xs (by simpa using hlen)
  have g0 : DataW.trod enc Try.prog w base spare held n 34 (([c0, c1].drop 0).take (Try.prog.cellsOf 34)) = some y0 := hfs 0 _ rfl
  have g1 : DataW.trod enc Try.prog w base spare held n 33 (([c0, c1].drop 1).take (Try.prog.cellsOf 33)) = some y1 := hfs 1 _ rfl
  rw [cells34] at g0
  rw [cells33] at g1
  obtain ⟨a0, e0, _, _⟩ := DataW.trod_int Try.underlying34 g0
  obtain ⟨l, q1, q2⟩ := byt_open (c := c1) g1
  simp only [List.drop_zero, List.take_succ_cons, List.take_zero, List.cons.injEq, and_true] at e0
  subst e0
  exact ⟨⟨a0, l⟩, q1, c1, rfl, q2⟩
theorem ents_open {fuel : Nat} {c : Value} {x : DataW H × List MemPlace} (h : DataW.trod enc Try.prog w base spare held fuel 45 [c] = some x) :
    ∃ es : List Ent, es.length ≤ maxLen ∧ (∀ e ∈ es, e.val.length ≤ maxLen) ∧ EntsAt (fun b => b < w.heap.size) w c es := by
  rcases slice_open Try.underlying45 cells55 (by omega) h with rfl | ⟨a, len, cap, n, rfl, hm, ha⟩
  · exact ⟨[], Nat.zero_le _, fun e he => by simp at he, _, _, rfl, fun _ => ⟨rfl, rfl⟩, fun h => by simp at h⟩
  · by_cases h0 : 0 < len
    · obtain ⟨b, off, rfl, hb, hall⟩ := ha h0
      obtain ⟨es, e1, e2⟩ := list_of (fun i (e : Ent) => e.val.length ≤ maxLen ∧ w.cell? ⟨b, off + i * 2, none⟩ = some (.int .u64 e.idx) ∧ ∃ vv, w.cell? ⟨b, off + i * 2 + 1, none⟩ = some vv ∧ Byt (fun b => b < w.heap.size) w vv e.val) len (fun i hi => by
        obtain ⟨cs, y, q1, q2, q3⟩ := hall i hi
        obtain ⟨e, r1, vv, rfl, r2⟩ := ent_open q1 q3
        exact ⟨e, r1, q2 0 (by omega), vv, q2 1 (by omega), r2⟩)
      subst e1
      refine ⟨es, hm, fun e he => ?_, _, _, rfl, fun h => by simp at h, fun _ => ⟨b, off, rfl, hb, hb, fun i hi => (e2 i hi).2⟩⟩
      obtain ⟨i, hi, rfl⟩ := List.getElem_of_mem he
      exact (e2 i hi).1
    · obtain rfl : len = 0 := by omega
      exact ⟨[], Nat.zero_le _, fun e he => by simp at he, _, _, rfl, fun h => by simp at h, fun h => by simp at h⟩
theorem op_open {fuel : Nat} {cs : List Value} {x : DataW H × List MemPlace} (hl : cs.length = 11) (h : DataW.trod enc Try.prog w base spare held fuel 47 cs = some x) :
    ∃ z : Zp, Wide1 z ∧ ∃ vv ve, cs = [.string z.client, .string z.kind, .int .i64 z.call, .int .i64 z.ret, .string z.status, vv, .int .u64 z.index, .int .u64 z.frm, .int .i64 z.limit, .int .u64 z.commit, ve] ∧ Byt (fun b => b < w.heap.size) w vv z.val ∧ EntsAt (fun b => b < w.heap.size) w ve z.ents := by
  obtain ⟨c0, c1, c2, c3, c4, c5, c6, c7, c8, c9, c10, rfl⟩ := list11 cs hl
  obtain ⟨xs, n, _, _, _, hlen, hfs⟩ := DataW.trod_struct Try.underlying47 h
  obtain ⟨y0, y1, y2, y3, y4, y5, y6, y7, y8, y9, y10, rfl⟩ := list11 xs (by simpa using hlen)
  have g0 : DataW.trod enc Try.prog w base spare held n 9 (([c0, c1, c2, c3, c4, c5, c6, c7, c8, c9, c10].drop 0).take (Try.prog.cellsOf 9)) = some y0 := hfs 0 _ rfl
  have g1 : DataW.trod enc Try.prog w base spare held n 9 (([c0, c1, c2, c3, c4, c5, c6, c7, c8, c9, c10].drop 1).take (Try.prog.cellsOf 9)) = some y1 := hfs 1 _ rfl
  have g2 : DataW.trod enc Try.prog w base spare held n 2 (([c0, c1, c2, c3, c4, c5, c6, c7, c8, c9, c10].drop 2).take (Try.prog.cellsOf 2)) = some y2 := hfs 2 _ rfl
  have g3 : DataW.trod enc Try.prog w base spare held n 2 (([c0, c1, c2, c3, c4, c5, c6, c7, c8, c9, c10].drop 3).take (Try.prog.cellsOf 2)) = some y3 := hfs 3 _ rfl
  have g4 : DataW.trod enc Try.prog w base spare held n 9 (([c0, c1, c2, c3, c4, c5, c6, c7, c8, c9, c10].drop 4).take (Try.prog.cellsOf 9)) = some y4 := hfs 4 _ rfl
  have g5 : DataW.trod enc Try.prog w base spare held n 33 (([c0, c1, c2, c3, c4, c5, c6, c7, c8, c9, c10].drop 5).take (Try.prog.cellsOf 33)) = some y5 := hfs 5 _ rfl
  have g6 : DataW.trod enc Try.prog w base spare held n 34 (([c0, c1, c2, c3, c4, c5, c6, c7, c8, c9, c10].drop 6).take (Try.prog.cellsOf 34)) = some y6 := hfs 6 _ rfl
  have g7 : DataW.trod enc Try.prog w base spare held n 34 (([c0, c1, c2, c3, c4, c5, c6, c7, c8, c9, c10].drop 7).take (Try.prog.cellsOf 34)) = some y7 := hfs 7 _ rfl
  have g8 : DataW.trod enc Try.prog w base spare held n 3 (([c0, c1, c2, c3, c4, c5, c6, c7, c8, c9, c10].drop 8).take (Try.prog.cellsOf 3)) = some y8 := hfs 8 _ rfl
  have g9 : DataW.trod enc Try.prog w base spare held n 34 (([c0, c1, c2, c3, c4, c5, c6, c7, c8, c9, c10].drop 9).take (Try.prog.cellsOf 34)) = some y9 := hfs 9 _ rfl
  have g10 : DataW.trod enc Try.prog w base spare held n 45 (([c0, c1, c2, c3, c4, c5, c6, c7, c8, c9, c10].drop 10).take (Try.prog.cellsOf 45)) = some y10 := hfs 10 _ rfl
  rw [cells9] at g0 g1 g4
  rw [cells2] at g2 g3
  rw [cells33] at g5
  rw [cells34] at g6 g7 g9
  rw [cells3] at g8
  rw [cells45] at g10
  obtain ⟨a0, e0, _, s0⟩ := DataW.trod_string Try.underlying9 g0
  obtain ⟨a1, e1, _, s1⟩ := DataW.trod_string Try.underlying9 g1
  obtain ⟨a2, e2, _, _⟩ := DataW.trod_int Try.underlying2 g2
  obtain ⟨a3, e3, _, _⟩ := DataW.trod_int Try.underlying2 g3
  obtain ⟨a4, e4, _, s4⟩ := DataW.trod_string Try.underlying9 g4
  obtain ⟨a6, e6, _, _⟩ := DataW.trod_int Try.underlying34 g6
  obtain ⟨a7, e7, _, _⟩ := DataW.trod_int Try.underlying34 g7
  obtain ⟨a8, e8, _, _⟩ := DataW.trod_int Try.underlying3 g8
  obtain ⟨a9, e9, _, _⟩ := DataW.trod_int Try.underlying34 g9
  obtain ⟨vl, v1, v2⟩ := byt_open (c := c5) g5
  obtain ⟨es, t1, t2, t3⟩ := ents_open (c := c10) g10
  simp only [List.drop_zero, List.drop_succ_cons, List.take_succ_cons, List.take_zero, List.cons.injEq, and_true] at e0 e1 e2 e3 e4 e6 e7 e8 e9
  subst e0 e1 e2 e3 e4 e6 e7 e8 e9
  exact ⟨⟨a0, a1, a2, a3, a4, vl, a6, a7, a8, a9, es⟩, ⟨s0, s1, s4, v1, t1, t2⟩, c5, c10, rfl, v2, t3⟩
theorem ops_open {ao : Option Addr} {len cap : Nat} {d : DataW H} {p : List MemPlace} (h : DataW.Trod enc Try.prog w base spare held 22 (.slice ao len cap) d p) :
    ∃ L : List Zp, L.length = len ∧ len ≤ maxLen ∧ (∀ z ∈ L, Wide1 z) ∧ OpsAt (fun b => b < w.heap.size) (fun b => b < w.heap.size) w ao L := by
  obtain ⟨fuel, hf⟩ := h
  rcases slice_open Try.underlying22 cells47 (by omega) (c := .slice ao len cap) hf with hc | ⟨a, len', cap', n, hc, hm, ha⟩
  · simp only [Value.slice.injEq] at hc
    obtain ⟨rfl, rfl, rfl⟩ := hc
    exact ⟨[], rfl, Nat.zero_le _, fun e he => by simp at he, fun h => by simp at h⟩
  · simp only [Value.slice.injEq] at hc
    obtain ⟨rfl, rfl, rfl⟩ := hc
    by_cases h0 : 0 < len
    · obtain ⟨b, off, rfl, hb, hall⟩ := ha h0
      obtain ⟨L, e1, e2⟩ := list_of (fun i (z : Zp) => Wide1 z ∧ OpAt (fun b => b < w.heap.size) w b (off + i * 11) z) len (fun i hi => by
        obtain ⟨cs, y, q1, q2, q3⟩ := hall i hi
        obtain ⟨z, r1, vv, ve, rfl, r2, r3⟩ := op_open q1 q3
        exact ⟨z, r1, vv, ve, q2 0 (by omega), q2 1 (by omega), q2 2 (by omega), q2 3 (by omega), q2 4 (by omega), q2 5 (by omega), q2 6 (by omega), q2 7 (by omega), q2 8 (by omega), q2 9 (by omega), q2 10 (by omega), r2, r3⟩)
      refine ⟨L, e1, hm, fun z hz => ?_, fun _ => ⟨b, off, rfl, hb, hb, fun i hi => (e2 i hi).2⟩⟩
      obtain ⟨i, hi, rfl⟩ := List.getElem_of_mem hz
      exact (e2 i hi).1
    · obtain rfl : len = 0 := by omega
      exact ⟨[], rfl, Nat.zero_le _, fun e he => by simp at he, fun h => by simp at h⟩
end
end Go.Proofs.Qxb6618167a.Hist
