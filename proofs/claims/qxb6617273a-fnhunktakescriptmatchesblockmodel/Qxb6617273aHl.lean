import Derived.Test.Qxb6617273aHm
namespace Go.Proofs.Qxb6617273a.Hunk
open Go.RowKit Go.PlainAid Go.Proofs.Qxb6617273a.QLen

theorem PX_get0 : ∀ (l : List (Int × Int)) (k : Nat) (h : k < l.length), (PX l)[k * 2]? = some (.int .i64 l[k].1)
  | p :: l, 0, _ => rfl
  | p :: l, k + 1, h => by
    have ih := PX_get0 l k (by simpa using h)
    show (Value.int .i64 p.1 :: Value.int .i64 p.2 :: PX l)[(k + 1) * 2]? = _
    rw [show (k + 1) * 2 = k * 2 + 1 + 1 from by omega, List.getElem?_cons_succ, List.getElem?_cons_succ, ih]; rfl
theorem PX_get1 : ∀ (l : List (Int × Int)) (k : Nat) (h : k < l.length), (PX l)[k * 2 + 1]? = some (.int .i64 l[k].2)
  | p :: l, 0, _ => rfl
  | p :: l, k + 1, h => by
    have ih := PX_get1 l k (by simpa using h)
    show (Value.int .i64 p.1 :: Value.int .i64 p.2 :: PX l)[(k + 1) * 2 + 1]? = _
    rw [show (k + 1) * 2 + 1 = k * 2 + 1 + 1 + 1 from by omega, List.getElem?_cons_succ, List.getElem?_cons_succ, ih]; rfl
theorem PX_set : ∀ (l : List (Int × Int)) (k : Nat) (a b : Int), ((PX l).set (k * 2) (.int .i64 a)).set (k * 2 + 1) (.int .i64 b) = PX (l.set k (a, b))
  | [], k, a, b => by simp [PX]
  | p :: l, 0, _, _ => rfl
  | p :: l, k + 1, a, b => by
    have ih := PX_set l k a b
    show ((Value.int .i64 p.1 :: Value.int .i64 p.2 :: PX l).set ((k + 1) * 2) _).set ((k + 1) * 2 + 1) _ = Value.int .i64 p.1 :: Value.int .i64 p.2 :: PX (l.set k (a, b))
    rw [show (k + 1) * 2 = k * 2 + 1 + 1 from by omega, List.set_cons_succ, List.set_cons_succ, List.set_cons_succ, List.set_cons_succ, ih]
theorem PX_zero : ∀ (l : List (Int × Int)), PX (l.map fun _ => (0, 0)) = List.replicate (l.length * 2) (.int .i64 0)
  | [] => rfl
  | p :: l => by
    show Value.int .i64 0 :: Value.int .i64 0 :: PX (l.map fun _ => (0, 0)) = _
    rw [PX_zero l, List.length_cons, show (l.length + 1) * 2 = l.length * 2 + 1 + 1 from by omega, List.replicate_succ, List.replicate_succ]
theorem made_zero (n : Nat) : (madeCells #[.int .i64 0, .int .i64 0] n).toList = List.replicate n (Value.int .i64 0) := by
  apply List.ext_getElem
  · rw [Array.length_toList, size_madeCells, List.length_replicate]
  · intro i h1 h2
    rw [List.getElem_replicate]
    simp only [madeCells, Array.getElem_toList, Array.getElem_map, Array.getElem_range]
    have h3 : i % 2 < 2 := Nat.mod_lt _ (by decide)
    show (#[Value.int .i64 0, .int .i64 0] : Array Value)[i % 2]! = _
    rcases (show i % 2 = 0 ∨ i % 2 = 1 by omega) with h | h <;> rw [h] <;> rfl
theorem made_one (z : Value) (n : Nat) : (madeCells #[z] n).toList = List.replicate n z := toList_madeCells_one z n
/-- the list with its first k elements laid -/
def upto {α : Type} (Z : List α) (z : α) (k : Nat) : List α := Z.take k ++ (Z.drop k).map fun _ => z
theorem upto_len {α : Type} (Z : List α) (z : α) (k : Nat) : (upto Z z k).length = Z.length := by simp [upto]; omega
theorem upto_all {α : Type} (Z : List α) (z : α) : upto Z z Z.length = Z := by simp [upto]
theorem upto_zero {α : Type} (Z : List α) (z : α) : upto Z z 0 = Z.map fun _ => z := by simp [upto]
theorem upto_get {α : Type} (Z : List α) (z : α) (k : Nat) (h : k < Z.length) : (upto Z z k)[k]? = some z := by
  unfold upto
  rw [List.getElem?_append_right (by simp; omega)]
  simp
  rw [show k - min k Z.length = 0 from by omega]
  simp [h]
theorem upto_set {α : Type} (Z : List α) (z : α) (k : Nat) (h : k < Z.length) : (upto Z z k).set k Z[k] = upto Z z (k + 1) := by
  unfold upto
  have hl : (Z.take k).length = k := by simp; omega
  rw [List.set_append_right _ _ (by omega), hl, Nat.sub_self, List.drop_eq_getElem_cons h, List.map_cons, List.set_cons_zero, List.take_succ_eq_append_getElem h, List.append_assoc]
  rfl
end Go.Proofs.Qxb6617273a.Hunk
