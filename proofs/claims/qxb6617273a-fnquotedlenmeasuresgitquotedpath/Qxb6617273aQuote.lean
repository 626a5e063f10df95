import Derived.Test.Qxb6617273aQPlain2
import Derived.Test.Qxb6617273aW3
namespace Go.Proofs.Qxb6617273a.QLen
open Go.RowKit Go.PlainAid

/-! the plain quoting -/
def qb (c : UInt8) : List UInt8 :=
  if c = 34 ∨ c = 92 then [92, c] else if c = 10 then [92, 110] else if c = 9 then [92, 116]
  else if c.toNat < 32 ∨ 127 ≤ c.toNat then [92, UInt8.ofNat (48 + c.toNat / 64), UInt8.ofNat (48 + c.toNat / 8 % 8), UInt8.ofNat (48 + c.toNat % 8)] else [c]
def qs (l : List UInt8) : List UInt8 := 34 :: l.flatMap qb

theorem digit_ne (n : Nat) (h : n < 8) : ¬ UInt8.ofNat (48 + n) = 34 ∧ ¬ UInt8.ofNat (48 + n) = 92 := by
  have e : (UInt8.ofNat (48 + n)).toNat = 48 + n := by rw [UInt8.toNat_ofNat']; omega
  constructor <;> intro hh <;> rw [hh] at e <;> simp at e <;> omega
theorem find_cons (c : UInt8) (r : List UInt8) (e : Bool) (i : Nat) (h : ¬ (c = 34 ∧ e = false)) : find (c :: r) e i = find r (c == 92 && !e) (i + 1) := by rw [find, if_neg h]
theorem find_pair (c : UInt8) (r : List UInt8) (i : Nat) : find (92 :: c :: r) false i = find r false (i + 2) := by
  rw [find_cons 92 _ _ _ (by decide)]
  have : ((92 : UInt8) == 92 && !false) = true := by decide
  rw [this, find_cons c _ _ _ (by simp)]
  simp
theorem find_plain (c : UInt8) (r : List UInt8) (i : Nat) (h1 : ¬ c = 34) (h2 : ¬ c = 92) : find (c :: r) false i = find r false (i + 1) := by
  rw [find_cons c _ _ _ (by simp [h1])]
  have : (c == 92 && !false) = false := by simp [h2]
  rw [this]
theorem find_qb (c : UInt8) (r : List UInt8) (i : Nat) : find (qb c ++ r) false i = find r false (i + (qb c).length) := by
  unfold qb
  have hc := c.toNat_lt
  split
  · exact find_pair _ _ _
  · split
    · exact find_pair _ _ _
    · split
      · exact find_pair _ _ _
      · split
        · have d1 := digit_ne (c.toNat / 8 % 8) (by omega)
          have d2 := digit_ne (c.toNat % 8) (by omega)
          simp only [List.cons_append, List.nil_append]
          rw [find_pair, find_plain _ _ _ d1.1 d1.2, find_plain _ _ _ d2.1 d2.2]; rfl
        · next h _ _ _ =>
          rw [not_or] at h
          exact find_plain _ _ _ h.1 h.2
theorem find_qbs : ∀ (l r : List UInt8) (i : Nat), find (l.flatMap qb ++ r) false i = find r false (i + (l.flatMap qb).length)
  | [], _, _ => by simp
  | c :: l, r, i => by
    rw [List.flatMap_cons, List.append_assoc, find_qb, find_qbs l r]
    congr 1; simp; omega
theorem qlen_quoted (l t : List UInt8) : qlen ((qs l ++ [34]) ++ t) = (qs l).length + 1 := by
  unfold qs
  rw [List.append_assoc, List.cons_append, qlen_cons, if_pos rfl, find_qbs]
  simp [find]; omega
theorem qlen_open (l : List UInt8) : qlen (qs l) = -1 := by
  unfold qs
  rw [qlen_cons, if_pos rfl]
  have := find_qbs l [] 1
  rw [List.append_nil] at this
  rw [this]; rfl
theorem qb_le (c : UInt8) : (qb c).length ≤ 4 ∧ 1 ≤ (qb c).length := by
  unfold qb; repeat' split
  all_goals simp
theorem qbs_le : ∀ l : List UInt8, (l.flatMap qb).length ≤ 4 * l.length
  | [] => by simp
  | c :: l => by have := qbs_le l; have := (qb_le c).1; rw [List.flatMap_cons, List.length_append, List.length_cons]; omega
theorem qs_le (l : List UInt8) : (qs l).length ≤ 4 * l.length + 1 := by have := qbs_le l; unfold qs; simp only [List.length_cons]; omega
theorem qs_snoc (l : List UInt8) (c : UInt8) : qs (l ++ [c]) = qs l ++ qb c := by unfold qs; simp
theorem take_snoc (s : ByteArray) (k : Nat) (h : k < s.size) : ∃ c : UInt8, s.data.toList.take (k + 1) = s.data.toList.take k ++ [c] ∧ (c.toNat : Int) = bt s k := by
  have h' : k < s.data.toList.length := by simpa using h
  exact ⟨s.data.toList[k], List.take_succ_eq_append_getElem h', by rw [← get_bt s k h]; rfl⟩

def U (c : UInt8) : Value := .int .u8 (c.toNat : Int)
theorem U_one (l : List UInt8) : ∀ u ∈ l.map U, u.oneCell' = true := by
  intro u hu; obtain ⟨c, _, rfl⟩ := List.mem_map.1 hu; rfl

/-- the cells that the law appends for one byte, in the walk's own spelling -/
theorem qb_quote (c : UInt8) (n : Int) (hn : (c.toNat : Int) = n) (h : n = 34 ∨ n = 92) : [Value.int .u8 92, .int .u8 n] = (qb c).map U := by
  have : c = 34 ∨ c = 92 := by
    rcases h with h | h
    · exact Or.inl ((u8_eq c 34 (by omega)).2 (by omega))
    · exact Or.inr ((u8_eq c 92 (by omega)).2 (by omega))
  unfold qb; rw [if_pos this]; subst hn; rfl
theorem ne_of (c : UInt8) (n : Int) (m : Nat) (hm : m < 256) (hn : (c.toNat : Int) = n) (h : n ≠ m) : ¬ c = UInt8.ofNat m := fun e => h (by rw [← hn]; exact (u8_eq c m hm).1 e)
theorem qb_nl (c : UInt8) (n : Int) (hn : (c.toNat : Int) = n) (h : n = 10) : [Value.int .u8 92, .int .u8 110] = (qb c).map U := by
  have h1 : ¬ (c = 34 ∨ c = 92) := by rw [not_or]; exact ⟨ne_of c n 34 (by omega) hn (by omega), ne_of c n 92 (by omega) hn (by omega)⟩
  unfold qb; rw [if_neg h1, if_pos (show c = 10 from (u8_eq c 10 (by omega)).2 (by omega))]; rfl
theorem qb_tab (c : UInt8) (n : Int) (hn : (c.toNat : Int) = n) (h : n = 9) : [Value.int .u8 92, .int .u8 116] = (qb c).map U := by
  have h1 : ¬ (c = 34 ∨ c = 92) := by rw [not_or]; exact ⟨ne_of c n 34 (by omega) hn (by omega), ne_of c n 92 (by omega) hn (by omega)⟩
  unfold qb; rw [if_neg h1, if_neg (show ¬ c = 10 from ne_of c n 10 (by omega) hn (by omega)), if_pos (show c = 9 from (u8_eq c 9 (by omega)).2 (by omega))]; rfl
theorem qb_oct (c : UInt8) (n : Int) (hn : (c.toNat : Int) = n) (h : n ≠ 34 ∧ n ≠ 92 ∧ n ≠ 10 ∧ n ≠ 9) (hr : n < 32 ∨ 127 ≤ n) : [Value.int .u8 92, .int .u8 (48 + n / 64), .int .u8 (48 + n / 8 % 8), .int .u8 (48 + n % 8)] = (qb c).map U := by
  have h1 : ¬ (c = 34 ∨ c = 92) := by rw [not_or]; exact ⟨ne_of c n 34 (by omega) hn (by omega), ne_of c n 92 (by omega) hn (by omega)⟩
  unfold qb; rw [if_neg h1, if_neg (show ¬ c = 10 from ne_of c n 10 (by omega) hn (by omega)), if_neg (show ¬ c = 9 from ne_of c n 9 (by omega) hn (by omega)), if_pos (by omega)]
  have hc := c.toNat_lt
  subst hn
  simp only [List.map_cons, List.map_nil, U, UInt8.toNat_ofNat']
  congr 2
  congr 1
  · congr 1; omega
  · congr 1
    · congr 1; omega
    · congr 1; congr 1; omega
theorem qb_self (c : UInt8) (n : Int) (hn : (c.toNat : Int) = n) (h : n ≠ 34 ∧ n ≠ 92 ∧ n ≠ 10 ∧ n ≠ 9) (hr : 32 ≤ n ∧ n < 127) : [Value.int .u8 n] = (qb c).map U := by
  have h1 : ¬ (c = 34 ∨ c = 92) := by rw [not_or]; exact ⟨ne_of c n 34 (by omega) hn (by omega), ne_of c n 92 (by omega) hn (by omega)⟩
  unfold qb; rw [if_neg h1, if_neg (show ¬ c = 10 from ne_of c n 10 (by omega) hn (by omega)), if_neg (show ¬ c = 9 from ne_of c n 9 (by omega) hn (by omega)), if_neg (by omega)]
  subst hn; rfl

/-! appending a literal of bytes to an owned row -/
theorem info5 : (Try.prog.info? 5).map (fun i => (i.zero, i.size, i.bytes)) = some (some (.int .u8 0), 1, 1) := by kernel_rfl
theorem lit_cells (wr : World) (L : List Value) (hL : L.length ≤ maxLen) : ∀ j u, L[j]? = some u → (wr.alloc (.cells L.toArray 5)).cell? ((⟨wr.heap.size, 0, none⟩ : Addr).add j) = some u := by
  intro j u hj
  exact (World.ownsRow_lit (base := 0) (e := 5) (size := 1) wr L.toArray L.length (Nat.zero_le _) hL (by simp)).cells rfl j u (by simpa using hj)
theorem wpList_append_lit {wr : World} {B : Nat} {v : Value} {n : Nat} {xs : List Value} (hown : wr.ownsRow B 5 1 v n xs) (hB : B ≤ wr.heap.size)
    {ops : Array Oper} {rest : List Oper} {o : Oper} {a : Act} {Q : Exit → Act → World → Prop} (s x : Operand) (hgd : o.guard = none)
    (ho : o.op = .call { callee := .builtin .append, args := #[s, x], argTypes := #[34, 34] }) (hs : a.eval s = v)
    (L : List Value) (m c : Nat) (hx : a.eval x = .slice (some ⟨wr.heap.size, 0, none⟩) m c) (hm : L.length = m) (h1 : ∀ u ∈ L, u.oneCell' = true) (hb : n + m ≤ 1000000000)
    (h : ∀ v' w', w'.ownsRow B 5 1 v' (n + m) (xs ++ L) → (∀ w0, Below B w0 wr → Below B w0 w') → wpList Try.prog ops Q rest (a.put o.dst v') w') :
    wpList Try.prog ops Q (o :: rest) a (wr.alloc (.cells L.toArray 5)) := by
  obtain ⟨i0, hi, hz0, hz1, hz2⟩ := info_parts info5
  refine wpList_append_own _ hgd s x 34 ho B 5 i0 (.int .u8 0) 1 1 Try.underlying34 hi hz0 hz1 hz2 rfl (by decide) v n xs hs (hown.alloc _) ⟨wr.heap.size, 0, none⟩ m c L hx (by omega) (lit_cells wr L (by unfold maxLen; omega)) h1 (by unfold maxLen; omega) (by omega) (by simp; omega) ?_
  intro v' w' ho' hg _
  exact h v' w' ho' fun w0 hb0 => (hb0.alloc hB _).grown hg (by simp; omega) (fun j hj => (hown.lt j hj).1)
/-- the bytes of an owned row, as a string -/
theorem string_own (w : World) (B : Nat) (v : Value) (L : List UInt8) (hL : L ≠ []) (hown : w.ownsRow B 5 1 v L.length (L.map U)) :
    (convert 34 9 v).run Try.prog w = .ok (.string ⟨L.toArray⟩) w := by
  have hown' := hown
  obtain ⟨_, h | ⟨g, cap, cur, rfl, _⟩⟩ := hown
  · exact absurd (List.eq_nil_of_length_eq_zero h.2) hL
  · refine run_convert_bytes_back w 34 9 5 _ cap L Try.underlying34 Try.underlying5 Try.underlying9 fun j hj => ?_
    exact hown'.cells rfl j _ (by rw [List.getElem?_map, List.getElem?_eq_getElem hj]; rfl)
end Go.Proofs.Qxb6617273a.QLen
