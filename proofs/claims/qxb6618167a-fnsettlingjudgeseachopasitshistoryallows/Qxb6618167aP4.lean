import Derived.Test.Qxb6618167aP2
import Derived.Maps.OwnSet
namespace Go.Proofs.Qxb6618167a.Hist
open Go.RowKit Go.PlainAid
attribute [local go_sem ↓] Go.wp_at_zero Go.wp_at_succ

def isApp (z : Zp) : Bool := z.kind.toList == [97, 112, 112, 101, 110, 100]
def isUnk (z : Zp) : Bool := z.status.toList == [117, 110, 107, 110, 111, 119, 110]
def una (z : Zp) : Bool := isApp z && isUnk z
theorem una_any (w : World) (R : Nat → Prop) (b o : Nat) (z : Zp) (h : OpAt R w b o z) : Calls Try.prog 29 #[.pointer (some ⟨b, o, none⟩)] w fun e w' => e = .returned (.bool (una z)) ∧ w' = w := by
  obtain ⟨vv, ve, c0, c1, c2, c3, c4, c5, c6, c7, c8, c9, c10, h1, h2⟩ := h
  go_enter Try.func29, Try.ntmps29
  go_wp2
  · rename_i h
    go_ret
    exact ⟨ret_bool (by simp [una, isApp, isUnk, h]), rfl⟩
  · rename_i h
    go_ret
    exact ⟨ret_bool (by simp [una, isApp, isUnk, h]), rfl⟩

/-! the map of fates -/
def ptrElem : Value → Option (DataW Unit × List MemPlace)
  | .pointer none => some (.nil, [])
  | .pointer (some ⟨b, 0, none⟩) => some (.lit (.int .u64 b), [])
  | _ => none
theorem ptr_inv {v : Value} {d : DataW Unit} {ps : List MemPlace} (h : ptrElem v = some (d, ps)) : (v = .pointer none ∧ d = .nil) ∨ ∃ b : Nat, v = .pointer (some ⟨b, 0, none⟩) ∧ d = .lit (.int .u64 b) := by
  unfold ptrElem at h
  split at h
  · simp at h; exact Or.inl ⟨rfl, h.1.symm⟩
  · rename_i b; simp at h; exact Or.inr ⟨b, rfl, h.1.symm⟩
  · simp at h

structure Fate where
  call : Int
  appends : Int
  seen : Bool
  index : Int
  ret : Int
def Fate.cells (f : Fate) : Array Value := #[.int .i64 f.call, .int .i64 f.appends, .bool f.seen, .int .u64 f.index, .int .i64 f.ret]
abbrev St := List UInt8 → Option Fate
def upd (st : St) (v : List UInt8) (f : Fate) : St := fun u => if u = v then some f else st u
theorem upd_same (st : St) (v : List UInt8) (f : Fate) : upd st v f v = some f := by simp [upd]
theorem upd_other (st : St) {v u : List UInt8} (f : Fate) (h : u ≠ v) : upd st v f u = st u := by simp [upd, h]

/-- block mb is the map st of n fates, her memory at or above base -/
def SS (base : Nat) (w : World) (mb : Nat) (st : St) (n : Nat) : Prop :=
  ∃ (D : DataW Unit) (pos : List UInt8 → Nat), w.ownsMap Try.prog 9 ptrElem mb n D ∧ Maps.size D = n ∧ base ≤ mb ∧ (∀ v, st v = none → Maps.has D (.string v) = false) ∧
    (∀ v f, st v = some f → Maps.has D (.string v) = true ∧ (∀ z, D.atKey (.string v) z = .lit (.int .u64 (pos v))) ∧ w.heap[pos v]? = some (.cells f.cells 68 (0, 0)) ∧ base ≤ pos v) ∧
    ∀ u v f g, st u = some f → st v = some g → pos u = pos v → u = v

theorem K9 : Maps.Keyed Try.prog 9 := Maps.string_keyed Try.underlying9
theorem zero66 (w : World) : (zeroValue 66).run Try.prog w = .ok (.pointer none) w := by
  rfl
theorem key9 (v : List UInt8) (h : v.length ≤ 1048576) : keyOf Try.prog 9 (.string ⟨v.toArray⟩) = some (.string v) :=
  WideMaps.keyOf_string_mk Try.underlying9 (s := ⟨v.toArray⟩) (by show v.toArray.size ≤ _; simp; unfold maxLen; omega)

section
variable {base mb n : Nat} {w w' : World} {st : St}
theorem SS.keep (h : SS base w mb st n) (hk : ∀ k, k < w.heap.size → base ≤ k → w'.heap[k]? = w.heap[k]?) : SS base w' mb st n := by
  obtain ⟨D, pos, ⟨es, cl, hb, r⟩, h2, h3, h4, h5, h6⟩ := h
  refine ⟨D, pos, ⟨es, cl, ?_, r⟩, h2, h3, h4, fun v f hv => ?_, h6⟩
  · rw [hk mb (lt_of_block hb) h3]; exact hb
  · obtain ⟨q1, q2, q3, q4⟩ := h5 v f hv
    exact ⟨q1, q2, by rw [hk _ (lt_of_block q3) q4]; exact q3, q4⟩
theorem SS.look_none (h : SS base w mb st n) {v : List UInt8} (hl : v.length ≤ 1048576) (hv : st v = none) : (Instr.lookup 27 (.map (some mb)) (.string ⟨v.toArray⟩) false).run Try.prog w = .ok (.pointer none) w := by
  obtain ⟨D, pos, h1, h2, h3, h4, h5, h6⟩ := h
  obtain ⟨x, ps, hr, hx⟩ := h1.lookup K9 Try.underlying27 (zero66 w) (zd := .nil) (zp := []) rfl (key9 v hl)
  rw [Maps.atKey_of_not_has (h4 v hv)] at hx
  rcases ptr_inv hx with ⟨rfl, _⟩ | ⟨b, _, e⟩
  · exact hr
  · simp at e
theorem SS.look_some (h : SS base w mb st n) {v : List UInt8} (hl : v.length ≤ 1048576) {f : Fate} (hv : st v = some f) : ∃ b, (Instr.lookup 27 (.map (some mb)) (.string ⟨v.toArray⟩) false).run Try.prog w = .ok (.pointer (some ⟨b, 0, none⟩)) w ∧ base ≤ b ∧
    w.heap[b]? = some (.cells f.cells 68 (0, 0)) ∧ ∀ w' f', w'.heap[b]? = some (.cells (Fate.cells f') 68 (0, 0)) → (∀ k, k < w.heap.size → k ≠ b → w'.heap[k]? = w.heap[k]?) → SS base w' mb (upd st v f') n := by
  obtain ⟨D, pos, h1, h2, h3, h4, h5, h6⟩ := h
  obtain ⟨q1, q2, q3, q4⟩ := h5 v f hv
  obtain ⟨x, ps, hr, hx⟩ := h1.lookup K9 Try.underlying27 (zero66 w) (zd := .nil) (zp := []) rfl (key9 v hl)
  rw [q2] at hx
  rcases ptr_inv hx with ⟨_, e⟩ | ⟨b, rfl, e⟩
  · simp at e
  · have eb : pos v = b := by simp at e; omega
    subst eb
    refine ⟨pos v, hr, q4, q3, fun w' f' g1 g2 => ⟨D, pos, ?_, h2, h3, fun u hu => ?_, fun u g hu => ?_, fun u u' g g' hu hu' hp => ?_⟩⟩
    · obtain ⟨es, cl, hb, r⟩ := h1
      refine ⟨es, cl, ?_, r⟩
      rw [g2 mb (lt_of_block hb) (fun e => by rw [e, q3] at hb; simp at hb)]
      exact hb
    · by_cases huv : u = v
      · subst huv; rw [upd_same] at hu; simp at hu
      · rw [upd_other _ _ huv] at hu; exact h4 u hu
    · by_cases huv : u = v
      · subst huv
        rw [upd_same] at hu
        simp only [Option.some.injEq] at hu
        subst hu
        exact ⟨q1, q2, g1, q4⟩
      · rw [upd_other _ _ huv] at hu
        obtain ⟨r1, r2, r3, r4⟩ := h5 u g hu
        exact ⟨r1, r2, by rw [g2 _ (lt_of_block r3) (fun e => huv (h6 u v g f hu hv e))]; exact r3, r4⟩
    · have tr : ∀ x gx, upd st v f' x = some gx → ∃ gy, st x = some gy := fun x gx hx => by
        by_cases hxv : x = v
        · subst hxv; exact ⟨f, hv⟩
        · rw [upd_other _ _ hxv] at hx; exact ⟨gx, hx⟩
      obtain ⟨g1', e1⟩ := tr u g hu
      obtain ⟨g2', e2⟩ := tr u' g' hu'
      exact h6 u u' g1' g2' e1 e2 hp
theorem SS.new (h : SS base w mb st n) (hn : n < 1000000) {v : List UInt8} (hl : v.length ≤ 1048576) (hv : st v = none) (f : Fate) {w1 : World} (hb : base ≤ w.heap.size) (hk : ∀ k, k < w.heap.size → w1.heap[k]? = w.heap[k]?) (hf : w1.heap[w.heap.size]? = some (.cells f.cells 68 (0, 0))) :
    ∃ w2, (Instr.mapUpdate 27 (.map (some mb)) (.string ⟨v.toArray⟩) (.pointer (some ⟨w.heap.size, 0, none⟩))).run Try.prog w1 = .ok () w2 ∧ SS base w2 mb (upd st v f) (n + 1) ∧ w1.grownBy w2 (some mb) := by
  obtain ⟨D, pos, h1, h2, h3, h4, h5, h6⟩ := h
  have hm : mb < w.heap.size := h1.lt
  have h1' : w1.ownsMap Try.prog 9 ptrElem mb n D := by
    obtain ⟨es, cl, hb, r⟩ := h1
    exact ⟨es, cl, by rw [hk mb hm]; exact hb, r⟩
  obtain ⟨w2, hr, ho, hg⟩ := h1'.update K9 Try.underlying27 (by unfold maxLen; omega) (key9 v hl) (val := .pointer (some ⟨w.heap.size, 0, none⟩)) (d := .lit (.int .u64 (w.heap.size : Int))) (ps := []) rfl
  have hsz : w.heap.size < w1.heap.size := lt_of_block hf
  have hnm : w.heap.size ≠ mb := by omega
  refine ⟨w2, hr, ⟨D.put (.string v) (.lit (.int .u64 (w.heap.size : Int))), fun u => if u = v then w.heap.size else pos u, ho, ?_, h3, fun u hu => ?_, fun u g hu => ?_, fun u u' g g' hu hu' hp => ?_⟩, hg⟩
  · rw [Maps.size_put (h1'.tidy K9), h4 v hv, h2]; rfl
  · by_cases huv : u = v
    · subst huv; rw [upd_same] at hu; simp at hu
    · rw [upd_other _ _ huv] at hu
      rw [Maps.has_put_other (by simpa using huv)]
      exact h4 u hu
  · by_cases huv : u = v
    · subst huv
      rw [upd_same] at hu
      simp only [Option.some.injEq] at hu
      subst hu
      simp only [if_true]
      refine ⟨Maps.has_put_same h1'.isMap (by trivial) _, fun z => Maps.atKey_put_same h1'.isMap (by trivial) _ _, ?_, hb⟩
      rw [hg.block _ hsz (by simpa using hnm)]
      exact hf
    · rw [upd_other _ _ huv] at hu
      obtain ⟨r1, r2, r3, r4⟩ := h5 u g hu
      have hlt := lt_of_block r3
      simp only [huv, if_false]
      have hne : pos u ≠ mb := fun e => by
        obtain ⟨es, cl, hb, _⟩ := h1
        rw [e, hb] at r3; simp at r3
      refine ⟨by rw [Maps.has_put_other (by simpa using huv)]; exact r1, fun z => by rw [Maps.atKey_put_other (by simpa using huv)]; exact r2 z, ?_, r4⟩
      rw [hg.block _ (by omega) (by simpa using hne), hk _ hlt]
      exact r3
  · have low : ∀ x gx, x ≠ v → upd st v f x = some gx → st x = some gx ∧ pos x < w.heap.size := fun x gx hxv hx => by
      rw [upd_other _ _ hxv] at hx
      exact ⟨hx, lt_of_block (h5 x gx hx).2.2.1⟩
    by_cases e1 : u = v <;> by_cases e2 : u' = v
    · rw [e1, e2]
    · have := (low u' g' e2 hu').2; simp [e1, e2] at hp; omega
    · have := (low u g e1 hu).2; simp [e1, e2] at hp; omega
    · simp [e1, e2] at hp
      exact h6 u u' g g' (low u g e1 hu).1 (low u' g' e2 hu').1 hp
theorem SS.len (h : SS base w mb st n) (ty : TypeId) : (Builtin.len_ #[27] ty #[.map (some mb)]).run Try.prog w = .ok (.int .i64 n) w := by
  obtain ⟨D, pos, h1, h2, _⟩ := h
  rw [h1.len Try.underlying27 ty, h2]
theorem SS.made (w : World) : SS w.heap.size (w.alloc (.map #[] 0)) w.heap.size (fun _ => none) 0 :=
  ⟨.map [], fun _ => 0, World.ownsMap_made w _ _ _, rfl, Nat.le_refl _, fun _ _ => rfl, fun _ _ h => by simp at h, fun _ _ _ _ h => by simp at h⟩
end
theorem conv_byt {R : Nat → Prop} {w : World} {v : Value} {l : List UInt8} (h : Byt R w v l) : (convert 33 9 v).run Try.prog w = .ok (.string ⟨l.toArray⟩) w := by
  obtain ⟨ao, cap, rfl, h2, h3⟩ := h
  cases ao with
  | none =>
    obtain ⟨rfl, rfl⟩ := h2 rfl
    rw [show ([] : List UInt8).length = 0 from rfl, run_convert_bytes_string w 33 9 5 none 0 0 Try.underlying33 Try.underlying5 Try.underlying9]
    rfl
  | some ad =>
    refine run_convert_bytes_back w 33 9 5 ad cap l Try.underlying33 Try.underlying5 Try.underlying9 fun j hj => ?_
    obtain ⟨b, off, e, _, _, q⟩ := h3 (by omega)
    simp only [Option.some.injEq] at e
    subst e
    have hq := q j hj
    by_cases h0 : j = 0
    · subst h0; simpa [Addr.add] using hq
    · simpa [Addr.add, h0] using hq
end Go.Proofs.Qxb6618167a.Hist
