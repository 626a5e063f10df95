import Derived.Test.Qxb6618167aRows
import Derived.WalkKit
import Derived.ProofKit
import Derived.Outline
import Derived.PlainAid
import Derived.Handy
import Derived.Deep.CutRange
import Derived.Deep.RegionHeld3
import Derived.BigRegion
import Derived.BigQuiet
import Derived.Deep.QuietTactic
import Derived.Deep.DrawnRows
import Derived.WalkSpells
import Derived.Lib.SliceRun
namespace Go.Proofs.Qxb6618167a.Hist
open Go.RowKit Go.PlainAid

theorem hid {p : Prop} (h : p) : Hid p := h
theorem ret_int {k : IntKind} {a b : Int} (h : a = b) : Ending.returned (.int k a) = .returned (.int k b) := by rw [h]
theorem ret_bool {a b : Bool} (h : a = b) : Ending.returned (.bool a) = .returned (.bool b) := by rw [h]
theorem u8_eq (c : UInt8) (n : Nat) (hn : n < 256) : c = UInt8.ofNat n ↔ (c.toNat : Int) = n := by
  rw [← UInt8.toNat_inj, UInt8.toNat_ofNat']; omega

/-- the blocks outside S, and all but memory, are as they were -/
structure Fr (S : Nat → Prop) (w w' : World) : Prop where
  os : w'.os = w.os
  tape : w'.tape = w.tape
  output : w'.output = w.output
  size : w.heap.size ≤ w'.heap.size
  block : ∀ k, k < w.heap.size → ¬ S k → w'.heap[k]? = w.heap[k]?

section
variable {w : World} {b T : Nat} {cs : Array Value}
theorem blk_cell (h : w.heap[b]? = some (.cells cs T (0, 0))) (i : Nat) : w.cell? ⟨b, i, none⟩ = cs[i]? := by simp [World.cell?, h]
theorem blk_free (h : w.heap[b]? = some (.cells cs T (0, 0))) (i : Nat) : w.frozen? ⟨b, i, none⟩ = false := by simp [World.frozen?, h]
theorem blk_set (h : w.heap[b]? = some (.cells cs T (0, 0))) (i : Nat) (u : Value) : (w.setCell ⟨b, i, none⟩ u).heap[b]? = some (.cells (cs.setIfInBounds i u) T (0, 0)) := by
  have hlt := lt_of_block h
  have h' : w.heap[b] = .cells cs T (0, 0) := by simpa [Array.getElem?_eq_getElem hlt] using h
  show (w.heap.modify b _)[b]? = _
  rw [Array.getElem?_eq_getElem (by simpa using hlt), Array.getElem_modify_self, h']
  rfl
end

theorem own_form {w : World} {base : Nat} {e : TypeId} {size : Nat} {v : Value} {n : Nat} {xs : List Value} (h : w.ownsRow base e size v n xs) : ∃ ao cap, v = .slice ao n cap := by
  rcases h.2 with ⟨rfl, rfl⟩ | ⟨g, cap, _, rfl, _⟩
  · exact ⟨_, _, rfl⟩
  · exact ⟨_, _, rfl⟩
/-- a block of another element type is not the row's -/
theorem own_ne {w : World} {base : Nat} {e T : TypeId} {size : Nat} {v : Value} {n : Nat} {xs : List Value} {b : Nat} {cs : Array Value} {z : Nat × Nat} (h : w.ownsRow base e size v n xs) (hb : w.heap[b]? = some (.cells cs T z)) (hne : T ≠ e) : v.ownBlock ≠ some b := by
  intro hv
  rcases h.2 with ⟨rfl, _⟩ | ⟨g, cap, cur, rfl, _, hg, _⟩
  · simp [Value.ownBlock] at hv
  · simp [Value.ownBlock] at hv
    subst hv
    rw [hg] at hb
    simp at hb
    exact hne hb.2.1.symm
theorem own_blk {w w' : World} {base : Nat} {e : TypeId} {size : Nat} {v : Value} {n : Nat} {xs : List Value} (h : w.ownsRow base e size v n xs) (hk : ∀ k, v.ownBlock = some k → w'.heap[k]? = w.heap[k]?) : w'.ownsRow base e size v n xs := by
  refine ⟨h.1, ?_⟩
  rcases h.2 with h' | ⟨g, cap, cur, rfl, hg, hh, r⟩
  · exact Or.inl h'
  · exact Or.inr ⟨g, cap, cur, rfl, hg, by rw [hk g rfl]; exact hh, r⟩
theorem Fr.refl (S : Nat → Prop) (w : World) : Fr S w w := ⟨rfl, rfl, rfl, Nat.le_refl _, fun _ _ _ => rfl⟩
theorem Fr.trans {S : Nat → Prop} {a b c : World} (h : Fr S a b) (k : Fr S b c) : Fr S a c :=
  ⟨k.os.trans h.os, k.tape.trans h.tape, k.output.trans h.output, Nat.le_trans h.size k.size, fun i hi hn => (k.block i (Nat.lt_of_lt_of_le hi h.size) hn).trans (h.block i hi hn)⟩
theorem Fr.mono {S S' : Nat → Prop} {a b : World} (h : Fr S a b) (hS : ∀ k, k < a.heap.size → S k → S' k) : Fr S' a b := ⟨h.os, h.tape, h.output, h.size, fun i hi hn => h.block i hi (fun hs => hn (hS i hi hs))⟩
theorem Fr.set {S : Nat → Prop} {a w : World} (h : Fr S a w) {p : Addr} (hp : S p.block) (u : Value) : Fr S a (w.setCell p u) :=
  ⟨h.os, h.tape, h.output, by simpa using h.size, fun k hk hn => (Below.heap_setCell w p u k (fun e => hn (by rw [e]; exact hp))).trans (h.block k hk hn)⟩
theorem Fr.alloc {S : Nat → Prop} {a w : World} (h : Fr S a w) (o : Obj) : Fr S a (w.alloc o) :=
  ⟨h.os, h.tape, h.output, by simp; have := h.size; omega, fun k hk hn => (Below.heap_alloc _ _ _ (Nat.lt_of_lt_of_le hk h.size)).trans (h.block k hk hn)⟩
theorem Fr.drew {S : Nat → Prop} {a w : World} (h : Fr S a w) : Fr S a w.drew := ⟨h.os, h.tape, h.output, h.size, h.block⟩
theorem Fr.grown {S : Nat → Prop} {a w w' : World} {row : Option Nat} (h : Fr S a w) (hg : w.grownBy w' row) (hr : ∀ k, row = some k → k < a.heap.size → S k) : Fr S a w' :=
  ⟨hg.os.trans h.os, hg.tape.trans h.tape, hg.output.trans h.output, Nat.le_trans h.size hg.size, fun k hk hn => (hg.block k (Nat.lt_of_lt_of_le hk h.size) (fun e => hn (hr k e.symm hk))).trans (h.block k hk hn)⟩
theorem Fr.below {N : Nat} {a w : World} (h : Fr (fun k => N ≤ k) a w) (hN : N ≤ a.heap.size) : Below N a w := ⟨h.os, h.tape, h.output, h.size, fun k hk => h.block k (by omega) (by omega)⟩

/-- 'make([]T, l, c)' -/
theorem wpList_mk {w : World} {ops : Array Oper} {rest : List Oper} {o : Oper} {a : Act} {Q : Exit → Act → World → Prop} {t e : TypeId} {z : Value} {size bytes : Nat} (hu : Try.prog.underlying t = some (.slice e))
    (hinf : (Try.prog.info? e).map (fun i => (i.zero, i.size, i.bytes)) = some (some z, size, bytes)) (l c : Operand) (hgd : o.guard = none) (ho : o.op = Op.makeSlice t l c)
    (L C : Int) (hl : a.eval l = .int .i64 L) (hc : a.eval c = .int .i64 C) (n m : Nat) (hL : L = (n : Int)) (hC : C = (m : Int)) (hnm : n ≤ m) (hm : m ≤ 1000000000) (hb : bytes ≤ 1000)
    (h : ∀ w', w'.heap[w.heap.size]? = some (.cells (madeCells z.cells (m * size)) e (0, 0)) → Fr (fun _ => False) w w' → w'.heap.size = w.heap.size + 1 → wpList Try.prog ops Q rest (a.put o.dst (.slice (some ⟨w.heap.size, 0, none⟩) n m)) w') :
    wpList Try.prog ops Q (o :: rest) a w := by
  obtain ⟨i, hi, hz0, hz1, hz2⟩ := info_parts hinf
  refine wpList_plain hgd fun K hK' => ?_
  have hbm : bytes * m ≤ 1000 * 1000000000 := Nat.mul_le_mul hb hm
  have hrun := run_make (P := Try.prog) w t e i z hu hi hz0 .i64 .i64 (n : Int) (m : Int) (by omega) (by omega) (by
    rw [hz2]
    have : ((bytes * m : Nat) : Int) ≤ 281474976710656 := by omega
    rwa [Int.natCast_mul] at this) (by omega)
  subst hL hC
  unfold Oper.wp
  simp [execOp, ho, hl, hc, hrun, Result.andThen]
  refine hK' _ _ (h _ ?_ ((Fr.refl _ w).alloc _) (by simp))
  rw [hz1]
  exact heap_alloc_new w _

theorem own_of_block {w : World} {g : Nat} {cur : Array Value} {e : TypeId} {size n cap : Nat} {xs : List Value} (hg : w.heap[g]? = some (.cells cur e (0, 0))) (hc : cur.size = cap * size) (hn : n ≤ cap) (hm : cap ≤ 1000000000) (hx : cur.toList.take (n * size) = xs) : w.ownsRow 0 e size (.slice (some ⟨g, 0, none⟩) n cap) n xs :=
  ⟨by
    rw [← hx, List.length_take, Array.length_toList, hc]
    exact Nat.min_eq_left (Nat.mul_le_mul_right _ hn), .inr ⟨g, cap, cur, rfl, Nat.zero_le _, hg, hn, by unfold maxLen; omega, hc, hx⟩⟩
theorem size_made (z : Array Value) (n : Nat) : (madeCells z n).size = n := size_madeCells z n

theorem Fr.setNew {S : Nat → Prop} {a w : World} (h : Fr S a w) {p : Addr} (hp : a.heap.size ≤ p.block) (u : Value) : Fr S a (w.setCell p u) :=
  ⟨h.os, h.tape, h.output, by simpa using h.size, fun k hk hn => (Below.heap_setCell w p u k (by omega)).trans (h.block k hk hn)⟩
theorem Fr.own {S : Nat → Prop} {a w : World} (h : Fr S a w) {base : Nat} {e : TypeId} {size : Nat} {v : Value} {n : Nat} {xs : List Value} (ho : a.ownsRow base e size v n xs) (hn : ∀ k, v.ownBlock = some k → ¬ S k) : w.ownsRow base e size v n xs :=
  own_blk ho fun k hk => h.block k (ho.lt k hk).2 (hn k hk)

theorem made_one (z : Value) (n : Nat) : (madeCells #[z] n).toList = List.replicate n z := toList_madeCells_one z n
/-- the list with its first k elements laid -/
def upto {α : Type} (Z : List α) (z : α) (k : Nat) : List α := Z.take k ++ (Z.drop k).map fun _ => z
theorem upto_len {α : Type} (Z : List α) (z : α) (k : Nat) : (upto Z z k).length = Z.length := by simp [upto]; omega
theorem upto_all {α : Type} (Z : List α) (z : α) : upto Z z Z.length = Z := by simp [upto]
theorem upto_zero {α : Type} (Z : List α) (z : α) : upto Z z 0 = Z.map fun _ => z := by simp [upto]
theorem upto_get {α : Type} (Z : List α) (z : α) (k : Nat) (h : k < Z.length) : (upto Z z k)[k]? = some z := by
  unfold upto
  rw [List.getElem?_append_right (by simp; omega)]
  simp
  rw [show k - min k Z.length = 0 from by omega]
  simp [h]
theorem upto_set {α : Type} (Z : List α) (z : α) (k : Nat) (h : k < Z.length) : (upto Z z k).set k Z[k] = upto Z z (k + 1) := by
  unfold upto
  have hl : (Z.take k).length = k := by simp; omega
  rw [List.set_append_right _ _ (by omega), hl, Nat.sub_self, List.drop_eq_getElem_cons h, List.map_cons, List.set_cons_zero, List.take_succ_eq_append_getElem h, List.append_assoc]
  rfl

/-- a byte's cell -/
def U (c : UInt8) : Value := .int .u8 (c.toNat : Int)
def UX (l : List UInt8) : List Value := l.map U
theorem UX_get (l : List UInt8) (k : Nat) (h : k < l.length) : (UX l)[k]? = some (.int .u8 (l[k].toNat : Int)) := by simp [UX, U, h]
theorem info5 : (Try.prog.info? 5).map (fun i => (i.zero, i.size, i.bytes)) = some (some (.int .u8 0), 1, 1) := by kernel_rfl

structure Ent where
  idx : Int
  val : List UInt8
structure Zp where
  client : ByteArray
  kind : ByteArray
  call : Int
  ret : Int
  status : ByteArray
  val : List UInt8
  index : Int
  frm : Int
  limit : Int
  commit : Int
  ents : List Ent

/-- a slice of bytes, in blocks of R -/
def Byt (R : Nat → Prop) (w : World) (v : Value) (l : List UInt8) : Prop :=
  ∃ ao cap, v = .slice ao l.length cap ∧ (ao = none → cap = 0 ∧ l = []) ∧ (0 < l.length → ∃ b off, ao = some ⟨b, off, none⟩ ∧ R b ∧ b < w.heap.size ∧ ∀ i (h : i < l.length), w.cell? ⟨b, off + i, none⟩ = some (.int .u8 (l[i].toNat : Int)))
/-- a slice of entries -/
def EntsAt (R : Nat → Prop) (w : World) (v : Value) (es : List Ent) : Prop :=
  ∃ ao cap, v = .slice ao es.length cap ∧ (ao = none → cap = 0 ∧ es = []) ∧ (0 < es.length → ∃ b off, ao = some ⟨b, off, none⟩ ∧ R b ∧ b < w.heap.size ∧ ∀ i (h : i < es.length), w.cell? ⟨b, off + i * 2, none⟩ = some (.int .u64 es[i].idx) ∧ ∃ vv, w.cell? ⟨b, off + i * 2 + 1, none⟩ = some vv ∧ Byt R w vv es[i].val)
/-- one operation's cells -/
def OpAt (R : Nat → Prop) (w : World) (b o : Nat) (z : Zp) : Prop :=
  ∃ vv ve, w.cell? ⟨b, o, none⟩ = some (.string z.client) ∧ w.cell? ⟨b, o + 1, none⟩ = some (.string z.kind) ∧ w.cell? ⟨b, o + 2, none⟩ = some (.int .i64 z.call) ∧ w.cell? ⟨b, o + 3, none⟩ = some (.int .i64 z.ret) ∧
    w.cell? ⟨b, o + 4, none⟩ = some (.string z.status) ∧ w.cell? ⟨b, o + 5, none⟩ = some vv ∧ w.cell? ⟨b, o + 6, none⟩ = some (.int .u64 z.index) ∧ w.cell? ⟨b, o + 7, none⟩ = some (.int .u64 z.frm) ∧ w.cell? ⟨b, o + 8, none⟩ = some (.int .i64 z.limit) ∧
    w.cell? ⟨b, o + 9, none⟩ = some (.int .u64 z.commit) ∧ w.cell? ⟨b, o + 10, none⟩ = some ve ∧ Byt R w vv z.val ∧ EntsAt R w ve z.ents
/-- a slice of operations -/
def OpsAt (Q R : Nat → Prop) (w : World) (ao : Option Addr) (L : List Zp) : Prop :=
  0 < L.length → ∃ b off, ao = some ⟨b, off, none⟩ ∧ Q b ∧ b < w.heap.size ∧ ∀ i (h : i < L.length), OpAt R w b (off + i * 11) L[i]

theorem lt_cell {w : World} {p : Addr} {v : Value} (h : w.cell? p = some v) : p.block < w.heap.size := World.block_lt_of_cell? w p h
section
variable {S Q R : Nat → Prop} {w w' : World}
theorem Fr.cell (h : Fr S w w') {b o : Nat} {v : Value} (hn : ¬ S b) (hc : w.cell? ⟨b, o, none⟩ = some v) : w'.cell? ⟨b, o, none⟩ = some v := by
  rw [World.cell?_of_block (h.block b (lt_cell hc) hn)]; exact hc
theorem Byt.fr {v : Value} {l : List UInt8} (h : Byt R w v l) (f : Fr S w w') (hs : ∀ b, R b → ¬ S b) : Byt R w' v l := by
  obtain ⟨ao, cap, h1, h2, h3⟩ := h
  refine ⟨ao, cap, h1, h2, fun h0 => ?_⟩
  obtain ⟨b, off, q1, q2, q3, q4⟩ := h3 h0
  exact ⟨b, off, q1, q2, Nat.lt_of_lt_of_le q3 f.size, fun i hi => f.cell (hs b q2) (q4 i hi)⟩
theorem EntsAt.fr {v : Value} {es : List Ent} (h : EntsAt R w v es) (f : Fr S w w') (hs : ∀ b, R b → ¬ S b) : EntsAt R w' v es := by
  obtain ⟨ao, cap, h1, h2, h3⟩ := h
  refine ⟨ao, cap, h1, h2, fun h0 => ?_⟩
  obtain ⟨b, off, q1, q2, q3, q4⟩ := h3 h0
  refine ⟨b, off, q1, q2, Nat.lt_of_lt_of_le q3 f.size, fun i hi => ?_⟩
  obtain ⟨c1, vv, c2, c3⟩ := q4 i hi
  exact ⟨f.cell (hs b q2) c1, vv, f.cell (hs b q2) c2, c3.fr f hs⟩
theorem OpAt.fr {b o : Nat} {z : Zp} (h : OpAt R w b o z) (f : Fr S w w') (hb : ¬ S b) (hs : ∀ b, R b → ¬ S b) : OpAt R w' b o z := by
  obtain ⟨vv, ve, c0, c1, c2, c3, c4, c5, c6, c7, c8, c9, c10, h1, h2⟩ := h
  exact ⟨vv, ve, f.cell hb c0, f.cell hb c1, f.cell hb c2, f.cell hb c3, f.cell hb c4, f.cell hb c5, f.cell hb c6, f.cell hb c7, f.cell hb c8, f.cell hb c9, f.cell hb c10, h1.fr f hs, h2.fr f hs⟩
theorem OpsAt.fr {ao : Option Addr} {L : List Zp} (h : OpsAt Q R w ao L) (f : Fr S w w') (hb : ∀ b, Q b → ¬ S b) (hs : ∀ b, R b → ¬ S b) : OpsAt Q R w' ao L := by
  intro h0
  obtain ⟨b, off, q1, q2, q3, q4⟩ := h h0
  exact ⟨b, off, q1, q2, Nat.lt_of_lt_of_le q3 f.size, fun i hi => (q4 i hi).fr f (hb b q2) hs⟩
end
theorem eql33 : ∀ (w : World) (a : Option Addr) (n c n' c' : Nat), (binOp .eql 33 (.slice a n c) (.slice none n' c')).run Try.prog w = .ok (.bool a.isNone) w := fun w a n c n' c' => Lib.run_eql_slice_nil w _ _ a n c n' c' Try.underlying33
theorem neq45 : ∀ (w : World) (a : Option Addr) (n c n' c' : Nat), (binOp .neq 45 (.slice a n c) (.slice none n' c')).run Try.prog w = .ok (.bool (!a.isNone)) w := fun w a n c n' c' => run_neq_slice_nil_any w _ _ a n c n' c' Try.underlying45
end Go.Proofs.Qxb6618167a.Hist
