import Derived.Test.Qxb6617273aHt
import Derived.Test.Qxb6617273aHl
import Derived.Laws.CopyOwn
import Derived.WalkSpells
import Derived.Lib.SliceRun
namespace Go.Proofs.Qxb6617273a.Hunk
open Go.RowKit Go.PlainAid Go.Proofs.Qxb6617273a.QLen
attribute [local go_sem ↓] Go.wp_at_zero Go.wp_at_succ

/-- 'make([]T, l, c)' -/
theorem wpList_mk {w : World} {ops : Array Oper} {rest : List Oper} {o : Oper} {a : Act} {Q : Exit → Act → World → Prop} {t e : TypeId} {z : Value} {size bytes : Nat} (hu : Try.prog.underlying t = some (.slice e))
    (hinf : (Try.prog.info? e).map (fun i => (i.zero, i.size, i.bytes)) = some (some z, size, bytes)) (l c : Operand) (hgd : o.guard = none) (ho : o.op = Op.makeSlice t l c)
    (L C : Int) (hl : a.eval l = .int .i64 L) (hc : a.eval c = .int .i64 C) (n m : Nat) (hL : L = (n : Int)) (hC : C = (m : Int)) (hnm : n ≤ m) (hm : m ≤ 1000000000) (hb : bytes ≤ 1000)
    (h : ∀ w', w'.heap[w.heap.size]? = some (.cells (madeCells z.cells (m * size)) e (0, 0)) → Fr (fun _ => False) w w' → w'.heap.size = w.heap.size + 1 → wpList Try.prog ops Q rest (a.put o.dst (.slice (some ⟨w.heap.size, 0, none⟩) n m)) w') :
    wpList Try.prog ops Q (o :: rest) a w := by
  obtain ⟨i, hi, hz0, hz1, hz2⟩ := info_parts hinf
  refine wpList_plain hgd fun K hK' => ?_
  have hbm : bytes * m ≤ 1000 * 1000000000 := Nat.mul_le_mul hb hm
  have hrun := run_make (P := Try.prog) w t e i z hu hi hz0 .i64 .i64 (n : Int) (m : Int) (by omega) (by omega) (by
    rw [hz2]
    have : ((bytes * m : Nat) : Int) ≤ 281474976710656 := by omega
    rwa [Int.natCast_mul] at this) (by omega)
  subst hL hC
  unfold Oper.wp
  simp [execOp, ho, hl, hc, hrun, Result.andThen]
  refine hK' _ _ (h _ ?_ ((Fr.refl _ w).alloc _) (by simp))
  rw [hz1]
  exact heap_alloc_new w _

theorem run_copy_none' {P : Program} (w : World) (dT sT ty elem : TypeId) (d a : Option Addr) (dCap sCap : Nat) {size : Nat} (hu : P.underlying dT = some (.slice elem)) (hs : (P.info? elem).map (·.size) = some size) :
    (Builtin.copy_ #[dT, sT] ty #[.slice d 0 dCap, .slice a 0 sCap]).run P w = .ok (goInt 0) w := by
  cases hq : P.info? elem with
  | none => simp [hq] at hs
  | some i =>
    have hl : ∀ (x : Addr), (loadCells x 0).run P w = .ok #[] w := fun x => by simpa using run_loadCells_list (P := P) w x [] (by simp)
    cases d <;> cases a <;> simp [Builtin.copy_, run_underlying hu, Builtin.lenOf, Builtin.firstCells, sizeOf, typeInfo, hq, storeCells, hl]
theorem run_copy_row' {P : Program} (w : World) (dT sT ty elem : TypeId) (g n dCap : Nat) (a : Addr) (sCap : Nat) (cur : Array Value) (t : TypeId) (cs : List Value) {size : Nat}
    (hu : P.underlying dT = some (.slice elem)) (hs : (P.info? elem).map (·.size) = some size)
    (hg : w.heap[g]? = some (.cells cur t (0, 0))) (hn : cs.length = n * size)
    (hsrc : ∀ j v, cs[j]? = some v → w.cell? (a.add j) = some v) (hfit : cs.length ≤ cur.size) (h1 : ∀ v ∈ cs, v.oneCell' = true) :
    (Builtin.copy_ #[dT, sT] ty #[.slice (some ⟨g, 0, none⟩) n dCap, .slice (some a) n sCap]).run P w =
      .ok (goInt n) (w.setRow g (cs ++ cur.toList.drop cs.length).toArray) := by
  have hl := run_loadCells_list (P := P) w a cs hsrc
  have hst := run_storeCells_at P g 0 t cs 0 cur w hg (by simpa using hfit) h1
  cases hq : P.info? elem with
  | none => simp [hq] at hs
  | some i =>
    have hi : i.size = size := by simpa [hq] using hs
    simp [Builtin.copy_, run_underlying hu, Builtin.lenOf, Builtin.firstCells, sizeOf, typeInfo, hq, hi, ← hn, hl, hst]

theorem Fr.setRow {S : Nat → Prop} {a w : World} (h : Fr S a w) {g : Nat} (hg : S g) (cs : Array Value) : Fr S a (w.setRow g cs) :=
  ⟨h.os, h.tape, h.output, by simpa [World.setRow] using h.size, fun k hk hn => (setRow_other w g k cs (fun e => hn (by rw [e]; exact hg))).trans (h.block k hk hn)⟩

/-- 'copy(dst, src)', dst at the head of a row that is known whole, src as long -/
theorem cp_run {w : World} {t e : TypeId} {z : Value} {size bytes : Nat} (hu : Try.prog.underlying t = some (.slice e))
    (hinf : (Try.prog.info? e).map (fun i => (i.zero, i.size, i.bytes)) = some (some z, size, bytes)) {g : Nat} {cur : Array Value} (hg : w.heap[g]? = some (.cells cur e (0, 0))) (ty : TypeId) (n dCap sCap : Nat) (sp : Option Addr)
    (cs : List Value) (hn : cs.length = n * size) (hpos : 0 < n → ∃ ad, sp = some ad ∧ ∀ j v, cs[j]? = some v → w.cell? (ad.add j) = some v) (hfit : cs.length ≤ cur.size) (h1 : ∀ v ∈ cs, v.oneCell' = true) :
    ∃ w', (Builtin.copy_ #[t, t] ty #[.slice (some ⟨g, 0, none⟩) n dCap, .slice sp n sCap]).run Try.prog w = .ok (goInt n) w' ∧ w'.heap[g]? = some (.cells (cs ++ cur.toList.drop cs.length).toArray e (0, 0)) ∧ Fr (fun k => k = g) w w' ∧ w'.heap.size = w.heap.size := by
  obtain ⟨i, hi, hz0, hz1, hz2⟩ := info_parts hinf
  have hsz : (Try.prog.info? e).map (·.size) = some size := by rw [hi]; simp [hz1]
  by_cases h0 : n = 0
  · subst h0
    have hrun := run_copy_none' (P := Try.prog) w t t ty e (some ⟨g, 0, none⟩) sp dCap sCap hu hsz
    have hc0 : cs = [] := List.eq_nil_of_length_eq_zero (by omega)
    exact ⟨w, hrun, by rw [hc0]; simpa using hg, Fr.refl _ _, rfl⟩
  · obtain ⟨ad, rfl, hsrc⟩ := hpos (by omega)
    have hrun := run_copy_row' (P := Try.prog) w t t ty e g n dCap ad sCap cur e cs hu hsz hg hn hsrc hfit h1
    exact ⟨_, hrun, setRow_heap w g _ _ e _ hg, Fr.setRow (S := fun k => k = g) (Fr.refl _ w) rfl _, by simp [World.setRow]⟩

theorem own_of_block {w : World} {g : Nat} {cur : Array Value} {e : TypeId} {size n cap : Nat} {xs : List Value} (hg : w.heap[g]? = some (.cells cur e (0, 0))) (hc : cur.size = cap * size) (hn : n ≤ cap) (hm : cap ≤ 1000000000) (hx : cur.toList.take (n * size) = xs) : w.ownsRow 0 e size (.slice (some ⟨g, 0, none⟩) n cap) n xs :=
  ⟨by
    rw [← hx, List.length_take, Array.length_toList, hc]
    exact Nat.min_eq_left (Nat.mul_le_mul_right _ hn), .inr ⟨g, cap, cur, rfl, Nat.zero_le _, hg, hn, by unfold maxLen; omega, hc, hx⟩⟩
theorem size_made (z : Array Value) (n : Nat) : (madeCells z n).size = n := size_madeCells z n

theorem NX_one (l : List Int) : ∀ v ∈ NX l, v.oneCell' = true := ints_oneCell _ _
theorem PX_one' (l : List (Int × Int)) : ∀ v ∈ PX l, v.oneCell' = true := by
  intro v hv
  simp only [PX, List.mem_flatMap] at hv
  obtain ⟨p, _, hp⟩ := hv
  simp at hp
  rcases hp with rfl | rfl <;> rfl
theorem NX_len (l : List Int) : (NX l).length = l.length := by simp [NX]

/-- what is known of a slice that came in, or that was made: nil, or its cells -/
def Has (w : World) (ao : Option Addr) (n : Nat) (xs : List Value) : Prop := 0 < n → ∃ ad, ao = some ad ∧ ∀ j v, xs[j]? = some v → w.cell? (ad.add j) = some v

theorem eql30 : ∀ (w : World) (a : Option Addr) (n c n' c' : Nat), (binOp .eql 30 (.slice a n c) (.slice none n' c')).run Try.prog w = .ok (.bool a.isNone) w := fun w a n c n' c' => Lib.run_eql_slice_nil w _ _ a n c n' c' Try.underlying30
theorem neq29 : ∀ (w : World) (a : Option Addr) (n c n' c' : Nat), (binOp .neq 29 (.slice a n c) (.slice none n' c')).run Try.prog w = .ok (.bool (!a.isNone)) w := fun w a n c n' c' => run_neq_slice_nil_any w _ _ a n c n' c' Try.underlying29
theorem neq51 : ∀ (w : World) (a : Option Addr) (n c n' c' : Nat), (binOp .neq 51 (.slice a n c) (.slice none n' c')).run Try.prog w = .ok (.bool (!a.isNone)) w := fun w a n c n' c' => run_neq_slice_nil_any w _ _ a n c n' c' Try.underlying51

set_option maxHeartbeats 400000 in
theorem clone_some (w : World) (ad : Addr) (cap : Nat) (Z : List Int) (hb : Z.length ≤ 1000000) (hc : Has w (some ad) Z.length (NX Z)) (hlt : ∀ (k : Nat) v, (NX Z)[k]? = some v → (ad.add k).block < w.heap.size) :
    Calls Try.prog 13 #[.slice (some ad) Z.length cap] w fun e w' => e = .returned (.slice (some ⟨w.heap.size, 0, none⟩) Z.length Z.length) ∧ w'.ownsRow 0 2 1 (.slice (some ⟨w.heap.size, 0, none⟩) Z.length Z.length) Z.length (NX Z) ∧ Fr (fun _ => False) w w' := by
  have HC := hid hc
  have HLT := hid hlt
  clear hc hlt
  have q30 := eql30
  go_enter Try.func13, Try.ntmps13
  go_wp2_with (at_make; refine wpList_mk Try.underlying30 info2 _ _ rfl rfl _ _ rfl rfl Z.length Z.length (by omega) (by omega) (Nat.le_refl _) (by omega) (by decide) ?_)
  intro w1 hg hf hz
  have HP : Hid (Has w1 (some ad) Z.length (NX Z)) := by
    intro h0
    obtain ⟨x, hx, hx2⟩ := HC.out h0
    cases hx
    exact ⟨ad, rfl, fun j v hj => by rw [World.cell?_of_block (hf.block _ (HLT.out j v hj) (fun h => h))]; exact hx2 j v hj⟩
  have HG := hid hg
  have HFR := hid hf
  clear hg hf hz
  obtain ⟨w2, hrun, hg2, hf2, hz2⟩ := cp_run Try.underlying30 info2 HG.out 3 Z.length Z.length cap (some ad) (NX Z) (by rw [NX_len, Nat.mul_one]) HP.out (by rw [NX_len, size_made]; omega) (NX_one Z)
  have R1 : Hid (w2.ownsRow 0 2 1 (.slice (some ⟨w.heap.size, 0, none⟩) Z.length Z.length) Z.length (NX Z)) := by
    refine own_of_block hg2 ?_ (Nat.le_refl _) (by omega) ?_
    · simp [NX_len, size_made, List.length_drop]
    · simp [NX_len]
  have R2 : Hid (Fr (fun _ => False) w w2) := by
    have f1 := HFR.out
    refine ⟨hf2.os.trans f1.os, hf2.tape.trans f1.tape, hf2.output.trans f1.output, Nat.le_trans f1.size hf2.size, fun k hk _ => ?_⟩
    rw [hf2.block k (Nat.lt_of_lt_of_le hk f1.size) (by omega), f1.block k hk (fun h => h)]
  clear hg2 hf2 hz2 HG HFR HP HC HLT
  go_wp2
  go_ret
  exact ⟨rfl, R1.out, R2.out⟩
set_option maxHeartbeats 400000 in
theorem clone_none (w : World) : Calls Try.prog 13 #[.slice none 0 0] w fun e w' => e = .returned (.slice none 0 0) ∧ w' = w := by
  have q30 := eql30
  go_enter Try.func13, Try.ntmps13
  go_wp2
  go_ret
  exact ⟨rfl, rfl⟩

set_option maxHeartbeats 400000 in
theorem newHunk_any (w : World) (line old new ol nl next : Int) (hdr : ByteArray) (d a : Bool) :
    Calls Try.prog 15 #[.int .i64 line, .string hdr, .int .i64 old, .int .i64 new, .int .i64 ol, .int .i64 nl, .int .i64 next, .bool d, .bool a] w fun e w' =>
      e = .returned (.pointer (some ⟨w.heap.size, 0, none⟩)) ∧ w' = w.alloc (.cells #[.int .i64 line, .string hdr, .int .i64 old, .int .i64 new, .int .i64 ol, .int .i64 nl, .int .i64 next, .bool d, .bool a] 50) := by
  go_enter Try.func15, Try.ntmps15
  go_wp2
  go_ret
  exact ⟨rfl, rfl⟩


theorem row_get0 {w : World} {g n cap : Nat} {e : TypeId} {Z : List (Int × Int)} (h : w.ownsRow 0 e 2 (.slice (some ⟨g, 0, none⟩) n cap) n (PX Z)) (hz : Z.length = n) (k : Nat) (hk : k < Z.length) : w.cell? ⟨g, k * 2, none⟩ = some (.int .i64 Z[k].1) := by
  rw [h.cellAt _ (by omega), PX_get0 Z k hk]
theorem row_get1 {w : World} {g n cap : Nat} {e : TypeId} {Z : List (Int × Int)} (h : w.ownsRow 0 e 2 (.slice (some ⟨g, 0, none⟩) n cap) n (PX Z)) (hz : Z.length = n) (k : Nat) (hk : k < Z.length) : w.cell? ⟨g, k * 2 + 1, none⟩ = some (.int .i64 Z[k].2) := by
  rw [h.cellAt _ (by omega), PX_get1 Z k hk]
theorem row_set2 {w : World} {g n cap : Nat} {e : TypeId} {Z : List (Int × Int)} (h : w.ownsRow 0 e 2 (.slice (some ⟨g, 0, none⟩) n cap) n (PX Z)) (k : Nat) (a b : Int) :
    ((w.setCell ⟨g, k * 2, none⟩ (.int .i64 a)).setCell ⟨g, k * 2 + 1, none⟩ (.int .i64 b)).ownsRow 0 e 2 (.slice (some ⟨g, 0, none⟩) n cap) n (PX (Z.set k (a, b))) := by
  have := ((h.stored (k * 2) (.int .i64 a)).1.stored (k * 2 + 1) (.int .i64 b)).1
  rwa [PX_set] at this
/-- the row that was just made, filled with zeros -/
theorem row_new {w : World} {g : Nat} {e : TypeId} (Z : List (Int × Int)) (hb : Z.length ≤ 1000000) (hg : w.heap[g]? = some (.cells (madeCells (Value.agg #[.int .i64 0, .int .i64 0]).cells (Z.length * 2)) e (0, 0))) :
    w.ownsRow 0 e 2 (.slice (some ⟨g, 0, none⟩) Z.length Z.length) Z.length (PX (upto Z (0, 0) 0)) := by
  refine own_of_block hg (by rw [size_made]) (Nat.le_refl _) (by omega) ?_
  rw [upto_zero, PX_zero]
  have : (Value.agg #[.int .i64 0, .int .i64 0]).cells = #[.int .i64 0, .int .i64 0] := rfl
  rw [this, made_zero, List.take_of_length_le (by simp)]
/-- behind one more element laid -/
theorem row_next {w : World} {g n cap : Nat} {e : TypeId} {Z : List (Int × Int)} (k : Nat) (hk : k < Z.length) (h : w.ownsRow 0 e 2 (.slice (some ⟨g, 0, none⟩) n cap) n (PX (upto Z (0, 0) k))) :
    ((w.setCell ⟨g, k * 2, none⟩ (.int .i64 Z[k].1)).setCell ⟨g, k * 2 + 1, none⟩ (.int .i64 Z[k].2)).ownsRow 0 e 2 (.slice (some ⟨g, 0, none⟩) n cap) n (PX (upto Z (0, 0) (k + 1))) := by
  have := row_set2 h k Z[k].1 Z[k].2
  rwa [show (Z[k].1, Z[k].2) = Z[k] from rfl, upto_set Z (0, 0) k hk] at this
theorem Fr.setNew {S : Nat → Prop} {a w : World} (h : Fr S a w) {p : Addr} (hp : a.heap.size ≤ p.block) (u : Value) : Fr S a (w.setCell p u) :=
  ⟨h.os, h.tape, h.output, by simpa using h.size, fun k hk hn => (Below.heap_setCell w p u k (by omega)).trans (h.block k hk hn)⟩
theorem Fr.own {S : Nat → Prop} {a w : World} (h : Fr S a w) {base : Nat} {e : TypeId} {size : Nat} {v : Value} {n : Nat} {xs : List Value} (ho : a.ownsRow base e size v n xs) (hn : ∀ k, v.ownBlock = some k → ¬ S k) : w.ownsRow base e size v n xs :=
  own_blk ho fun k hk => h.block k (ho.lt k hk).2 (hn k hk)

/-- what a new file change is -/
def NewF (whole : Bool) (A : List (Int × Int)) (vC : Value) (w : World) (e : Ending) (w' : World) : Prop :=
  ∃ fb vA, e = .returned (.pointer (some ⟨fb, 0, none⟩)) ∧ w.heap.size ≤ fb ∧ w'.heap[fb]? = some (.cells #[.bool whole, vA, vC] 55 (0, 0)) ∧ w'.ownsRow 0 53 2 vA A.length (PX A) ∧ (∀ k, vA.ownBlock = some k → w.heap.size ≤ k) ∧ Fr (fun _ => False) w w'

set_option maxHeartbeats 1000000 in
theorem newFile_some (w : World) (whole : Bool) (g0 cap0 : Nat) (Z : List (Int × Int)) (co : Option Addr) (cn cc : Nat) (hb : Z.length ≤ 1000000) (hg0 : w.ownsRow 0 36 2 (.slice (some ⟨g0, 0, none⟩) Z.length cap0) Z.length (PX Z)) :
    Calls Try.prog 16 #[.bool whole, .slice (some ⟨g0, 0, none⟩) Z.length cap0, .slice co cn cc] w fun e w' => NewF whole Z (.slice co cn cc) w e w' := by
  have HO := hid hg0
  clear hg0
  have q29 := neq29
  go_enter Try.func16, Try.ntmps16
  go_wp2_with (at_make; refine wpList_mk Try.underlying51 info53 _ _ rfl rfl _ _ rfl rfl Z.length Z.length (by omega) (by omega) (Nat.le_refl _) (by omega) (by decide) ?_)
  intro w1 hg hf hz
  have HF := hid hf
  have H0 := hid (row_new Z hb hg)
  clear hg hf hz q29
  go_wp2
  go_loopw [8] (fun i wr => ∃ k : Nat, k ≤ Z.length ∧ i = .int .i64 k ∧ Hid (wr.ownsRow 0 53 2 (.slice (some ⟨w.heap.size, 0, none⟩) Z.length Z.length) Z.length (PX (upto Z (0, 0) k))) ∧ Hid (Fr (fun _ => False) w wr)) (fun i _ => Z.length - (intOf i).toNat)
  case atStart => exact ⟨0, Nat.zero_le _, rfl, H0, HF⟩
  case round =>
    clear HF H0
    obtain ⟨k, hk, rfl, HR, HFR⟩ := hrel
    by_cases hlt2 : k < Z.length
    · have HOr := HFR.out.own HO.out (fun _ _ h => h)
      have c1 : wr.cell? ⟨g0, k * 2, none⟩ = some (.int .i64 Z[k].1) := row_get0 HOr rfl k hlt2
      have c2 : wr.cell? ⟨g0, k * 2 + 1, none⟩ = some (.int .i64 Z[k].2) := row_get1 HOr rfl k hlt2
      have d1 : ∃ x, wr.cell? ⟨w.heap.size, k * 2, none⟩ = some (.int .i64 x) := ⟨_, row_get0 HR.out (upto_len _ _ _) k (by rw [upto_len]; exact hlt2)⟩
      have d2 : ∃ x, wr.cell? ⟨w.heap.size, k * 2 + 1, none⟩ = some (.int .i64 x) := ⟨_, row_get1 HR.out (upto_len _ _ _) k (by rw [upto_len]; exact hlt2)⟩
      obtain ⟨x1, d1⟩ := d1
      obtain ⟨x2, d2⟩ := d2
      have f1 : wr.frozen? ⟨w.heap.size, k * 2, none⟩ = false := HR.out.frozenAt _
      have f2 : wr.frozen? ⟨w.heap.size, k * 2 + 1, none⟩ = false := HR.out.frozenAt _
      have N1 := hid (row_next k hlt2 HR.out)
      have N2 := hid (((HFR.out.setNew (p := ⟨w.heap.size, k * 2, none⟩) (Nat.le_refl _) (.int .i64 Z[k].1)).setNew (p := ⟨w.heap.size, k * 2 + 1, none⟩) (Nat.le_refl _) (.int .i64 Z[k].2)).drew)
      clear HOr HO HR HFR
      go_wp2
      go_region
      go_wp2
      go_roundw
      case rel => exact ⟨k + 1, by omega, by go_num, N1.out, N2⟩
      case measure => simp [intOf]; omega
    · obtain rfl : k = Z.length := by omega
      rw [upto_all] at HR
      have hsz := HFR.out.size
      have N1 : Hid (NewF whole Z (.slice co cn cc) w (.returned (.pointer (some ⟨wr.heap.size, 0, none⟩))) (wr.alloc (.cells #[.bool whole, .slice (some ⟨w.heap.size, 0, none⟩) Z.length Z.length, .slice co cn cc] 55))) := by
        refine ⟨wr.heap.size, _, rfl, HFR.out.size, heap_alloc_new _ _, HR.out.alloc _, fun k hk => ?_, HFR.out.alloc _⟩
        simp [Value.ownBlock] at hk; omega
      clear HR HFR HO
      go_wp2
      go_ret
      exact N1.out
set_option maxHeartbeats 1000000 in
theorem newFile_none (w : World) (whole : Bool) (co : Option Addr) (cn cc : Nat) :
    Calls Try.prog 16 #[.bool whole, .slice none 0 0, .slice co cn cc] w fun e w' => NewF whole [] (.slice co cn cc) w e w' := by
  have q29 := neq29
  have N1 : Hid (NewF whole [] (.slice co cn cc) w (.returned (.pointer (some ⟨w.heap.size, 0, none⟩))) (w.alloc (.cells #[.bool whole, .slice none 0 0, .slice co cn cc] 55))) :=
    ⟨w.heap.size, _, rfl, Nat.le_refl _, heap_alloc_new _ _, World.ownsRow_nil _ _ _ _, fun k hk => by simp [Value.ownBlock] at hk, (Fr.refl _ _).alloc _⟩
  go_enter Try.func16, Try.ntmps16
  go_wp2
  go_ret
  exact N1.out
theorem newFile_any (w : World) (whole : Bool) (vA : Value) (Z : List (Int × Int)) (co : Option Addr) (cn cc : Nat) (hb : Z.length ≤ 1000000) (hA : w.ownsRow 0 36 2 vA Z.length (PX Z)) :
    Calls Try.prog 16 #[.bool whole, vA, .slice co cn cc] w fun e w' => NewF whole Z (.slice co cn cc) w e w' := by
  have hA' := hA
  rcases hA.2 with ⟨rfl, h0⟩ | ⟨g, cap, cur, rfl, _⟩
  · obtain rfl : Z = [] := List.eq_nil_of_length_eq_zero h0
    exact newFile_none w whole co cn cc
  · exact newFile_some w whole g cap Z co cn cc hb hA'
/-- the copy of a slice of numbers -/
def Cloned (Z : List Int) (w : World) (e : Ending) (w' : World) : Prop :=
  ∃ co cc, e = .returned (.slice co Z.length cc) ∧ w'.ownsRow 0 2 1 (.slice co Z.length cc) Z.length (NX Z) ∧ (∀ k, (Value.slice co Z.length cc).ownBlock = some k → w.heap.size ≤ k) ∧ Fr (fun _ => False) w w'
theorem clone_any (w : World) (ao : Option Addr) (cap : Nat) (Z : List Int) (hb : Z.length ≤ 1000000) (hn : ao = none → Z = [] ∧ cap = 0) (hc : ∀ ad, ao = some ad → ∀ j v, (NX Z)[j]? = some v → w.cell? (ad.add j) = some v ∧ (ad.add j).block < w.heap.size) :
    Calls Try.prog 13 #[.slice ao Z.length cap] w fun e w' => Cloned Z w e w' := by
  cases ao with
  | none =>
    obtain ⟨rfl, rfl⟩ := hn rfl
    refine (clone_none w).mono ?_
    rintro e w' ⟨rfl, rfl⟩
    exact ⟨none, 0, rfl, World.ownsRow_nil _ _ _ _, fun k hk => by simp [Value.ownBlock] at hk, Fr.refl _ _⟩
  | some ad =>
    refine (clone_some w ad cap Z hb (fun _ => ⟨ad, rfl, fun j v hj => (hc ad rfl j v hj).1⟩) (fun k v hj => (hc ad rfl k v hj).2)).mono ?_
    rintro e w' ⟨rfl, h1, h2⟩
    exact ⟨_, _, rfl, h1, fun k hk => by simp [Value.ownBlock] at hk; omega, h2⟩
end Go.Proofs.Qxb6617273a.Hunk
