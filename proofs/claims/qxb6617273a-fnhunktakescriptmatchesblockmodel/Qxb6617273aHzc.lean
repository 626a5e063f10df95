import Derived.Test.Qxb6617273aHs
import Derived.Test.Qxb6617273aHx
namespace Go.Proofs.Qxb6617273a.Hunk
open Go.RowKit Go.PlainAid Go.Proofs.Qxb6617273a.QLen

/-- does the code begin with region n -/
def headReg (n : Nat) : Code → Bool
  | .region k _ _ => k == n
  | .seq a _ => headReg n a
  | _ => false
/-- the code from region n on -/
def fromReg (n : Nat) : Code → Option Code
  | .seq a b => if headReg n a then some (.seq a b) else match fromReg n a with
    | some c => some c
    | none => fromReg n b
  | .block _ c => fromReg n c
  | .scope c => fromReg n c
  | _ => none

/-- what is known of the slices that came in -/
def Ins (w : World) (ao : Option Addr) (ac : Nat) (n : Nat) (xs : List Value) : Prop :=
  (ao = none → n = 0 ∧ ac = 0) ∧ ∀ ad, ao = some ad → ∀ j v, xs[j]? = some v → w.cell? (ad.add j) = some v ∧ (ad.add j).block < w.heap.size
abbrev boxed (line : Int) (hdr : ByteArray) (old new ol nl next : Int) (d a : Bool) : Obj := .cells #[.int .i64 line, .string hdr, .int .i64 old, .int .i64 new, .int .i64 ol, .int .i64 nl, .int .i64 next, .bool d, .bool a] 28


theorem Txt.fr {w w' : World} {tp : Option Addr} {T : List ByteArray} (h : Txt w tp T) (f : Fr (fun _ => False) w w') : Txt w' tp T := by
  refine ⟨h.1, fun h0 => ?_⟩
  obtain ⟨b, off, h1, h2, h3⟩ := h.2 h0
  exact ⟨b, off, h1, Nat.lt_of_lt_of_le h2 f.size, fun i hi => by rw [World.cell?_of_block (f.block _ h2 (fun h => h))]; exact h3 i hi⟩
theorem Ins.fr {w w' : World} {ao : Option Addr} {ac n : Nat} {xs : List Value} (h : Ins w ao ac n xs) (f : Fr (fun _ => False) w w') : Ins w' ao ac n xs := by
  refine ⟨h.1, fun ad h0 j v hj => ?_⟩
  obtain ⟨h1, h2⟩ := h.2 ad h0 j v hj
  exact ⟨by rw [World.cell?_of_block (f.block _ h2 (fun h => h))]; exact h1, Nat.lt_of_lt_of_le h2 f.size⟩
/-- the world as it was, the parameter's own copy laid behind it -/
structure Bse (w W : World) (bx : Obj) : Prop where
  fr : Fr (fun _ => False) w W
  box : W.heap[w.heap.size]? = some bx
theorem Bse.go {w W W' : World} {bx : Obj} (h : Bse w W bx) (f : Fr (fun _ => False) W W') : Bse w W' bx :=
  ⟨h.fr.trans f, by rw [f.block _ (lt_of_block h.box) (fun h => h)]; exact h.box⟩
theorem Bse.new (w : World) (bx : Obj) : Bse w (w.alloc bx) bx := ⟨(Fr.refl _ _).alloc _, heap_alloc_new w bx⟩
theorem Fr.toBelow {w W : World} (h : Fr (fun _ => False) w W) : Below w.heap.size w W := ⟨h.os, h.tape, h.output, h.size, fun k hk => h.block k hk (fun h => h)⟩
theorem Fr.via {S : Nat → Prop} {a b c : World} (h : Fr (fun _ => False) a b) (k : Fr S b c) (hS : ∀ n, n < a.heap.size → ¬ S n) : Fr (fun _ => False) a c :=
  ⟨k.os.trans h.os, k.tape.trans h.tape, k.output.trans h.output, Nat.le_trans h.size k.size, fun i hi _ => (k.block i (Nat.lt_of_lt_of_le hi h.size) (hS i hi)).trans (h.block i hi (fun h => h))⟩


def KX (l : List Int) : List Value := l.map (Value.int .u8)
theorem KX_get (l : List Int) (k : Nat) (h : k < l.length) : (KX l)[k]? = some (.int .u8 l[k]) := by simp [KX, h]
/-- the kinds of the lines -/
def kinds (T : List ByteArray) : List Int := T.map fun t => kd (raw t)
theorem kinds_len (T : List ByteArray) : (kinds T).length = T.length := by simp [kinds]
theorem kinds_get (T : List ByteArray) (k : Nat) (h : k < T.length) : (kinds T)[k]'(by rw [kinds_len]; exact h) = kd (raw T[k]) := by simp [kinds]
theorem runs_take (s : St) (T : List ByteArray) (k : Nat) (h : k < T.length) : runs s ((kinds T).take (k + 1)) = step (runs s ((kinds T).take k)) (raw T[k]) := by
  have hk : k < (kinds T).length := by rw [kinds_len]; exact h
  rw [List.take_succ_eq_append_getElem hk, runs_snoc, kinds_get T k h, step_kd]
theorem info5' : (Try.prog.info? 5).map (fun i => (i.zero, i.size, i.bytes)) = some (some (.int .u8 0), 1, 1) := by kernel_rfl
/-- a row in the world before, in a world that keeps its block -/
theorem Fr.row {S : Nat → Prop} {a w : World} (h : Fr S a w) {base : Nat} {e : TypeId} {size : Nat} {v : Value} {n : Nat} {xs : List Value} (ho : a.ownsRow base e size v n xs) (hn : ∀ k, v.ownBlock = some k → ¬ S k) : w.ownsRow base e size v n xs := h.own ho hn
end Go.Proofs.Qxb6617273a.Hunk
