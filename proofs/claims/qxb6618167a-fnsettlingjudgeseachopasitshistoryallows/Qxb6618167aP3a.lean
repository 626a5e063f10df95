import Derived.Test.Qxb6618167aP2
namespace Go.Proofs.Qxb6618167a.Hist
open Go.RowKit Go.PlainAid
attribute [local go_sem ↓] Go.wp_at_zero Go.wp_at_succ

theorem info60 : (Try.prog.info? 60).map (fun i => (i.zero, i.size, i.bytes)) = some (some (.agg #[.int .u64 0, .slice none 0 0]), 2, 32) := by kernel_rfl
theorem info37 : (Try.prog.info? 37).map (fun i => (i.zero, i.size, i.bytes)) = some (some (.agg #[.string ⟨#[]⟩, .string ⟨#[]⟩, .int .i64 0, .int .i64 0, .string ⟨#[]⟩, .slice none 0 0, .int .u64 0, .int .u64 0, .int .i64 0, .int .u64 0, .slice none 0 0]), 11, 144) := by kernel_rfl

/-- a row of n elements of c cells each, whatever it holds -/
def Row (w : World) (g e n : Nat) : Prop := ∃ cur, w.heap[g]? = some (.cells cur e (0, 0)) ∧ cur.size = n
theorem Row.free {w : World} {g e n : Nat} (h : Row w g e n) (i : Nat) : w.frozen? ⟨g, i, none⟩ = false := by
  obtain ⟨cur, h1, _⟩ := h; exact blk_free h1 i
theorem Row.has {w : World} {g e n : Nat} (h : Row w g e n) (i : Nat) (hi : i < n) : ∃ v, w.cell? ⟨g, i, none⟩ = some v := by
  obtain ⟨cur, h1, h2⟩ := h
  rw [blk_cell h1]; exact ⟨cur[i], Array.getElem?_eq_getElem (by omega)⟩
theorem Row.set {w : World} {g e n : Nat} (h : Row w g e n) (i : Nat) (u : Value) : Row (w.setCell ⟨g, i, none⟩ u) g e n := by
  obtain ⟨cur, h1, h2⟩ := h
  exact ⟨_, blk_set h1 i u, by simpa using h2⟩
theorem Row.fr {S : Nat → Prop} {w w' : World} {g e n : Nat} (h : Row w g e n) (f : Fr S w w') (hg : ¬ S g) : Row w' g e n := by
  obtain ⟨cur, h1, h2⟩ := h
  exact ⟨cur, by rw [f.block g (lt_of_block h1) hg]; exact h1, h2⟩
theorem Row.lt {w : World} {g e n : Nat} (h : Row w g e n) : g < w.heap.size := by
  obtain ⟨cur, h1, _⟩ := h; exact lt_of_block h1

/-- the entries laid so far -/
def EntB (R : Nat → Prop) (w : World) (ge : Nat) (es : List Ent) (j : Nat) : Prop :=
  ∀ i (h : i < es.length), i < j → w.cell? ⟨ge, i * 2, none⟩ = some (.int .u64 es[i].idx) ∧ ∃ vv, w.cell? ⟨ge, i * 2 + 1, none⟩ = some vv ∧ Byt R w vv es[i].val
theorem EntB.fr {S R : Nat → Prop} {w w' : World} {ge : Nat} {es : List Ent} {j : Nat} (h : EntB R w ge es j) (f : Fr S w w') (hg : ¬ S ge) (hs : ∀ b, R b → ¬ S b) : EntB R w' ge es j := by
  intro i hi hj
  obtain ⟨c1, vv, c2, c3⟩ := h i hi hj
  exact ⟨f.cell hg c1, vv, f.cell hg c2, c3.fr f hs⟩
theorem Byt.mono {R R' : Nat → Prop} {w : World} {v : Value} {l : List UInt8} (h : Byt R w v l) (hr : ∀ b, b < w.heap.size → R b → R' b) : Byt R' w v l := by
  obtain ⟨ao, cap, h1, h2, h3⟩ := h
  refine ⟨ao, cap, h1, h2, fun h0 => ?_⟩
  obtain ⟨b, off, q1, q2, q3, q4⟩ := h3 h0
  exact ⟨b, off, q1, hr b q3 q2, q3, q4⟩
theorem EntsAt.mono {R R' : Nat → Prop} {w : World} {v : Value} {l : List Ent} (h : EntsAt R w v l) (hr : ∀ b, b < w.heap.size → R b → R' b) : EntsAt R' w v l := by
  obtain ⟨ao, cap, h1, h2, h3⟩ := h
  refine ⟨ao, cap, h1, h2, fun h0 => ?_⟩
  obtain ⟨b, off, q1, q2, q3, q4⟩ := h3 h0
  refine ⟨b, off, q1, hr b q3 q2, q3, fun i hi => ?_⟩
  obtain ⟨c1, vv, c2, c3⟩ := q4 i hi
  exact ⟨c1, vv, c2, c3.mono hr⟩


/-- cells written one behind another -/
def setL (w : World) (g : Nat) : Nat → List Value → World
  | _, [] => w
  | o, v :: vs => setL (w.setCell ⟨g, o, none⟩ v) g (o + 1) vs
theorem setL_row {g e n : Nat} : ∀ (vs : List Value) (w : World) (o : Nat), Row w g e n → Row (setL w g o vs) g e n
  | [], _, _, h => h
  | v :: vs, _, o, h => setL_row vs _ (o + 1) (h.set o v)
theorem setL_low {g : Nat} : ∀ (vs : List Value) (w : World) (o j : Nat), j < o → (setL w g o vs).cell? ⟨g, j, none⟩ = w.cell? ⟨g, j, none⟩
  | [], _, _, _, _ => rfl
  | v :: vs, w, o, j, h => by
    rw [setL, setL_low vs _ (o + 1) j (by omega)]
    exact World.cell?_setCell_other _ _ _ _ (fun e => by have e2 : o = j := congrArg Addr.off e; omega)
theorem setL_at {g e n : Nat} : ∀ (vs : List Value) (w : World) (o : Nat), Row w g e n → o + vs.length ≤ n → ∀ i (h : i < vs.length), (setL w g o vs).cell? ⟨g, o + i, none⟩ = some vs[i]
  | v :: vs, w, o, hr, hn, 0, _ => by
    show (setL (w.setCell ⟨g, o, none⟩ v) g (o + 1) vs).cell? ⟨g, o, none⟩ = some v
    rw [setL_low vs _ (o + 1) o (by omega)]
    obtain ⟨x, hx⟩ := hr.has o (by simp at hn; omega)
    rw [World.cell?_setCell_same _ _ _ hx]
  | v :: vs, w, o, hr, hn, i + 1, h => by
    have := setL_at vs (w.setCell ⟨g, o, none⟩ v) (o + 1) (hr.set o v) (by simp at hn; omega) i (by simpa using h)
    rw [setL, show o + (i + 1) = o + 1 + i from by omega, this]; rfl
theorem setL_fr {S : Nat → Prop} {a : World} {g : Nat} (hg : S g ∨ a.heap.size ≤ g) : ∀ (vs : List Value) (w : World) (o : Nat), Fr S a w → Fr S a (setL w g o vs)
  | [], _, _, h => h
  | v :: vs, w, o, h => setL_fr hg vs _ (o + 1) (by
      rcases hg with hg | hg
      · exact h.set (p := ⟨g, o, none⟩) hg v
      · exact h.setNew (p := ⟨g, o, none⟩) hg v)

/-- one more operation laid -/
theorem op_done {w3 : World} {g n k : Nat} {L : List Zp} {z : Zp} {ve vv : Value} (hr : Row w3 g 37 n) (hk : k < L.length) (hn : n = L.length * 11) (hz : L[k] = z) (hP : ∀ i (h : i < L.length), i < k → OpAt (fun b => b ≠ g) w3 g (i * 11) L[i])
    (hV : Byt (fun b => b ≠ g) w3 vv z.val) (hE : EntsAt (fun b => b ≠ g) w3 ve z.ents) :
    ∀ i (h : i < L.length), i < k + 1 → OpAt (fun b => b ≠ g) (setL w3 g (k * 11) [.string z.client, .string z.kind, .int .i64 z.call, .int .i64 z.ret, .string z.status, vv, .int .u64 z.index, .int .u64 z.frm, .int .i64 z.limit, .int .u64 z.commit, ve]) g (i * 11) L[i] := by
  intro i hi hik
  have f : Fr (fun b => b = g) w3 (setL w3 g (k * 11) [.string z.client, .string z.kind, .int .i64 z.call, .int .i64 z.ret, .string z.status, vv, .int .u64 z.index, .int .u64 z.frm, .int .i64 z.limit, .int .u64 z.commit, ve]) := setL_fr (S := fun b => b = g) (g := g) (Or.inl rfl) _ _ _ (Fr.refl _ _)
  by_cases h : i = k
  · subst h
    rw [hz]
    have hat := setL_at [.string z.client, .string z.kind, .int .i64 z.call, .int .i64 z.ret, .string z.status, vv, .int .u64 z.index, .int .u64 z.frm, .int .i64 z.limit, .int .u64 z.commit, ve] w3 (i * 11) hr (by simp; omega)
    exact ⟨vv, ve, hat 0 (by simp), hat 1 (by simp), hat 2 (by simp), hat 3 (by simp), hat 4 (by simp), hat 5 (by simp), hat 6 (by simp), hat 7 (by simp), hat 8 (by simp), hat 9 (by simp), hat 10 (by simp), hV.fr f (fun b h h' => h h'), hE.fr f (fun b h h' => h h')⟩
  · obtain ⟨v1, v2, c0, c1, c2, c3, c4, c5, c6, c7, c8, c9, c10, h1, h2⟩ := hP i hi (by omega)
    have hlow := fun j (hj : j < k * 11) => setL_low (g := g) [.string z.client, .string z.kind, .int .i64 z.call, .int .i64 z.ret, .string z.status, vv, .int .u64 z.index, .int .u64 z.frm, .int .i64 z.limit, .int .u64 z.commit, ve] w3 (k * 11) j hj
    exact ⟨v1, v2, by rw [hlow _ (by omega)]; exact c0, by rw [hlow _ (by omega)]; exact c1, by rw [hlow _ (by omega)]; exact c2, by rw [hlow _ (by omega)]; exact c3, by rw [hlow _ (by omega)]; exact c4, by rw [hlow _ (by omega)]; exact c5, by rw [hlow _ (by omega)]; exact c6, by rw [hlow _ (by omega)]; exact c7, by rw [hlow _ (by omega)]; exact c8, by rw [hlow _ (by omega)]; exact c9, by rw [hlow _ (by omega)]; exact c10, h1.fr f (fun b h h' => h h'), h2.fr f (fun b h h' => h h')⟩
/-- one more entry laid -/
theorem ent_done {R : Nat → Prop} {w3 : World} {ge n j : Nat} {es : List Ent} {vv : Value} (hr : Row w3 ge 60 n) (hj : j < es.length) (hn : n = es.length * 2) (hR : ∀ b, R b → b ≠ ge) (hP : EntB R w3 ge es j) (hV : Byt R w3 vv es[j].val) :
    EntB R (setL w3 ge (j * 2) [.int .u64 es[j].idx, vv]) ge es (j + 1) := by
  intro i hi hik
  have f : Fr (fun b => b = ge) w3 (setL w3 ge (j * 2) [.int .u64 es[j].idx, vv]) := setL_fr (S := fun b => b = ge) (g := ge) (Or.inl rfl) _ _ _ (Fr.refl _ _)
  by_cases h : i = j
  · subst h
    have hat := setL_at [.int .u64 es[i].idx, vv] w3 (i * 2) hr (by simp; omega)
    exact ⟨hat 0 (by simp), vv, hat 1 (by simp), hV.fr f hR⟩
  · obtain ⟨c1, v1, c2, c3⟩ := hP i hi (by omega)
    have hlow := fun q (hq : q < j * 2) => setL_low (g := ge) [.int .u64 es[j].idx, vv] w3 (j * 2) q hq
    exact ⟨by rw [hlow _ (by omega)]; exact c1, v1, by rw [hlow _ (by omega)]; exact c2, c3.fr f hR⟩

end Go.Proofs.Qxb6618167a.Hist
