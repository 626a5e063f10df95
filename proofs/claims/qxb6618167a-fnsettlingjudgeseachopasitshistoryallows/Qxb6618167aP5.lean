import Derived.Test.Qxb6618167aP4
namespace Go.Proofs.Qxb6618167a.Hist
open Go.RowKit Go.PlainAid
attribute [local go_sem ↓] Go.wp_at_zero Go.wp_at_succ

def noteF (z : Zp) (st : St) : St := if una z then (match st z.val with | some f => upd st z.val { f with call := if z.call < f.call then z.call else f.call } | none => upd st z.val ⟨z.call, 0, false, 0, 0⟩) else st
def noteN (z : Zp) (st : St) (n : Nat) : Nat := if una z && (st z.val).isNone then n + 1 else n
theorem noteF_skip {z : Zp} {st : St} (h : una z = false) : noteF z st = st := by simp [noteF, h]
theorem noteN_skip {z : Zp} {st : St} {n : Nat} (h : una z = false) : noteN z st n = n := by simp [noteN, h]
theorem noteF_some {z : Zp} {st : St} {f : Fate} (h : una z = true) (hs : st z.val = some f) : noteF z st = upd st z.val { f with call := if z.call < f.call then z.call else f.call } := by simp [noteF, h, hs]
theorem noteN_some {z : Zp} {st : St} {n : Nat} {f : Fate} (hs : st z.val = some f) : noteN z st n = n := by simp [noteN, hs]
theorem noteF_none {z : Zp} {st : St} (h : una z = true) (hs : st z.val = none) : noteF z st = upd st z.val ⟨z.call, 0, false, 0, 0⟩ := by simp [noteF, h, hs]
theorem noteN_none {z : Zp} {st : St} {n : Nat} (h : una z = true) (hs : st z.val = none) : noteN z st n = n + 1 := by simp [noteN, h, hs]

/-- what note leaves -/
def Noted25 (base mb : Nat) (z : Zp) (st : St) (n : Nat) (w : World) (e : Ending) (w' : World) : Prop := e = .returned (.tuple #[]) ∧ SS base w' mb (noteF z st) (noteN z st n) ∧ Fr (fun k => base ≤ k) w w'

theorem note_skip (w : World) (R : Nat → Prop) (b o base mb : Nat) (z : Zp) (st : St) (n : Nat) (h : OpAt R w b o z) (hu : una z = false) (hs : SS base w mb st n) :
    Calls Try.prog 25 #[.map (some mb), .pointer (some ⟨b, o, none⟩)] w fun e w' => Noted25 base mb z st n w e w' := by
  obtain ⟨vv, ve, c0, c1, c2, c3, c4, c5, c6, c7, c8, c9, c10, h1, h2⟩ := h
  have N : Hid (Noted25 base mb z st n w (.returned (.tuple #[])) w) := ⟨rfl, by rw [noteF_skip hu, noteN_skip hu]; exact hs, Fr.refl _ _⟩
  have HU := hid hu
  clear hs h1 h2 hu
  go_enter Try.func25, Try.ntmps25
  cases k1 : (z.kind.toList == [97, 112, 112, 101, 110, 100])
  · go_wp2
    go_returns
    exact N.out
  · have k2 : (z.status.toList == [117, 110, 107, 110, 111, 119, 110]) = false := by have := HU.out; simpa [una, isApp, isUnk, k1] using this
    go_wp2
    go_returns
    exact N.out
theorem note_some (w : World) (R : Nat → Prop) (b o base mb : Nat) (z : Zp) (st : St) (n : Nat) (h : OpAt R w b o z) (hlt : b < base) (hl : z.val.length ≤ 1048576) (hu : una z = true) (hs : SS base w mb st n) (f : Fate) (hf : st z.val = some f) :
    Calls Try.prog 25 #[.map (some mb), .pointer (some ⟨b, o, none⟩)] w fun e w' => Noted25 base mb z st n w e w' := by
  obtain ⟨vv, ve, c0, c1, c2, c3, c4, c5, c6, c7, c8, c9, c10, h1, h2⟩ := h
  obtain ⟨g, hlk, hg, hcell, hup⟩ := hs.look_some hl hf
  have hcv := conv_byt h1
  have k1 : z.kind.toList = [97, 112, 112, 101, 110, 100] := by simp [una, isApp, isUnk] at hu; exact hu.1
  have k2 : z.status.toList = [117, 110, 107, 110, 111, 119, 110] := by simp [una, isApp, isUnk] at hu; exact hu.2
  have N : Hid (Noted25 base mb z st n w (.returned (.tuple #[])) (w.setCell ⟨g, 0, none⟩ (.int .i64 (if z.call < f.call then z.call else f.call)))) := by
    refine ⟨rfl, ?_, (Fr.refl _ w).set (p := ⟨g, 0, none⟩) hg _⟩
    rw [noteF_some hu hf, noteN_some hf]
    refine hup _ _ ?_ (fun k _ hk => Below.heap_setCell w _ _ k (fun e => hk e))
    rw [blk_set hcell]
    rfl
  have g0 : w.cell? ⟨g, 0, none⟩ = some (.int .i64 f.call) := by rw [blk_cell hcell]; rfl
  have g1 : w.frozen? ⟨g, 0, none⟩ = false := blk_free hcell _
  have hne : g ≠ b := by omega
  clear h1 h2 hu hs hcell hup hf
  go_enter Try.func25, Try.ntmps25
  go_wp2
  go_region
  generalize (if z.call < f.call then z.call else f.call) = mn at N ⊢
  go_wp2
  go_returns
  exact ⟨N.out.1, N.out.2.1, N.out.2.2.drew⟩
theorem note_none (w : World) (R : Nat → Prop) (b o base mb : Nat) (z : Zp) (st : St) (n : Nat) (hn : n < 1000000) (h : OpAt R w b o z) (hbase : base ≤ w.heap.size) (hl : z.val.length ≤ 1048576) (hu : una z = true) (hs : SS base w mb st n) (hf : st z.val = none) :
    Calls Try.prog 25 #[.map (some mb), .pointer (some ⟨b, o, none⟩)] w fun e w' => Noted25 base mb z st n w e w' := by
  obtain ⟨vv, ve, c0, c1, c2, c3, c4, c5, c6, c7, c8, c9, c10, h1, h2⟩ := h
  have hlk := hs.look_none hl hf
  have hcv := conv_byt h1
  have k1 : z.kind.toList = [97, 112, 112, 101, 110, 100] := by simp [una, isApp, isUnk] at hu; exact hu.1
  have k2 : z.status.toList = [117, 110, 107, 110, 111, 119, 110] := by simp [una, isApp, isUnk] at hu; exact hu.2
  have hblt : b < w.heap.size := lt_cell c0
  have hal : Fr (fun _ => False) w (w.alloc (.cells (Fate.cells ⟨z.call, 0, false, 0, 0⟩) 68 (0, 0))).drew := ((Fr.refl _ w).alloc _).drew
  obtain ⟨w2, hmu, hss, hgr⟩ := hs.new hn hl hf ⟨z.call, 0, false, 0, 0⟩ (w1 := (w.alloc (.cells (Fate.cells ⟨z.call, 0, false, 0, 0⟩) 68 (0, 0))).drew) hbase (fun k hk => hal.block k hk (fun h => h)) (heap_alloc_new w _)
  have hmb : base ≤ mb := by obtain ⟨_, _, _, _, h, _⟩ := hs; exact h
  have N : Hid (Noted25 base mb z st n w (.returned (.tuple #[])) w2) :=
    ⟨rfl, by rw [noteF_none hu hf, noteN_none hu hf]; exact hss, (hal.mono (fun _ _ h => h.elim)).grown hgr (fun k e _ => by simp at e; omega)⟩
  have d2 : (w.alloc (.cells (Fate.cells ⟨z.call, 0, false, 0, 0⟩) 68 (0, 0))).drew.cell? ⟨b, o + 2, none⟩ = some (.int .i64 z.call) := hal.cell (fun h => h) c2
  have d5 : (w.alloc (.cells (Fate.cells ⟨z.call, 0, false, 0, 0⟩) 68 (0, 0))).drew.cell? ⟨b, o + 5, none⟩ = some vv := hal.cell (fun h => h) c5
  have hcw : (convert 33 9 vv).run Try.prog w.drew = .ok (.string ⟨z.val.toArray⟩) w.drew := conv_byt (w := w.drew) (h1.fr (Fr.refl (fun _ => False) w).drew (fun _ _ h => h))
  have hcx := conv_byt (h1.fr hal (fun _ _ h => h))
  clear h1 h2 hss hgr hs hf hal hu
  simp only [Fate.cells] at hmu d2 d5 hcx
  go_enter Try.func25, Try.ntmps25
  go_wp2
  go_region
  show bodyPost Try.prog Try.f25 _ Exit.normal _ _
  refine bodyPost_end (results_none rfl _ _ _) rfl ?_
  exact N.out
theorem note_any (w : World) (R : Nat → Prop) (b o base mb : Nat) (z : Zp) (st : St) (n : Nat) (hn : n < 1000000) (h : OpAt R w b o z) (hlt : b < base) (hbase : base ≤ w.heap.size) (hl : z.val.length ≤ 1048576) (hs : SS base w mb st n) :
    Calls Try.prog 25 #[.map (some mb), .pointer (some ⟨b, o, none⟩)] w fun e w' => Noted25 base mb z st n w e w' := by
  cases hu : una z with
  | false => exact note_skip w R b o base mb z st n h hu hs
  | true =>
    cases hf : st z.val with
    | none => exact note_none w R b o base mb z st n hn h hbase hl hu hs hf
    | some f => exact note_some w R b o base mb z st n h hlt hl hu hs f hf
theorem zznote_any (w : World) (R : Nat → Prop) (b o base mb : Nat) (z : Zp) (st : St) (n : Nat) (hn : n < 1000000) (h : OpAt R w b o z) (hlt : b < base) (hbase : base ≤ w.heap.size) (hl : z.val.length ≤ 1048576) (hs : SS base w mb st n) :
    Calls Try.prog 10 #[.map (some mb), .pointer (some ⟨b, o, none⟩)] w fun e w' => Noted25 base mb z st n w e w' := by
  have H := note_any w R b o base mb z st n hn h hlt hbase hl hs
  clear h hs
  go_enter Try.func10, Try.ntmps10
  go_wp2_with fail
  go_at_call 25
  refine H.mono ?_
  rintro e w' ⟨rfl, h1, h2⟩
  have N : Hid (Noted25 base mb z st n w (.returned (.tuple #[])) w') := ⟨rfl, h1, h2⟩
  clear h1 h2
  go_wp2
  go_returns
  exact N.out
theorem new_any (w : World) : Calls Try.prog 9 #[] w fun e w' => e = .returned (.map (some w.heap.size)) ∧ SS w.heap.size w' w.heap.size (fun _ => none) 0 ∧ Fr (fun _ => False) w w' := by
  have h0 : ∀ w : World, (Instr.makeMap 27 none).run Try.prog w = .ok (.map (some w.heap.size)) (w.alloc (.map #[] 0)) := fun w => run_makeMap 27 w
  have N1 := hid (SS.made w)
  have N2 := hid ((Fr.refl (fun _ => False) w).alloc (.map #[] 0))
  go_enter Try.func9, Try.ntmps9
  go_wp2
  go_ret
  exact ⟨rfl, N1.out, N2.out⟩
end Go.Proofs.Qxb6618167a.Hist
