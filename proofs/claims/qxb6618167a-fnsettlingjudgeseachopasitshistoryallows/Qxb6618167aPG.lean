import Derived.Test.Qxb6618167aPE
namespace Go.Proofs.Qxb6618167a.Hist
open Go.RowKit Go.PlainAid
attribute [local go_sem ↓] Go.wp_at_zero Go.wp_at_succ

def okS : ByteArray := ⟨#[111, 107]⟩
/-- what settle gives: nil, the operation itself, or a new one -/
def sett (st : St) (z : Zp) : Option (Option Zp) :=
  if z.status.toList == [102, 97, 105, 108] then none
  else if z.status.toList == [117, 110, 107, 110, 111, 119, 110] then
    (match st z.val with
      | none => some none
      | some f => if f.appends > 1 then some none else if f.seen then some (some { z with status := okS, index := f.index, ret := if f.ret < z.call then z.call else f.ret }) else none)
  else some none
def Sett27 (R : Nat → Prop) (b o : Nat) (r : Option (Option Zp)) (w : World) (e : Ending) (w' : World) : Prop := Fr (fun _ => False) w w' ∧ match r with
  | none => e = .returned (.pointer none)
  | some none => e = .returned (.pointer (some ⟨b, o, none⟩)) ∧ w' = w
  | some (some z') => e = .returned (.pointer (some ⟨w.heap.size, 0, none⟩)) ∧ (∃ cs, w'.heap[w.heap.size]? = some (.cells cs 37 (0, 0))) ∧ OpAt R w' w.heap.size 0 z'

set_option maxHeartbeats 4000000 in
theorem settle_any (w : World) (R : Nat → Prop) (b o base mb : Nat) (z : Zp) (st : St) (n : Nat) (h : OpAt R w b o z) (hl : z.val.length ≤ 1048576) (hs : SS base w mb st n) :
    Calls Try.prog 27 #[.map (some mb), .pointer (some ⟨b, o, none⟩)] w fun e w' => Sett27 R b o (sett st z) w e w' := by
  obtain ⟨va, vc, ea, ec, c0, c1, c2, c3, c4, c5, c6, c7, c8, c9, c10, h1, h2⟩ := h.cells
  have hcv := conv_byt h1
  have HB := hid h1
  have HE := hid h2
  clear h1 h2 h
  have hself : Hid (Sett27 R b o (some none) w (.returned (.pointer (some ⟨b, o, none⟩))) w) := ⟨Fr.refl _ _, rfl, rfl⟩
  have hnil : Hid (Sett27 R b o none w (.returned (.pointer none)) w) := ⟨Fr.refl _ _, rfl⟩
  cases k1 : (z.status.toList == [102, 97, 105, 108]) with
  | true =>
    rw [show sett st z = none from by simp only [sett, k1]; rfl]
    clear hs HB HE
    go_enter Try.func27, Try.ntmps27
    go_wp2
    go_ret
    exact hnil.out
  | false =>
    cases k2 : (z.status.toList == [117, 110, 107, 110, 111, 119, 110]) with
    | false =>
      rw [show sett st z = some none from by simp only [sett, k1, k2]; rfl]
      clear hs HB HE
      go_enter Try.func27, Try.ntmps27
      go_wp2
      go_ret
      exact hself.out
    | true =>
      cases hf : st z.val with
      | none =>
        rw [show sett st z = some none from by simp only [sett, k1, k2, hf]; rfl]
        have hlk := hs.look_none hl hf
        clear hs HB HE hf
        go_enter Try.func27, Try.ntmps27
        go_wp2
        go_ret
        exact hself.out
      | some f =>
        obtain ⟨g, hlk, _, hcell, _⟩ := hs.look_some hl hf
        have g1 : w.cell? ⟨g, 1, none⟩ = some (.int .i64 f.appends) := by rw [blk_cell hcell]; rfl
        have g2 : w.cell? ⟨g, 2, none⟩ = some (.bool f.seen) := by rw [blk_cell hcell]; rfl
        have g3 : w.cell? ⟨g, 3, none⟩ = some (.int .u64 f.index) := by rw [blk_cell hcell]; rfl
        have g4 : w.cell? ⟨g, 4, none⟩ = some (.int .i64 f.ret) := by rw [blk_cell hcell]; rfl
        by_cases k3 : f.appends > 1
        · rw [show sett st z = some none from by simp only [sett, k1, k2, hf, k3]; rfl]
          clear hs HB HE hf hcell
          go_enter Try.func27, Try.ntmps27
          go_wp2
          go_ret
          exact hself.out
        · cases k4 : f.seen with
          | false =>
            rw [show sett st z = none from by simp only [sett, k1, k2, hf, k3, k4]; rfl]
            rw [k4] at g2
            clear hs HB HE hf hcell
            go_enter Try.func27, Try.ntmps27
            go_wp2
            go_ret
            exact hnil.out
          | true =>
            rw [show sett st z = some (some { z with status := okS, index := f.index, ret := if f.ret < z.call then z.call else f.ret }) from by simp only [sett, k1, k2, hf, k3, k4]; rfl]
            rw [k4] at g2
            clear hs hf hself hnil
            have hgl : g < w.heap.size := lt_of_block hcell
            have hbl : b < w.heap.size := lt_cell c0
            clear hcell
            have N : Hid (∀ mx, Sett27 R b o (some (some { z with status := okS, index := f.index, ret := mx })) w (.returned (.pointer (some ⟨w.heap.size, 0, none⟩))) (w.alloc (.cells #[.string z.client, .string z.kind, .int .i64 z.call, .int .i64 mx, .string ⟨#[111, 107]⟩, .slice va z.val.length vc, .int .u64 f.index, .int .u64 z.frm, .int .i64 z.limit, .int .u64 z.commit, .slice ea z.ents.length ec] 37 (0, 0))).drew) := fun mx => by
              have f0 := ((Fr.refl (fun _ => False) w).alloc (.cells #[.string z.client, .string z.kind, .int .i64 z.call, .int .i64 mx, .string ⟨#[111, 107]⟩, .slice va z.val.length vc, .int .u64 f.index, .int .u64 z.frm, .int .i64 z.limit, .int .u64 z.commit, .slice ea z.ents.length ec] 37 (0, 0))).drew
              have hb := heap_alloc_new w (.cells #[.string z.client, .string z.kind, .int .i64 z.call, .int .i64 mx, .string ⟨#[111, 107]⟩, .slice va z.val.length vc, .int .u64 f.index, .int .u64 z.frm, .int .i64 z.limit, .int .u64 z.commit, .slice ea z.ents.length ec] 37 (0, 0))
              exact ⟨f0, rfl, ⟨_, hb⟩, _, _, blk_cell hb 0, blk_cell hb 1, blk_cell hb 2, blk_cell hb 3, blk_cell hb 4, blk_cell hb 5, blk_cell hb 6, blk_cell hb 7, blk_cell hb 8, blk_cell hb 9, blk_cell hb 10, HB.out.fr f0 (fun _ _ h => h), HE.out.fr f0 (fun _ _ h => h)⟩
            have N2 := hid (N.out (if f.ret < z.call then z.call else f.ret))
            clear HB HE N
            generalize (some (some { z with status := okS, index := f.index, ret := if f.ret < z.call then z.call else f.ret }) : Option (Option Zp)) = r at N2 ⊢
            go_enter Try.func27, Try.ntmps27
            go_wp2
            go_region
            generalize (if f.ret < z.call then z.call else f.ret) = mx at N2 ⊢
            go_wp2
            go_ret
            exact N2.out
theorem zzsettle_any (w : World) (R : Nat → Prop) (b o base mb : Nat) (z : Zp) (st : St) (n : Nat) (h : OpAt R w b o z) (hl : z.val.length ≤ 1048576) (hs : SS base w mb st n) :
    Calls Try.prog 12 #[.map (some mb), .pointer (some ⟨b, o, none⟩)] w fun e w' => Sett27 R b o (sett st z) w e w' := by
  have H := settle_any w R b o base mb z st n h hl hs
  clear h hs
  generalize sett st z = r at H ⊢
  go_enter Try.func12, Try.ntmps12
  go_wp2_with fail
  go_at_call 27
  refine H.mono ?_
  rintro e w' h
  have HH := hid h
  clear h
  cases r with
  | none =>
    obtain ⟨-, rfl⟩ := HH.out
    go_wp2
    go_ret
    exact HH.out
  | some y =>
    cases y with
    | none =>
      obtain ⟨-, rfl, -⟩ := HH.out
      go_wp2
      go_ret
      exact HH.out
    | some z' =>
      obtain ⟨-, rfl, -⟩ := HH.out
      go_wp2
      go_ret
      exact HH.out
end Go.Proofs.Qxb6618167a.Hist
