import Derived.Test.Qxb6618167aP1
namespace Go.Proofs.Qxb6618167a.Hist
open Go.RowKit Go.PlainAid

/-- how large an operation may be -/
def Small1 (z : Zp) : Prop := z.val.length ≤ 1048576 ∧ z.ents.length ≤ 1048576 ∧ ∀ e ∈ z.ents, e.val.length ≤ 1048576
def Wide1 (z : Zp) : Prop := z.client.size ≤ maxLen ∧ z.kind.size ≤ maxLen ∧ z.status.size ≤ maxLen ∧ z.val.length ≤ maxLen ∧ z.ents.length ≤ maxLen ∧ ∀ e ∈ z.ents, e.val.length ≤ maxLen
def SomeB (w : World) (e : Ending) (w' : World) : Prop := ∃ b, e = .returned (.bool b) ∧ w' = w
theorem someB (w : World) (b : Bool) : SomeB w (.returned (.bool b)) w := ⟨b, rfl, rfl⟩
def TooB (L : List Zp) (w : World) (e : Ending) (w' : World) : Prop := ∃ b, e = .returned (.bool b) ∧ w' = w ∧ (b = false → L.length ≤ 4096 ∧ ∀ z ∈ L, Small1 z)
theorem tooB (L : List Zp) (w : World) : TooB L w (.returned (.bool true)) w := ⟨true, rfl, rfl, fun h => Bool.noConfusion h⟩

theorem Byt.shape {R : Nat → Prop} {w : World} {v : Value} {l : List UInt8} (h : Byt R w v l) : ∃ ao cap, v = .slice ao l.length cap := by
  obtain ⟨ao, cap, h1, _⟩ := h; exact ⟨ao, cap, h1⟩
theorem EntsAt.shape {R : Nat → Prop} {w : World} {v : Value} {l : List Ent} (h : EntsAt R w v l) : ∃ ao cap, v = .slice ao l.length cap := by
  obtain ⟨ao, cap, h1, _⟩ := h; exact ⟨ao, cap, h1⟩
/-- an operation's cells, the two slices written out -/
theorem OpAt.cells {R : Nat → Prop} {w : World} {b o : Nat} {z : Zp} (h : OpAt R w b o z) : ∃ va vc ea ec, w.cell? ⟨b, o, none⟩ = some (.string z.client) ∧ w.cell? ⟨b, o + 1, none⟩ = some (.string z.kind) ∧ w.cell? ⟨b, o + 2, none⟩ = some (.int .i64 z.call) ∧ w.cell? ⟨b, o + 3, none⟩ = some (.int .i64 z.ret) ∧
    w.cell? ⟨b, o + 4, none⟩ = some (.string z.status) ∧ w.cell? ⟨b, o + 5, none⟩ = some (.slice va z.val.length vc) ∧ w.cell? ⟨b, o + 6, none⟩ = some (.int .u64 z.index) ∧ w.cell? ⟨b, o + 7, none⟩ = some (.int .u64 z.frm) ∧ w.cell? ⟨b, o + 8, none⟩ = some (.int .i64 z.limit) ∧
    w.cell? ⟨b, o + 9, none⟩ = some (.int .u64 z.commit) ∧ w.cell? ⟨b, o + 10, none⟩ = some (.slice ea z.ents.length ec) ∧ Byt R w (.slice va z.val.length vc) z.val ∧ EntsAt R w (.slice ea z.ents.length ec) z.ents := by
  obtain ⟨vv, ve, c0, c1, c2, c3, c4, c5, c6, c7, c8, c9, c10, h1, h2⟩ := h
  obtain ⟨va, vc, rfl⟩ := h1.shape
  obtain ⟨ea, ec, rfl⟩ := h2.shape
  exact ⟨va, vc, ea, ec, c0, c1, c2, c3, c4, c5, c6, c7, c8, c9, c10, h1, h2⟩
/-- an entry's cells -/
theorem EntsAt.at {R : Nat → Prop} {w : World} {ea : Option Addr} {ec : Nat} {es : List Ent} (h : EntsAt R w (.slice ea es.length ec) es) (h0 : 0 < es.length) :
    ∃ b off, ea = some ⟨b, off, none⟩ ∧ R b ∧ b < w.heap.size ∧ ∀ i (hi : i < es.length), w.cell? ⟨b, off + i * 2, none⟩ = some (.int .u64 es[i].idx) ∧ ∃ va vc, w.cell? ⟨b, off + i * 2 + 1, none⟩ = some (.slice va es[i].val.length vc) ∧ Byt R w (.slice va es[i].val.length vc) es[i].val := by
  obtain ⟨ao, cap, h1, _, h3⟩ := h
  simp only [Value.slice.injEq, true_and] at h1
  obtain ⟨rfl, rfl⟩ := h1
  obtain ⟨b, off, q1, q2, q3, q4⟩ := h3 h0
  refine ⟨b, off, q1, q2, q3, fun i hi => ?_⟩
  obtain ⟨c1, vv, c2, c3⟩ := q4 i hi
  obtain ⟨va, vc, rfl⟩ := c3.shape
  exact ⟨c1, va, vc, c2, c3⟩

set_option maxRecDepth 100000 in
set_option maxHeartbeats 2000000 in
theorem sum15_any (w : World) (ao : Option Addr) (cap : Nat) (L : List Zp) (hl : L.length ≤ maxLen) (hw : ∀ z ∈ L, Wide1 z) (Q R : Nat → Prop) (hO : OpsAt Q R w ao L) :
    Calls Try.prog 15 #[.slice ao L.length cap] w fun e w' => SomeB w e w' := by
  unfold maxLen at hl
  have HW := hid hw
  have HO := hid hO
  have HS := hid (someB w)
  clear hw hO
  go_enter Try.func15, Try.ntmps15
  go_wp2
  all_goals try (go_ret; exact HS.out _)
  go_loop [3, 4] (fun z i => ∃ (k : Nat) (n : Int), k ≤ L.length ∧ i = .int .i64 k ∧ z = .int .i64 n ∧ 0 ≤ n ∧ n ≤ 1048576) (fun _ i => L.length - (intOf i).toNat)
  case atStart => exact ⟨0, _, Nat.zero_le _, rfl, rfl, by omega, by omega⟩
  case round =>
    obtain ⟨k, n, hk, rfl, rfl, hn0, hn1⟩ := hrel
    by_cases hlt : k < L.length
    · obtain ⟨b, off, rfl, _, hb, hc⟩ := HO.out (by omega)
      obtain ⟨va, vc, ea, ec, c0, c1, _, _, c4, c5, _, _, _, _, c10, _, hE⟩ := (hc k hlt).cells
      obtain ⟨s1, s2, s3, s4, s5, s6⟩ := HW.out L[k] (List.getElem_mem hlt)
      have HE := hid hE
      have H6 := hid s6
      clear hc hE s6
      generalize L[k] = z at c0 c1 c4 c5 c10 HE H6 s1 s2 s3 s4 s5
      unfold maxLen at s1 s2 s3 s4 s5
      go_wp2
      all_goals try (go_ret; exact HS.out _)
      go_loop [3, 5] (fun q i => ∃ (j : Nat) (m : Int), j ≤ z.ents.length ∧ i = .int .i64 j ∧ q = .int .i64 m ∧ 0 ≤ m ∧ m ≤ 1048576) (fun _ i => z.ents.length - (intOf i).toNat)
      case atStart => exact ⟨0, _, Nat.zero_le _, rfl, rfl, by omega, by omega⟩
      case round =>
        obtain ⟨j, m, hj, rfl, rfl, hm0, hm1⟩ := hrel
        by_cases hjl : j < z.ents.length
        · obtain ⟨b2, off2, rfl, _, _, he⟩ := HE.out.at (by omega)
          obtain ⟨_, va2, vc2, d1, _⟩ := he j hjl
          have t1 := H6.out z.ents[j] (List.getElem_mem hjl)
          clear he
          generalize z.ents[j].val.length = q at d1 t1
          unfold maxLen at t1
          by_cases q1 : q ≤ 1048576
          · by_cases q2 : m + q ≤ 1048576
            · go_wp2
              go_round
              case rel => exact ⟨j + 1, _, by omega, by go_num, rfl, by omega, by omega⟩
              case measure => simp [intOf]; omega
            · go_wp2
              go_ret
              exact HS.out _
          · go_wp2
            go_ret
            exact HS.out _
        · go_wp2
          go_round
          case rel => exact ⟨k + 1, _, by omega, by go_num, rfl, by omega, by omega⟩
          case measure => simp [intOf]; omega
    · go_wp2
      go_ret
      exact HS.out _

set_option maxRecDepth 100000 in
set_option maxHeartbeats 2000000 in
theorem sum19_any (w : World) (ao : Option Addr) (cap : Nat) (L : List Zp) (hl : L.length ≤ maxLen) (hw : ∀ z ∈ L, Wide1 z) (Q R : Nat → Prop) (hO : OpsAt Q R w ao L) :
    Calls Try.prog 19 #[.slice ao L.length cap] w fun e w' => SomeB w e w' := by
  unfold maxLen at hl
  have HW := hid hw
  have HO := hid hO
  have HS := hid (someB w)
  clear hw hO
  go_enter Try.func19, Try.ntmps19
  go_wp2
  all_goals try (go_ret; exact HS.out _)
  go_loop [3, 4] (fun z i => ∃ (k : Nat) (n : Int), k ≤ L.length ∧ i = .int .i64 k ∧ z = .int .i64 n ∧ 0 ≤ n ∧ n ≤ 1048576) (fun _ i => L.length - (intOf i).toNat)
  case atStart => exact ⟨0, _, Nat.zero_le _, rfl, rfl, by omega, by omega⟩
  case round =>
    obtain ⟨k, n, hk, rfl, rfl, hn0, hn1⟩ := hrel
    by_cases hlt : k < L.length
    · obtain ⟨b, off, rfl, _, hb, hc⟩ := HO.out (by omega)
      obtain ⟨va, vc, ea, ec, c0, c1, _, _, c4, c5, _, _, _, _, c10, _, hE⟩ := (hc k hlt).cells
      obtain ⟨s1, s2, s3, s4, s5, s6⟩ := HW.out L[k] (List.getElem_mem hlt)
      have HE := hid hE
      have H6 := hid s6
      clear hc hE s6
      generalize L[k] = z at c0 c1 c4 c5 c10 HE H6 s1 s2 s3 s4 s5
      unfold maxLen at s1 s2 s3 s4 s5
      go_wp2
      all_goals try (go_ret; exact HS.out _)
      go_loop [3, 5] (fun q i => ∃ (j : Nat) (m : Int), j ≤ z.ents.length ∧ i = .int .i64 j ∧ q = .int .i64 m ∧ 0 ≤ m ∧ m ≤ 1048576) (fun _ i => z.ents.length - (intOf i).toNat)
      case atStart => exact ⟨0, _, Nat.zero_le _, rfl, rfl, by omega, by omega⟩
      case round =>
        obtain ⟨j, m, hj, rfl, rfl, hm0, hm1⟩ := hrel
        by_cases hjl : j < z.ents.length
        · obtain ⟨b2, off2, rfl, _, _, he⟩ := HE.out.at (by omega)
          obtain ⟨_, va2, vc2, d1, _⟩ := he j hjl
          have t1 := H6.out z.ents[j] (List.getElem_mem hjl)
          clear he
          generalize z.ents[j].val.length = q at d1 t1
          unfold maxLen at t1
          by_cases q1 : q ≤ 1048576
          · by_cases q2 : m + q ≤ 1048576
            · go_wp2
              go_round
              case rel => exact ⟨j + 1, _, by omega, by go_num, rfl, by omega, by omega⟩
              case measure => simp [intOf]; omega
            · go_wp2
              go_ret
              exact HS.out _
          · go_wp2
            go_ret
            exact HS.out _
        · go_wp2
          go_round
          case rel => exact ⟨k + 1, _, by omega, by go_num, rfl, by omega, by omega⟩
          case measure => simp [intOf]; omega
    · go_wp2
      go_ret
      exact HS.out _

set_option maxRecDepth 100000 in
set_option maxHeartbeats 2000000 in
theorem sum6_any (w : World) (ao : Option Addr) (cap : Nat) (L : List Zp) (hl : L.length ≤ maxLen) (hw : ∀ z ∈ L, Wide1 z) (Q R : Nat → Prop) (hO : OpsAt Q R w ao L) :
    Calls Try.prog 6 #[.slice ao L.length cap] w fun e w' => SomeB w e w' := by
  unfold maxLen at hl
  have HW := hid hw
  have HO := hid hO
  have HS := hid (someB w)
  clear hw hO
  go_enter Try.func6, Try.ntmps6
  go_wp2
  all_goals try (go_ret; exact HS.out _)
  go_loop [3, 4] (fun z i => ∃ (k : Nat) (n : Int), k ≤ L.length ∧ i = .int .i64 k ∧ z = .int .i64 n ∧ 0 ≤ n ∧ n ≤ 1048576) (fun _ i => L.length - (intOf i).toNat)
  case atStart => exact ⟨0, _, Nat.zero_le _, rfl, rfl, by omega, by omega⟩
  case round =>
    obtain ⟨k, n, hk, rfl, rfl, hn0, hn1⟩ := hrel
    by_cases hlt : k < L.length
    · obtain ⟨b, off, rfl, _, hb, hc⟩ := HO.out (by omega)
      obtain ⟨va, vc, ea, ec, c0, c1, _, _, c4, c5, _, _, _, _, c10, _, hE⟩ := (hc k hlt).cells
      obtain ⟨s1, s2, s3, s4, s5, s6⟩ := HW.out L[k] (List.getElem_mem hlt)
      have HE := hid hE
      have H6 := hid s6
      clear hc hE s6
      generalize L[k] = z at c0 c1 c4 c5 c10 HE H6 s1 s2 s3 s4 s5
      unfold maxLen at s1 s2 s3 s4 s5
      go_wp2
      all_goals try (go_ret; exact HS.out _)
      go_loop [3, 5] (fun q i => ∃ (j : Nat) (m : Int), j ≤ z.ents.length ∧ i = .int .i64 j ∧ q = .int .i64 m ∧ 0 ≤ m ∧ m ≤ 1048576) (fun _ i => z.ents.length - (intOf i).toNat)
      case atStart => exact ⟨0, _, Nat.zero_le _, rfl, rfl, by omega, by omega⟩
      case round =>
        obtain ⟨j, m, hj, rfl, rfl, hm0, hm1⟩ := hrel
        by_cases hjl : j < z.ents.length
        · obtain ⟨b2, off2, rfl, _, _, he⟩ := HE.out.at (by omega)
          obtain ⟨_, va2, vc2, d1, _⟩ := he j hjl
          have t1 := H6.out z.ents[j] (List.getElem_mem hjl)
          clear he
          generalize z.ents[j].val.length = q at d1 t1
          unfold maxLen at t1
          by_cases q1 : q ≤ 1048576
          · by_cases q2 : m + q ≤ 1048576
            · go_wp2
              go_round
              case rel => exact ⟨j + 1, _, by omega, by go_num, rfl, by omega, by omega⟩
              case measure => simp [intOf]; omega
            · go_wp2
              go_ret
              exact HS.out _
          · go_wp2
            go_ret
            exact HS.out _
        · go_wp2
          go_round
          case rel => exact ⟨k + 1, _, by omega, by go_num, rfl, by omega, by omega⟩
          case measure => simp [intOf]; omega
    · go_wp2
      go_ret
      exact HS.out _

set_option maxRecDepth 100000 in
set_option maxHeartbeats 4000000 in
theorem tooBig_any (w : World) (ao : Option Addr) (cap : Nat) (L : List Zp) (hl : L.length ≤ maxLen) (hw : ∀ z ∈ L, Wide1 z) (Q R : Nat → Prop) (hO : OpsAt Q R w ao L) :
    Calls Try.prog 7 #[.slice ao L.length cap] w fun e w' => TooB L w e w' := by
  unfold maxLen at hl
  have HW := hid hw
  have HO := hid hO
  have HS := hid (tooB L w)
  clear hw hO
  by_cases hl4 : L.length ≤ 4096
  · go_enter Try.func7, Try.ntmps7
    go_wp2
    go_loop [3, 4] (fun z i => ∃ (k : Nat) (n : Int), k ≤ L.length ∧ i = .int .i64 k ∧ z = .int .i64 n ∧ 0 ≤ n ∧ n ≤ 1048576 ∧ Hid (∀ z ∈ L.take k, Small1 z)) (fun _ i => L.length - (intOf i).toNat)
    case atStart => exact ⟨0, _, Nat.zero_le _, rfl, rfl, by omega, by omega, fun z hz => by simp at hz⟩
    case round =>
      obtain ⟨k, n, hk, rfl, rfl, hn0, hn1, HK⟩ := hrel
      by_cases hlt : k < L.length
      · obtain ⟨b, off, rfl, _, hb, hc⟩ := HO.out (by omega)
        obtain ⟨va, vc, ea, ec, c0, c1, _, _, c4, c5, _, _, _, _, c10, _, hE⟩ := (hc k hlt).cells
        obtain ⟨s1, s2, s3, s4, s5, s6⟩ := HW.out L[k] (List.getElem_mem hlt)
        have HK2 : Hid (Small1 L[k] → ∀ z ∈ L.take (k + 1), Small1 z) := fun h z hz => by
          rw [List.take_succ_eq_append_getElem hlt] at hz
          rcases List.mem_append.1 hz with h' | h'
          · exact HK.out z h'
          · simp at h'; rw [h']; exact h
        have HE := hid hE
        have H6 := hid s6
        clear hc hE s6 HK
        generalize L[k] = z at c0 c1 c4 c5 c10 HE H6 HK2 s1 s2 s3 s4 s5
        unfold maxLen at s1 s2 s3 s4 s5
        go_wp2
        all_goals try (go_ret; exact HS.out)
        go_loop [3, 6] (fun q i => ∃ (j : Nat) (m : Int), j ≤ z.ents.length ∧ i = .int .i64 j ∧ q = .int .i64 m ∧ 0 ≤ m ∧ m ≤ 1048576 ∧ Hid (∀ e ∈ z.ents.take j, e.val.length ≤ 1048576)) (fun _ i => z.ents.length - (intOf i).toNat)
        case atStart => exact ⟨0, _, Nat.zero_le _, rfl, rfl, by omega, by omega, fun z hz => by simp at hz⟩
        case round =>
          obtain ⟨j, m, hj, rfl, rfl, hm0, hm1, HJ⟩ := hrel
          by_cases hjl : j < z.ents.length
          · obtain ⟨b2, off2, rfl, _, _, he⟩ := HE.out.at (by omega)
            obtain ⟨_, va2, vc2, d1, _⟩ := he j hjl
            have t1 := H6.out z.ents[j] (List.getElem_mem hjl)
            have HJ2 : Hid (z.ents[j].val.length ≤ 1048576 → ∀ e ∈ z.ents.take (j + 1), e.val.length ≤ 1048576) := fun h e he => by
              rw [List.take_succ_eq_append_getElem hjl] at he
              rcases List.mem_append.1 he with h' | h'
              · exact HJ.out e h'
              · simp at h'; rw [h']; exact h
            clear he HJ
            generalize z.ents[j].val.length = q at d1 t1 HJ2
            unfold maxLen at t1
            by_cases q1 : q ≤ 1048576
            · by_cases q2 : m + q ≤ 1048576
              · go_wp2
                go_round
                case rel => exact ⟨j + 1, _, by omega, by go_num, rfl, by omega, by omega, HJ2.out (by omega)⟩
                case measure => simp [intOf]; omega
              · go_wp2
                go_ret
                exact HS.out
            · go_wp2
              go_ret
              exact HS.out
          · have HZ : Hid (Small1 z) := ⟨by omega, by omega, by have := HJ.out; rw [List.take_of_length_le (by omega)] at this; exact this⟩
            go_wp2
            go_round
            case rel => exact ⟨k + 1, _, by omega, by go_num, rfl, by omega, by omega, HK2.out HZ.out⟩
            case measure => simp [intOf]; omega
      · have HF : Hid (TooB L w (.returned (.bool false)) w) := ⟨false, rfl, rfl, fun _ => ⟨hl4, by have := HK.out; rw [List.take_of_length_le (by omega)] at this; exact this⟩⟩
        go_wp2
        go_ret
        exact HF.out
  · go_enter Try.func7, Try.ntmps7
    go_wp2
    go_ret
    exact HS.out
end Go.Proofs.Qxb6618167a.Hist
