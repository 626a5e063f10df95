/-
  The law 'FnHunkTakeScriptMatchesBlockModel'. The frame is after the guide's shell for laws over slices (the world behind the call told by 'Below'); the walk is filled by hand (Hk .. Hzg).
-/
import Derived.Test.Qxb6617273aRows
import Derived.WalkKit
import Derived.ProofKit
import Derived.OpenShut
import Derived.ShutString
import Derived.ChangeOld
import Derived.Below
import Derived.Carry
import Derived.Test.Qxb6617273aHopen
import Derived.Test.Qxb6617273aHzg
namespace Go.Proofs.Qxb6617273a.fnHunkTakeScriptMatchesBlockModel
open Go.ChangeShapes Go.WideShapes Go.ChangeAt Go.RowKit
open Go.Proofs.Qxb6617273a.Hunk

theorem own : ownKnob Try.prog.godebug = none := by kernel_rfl
theorem laidOut : laidOutB Try.prog = true := by kernel_rfl

set_option maxRecDepth 100000 in
theorem lifted (os : Os) (started : os.Started) (H : Type) (enc : TypeId × Value → H) :
    ReturnsInHanded {} Try.checked os 6 .any (Rows.fnHunkTakeScriptMatchesBlockModelSpec.pre6 enc Try.prog Try.f6 Rows.fnHunkTakeScriptMatchesBlockModelRow.domain false) (Rows.fnHunkTakeScriptMatchesBlockModelSpec.post enc Try.prog Try.f6 false true false false) := by
  refine returnsInHanded_of_change (C := Try.checked) own started (by kernel_rfl) Try.func6
    (ChangeSpec.witness6 (enc := enc) (C := Try.checked) false ⟨#[], #[.agg #[.int .i64 0, .string ByteArray.empty, .int .i64 0, .int .i64 0, .int .i64 0, .int .i64 0, .int .i64 0, .bool false, .bool false], .bool false, .slice none 0 0, .slice none 0 0, .slice none 0 0], []⟩ 8 (by kernel_rfl) (by kernel_rfl) (by kernel_rfl) (by kernel_rfl)) ?_
  intro W base args ds gs before hval0 hW hcnd _
  have hval : ∀ (j : Nat) t v, Try.f6.params[j]? = some t → args[j]? = some v → Value.okWide Try.prog W .any base t v := hval0
  have hW' := hW
  obtain ⟨p, q, hA0, hV, rfl, hfz, hnd⟩ := hW
  have hA : DataW.TrodAll enc Try.prog W 0 (fun _ => true) true Try.f6.params.toList args.toList ds p := hA0
  rw [Try.params6] at hA hval
  obtain ⟨v0, vs0, d0, ds0, p0, q0, hargs, rfl, rfl, h0, r0⟩ := trodAll_cons hA
  obtain ⟨v1, vs1, d1, ds1, p1, q1, rfl, rfl, rfl, h1, r1⟩ := trodAll_cons r0
  obtain ⟨v2, vs2, d2, ds2, p2, q2, rfl, rfl, rfl, h2, r2⟩ := trodAll_cons r1
  obtain ⟨v3, vs3, d3, ds3, p3, q3, rfl, rfl, rfl, h3, r3⟩ := trodAll_cons r2
  obtain ⟨v4, vs4, d4, ds4, p4, q4, rfl, rfl, rfl, h4, r4⟩ := trodAll_cons r3
  obtain ⟨rfl, rfl, rfl⟩ := trodAll_nil r4
  obtain rfl : args = #[v0, v1, v2, v3, v4] := by cases args; simp_all
  obtain ⟨rfl, rfl⟩ := trodVars_none hV
  have lt0 : ∀ x ∈ p0, x.block < W.heap.size := by obtain ⟨m, hm⟩ := h0; exact DataW.trod_lt m _ _ _ hm
  have lt1 : ∀ x ∈ p1, x.block < W.heap.size := by obtain ⟨m, hm⟩ := h1; exact DataW.trod_lt m _ _ _ hm
  have lt2 : ∀ x ∈ p2, x.block < W.heap.size := by obtain ⟨m, hm⟩ := h2; exact DataW.trod_lt m _ _ _ hm
  have lt3 : ∀ x ∈ p3, x.block < W.heap.size := by obtain ⟨m, hm⟩ := h3; exact DataW.trod_lt m _ _ _ hm
  have lt4 : ∀ x ∈ p4, x.block < W.heap.size := by obtain ⟨m, hm⟩ := h4; exact DataW.trod_lt m _ _ _ hm
  have o2 := okWide_slice Try.underlying29 (hval 2 29 v2 rfl rfl)
  have o3 := okWide_slice Try.underlying30 (hval 3 30 v3 rfl rfl)
  have o4 := okWide_slice Try.underlying31 (hval 4 31 v4 rfl rfl)
  have hcall : Calls Try.prog 6 #[v0, v1, v2, v3, v4] W fun e w' => e = .returned (.bool true) ∧ Below W.heap.size W w' := by
    obtain ⟨line, old, new, ol, nl, next, hdr, de, ad, rfl, s1, s2, s3, s4⟩ := open28 (hval 0 28 v0 rfl rfl) h0
    obtain ⟨whole, rfl, _, _⟩ := open_bool Try.underlying4 (hval 1 4 v1 rfl rfl) h1
    obtain ⟨ao, an, ac, rfl⟩ := o2
    obtain ⟨co, cn, cc, rfl⟩ := o3
    obtain ⟨tp, tn, tc, rfl⟩ := o4
    obtain ⟨Z, rfl, z1, z2⟩ := open29 h2
    obtain ⟨C0, rfl, c1, c2⟩ := open30 h3
    obtain ⟨T, rfl, t1, t2⟩ := open31 h4
    by_cases hin : hdr.size ≤ 1048576 ∧ Z.length ≤ 65536 ∧ C0.length ≤ 131072 ∧ T.length ≤ 65536
    · exact walk6_in W line old new ol nl next hdr de ad whole ao co tp ac cc tc Z C0 T hin.1 hin.2.1 hin.2.2.1 hin.2.2.2 z2 c2 t2 s2 s3 s4
    · exact walk6_out W line old new ol nl next hdr de ad whole ao co tp Z.length ac C0.length cc tc T s1 z1 c1 t1 t2 hin
  clear hA0 hval0 hval o2 o3 o4
  refine hcall.mono fun e W' ⟨he, bel⟩ => ?_
  subst he
  exact ⟨_, rfl, _, _, _, [], _, [], hW', trodAll_mk1 (shut_bool Try.underlying4 _), (trodAll_cons_mk (Below.trod laidOut (by kernel_rfl) (of_decide_eq_true (by kernel_rfl)) h0 bel lt0) (trodAll_cons_mk (Below.trod laidOut (by kernel_rfl) (of_decide_eq_true (by kernel_rfl)) h1 bel lt1) (trodAll_cons_mk (Below.trod laidOut (by kernel_rfl) (of_decide_eq_true (by kernel_rfl)) h2 bel lt2) (trodAll_cons_mk (Below.trod laidOut (by kernel_rfl) (of_decide_eq_true (by kernel_rfl)) h3 bel lt3) (trodAll_cons_mk (Below.trod laidOut (by kernel_rfl) (of_decide_eq_true (by kernel_rfl)) h4 bel lt4) trodAll_mk0))))), rfl, bel.frame _, fun h => by cases h⟩

theorem over : Rows.fnHunkTakeScriptMatchesBlockModelRow.holds Try.pinned (OpenSpec.ofChange Rows.fnHunkTakeScriptMatchesBlockModelSpec) :=
  OpenClaim.holds_of_wide 6 Try.f6 rfl rfl rfl rfl rfl rfl rfl ⟨rfl, rfl, rfl, rfl, rfl⟩ rfl rfl rfl rfl rfl (by kernel_rfl) Try.func6 (by kernel_rfl)
    (of_decide_eq_true (by kernel_rfl)) (by unfold Func.isWrapper; first | (rw [if_pos (by decide +kernel)]; kernel_rfl) | (rw [if_neg (by decide +kernel)]; exact ⟨rfl, rfl⟩))
    (fun os started H enc _ => lifted os started H enc)

/-- THE STATEMENT -/
theorem proved : Rows.FnHunkTakeScriptMatchesBlockModelSaid :=
  over
#print axioms proved
end Go.Proofs.Qxb6617273a.fnHunkTakeScriptMatchesBlockModel
