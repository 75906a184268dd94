/-
  Rows.FnPolicyIDsRoundTripSaid: the row, lifted from the walk.
-/
import Derived.Test.Qxb6609326aRows
import Derived.Test.Qxb6609326aOpen
namespace Go.Proofs.Qxb6609326a
open Go.ChangeShapes Go.WideShapes Go.ChangeAt Go.RowKit

set_option maxRecDepth 100000 in
theorem lifted5 (os : Os) (started : os.Started) (H : Type) (enc : TypeId × Value → H) :
    ReturnsInHanded {} Try.checked os 5 .any (Rows.fnPolicyIDsRoundTripSpec.pre6 enc Try.prog Try.f5 Rows.fnPolicyIDsRoundTripRow.domain false) (Rows.fnPolicyIDsRoundTripSpec.post enc Try.prog Try.f5 false true false false) := by
  refine returnsInHanded_of_change (C := Try.checked) ownK started (by kernel_rfl) Try.func5
    (ChangeSpec.witness6 (enc := enc) (C := Try.checked) false ⟨#[], #[.slice none 0 0, .slice none 0 0, .slice none 0 0], []⟩ 8 (by kernel_rfl) (by kernel_rfl) (by kernel_rfl) (by kernel_rfl)) ?_
  intro W base args ds gs before hval0 hW hcnd _
  have hval : ∀ (j : Nat) t v, Try.f5.params[j]? = some t → args[j]? = some v → Value.okWide Try.prog W .any base t v := hval0
  have hW' := hW
  obtain ⟨p, q, hA0, hV, rfl, hfz, hnd⟩ := hW
  have hA : DataW.TrodAll enc Try.prog W 0 (fun _ => true) true Try.f5.params.toList args.toList ds p := hA0
  rw [Try.params5] at hA hval
  obtain ⟨v0, vs0, d0, ds0, p0, q0, hargs, rfl, rfl, h0, r0⟩ := trodAll_cons hA
  obtain ⟨v1, vs1, d1, ds1, p1, q1, rfl, rfl, rfl, h1, r1⟩ := trodAll_cons r0
  obtain ⟨v2, vs2, d2, ds2, p2, q2, rfl, rfl, rfl, h2, r2⟩ := trodAll_cons r1
  obtain ⟨rfl, rfl, rfl⟩ := trodAll_nil r2
  obtain rfl : args = #[v0, v1, v2] := by cases args; simp_all
  obtain ⟨rfl, rfl⟩ := trodVars_none hV
  obtain ⟨⟨f0, t0⟩, lt0⟩ := trod_of (okWide_slice Try.underlying24 (hval 0 24 v0 rfl rfl)) h0
  obtain ⟨⟨f1, t1⟩, lt1⟩ := trod_of (okWide_slice Try.underlying30 (hval 1 30 v1 rfl rfl)) h1
  obtain ⟨⟨f2, t2⟩, lt2⟩ := trod_of (okWide_slice Try.underlying31 (hval 2 31 v2 rfl rfl)) h2
  obtain ⟨oa, ca, L, rfl, hL, hn, hx⟩ := open_strs t0
  obtain ⟨ob, cb, S, rfl, hS, hsn, hsx⟩ := open_svcs t1
  obtain ⟨oc, cc, N, rfl, hN, hnn, hnx⟩ := open_nods t2
  clear hA0 hval0
  refine (law5 oa ob oc ca cb cc L S N W hL hS hN hn hx hsn hsx hnn hnx).mono fun e W' ⟨he, bel⟩ => ?_
  subst he
  exact ⟨_, rfl, _, _, _, [], _, [], hW', trodAll_mk1 (shut_bool Try.underlying4 _), (trodAll_cons_mk (Below.trod laidOutK (by kernel_rfl) (of_decide_eq_true (by kernel_rfl)) h0 bel lt0) (trodAll_cons_mk (Below.trod laidOutK (by kernel_rfl) (of_decide_eq_true (by kernel_rfl)) h1 bel lt1) (trodAll_cons_mk (Below.trod laidOutK (by kernel_rfl) (of_decide_eq_true (by kernel_rfl)) h2 bel lt2) trodAll_mk0))), rfl, bel.frame _, fun h => by cases h⟩

theorem policy_said : Rows.FnPolicyIDsRoundTripSaid :=
  OpenClaim.holds_of_wide 5 Try.f5 rfl rfl rfl rfl rfl rfl rfl ⟨rfl, rfl, rfl, rfl, rfl⟩ rfl rfl rfl rfl rfl (by kernel_rfl) Try.func5 (by kernel_rfl)
    (of_decide_eq_true (by kernel_rfl)) (by unfold Func.isWrapper; first | (rw [if_pos (by decide +kernel)]; kernel_rfl) | (rw [if_neg (by decide +kernel)]; exact ⟨rfl, rfl⟩))
    (fun os started H enc _ => lifted5 os started H enc)
#print axioms policy_said
end Go.Proofs.Qxb6609326a
