/-
  Rows.FnPolicyIDsReadsOnlyTheFrontSaid: the row, lifted from the walk.
-/
import Derived.Test.Qxb6609326aRows
import Derived.Test.Qxb6609326aLaw6
import Derived.ProofKit
import Derived.OpenShut
import Derived.ShutString
import Derived.SliceStrings
import Derived.Carry
import Derived.Below
namespace Go.Proofs.Qxb6609326a
open Go.ChangeShapes Go.WideShapes Go.ChangeAt Go.RowKit
open Go.ChangeMaps (open_string shut_string)

theorem own6 : ownKnob Try.prog.godebug = none := by kernel_rfl
theorem laidOut6 : laidOutB Try.prog = true := by kernel_rfl
theorem cells9 : Try.prog.cellsOf 9 = 1 := by kernel_rfl

theorem cell_lt {w : World} {a : Addr} {v : Value} (h : w.cell? a = some v) : a.block < w.heap.size := by
  rcases Nat.lt_or_ge a.block w.heap.size with h1 | h1
  · exact h1
  · simp [World.cell?, Array.getElem?_eq_none h1] at h

theorem open_list {H : Type} {enc : TypeId × Value → H} {W : World} {v : Value} {d : DataW H} {ps : List MemPlace} (hv : ∃ a len cap, v = .slice a len cap)
    (h : DataW.Trod enc Try.prog W 0 (fun _ => true) true 24 v d ps) :
    ∃ oa cap L, v = .slice oa L.length cap ∧ SLb W.heap.size W oa L ∧ L.length ≤ maxLen ∧ (∀ x ∈ L, x.size ≤ maxLen) := by
  obtain ⟨a0, len, cap, rfl⟩ := hv
  obtain ⟨fuel, hf⟩ := h
  rcases open_strings Try.underlying24 Try.underlying9 cells9 hf with ⟨hcs, -⟩ | ⟨a, len', cap', ss, hcs, -, hl, hm, hz, -, hcell, hsz⟩
  · simp [Value.cells] at hcs
    obtain ⟨rfl, rfl, rfl⟩ := hcs
    exact ⟨none, 0, [], rfl, (fun _ _ k hk => absurd hk (by simp)), by simp, by simp⟩
  · simp [Value.cells] at hcs
    obtain ⟨rfl, rfl, rfl⟩ := hcs
    simp only [if_true] at hz
    have hlen : (ss.take len).length = len := by rw [List.length_take]; omega
    refine ⟨some a, cap, ss.take len, by rw [hlen], ?_, by rw [hlen]; omega, fun x hx => hsz x (List.mem_of_mem_take hx)⟩
    intro W' hW' k hk
    rw [hlen] at hk
    have hc := hcell k (by omega)
    refine ⟨a, rfl, ?_⟩
    rw [hW'.cell (cell_lt hc), hc]
    have hk2 : k < ss.length := by omega
    rw [List.getElem_take, List.getD_eq_getElem?_getD, List.getElem?_eq_getElem hk2]
    rfl

set_option maxRecDepth 100000 in
theorem lifted6 (os : Os) (started : os.Started) (H : Type) (enc : TypeId × Value → H) :
    ReturnsInHanded {} Try.checked os 6 .any (Rows.fnPolicyIDsReadsOnlyTheFrontSpec.pre6 enc Try.prog Try.f6 Rows.fnPolicyIDsReadsOnlyTheFrontRow.domain false) (Rows.fnPolicyIDsReadsOnlyTheFrontSpec.post enc Try.prog Try.f6 false true false false) := by
  refine returnsInHanded_of_change (C := Try.checked) own6 started (by kernel_rfl) Try.func6
    (ChangeSpec.witness6 (enc := enc) (C := Try.checked) false ⟨#[], #[.slice none 0 0, .string ByteArray.empty], []⟩ 8 (by kernel_rfl) (by kernel_rfl) (by kernel_rfl) (by kernel_rfl)) ?_
  intro W base args ds gs before hval0 hW hcnd _
  have hval : ∀ (j : Nat) t v, Try.f6.params[j]? = some t → args[j]? = some v → Value.okWide Try.prog W .any base t v := hval0
  have hW' := hW
  obtain ⟨p, q, hA0, hV, rfl, hfz, hnd⟩ := hW
  have hA : DataW.TrodAll enc Try.prog W 0 (fun _ => true) true Try.f6.params.toList args.toList ds p := hA0
  rw [Try.params6] at hA hval
  obtain ⟨v0, vs0, d0, ds0, p0, q0, hargs, rfl, rfl, h0, r0⟩ := trodAll_cons hA
  obtain ⟨v1, vs1, d1, ds1, p1, q1, rfl, rfl, rfl, h1, r1⟩ := trodAll_cons r0
  obtain ⟨rfl, rfl, rfl⟩ := trodAll_nil r1
  obtain rfl : args = #[v0, v1] := by cases args; simp_all
  obtain ⟨rfl, rfl⟩ := trodVars_none hV
  obtain ⟨a1, rfl, rfl, rfl, w1⟩ := open_string Try.underlying9 (hval 1 9 v1 rfl rfl) h1
  obtain ⟨oa, cap, L, rfl, hL, hn, hx⟩ := open_list (okWide_slice Try.underlying24 (hval 0 24 v0 rfl rfl)) h0
  have lt0 : ∀ x ∈ p0, x.block < W.heap.size := by
    obtain ⟨fuel, hf⟩ := h0
    exact fun x hx => DataW.trod_lt _ _ _ _ hf x hx
  clear hA0 hval0
  refine (law6 oa cap L a1 W hL hn hx w1).mono fun e W' ⟨he, bel⟩ => ?_
  subst he
  exact ⟨_, rfl, _, _, _, [], _, [], hW', trodAll_mk1 (shut_bool Try.underlying4 _), (trodAll_cons_mk (Below.trod laidOut6 (by kernel_rfl) (of_decide_eq_true (by kernel_rfl)) h0 bel lt0) (trodAll_cons_mk (shut_string Try.underlying9 w1) trodAll_mk0)), rfl, bel.frame _, fun h => by cases h⟩

theorem front_said : Rows.FnPolicyIDsReadsOnlyTheFrontSaid :=
  OpenClaim.holds_of_wide 6 Try.f6 rfl rfl rfl rfl rfl rfl rfl ⟨rfl, rfl, rfl, rfl, rfl⟩ rfl rfl rfl rfl rfl (by kernel_rfl) Try.func6 (by kernel_rfl)
    (of_decide_eq_true (by kernel_rfl)) (by unfold Func.isWrapper; first | (rw [if_pos (by decide +kernel)]; kernel_rfl) | (rw [if_neg (by decide +kernel)]; exact ⟨rfl, rfl⟩))
    (fun os started H enc _ => lifted6 os started H enc)
#print axioms front_said
end Go.Proofs.Qxb6609326a
