/-
  Rows.FnCollapseLeavesSingleSpacesAndIsIdempotentSaid: the law returns true; the row, lifted from the walk.
-/
import Derived.Test.Qxb6609200aRows
import Derived.Test.Qxb6609200aLaw4
import Derived.ProofKit
import Derived.OpenShut
import Derived.ShutString
import Derived.Below
namespace Go.Proofs.Qxb6609200a
open Go.ChangeShapes Go.WideShapes Go.ChangeAt Go.RowKit
open Go.ChangeMaps (open_string shut_string)

theorem own4 : ownKnob Try.prog.godebug = none := by kernel_rfl

theorem at_list (c : ByteArray) (L : List UInt8) (hL : c.data.toList = L) (k : Nat) (h : k < c.size) : ∃ h' : k < L.length, c[k]'h = L[k]'h' := by
  subst hL
  exact ⟨by simpa using h, rfl⟩
theorem sp_of (b : UInt8) (h : (b.toNat : Int) = 9 ∨ (b.toNat : Int) = 13 ∨ (b.toNat : Int) = 10 ∨ (b.toNat : Int) = 32) : sp b = true := by
  unfold sp spN
  simp
  omega
theorem not_ws (b : UInt8) (x : Int) (hx : x = 9 ∨ x = 13 ∨ x = 10) (h : sp b = true → b = 32) : ((b.toNat : Int) == x) = false := by
  rw [beq_eq_false_iff_ne]
  intro e
  have h1 : b = 32 := h (sp_of b (by omega))
  subst h1
  have : (32 : UInt8).toNat = 32 := rfl
  omega
theorem not_32 (b : UInt8) (h : sp b = false) : ((b.toNat : Int) == 32) = false := by
  rw [beq_eq_false_iff_ne]
  intro e
  rw [sp_of b (by omega)] at h
  cases h

set_option maxRecDepth 100000 in
theorem law4 (s : ByteArray) (hs : s.size ≤ maxLen) (w : World) : Calls Try.prog 4 #[.string s] w fun e w' => e = .returned (.bool true) ∧ Below w.heap.size w w' := by
  by_cases h : s.size ≤ 1048576
  · have hl : s.data.toList.length = s.size := by simp
    have hcl := col_len s.data.toList
    have hdc : (⟨(colL s.data.toList).toArray⟩ : ByteArray).data.toList = colL s.data.toList := by simp
    obtain ⟨c, hc⟩ : ∃ c : ByteArray, c = ⟨(colL s.data.toList).toArray⟩ := ⟨_, rfl⟩
    have hcd : c.data.toList = colL s.data.toList := by rw [hc]
    have hcs : c.size = (colL s.data.toList).length := by rw [← hcd]; simp
    have B := bytes8 s hs
    rw [decide_eq_true h] at B
    have hg := good_col s.data.toList
    have ga : ∀ k (hk : k < c.size), sp c[k] = true → c[k] = 32 := by
      intro k hk e
      obtain ⟨h', e'⟩ := at_list c _ hcd k hk
      rw [e'] at e ⊢
      exact (good_at _ false hg k h' e).1
    have hdcol : dropL c.data.toList = dropL s.data.toList := by rw [hcd, dropL_col]
    refine single_walk s c ⟨(dropL s.data.toList).toArray⟩ (words s.data.toList).length w h (by omega) ?_ B (fun W => ?_) (fun W => ?_) (drop9 s (by omega)) (fun W => ?_) (runs10 s (by omega)) ?_ ?_ ?_ ?_ ?_ ?_ ?_ ?_
    · rw [← cr_eq]
      have := cr_le s.data.toList
      omega
    · rw [hc]
      exact collapse6 s (by omega) W
    · have := collapse6 c (by omega) W
      rw [hcd, col_col, ← hc] at this
      exact this
    · have := drop9 c (by omega) W
      rw [hdcol] at this
      exact this
    · intro h0
      obtain ⟨h', e'⟩ := at_list c _ hcd 0 h0
      rw [e']
      exact not_32 _ (col_first _ h')
    · intro h0
      have e0 : c.size - 1 = (colL s.data.toList).length - 1 := by rw [hcs]
      obtain ⟨h', e'⟩ := at_list c _ hcd (c.size - 1) h0
      rw [e']
      have := col_last s.data.toList (by omega)
      simp only [e0]
      exact not_32 _ this
    · exact fun k hk => not_ws _ 9 (by omega) (ga k hk)
    · exact fun k hk => not_ws _ 13 (by omega) (ga k hk)
    · exact fun k hk => not_ws _ 10 (by omega) (ga k hk)
    · intro k hk e
      have es : sp c[k + 1] = true := sp_of _ (by rw [beq_iff_eq] at e; omega)
      obtain ⟨h', e'⟩ := at_list c _ hcd (k + 1) hk
      rw [e'] at es
      have := (good_at _ false hg (k + 1) h' es).2.2 (by omega)
      obtain ⟨h2, e2⟩ := at_list c _ hcd k (by omega)
      rw [e2]
      exact not_32 _ this
    · intro hn
      rw [hcs, col_nil _ hn]
      rfl
    · intro hn
      rw [hcd, spcs_col]
      omega
  · have B := bytes8 s hs
    rw [decide_eq_false h] at B
    have HB : Hid (∀ w : World, Calls Try.prog 8 #[.string s] w fun e w' => e = .returned (.bool false) ∧ w' = w) := B
    clear B
    go_enter Try.func4, Try.ntmps4
    go_wp2_with fail
    refine (HB.out _).mono ?_
    rintro e w' ⟨rfl, rfl⟩
    go_wp2
    go_ret
    exact ⟨rfl, Below.refl _ _⟩

set_option maxRecDepth 100000 in
theorem lifted4 (os : Os) (started : os.Started) (H : Type) (enc : TypeId × Value → H) :
    ReturnsInHanded {} Try.checked os 4 .any (Rows.fnCollapseLeavesSingleSpacesAndIsIdempotentSpec.pre6 enc Try.prog Try.f4 Rows.fnCollapseLeavesSingleSpacesAndIsIdempotentRow.domain false) (Rows.fnCollapseLeavesSingleSpacesAndIsIdempotentSpec.post enc Try.prog Try.f4 false true false false) := by
  refine returnsInHanded_of_change (C := Try.checked) own4 started (by kernel_rfl) Try.func4
    (ChangeSpec.witness6 (enc := enc) (C := Try.checked) false ⟨#[], #[.string ByteArray.empty], []⟩ 8 (by kernel_rfl) (by kernel_rfl) (by kernel_rfl) (by kernel_rfl)) ?_
  intro W base args ds gs before hval0 hW hcnd _
  have hval : ∀ (j : Nat) t v, Try.f4.params[j]? = some t → args[j]? = some v → Value.okWide Try.prog W .any base t v := hval0
  have hW' := hW
  obtain ⟨p, q, hA0, hV, rfl, hfz, hnd⟩ := hW
  have hA : DataW.TrodAll enc Try.prog W 0 (fun _ => true) true Try.f4.params.toList args.toList ds p := hA0
  rw [Try.params4] at hA hval
  obtain ⟨v0, vs0, d0, ds0, p0, q0, hargs, rfl, rfl, h0, r0⟩ := trodAll_cons hA
  obtain ⟨rfl, rfl, rfl⟩ := trodAll_nil r0
  obtain rfl : args = #[v0] := by cases args; simp_all
  obtain ⟨rfl, rfl⟩ := trodVars_none hV
  obtain ⟨a0, rfl, rfl, rfl, w0⟩ := open_string Try.underlying9 (hval 0 9 v0 rfl rfl) h0
  clear hA0 hval0
  refine (law4 a0 w0 W).mono fun e W' ⟨he, bel⟩ => ?_
  subst he
  exact ⟨_, rfl, _, _, _, [], _, [], hW', trodAll_mk1 (shut_bool Try.underlying4 _), (trodAll_cons_mk (shut_string Try.underlying9 w0) trodAll_mk0), rfl, bel.frame _, fun h => by cases h⟩

theorem single_said : Rows.FnCollapseLeavesSingleSpacesAndIsIdempotentSaid :=
  OpenClaim.holds_of_wide 4 Try.f4 rfl rfl rfl rfl rfl rfl rfl ⟨rfl, rfl, rfl, rfl, rfl⟩ rfl rfl rfl rfl rfl (by kernel_rfl) Try.func4 (by kernel_rfl)
    (of_decide_eq_true (by kernel_rfl)) (by unfold Func.isWrapper; first | (rw [if_pos (by decide +kernel)]; kernel_rfl) | (rw [if_neg (by decide +kernel)]; exact ⟨rfl, rfl⟩))
    (fun os started H enc _ => lifted4 os started H enc)
#print axioms single_said
end Go.Proofs.Qxb6609200a
