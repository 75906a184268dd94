/-
  The law FnRoleRecordOfEmptyGrants, walked.
-/
import Derived.Test.Qxb6609326aRecord
import Derived.Test.Qxb6609326aEmpty
import Derived.Handy
import Derived.Lib.LazyBuf
import Derived.Laws.Cover3
namespace Go.Proofs.Qxb6609326a
open Go.RowKit

set_option maxHeartbeats 1600000 in
set_option maxRecDepth 100000 in
theorem bytes7 (a0 a1 a2 a3 : ByteArray) (a4 a5 : Int) (w0 : a0.size ≤ maxLen) (w1 : a1.size ≤ maxLen) (w2 : a2.size ≤ maxLen) (w3 : a3.size ≤ maxLen) (w : World) :
    Calls Try.prog 7 #[.string a0, .string a1, .string a2, .string a3, .int .u64 a4, .int .u64 a5] w fun e w' => (e = .returned (.bool false) ∨ (e = .returned (.bool true) ∧ a0.size ≤ 1048576 ∧ a1.size ≤ 1048576 ∧ a2.size ≤ 1048576 ∧ a3.size ≤ 1048576)) ∧ w' = w := by
  simp only [maxLen] at w0 w1 w2 w3
  go_enter Try.func7, Try.ntmps7
  go_wp2
  all_goals go_ret
  all_goals first
    | exact ⟨.inl rfl, rfl⟩
    | exact ⟨.inr ⟨rfl, by omega, by omega, by omega, by omega⟩, rfl⟩

set_option maxHeartbeats 1600000 in
set_option maxRecDepth 100000 in
theorem law3 (a0 a1 a2 a3 : ByteArray) (a4 a5 : Int) (w0 : a0.size ≤ maxLen) (w1 : a1.size ≤ maxLen) (w2 : a2.size ≤ maxLen) (w3 : a3.size ≤ maxLen) (w : World) :
    Calls Try.prog 3 #[.string a0, .string a1, .string a2, .string a3, .int .u64 a4, .int .u64 a5] w fun e w' => e = .returned (.bool true) ∧ Below w.heap.size w w' := by
  have cB := bytes7 a0 a1 a2 a3 a4 a5 w0 w1 w2 w3 w
  have cR := role8 a0 a1 a2 a3 ⟨#[]⟩ a4 a5 w 0 0 0 (fun _ _ _ _ _ => True) (fun _ _ _ _ _ _ _ _ => trivial)
    (fun W => (unpack_empty ⟨#[]⟩ rfl W).mono fun e w' ⟨A, B, C, he, hb⟩ => ⟨A, B, C, he, hb, trivial⟩)
  go_enter Try.func3, Try.ntmps3
  go_wp2_with fail
  refine cB.mono ?_
  rintro e w' ⟨rfl | ⟨rfl, h0, h1, h2, h3⟩, rfl⟩
  · clear cR cB
    go_wp2
    go_ret
    exact ⟨rfl, Below.refl _ _⟩
  · clear cB
    by_cases hsum : (a0.size : Int) + a1.size + a2.size + a3.size > 1048576
    · clear cR
      go_wp2
      go_ret
      exact ⟨rfl, Below.refl _ _⟩
    go_wp2_with fail
    refine cR.mono ?_
    rintro e w1 ⟨S, x, y, z, rfl, b1, hS, -⟩
    have b2 := b1.alloc b1.size (.cells #[.string a0, .string a1, .string a2, .slice (some ⟨x, 0, none⟩) 0 0, .slice (some ⟨y, 0, none⟩) 0 0, .slice (some ⟨z, 0, none⟩) 0 0, .int .u64 a4, .int .u64 a5] 28)
    have hN := heap_new w1 (.cells #[.string a0, .string a1, .string a2, .slice (some ⟨x, 0, none⟩) 0 0, .slice (some ⟨y, 0, none⟩) 0 0, .slice (some ⟨z, 0, none⟩) 0 0, .int .u64 a4, .int .u64 a5] 28)
    clear cR
    have c0 := cell_of_block hN (j := 0) (v := .string a0) rfl
    have c1 := cell_of_block hN (j := 1) (v := .string a1) rfl
    have c2 := cell_of_block hN (j := 2) (v := .string a2) rfl
    have c3 := cell_of_block hN (j := 3) (v := .slice (some ⟨x, 0, none⟩) 0 0) rfl
    have c4 := cell_of_block hN (j := 4) (v := .slice (some ⟨y, 0, none⟩) 0 0) rfl
    have c5 := cell_of_block hN (j := 5) (v := .slice (some ⟨z, 0, none⟩) 0 0) rfl
    have c6 := cell_of_block hN (j := 6) (v := .int .u64 a4) rfl
    have c7 := cell_of_block hN (j := 7) (v := .int .u64 a5) rfl
    have q1 := fun W => Go.run_eql_slice_nil (P := Try.prog) W 24 9 (some ⟨x, 0, none⟩) 0 0 Try.underlying24
    have q2 := fun W => Go.run_eql_slice_nil (P := Try.prog) W 25 37 (some ⟨y, 0, none⟩) 0 0 Try.underlying25
    go_wp2
    go_ret
    exact ⟨rfl, b2⟩
end Go.Proofs.Qxb6609326a
