/-
  unpack of an empty text; record of an empty text; ZZroleRecord of it.
-/
import Derived.Test.Qxb6609326aStrs
import Derived.BigRegion
namespace Go.Proofs.Qxb6609326a
open Go.RowKit

theorem info37 : (Try.prog.info? 37).map (fun i => (i.zero, i.size, i.bytes)) = some (some (.agg #[.string ⟨#[]⟩, .slice none 0 0]), 2, 40) := by kernel_rfl
theorem info41 : (Try.prog.info? 41).map (fun i => (i.zero, i.size, i.bytes)) = some (some (.agg #[.string ⟨#[]⟩, .string ⟨#[]⟩]), 2, 32) := by kernel_rfl

/-- make of a row of two-cell elements. -/
theorem make_two {P : Program} (t e : TypeId) (z : Value) (bytes : Nat) (ht : P.underlying t = some (.slice e)) (hinfo : (P.info? e).map (fun i => (i.zero, i.size, i.bytes)) = some (some z, 2, bytes))
    (kl kc : IntKind) (n : Nat) (hbytes : bytes * n ≤ 281474976710656) (h63 : n ≤ 9223372036854775807) (w : World) :
    (Instr.makeSlice t (.int kl (n : Int)) (.int kc (n : Int))).run P w = .ok (.slice (some ⟨w.heap.size, 0, none⟩) n n) (w.alloc (.cells (madeCells z.cells (n * 2)) e)) := by
  obtain ⟨i, hi, hzz⟩ := Option.map_eq_some_iff.1 hinfo
  simp only [Prod.mk.injEq] at hzz
  obtain ⟨hz, hs, hb⟩ := hzz
  have hb' : (i.bytes : Int) * (n : Int) ≤ 281474976710656 := by
    have h : ((i.bytes * n : Nat) : Int) ≤ 281474976710656 := by rw [hb]; omega
    rwa [Int.natCast_mul] at h
  have hr := run_make (P := P) w t e i z ht hi hz kl kc n n (by omega) (Int.le_refl _) hb' (by omega)
  simp only [Int.toNat_natCast, hs] at hr
  exact hr

set_option maxHeartbeats 1600000 in
set_option maxRecDepth 100000 in
theorem unpack_empty (s : ByteArray) (hs : s.data.toList = []) (w : World) :
    Calls Try.prog 25 #[.string s] w fun e w' => ∃ A B C, e = .returned (.tuple #[.slice (some ⟨A, 0, none⟩) 0 0, .slice (some ⟨B, 0, none⟩) 0 0, .slice (some ⟨C, 0, none⟩) 0 0]) ∧ Below w.heap.size w w' := by
  have hb := heap_new w (.cells #[.string s] 65 (0, 0))
  have cS := strs26 w.heap.size s (w.alloc (.cells #[.string s] 65 (0, 0))) hb [] [] (.inl ⟨hs, rfl, rfl⟩) (by simp) (by simp) (by simp)
  have b0 : Below w.heap.size w (w.alloc (.cells #[.string s] 65 (0, 0))) := (Below.refl _ _).alloc (Nat.le_refl _) _
  have hU : w.heap.size ≤ (w.alloc (.cells #[.string s] 65 (0, 0))).heap.size := b0.size
  go_enter Try.func25, Try.ntmps25
  go_wp2_with fail
  generalize w.alloc (.cells #[.string s] 65 (0, 0)) = W0 at *
  refine cS.mono ?_
  rintro e w1 ⟨G, t, rfl, ht, u1, -, -⟩
  have b1 := b0.trans (u1.below (Nat.le_refl _) hU)
  have cU := uint_end w.heap.size t w1 u1.blk ht
  clear cS hb
  go_wp2_with fail
  refine cU.mono ?_
  rintro e w2 ⟨rfl, u2⟩
  have b2 := b1.trans (u2.below (Nat.le_refl _) b1.size)
  have hmk : (Instr.makeSlice 25 (.int .u64 0) (.int .u64 0)).run Try.prog w2 = .ok (.slice (some ⟨w2.heap.size, 0, none⟩) 0 0) (w2.alloc (.cells #[] 37)) := by
    have h := make_two (P := Try.prog) 25 37 _ 40 Try.underlying25 info37 .u64 .u64 0 (by omega) (by omega) w2
    rwa [Array.eq_empty_of_size_eq_zero (size_madeCells _ (0 * 2))] at h
  have u3 := u2.alloc (.cells #[] 37)
  have b3 := b2.alloc b2.size (.cells #[] 37)
  have cU2 := uint_end w.heap.size t _ u3.blk ht
  clear cU
  go_wp2_with fail
  generalize w2.alloc (.cells #[] 37) = W3 at *
  clear hmk
  refine wp_loop_rounds 1 ?_
  rw [rounds_succ]
  go_wp2_with fail
  refine cU2.mono ?_
  rintro e w4 ⟨rfl, u4⟩
  have b4 := b3.trans (u4.below (Nat.le_refl _) b3.size)
  have hmk : (Instr.makeSlice 26 (.int .u64 0) (.int .u64 0)).run Try.prog w4 = .ok (.slice (some ⟨w4.heap.size, 0, none⟩) 0 0) (w4.alloc (.cells #[] 41)) := by
    have h := make_two (P := Try.prog) 26 41 _ 32 Try.underlying26 info41 .u64 .u64 0 (by omega) (by omega) w4
    rwa [Array.eq_empty_of_size_eq_zero (size_madeCells _ (0 * 2))] at h
  have b5 := b4.alloc b4.size (.cells #[] 41)
  clear cU2
  go_wp2_with fail
  generalize w4.alloc (.cells #[] 41) = W5 at *
  clear hmk
  refine wp_loop_rounds 1 ?_
  rw [rounds_succ]
  go_wp2
  go_ret3
  exact ⟨_, _, _, rfl, b5⟩
end Go.Proofs.Qxb6609326a
