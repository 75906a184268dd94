/-
  The walk of FnContactParsesBackToLocal, over what its callees answer.
-/
import Derived.Test.Qxb6609197aDoorStr
import Derived.WalkKit
import Derived.WalkSpells
import Derived.WalkLawsBesides
namespace Go.Proofs.Qxb6609197aDoor
open Go.RowKit

theorem eq22 (a b c d : Int) (w : World) : (Op.equalIn 10000 22 (.agg #[.int .u8 a, .int .u8 b, .int .u8 c, .int .u8 d]) (.agg #[.int .u8 a, .int .u8 b, .int .u8 c, .int .u8 d])).run Tryd.prog w = .ok true w := by
  have u5 := Tryd.underlying5
  have a5 := Tryd.isAgg5
  have z5 := Tryd.sizeOf5
  rw [show (10000 : Nat) = 9999 + 1 from rfl, Op.equalIn]
  simp only [Sem.run_bind, run_underlying Tryd.underlying22, Result.andThen_ok]
  simp only [Std.Legacy.Range.forIn_eq_forIn_range', Std.Legacy.Range.size, Nat.sub_zero, Nat.add_sub_cancel, Nat.div_one, List.range'_succ, List.range'_zero, List.forIn_cons, List.forIn_nil]
  go_simp

set_option maxHeartbeats 4000000 in
set_option maxRecDepth 100000 in
theorem law4 (a b c d port : Int) (w : World) (ha : 0 ≤ a ∧ a < 256) (hb : 0 ≤ b ∧ b < 256) (hc : 0 ≤ c ∧ c < 256) (hd : 0 ≤ d ∧ d < 256) (hp0 : 0 ≤ port) (hp1 : port < 65536)
    (s : ByteArray) (j0 j1 j2 j3 j4 : Nat) (z0 : 15 < j0) (z1 : j0 < j1) (z2 : j1 < j2) (z3 : j2 < j3) (z4 : j3 < j4) (z5 : j4 < s.size) (y0 : 25 ≤ s.size) (y1 : s.size ≤ 37)
    (zz : ∀ W, Below w.heap.size w W → Calls Tryd.prog 6 #[.agg #[.int .u8 a, .int .u8 b, .int .u8 c, .int .u8 d], .int .u16 port] W fun e w' => e = .returned (.string s) ∧ Below W.heap.size W w')
    (p0 : ∀ W, Calls Tryd.prog 8 #[.string s, .int .i64 15, .int .u64 255] W fun e w' => e = .returned (.tuple #[.int .u64 a, .int .i64 j0, .bool true]) ∧ w' = W)
    (p1 : ∀ W, Calls Tryd.prog 8 #[.string s, .int .i64 ((j0 : Int) + 1), .int .u64 255] W fun e w' => e = .returned (.tuple #[.int .u64 b, .int .i64 j1, .bool true]) ∧ w' = W)
    (p2 : ∀ W, Calls Tryd.prog 8 #[.string s, .int .i64 ((j1 : Int) + 1), .int .u64 255] W fun e w' => e = .returned (.tuple #[.int .u64 c, .int .i64 j2, .bool true]) ∧ w' = W)
    (p3 : ∀ W, Calls Tryd.prog 8 #[.string s, .int .i64 ((j2 : Int) + 1), .int .u64 255] W fun e w' => e = .returned (.tuple #[.int .u64 d, .int .i64 j3, .bool true]) ∧ w' = W)
    (p4 : ∀ W, Calls Tryd.prog 8 #[.string s, .int .i64 ((j3 : Int) + 1), .int .u64 65535] W fun e w' => e = .returned (.tuple #[.int .u64 port, .int .i64 j4, .bool true]) ∧ w' = W)
    (hx : ((s.extract 0 15).toList == [60, 115, 105, 112, 58, 114, 105, 110, 103, 98, 101, 110, 99, 104, 64]) = true)
    (x0 : (((s[j0]'(by omega)).toNat : Int) != 46) = false) (x1 : (((s[j1]'(by omega)).toNat : Int) != 46) = false) (x2 : (((s[j2]'(by omega)).toNat : Int) != 46) = false)
    (x3 : (((s[j3]'(by omega)).toNat : Int) != 58) = false) (x4 : (((s[j4]'(by omega)).toNat : Int) != 62) = false) (x5 : ((j4 : Int) != (s.size : Int) - 1) = false) :
    Calls Tryd.prog 4 #[.agg #[.int .u8 a, .int .u8 b, .int .u8 c, .int .u8 d], .int .u16 port] w fun e w' => e = .returned (.bool true) ∧ Below w.heap.size w w' := by
  have ZZ : Hid (∀ W, Below w.heap.size w W → Calls Tryd.prog 6 #[.agg #[.int .u8 a, .int .u8 b, .int .u8 c, .int .u8 d], .int .u16 port] W fun e w' => e = .returned (.string s) ∧ Below W.heap.size W w') := zz
  have P0 : Hid (∀ W, Calls Tryd.prog 8 #[.string s, .int .i64 15, .int .u64 255] W fun e w' => e = .returned (.tuple #[.int .u64 a, .int .i64 j0, .bool true]) ∧ w' = W) := p0
  have P1 : Hid (∀ W, Calls Tryd.prog 8 #[.string s, .int .i64 ((j0 : Int) + 1), .int .u64 255] W fun e w' => e = .returned (.tuple #[.int .u64 b, .int .i64 j1, .bool true]) ∧ w' = W) := p1
  have P2 : Hid (∀ W, Calls Tryd.prog 8 #[.string s, .int .i64 ((j1 : Int) + 1), .int .u64 255] W fun e w' => e = .returned (.tuple #[.int .u64 c, .int .i64 j2, .bool true]) ∧ w' = W) := p2
  have P3 : Hid (∀ W, Calls Tryd.prog 8 #[.string s, .int .i64 ((j2 : Int) + 1), .int .u64 255] W fun e w' => e = .returned (.tuple #[.int .u64 d, .int .i64 j3, .bool true]) ∧ w' = W) := p3
  have P4 : Hid (∀ W, Calls Tryd.prog 8 #[.string s, .int .i64 ((j3 : Int) + 1), .int .u64 65535] W fun e w' => e = .returned (.tuple #[.int .u64 port, .int .i64 j4, .bool true]) ∧ w' = W) := p4
  clear zz p0 p1 p2 p3 p4
  have t0 : ¬ (s.size : Int) ≤ (j0 : Int) := by omega
  have t1 : ¬ (s.size : Int) ≤ (j1 : Int) := by omega
  have t2 : ¬ (s.size : Int) ≤ (j2 : Int) := by omega
  have t3 : ¬ (s.size : Int) ≤ (j3 : Int) := by omega
  go_enter Tryd.func4, Tryd.ntmps4
  go_wp2_with fail
  refine (ZZ.out _ ((Below.refl _ _).alloc (Nat.le_refl _) _)).mono ?_
  rintro e w1 ⟨rfl, hb1⟩
  go_wp2_with fail
  refine wp_loop_rounds 5 ?_
  rw [rounds_succ]
  go_wp2_with fail
  refine (P0.out _).mono ?_
  rintro e w' ⟨rfl, rfl⟩
  go_wp2_with fail
  rw [rounds_succ]
  go_wp2_with fail
  refine (P1.out _).mono ?_
  rintro e w' ⟨rfl, rfl⟩
  go_wp2_with fail
  rw [rounds_succ]
  go_wp2_with fail
  refine (P2.out _).mono ?_
  rintro e w' ⟨rfl, rfl⟩
  go_wp2_with fail
  rw [rounds_succ]
  go_wp2_with fail
  refine (P3.out _).mono ?_
  rintro e w' ⟨rfl, rfl⟩
  go_wp2_with fail
  rw [rounds_succ]
  go_wp2_with fail
  refine (P4.out _).mono ?_
  rintro e w' ⟨rfl, rfl⟩
  have n1 : w1.heap[w.heap.size]? = some (.cells #[.int .u8 a, .int .u8 b, .int .u8 c, .int .u8 d] 22) := (hb1.block w.heap.size (by simp)).trans (heap_new w _)
  have k0 := fun O => cell_alloc (cell_of_block n1 (j := 0) rfl) O
  have k1 := fun O => cell_alloc (cell_of_block n1 (j := 1) rfl) O
  have k2 := fun O => cell_alloc (cell_of_block n1 (j := 2) rfl) O
  have k3 := fun O => cell_alloc (cell_of_block n1 (j := 3) rfl) O
  have hsz := hb1.size
  rw [World.size_alloc] at hsz
  have e22 := eq22 a b c d
  go_wp2
  go_ret
  exact ⟨rfl, (((Below.refl _ w).alloc (Nat.le_refl _) _).trans (hb1.mono (by simp))).alloc (by omega) _⟩
end Go.Proofs.Qxb6609197aDoor
