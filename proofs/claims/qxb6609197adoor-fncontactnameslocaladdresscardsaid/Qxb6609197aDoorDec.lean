/-
  net/netip.appendDecimal, (Addr).v4, appendTo4.
-/
import Derived.Test.Qxb6609197aDoorProg
import Derived.Test.Qxb6609197aDoorBuf
import Derived.WalkLawsBesides
import Derived.Lib.ItoaNum
namespace Go.Proofs.Qxb6609197aDoor
open Go.RowKit
theorem info5 : (Tryd.prog.info? 5).map (fun i => (i.zero, i.size, i.bytes)) = some (some (.int .u8 0), 1, 1) := by kernel_rfl

theorem idx0 (w : World) : (Instr.index 9 (.string ⟨#[48, 49, 50, 51, 52, 53, 54, 55, 56, 57, 97, 98, 99, 100, 101, 102]⟩) (.int .u8 0)).run Tryd.prog w = .ok (.int .u8 48) w := by kernel_rfl
theorem idx1 (w : World) : (Instr.index 9 (.string ⟨#[48, 49, 50, 51, 52, 53, 54, 55, 56, 57, 97, 98, 99, 100, 101, 102]⟩) (.int .u8 1)).run Tryd.prog w = .ok (.int .u8 49) w := by kernel_rfl
theorem idx2 (w : World) : (Instr.index 9 (.string ⟨#[48, 49, 50, 51, 52, 53, 54, 55, 56, 57, 97, 98, 99, 100, 101, 102]⟩) (.int .u8 2)).run Tryd.prog w = .ok (.int .u8 50) w := by kernel_rfl
theorem idx3 (w : World) : (Instr.index 9 (.string ⟨#[48, 49, 50, 51, 52, 53, 54, 55, 56, 57, 97, 98, 99, 100, 101, 102]⟩) (.int .u8 3)).run Tryd.prog w = .ok (.int .u8 51) w := by kernel_rfl
theorem idx4 (w : World) : (Instr.index 9 (.string ⟨#[48, 49, 50, 51, 52, 53, 54, 55, 56, 57, 97, 98, 99, 100, 101, 102]⟩) (.int .u8 4)).run Tryd.prog w = .ok (.int .u8 52) w := by kernel_rfl
theorem idx5 (w : World) : (Instr.index 9 (.string ⟨#[48, 49, 50, 51, 52, 53, 54, 55, 56, 57, 97, 98, 99, 100, 101, 102]⟩) (.int .u8 5)).run Tryd.prog w = .ok (.int .u8 53) w := by kernel_rfl
theorem idx6 (w : World) : (Instr.index 9 (.string ⟨#[48, 49, 50, 51, 52, 53, 54, 55, 56, 57, 97, 98, 99, 100, 101, 102]⟩) (.int .u8 6)).run Tryd.prog w = .ok (.int .u8 54) w := by kernel_rfl
theorem idx7 (w : World) : (Instr.index 9 (.string ⟨#[48, 49, 50, 51, 52, 53, 54, 55, 56, 57, 97, 98, 99, 100, 101, 102]⟩) (.int .u8 7)).run Tryd.prog w = .ok (.int .u8 55) w := by kernel_rfl
theorem idx8 (w : World) : (Instr.index 9 (.string ⟨#[48, 49, 50, 51, 52, 53, 54, 55, 56, 57, 97, 98, 99, 100, 101, 102]⟩) (.int .u8 8)).run Tryd.prog w = .ok (.int .u8 56) w := by kernel_rfl
theorem idx9 (w : World) : (Instr.index 9 (.string ⟨#[48, 49, 50, 51, 52, 53, 54, 55, 56, 57, 97, 98, 99, 100, 101, 102]⟩) (.int .u8 9)).run Tryd.prog w = .ok (.int .u8 57) w := by kernel_rfl
theorem idx (k : Int) (h0 : 0 ≤ k) (h1 : k < 10) (w : World) : (Instr.index 9 (.string ⟨#[48, 49, 50, 51, 52, 53, 54, 55, 56, 57, 97, 98, 99, 100, 101, 102]⟩) (.int .u8 k)).run Tryd.prog w = .ok (.int .u8 (48 + k)) w := by
  have : k = 0 ∨ k = 1 ∨ k = 2 ∨ k = 3 ∨ k = 4 ∨ k = 5 ∨ k = 6 ∨ k = 7 ∨ k = 8 ∨ k = 9 := by omega
  rcases this with rfl | rfl | rfl | rfl | rfl | rfl | rfl | rfl | rfl | rfl
  · exact idx0 w
  · exact idx1 w
  · exact idx2 w
  · exact idx3 w
  · exact idx4 w
  · exact idx5 w
  · exact idx6 w
  · exact idx7 w
  · exact idx8 w
  · exact idx9 w

/-- A decimal digit as a byte. -/
def dig (k : Int) : UInt8 := UInt8.ofNat (48 + k.toNat)
theorem dig_val (k : Int) (h0 : 0 ≤ k) (h1 : k < 10) : 48 + k = ((dig k).toNat : Int) := by
  unfold dig
  rw [UInt8.toNat_ofNat']
  omega
theorem dec1 (x : Int) (h0 : 0 ≤ x) (h1 : x < 10) : Lib.decDigits x.toNat = [dig (x % 10)] := by
  rw [Lib.decDigits_one (by omega)]
  unfold dig
  rw [show (x % 10).toNat = x.toNat by omega]
theorem dec2 (x : Int) (h0 : 10 ≤ x) (h1 : x < 100) : Lib.decDigits x.toNat = [dig (x / 10 % 10), dig (x % 10)] := by
  rw [Lib.decDigits_two (by omega) (by omega)]
  unfold dig
  rw [show (x % 10).toNat = x.toNat % 10 by omega, show (x / 10 % 10).toNat = x.toNat / 10 by omega]
theorem dec3 (x : Int) (h0 : 100 ≤ x) (h1 : x < 1000) : Lib.decDigits x.toNat = [dig (x / 100), dig (x / 10 % 10), dig (x % 10)] := by
  rw [Lib.decDigits, dif_neg (by omega), Lib.decDigits_two (by omega) (by omega)]
  unfold dig
  rw [show (x % 10).toNat = x.toNat % 10 by omega, show (x / 10 % 10).toNat = x.toNat / 10 % 10 by omega, show (x / 100).toNat = x.toNat / 10 / 10 by omega]
  rfl

set_option maxHeartbeats 800000 in
set_option maxRecDepth 100000 in
theorem appDec3 (B : Nat) (x : Int) (h0 : 100 ≤ x) (h1 : x < 256) (sv : Value) (l : List UInt8) (w : World) (hown : Buf 5 B w sv l) (hBw : B ≤ w.heap.size) (hlim : l.length + 3 ≤ 140737488355328) :
    Calls Tryd.prog 31 #[sv, .int .u8 x] w fun e w' => ∃ v', e = .returned v' ∧ Buf 5 B w' v' (l ++ Lib.decDigits x.toNat) ∧ Fr 5 B w w' := by
  have k1 := idx (x / 100) (by omega) (by omega)
  have k2 := idx (x / 10 % 10) (by omega) (by omega)
  have k3 := idx (x % 10) (by omega) (by omega)
  have D : Hid (Lib.decDigits x.toNat = [dig (x / 100), dig (x / 10 % 10), dig (x % 10)]) := dec3 x h0 (by omega)
  have h10 : 10 ≤ x := by omega
  go_enter Tryd.func31, Tryd.ntmps31
  go_wp2_with (first
      | (at_builtin; refine wpList_app1 rfl (.tmp 7) (.tmp 11) 35 5 rfl B Tryd.underlying35 info5 sv l rfl hown _ (dig (x / 100)) (dig_val _ (by omega) (by omega)) rfl (by omega) hBw ?_; intro v1 w1 hown1 hbel1)
      | (at_builtin; refine wpList_app1 rfl (.tmp 15) (.tmp 20) 35 5 rfl B Tryd.underlying35 info5 v1 _ rfl hown1 _ (dig (x / 10 % 10)) (dig_val _ (by omega) (by omega)) rfl (by simp; omega) (Nat.le_trans hBw hbel1.size) ?_; intro v2 w2 hown2 hbel2)
      | (at_builtin; refine wpList_app1 rfl (.tmp 22) (.tmp 26) 35 5 rfl B Tryd.underlying35 info5 v2 _ rfl hown2 _ (dig (x % 10)) (dig_val _ (by omega) (by omega)) rfl (by simp; omega) (Nat.le_trans (Nat.le_trans hBw hbel1.size) hbel2.size) ?_; intro v3 w3 hown3 hbel3))
  go_ret
  refine ⟨v3, rfl, ?_, (hbel1.trans hbel2).trans hbel3⟩
  rw [D.out]
  simpa using hown3

set_option maxHeartbeats 800000 in
set_option maxRecDepth 100000 in
theorem appDec2 (B : Nat) (x : Int) (h0 : 10 ≤ x) (h1 : x < 100) (sv : Value) (l : List UInt8) (w : World) (hown : Buf 5 B w sv l) (hBw : B ≤ w.heap.size) (hlim : l.length + 3 ≤ 140737488355328) :
    Calls Tryd.prog 31 #[sv, .int .u8 x] w fun e w' => ∃ v', e = .returned v' ∧ Buf 5 B w' v' (l ++ Lib.decDigits x.toNat) ∧ Fr 5 B w w' := by
  have k2 := idx (x / 10 % 10) (by omega) (by omega)
  have k3 := idx (x % 10) (by omega) (by omega)
  have D : Hid (Lib.decDigits x.toNat = [dig (x / 10 % 10), dig (x % 10)]) := dec2 x h0 (by omega)
  have h10 : ¬ 100 ≤ x := by omega
  go_enter Tryd.func31, Tryd.ntmps31
  go_wp2_with (first
      | (at_builtin; refine wpList_app1 rfl (.tmp 15) (.tmp 20) 35 5 rfl B Tryd.underlying35 info5 sv l rfl hown _ (dig (x / 10 % 10)) (dig_val _ (by omega) (by omega)) rfl (by omega) hBw ?_; intro v2 w2 hown2 hbel2)
      | (at_builtin; refine wpList_app1 rfl (.tmp 22) (.tmp 26) 35 5 rfl B Tryd.underlying35 info5 v2 _ rfl hown2 _ (dig (x % 10)) (dig_val _ (by omega) (by omega)) rfl (by simp; omega) (Nat.le_trans hBw hbel2.size) ?_; intro v3 w3 hown3 hbel3))
  go_ret
  refine ⟨v3, rfl, ?_, hbel2.trans hbel3⟩
  rw [D.out]
  simpa using hown3

set_option maxHeartbeats 800000 in
set_option maxRecDepth 100000 in
theorem appDec1 (B : Nat) (x : Int) (h0 : 0 ≤ x) (h1 : x < 10) (sv : Value) (l : List UInt8) (w : World) (hown : Buf 5 B w sv l) (hBw : B ≤ w.heap.size) (hlim : l.length + 3 ≤ 140737488355328) :
    Calls Tryd.prog 31 #[sv, .int .u8 x] w fun e w' => ∃ v', e = .returned v' ∧ Buf 5 B w' v' (l ++ Lib.decDigits x.toNat) ∧ Fr 5 B w w' := by
  have k3 := idx (x % 10) (by omega) (by omega)
  have D : Hid (Lib.decDigits x.toNat = [dig (x % 10)]) := dec1 x h0 (by omega)
  have h10 : ¬ 100 ≤ x := by omega
  have h11 : ¬ 10 ≤ x := by omega
  go_enter Tryd.func31, Tryd.ntmps31
  go_wp2_with (at_builtin; refine wpList_app1 rfl (.tmp 22) (.tmp 26) 35 5 rfl B Tryd.underlying35 info5 sv l rfl hown _ (dig (x % 10)) (dig_val _ (by omega) (by omega)) rfl (by omega) hBw ?_; intro v3 w3 hown3 hbel3)
  go_ret
  refine ⟨v3, rfl, ?_, hbel3⟩
  rw [D.out]
  exact hown3

/-- net/netip.appendDecimal: the decimal digits of x behind what was there. -/
theorem appDec (B : Nat) (x : Int) (h0 : 0 ≤ x) (h1 : x < 256) (sv : Value) (l : List UInt8) (w : World) (hown : Buf 5 B w sv l) (hBw : B ≤ w.heap.size) (hlim : l.length + 3 ≤ 140737488355328) :
    Calls Tryd.prog 31 #[sv, .int .u8 x] w fun e w' => ∃ v', e = .returned v' ∧ Buf 5 B w' v' (l ++ Lib.decDigits x.toNat) ∧ Fr 5 B w w' := by
  by_cases c1 : x < 10
  · exact appDec1 B x h0 c1 sv l w hown hBw hlim
  by_cases c2 : x < 100
  · exact appDec2 B x (by omega) c2 sv l w hown hBw hlim
  · exact appDec3 B x (by omega) h1 sv l w hown hBw hlim

theorem decDigits_byte_le (x : Int) (h0 : 0 ≤ x) (h1 : x < 256) : 1 ≤ (Lib.decDigits x.toNat).length ∧ (Lib.decDigits x.toNat).length ≤ 3 := by
  by_cases c1 : x < 10
  · rw [dec1 x h0 c1]; simp
  by_cases c2 : x < 100
  · rw [dec2 x (by omega) c2]; simp
  · rw [dec3 x (by omega) (by omega)]; simp

/-! (Addr).v4 -/
theorem v4_0 (h lo : Int) (z : Value) (w : World) :
    Calls Tryd.prog 32 #[.agg #[.int .u64 h, .int .u64 lo, z], .int .u8 0] w fun e w' => e = .returned (.int .u8 (lo / 16777216 % 256)) ∧ w' = w.alloc (.cells #[.int .u64 h, .int .u64 lo, z] 52) := by
  go_enter Tryd.func32, Tryd.ntmps32
  go_wp2
  go_ret
  exact ⟨rfl, rfl⟩
theorem v4_1 (h lo : Int) (z : Value) (w : World) :
    Calls Tryd.prog 32 #[.agg #[.int .u64 h, .int .u64 lo, z], .int .u8 1] w fun e w' => e = .returned (.int .u8 (lo / 65536 % 256)) ∧ w' = w.alloc (.cells #[.int .u64 h, .int .u64 lo, z] 52) := by
  go_enter Tryd.func32, Tryd.ntmps32
  go_wp2
  go_ret
  exact ⟨rfl, rfl⟩
theorem v4_2 (h lo : Int) (z : Value) (w : World) :
    Calls Tryd.prog 32 #[.agg #[.int .u64 h, .int .u64 lo, z], .int .u8 2] w fun e w' => e = .returned (.int .u8 (lo / 256 % 256)) ∧ w' = w.alloc (.cells #[.int .u64 h, .int .u64 lo, z] 52) := by
  go_enter Tryd.func32, Tryd.ntmps32
  go_wp2
  go_ret
  exact ⟨rfl, rfl⟩
theorem v4_3 (h lo : Int) (z : Value) (w : World) :
    Calls Tryd.prog 32 #[.agg #[.int .u64 h, .int .u64 lo, z], .int .u8 3] w fun e w' => e = .returned (.int .u8 (lo % 256)) ∧ w' = w.alloc (.cells #[.int .u64 h, .int .u64 lo, z] 52) := by
  go_enter Tryd.func32, Tryd.ntmps32
  go_wp2
  go_ret
  exact ⟨rfl, rfl⟩
end Go.Proofs.Qxb6609197aDoor
