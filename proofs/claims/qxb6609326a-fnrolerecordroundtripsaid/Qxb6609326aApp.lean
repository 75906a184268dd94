/-
  zzAppendUint, zzAppendStr, zzAppendStrs: what they append.
-/
import Derived.Test.Qxb6609326aArgs
namespace Go.Proofs.Qxb6609326a
open Go.RowKit

theorem info5 : (Try.prog.info? 5).map (fun i => (i.zero, i.size, i.bytes)) = some (some (.int .u8 0), 1, 1) := by kernel_rfl

theorem and127w (n : Nat) (h : n < 2097152) : bits .and .u64 (n : Int) 127 = ((n % 128 : Nat) : Int) := by
  have := u64_and_nat n 127 (by omega) (by omega)
  rw [show ((127 : Nat) : Int) = 127 from rfl] at this
  rw [this]
  have e : n &&& 127 = n % 128 := Nat.and_two_pow_sub_one_eq_mod n 7
  rw [e]
theorem or128 (n : Nat) (h : n < 128) : bits .or .u8 (n : Int) 128 = ((n + 128 : Nat) : Int) := by
  have := u8_or_nat n 128 (by omega) (by omega)
  rw [show ((128 : Nat) : Int) = 128 from rfl] at this
  rw [this]
  have e : n ||| 128 = n + 128 := by
    have := Nat.two_pow_add_eq_or_of_lt (i := 7) (b := n) (by omega) 1
    rw [show 2 ^ 7 * 1 = 128 from rfl] at this
    rw [Nat.or_comm, ← this, Nat.add_comm]
  rw [e]

set_option maxHeartbeats 1600000 in
set_option maxRecDepth 100000 in
theorem app_one (B : Nat) (v : Value) (l : List UInt8) (n : Nat) (w : World) (hb : Buf 5 B w v l) (hB : B ≤ w.heap.size) (hl : l.length ≤ 100000000) (hn : n < 128) :
    Calls Try.prog 21 #[v, .int .u64 (n : Int)] w fun e w' => ∃ v', e = .returned v' ∧ Buf 5 B w' v' (l ++ [UInt8.ofNat n]) ∧ Fr 5 B w w' := by
  have H : Hid (Buf 5 B w v l) := hb
  clear hb
  have hn' : (n : Int) < 128 := by omega
  have hw : IntKind.u8.wrap (n : Int) = n := by rw [IntKind.wrap_u8]; omega
  have hc : Hid ((n : Int) = ((UInt8.ofNat n).toNat : Int)) := by show _ = _; rw [ofNat_toNat _ (by omega)]
  go_enter Try.func21, Try.ntmps21
  go_wp2
  refine wp_loop_rounds 1 ?_
  rw [rounds_succ]
  go_wp2_with (at_builtin; refine wpList_app1 rfl (.tmp 16) (.tmp 19) 49 5 rfl B Try.underlying49 info5 v l rfl H.out _ (UInt8.ofNat n) hc.out rfl (by omega) hB ?_; intro v1 w1 hb1 hf1)
  go_ret
  exact ⟨v1, rfl, hb1, hf1⟩

/-- One round's numbers, under letters. -/
theorem round_of (n : Nat) (h : n < 2097152) : ∃ (x y : Int), bits .and .u64 (n : Int) 127 = x ∧ 0 ≤ x ∧ x < 128 ∧ bits .or .u8 x 128 = y ∧ Hid (y = ((UInt8.ofNat (n % 128 + 128)).toNat : Int)) := by
  refine ⟨_, _, and127w n h, by omega, by omega, or128 (n % 128) (by omega), ?_⟩
  show _ = _
  rw [ofNat_toNat _ (by omega)]

set_option maxHeartbeats 1600000 in
set_option maxRecDepth 100000 in
theorem app_two (B : Nat) (v : Value) (l : List UInt8) (n : Nat) (w : World) (hb : Buf 5 B w v l) (hB : B ≤ w.heap.size) (hl : l.length ≤ 100000000) (hn0 : 128 ≤ n) (hn : n < 16384) :
    Calls Try.prog 21 #[v, .int .u64 (n : Int)] w fun e w' => ∃ v', e = .returned v' ∧ Buf 5 B w' v' (l ++ [UInt8.ofNat (n % 128 + 128), UInt8.ofNat (n / 128)]) ∧ Fr 5 B w w' := by
  have H : Hid (Buf 5 B w v l) := hb
  clear hb
  have hn1 : 128 ≤ (n : Int) := by omega
  obtain ⟨x, y, a1, x0, x1, a3, hc⟩ := round_of n (by omega)
  go_enter Try.func21, Try.ntmps21
  go_wp2
  refine wp_loop_rounds 2 ?_
  rw [rounds_succ]
  go_wp2_with (at_builtin; refine wpList_app1 rfl (.tmp 7) (.tmp 12) 49 5 rfl B Try.underlying49 info5 v l rfl H.out _ (UInt8.ofNat (n % 128 + 128)) hc.out rfl (by omega) hB ?_; intro v1 w1 hb1 hf1)
  obtain ⟨z, hz⟩ : ∃ z : Int, (n : Int) / 128 = z := ⟨_, rfl⟩
  have z0 : 0 ≤ z := by omega
  have z1 : z < 128 := by omega
  have hc2 : Hid (z = ((UInt8.ofNat (n / 128)).toNat : Int)) := by show _ = _; rw [ofNat_toNat _ (by omega)]; omega
  have HB : Hid (Buf 5 B w1 v1 (l ++ [UInt8.ofNat (n % 128 + 128)])) := hb1
  have HF : Hid (Fr 5 B w w1) := hf1
  have hB1 : B ≤ w1.heap.size := Nat.le_trans hB hf1.size
  rw [hz]
  clear hb1 hf1 hz a1 a3 hc x0 x1 hn0 hn hn1 hB
  rw [rounds_succ]
  go_wp2_with (at_builtin; refine wpList_app1 rfl (.tmp 16) (.tmp 19) 49 5 rfl B Try.underlying49 info5 v1 _ rfl HB.out _ (UInt8.ofNat (n / 128)) hc2.out rfl (by simp; omega) hB1 ?_; intro v2 w2 hb2 hf2)
  go_ret
  exact ⟨v2, rfl, by rw [List.append_assoc] at hb2; exact hb2, HF.out.trans hf2⟩

set_option maxHeartbeats 1600000 in
set_option maxRecDepth 100000 in
theorem app_three (B : Nat) (v : Value) (l : List UInt8) (n : Nat) (w : World) (hb : Buf 5 B w v l) (hB : B ≤ w.heap.size) (hl : l.length ≤ 100000000) (hn0 : 16384 ≤ n) (hn : n < 2097152) :
    Calls Try.prog 21 #[v, .int .u64 (n : Int)] w fun e w' => ∃ v', e = .returned v' ∧ Buf 5 B w' v' (l ++ [UInt8.ofNat (n % 128 + 128), UInt8.ofNat (n / 128 % 128 + 128), UInt8.ofNat (n / 16384)]) ∧ Fr 5 B w w' := by
  have H : Hid (Buf 5 B w v l) := hb
  clear hb
  have hn1 : 128 ≤ (n : Int) := by omega
  obtain ⟨x, y, a1, x0, x1, a3, hc⟩ := round_of n (by omega)
  obtain ⟨x', y', a1', x0', x1', a3', hc'⟩ := round_of (n / 128) (by omega)
  obtain ⟨z, hz⟩ : ∃ z : Int, (n : Int) / 128 = z := ⟨_, rfl⟩
  have hz' : ((n / 128 : Nat) : Int) = z := by omega
  rw [hz'] at a1'
  have A1' : Hid (bits .and .u64 z 127 = x') := a1'
  have z0 : 128 ≤ z := by omega
  have z1 : z < 16384 := by omega
  obtain ⟨q, hq⟩ : ∃ q : Int, z / 128 = q := ⟨_, rfl⟩
  have q0 : 0 ≤ q := by omega
  have q1 : q < 128 := by omega
  have hc3 : Hid (q = ((UInt8.ofNat (n / 16384)).toNat : Int)) := by show _ = _; rw [ofNat_toNat _ (by omega)]; omega
  have HZ : Hid ((n : Int) / 128 = z) := hz
  have HQ : Hid (z / 128 = q) := hq
  clear hz hz' hq a1' 
  go_enter Try.func21, Try.ntmps21
  go_wp2
  refine wp_loop_rounds 3 ?_
  rw [rounds_succ]
  go_wp2_with (at_builtin; refine wpList_app1 rfl (.tmp 7) (.tmp 12) 49 5 rfl B Try.underlying49 info5 v l rfl H.out _ (UInt8.ofNat (n % 128 + 128)) hc.out rfl (by omega) hB ?_; intro v1 w1 hb1 hf1)
  have HB : Hid (Buf 5 B w1 v1 (l ++ [UInt8.ofNat (n % 128 + 128)])) := hb1
  have HF : Hid (Fr 5 B w w1) := hf1
  have hB1 : B ≤ w1.heap.size := Nat.le_trans hB hf1.size
  rw [HZ.out]
  clear hb1 hf1 HZ a1 a3 hc x0 x1 hn0 hn hn1 hB
  have a1' := A1'.out
  rw [rounds_succ]
  go_wp2_with (at_builtin; refine wpList_app1 rfl (.tmp 7) (.tmp 12) 49 5 rfl B Try.underlying49 info5 v1 _ rfl HB.out _ (UInt8.ofNat (n / 128 % 128 + 128)) hc'.out rfl (by simp; omega) hB1 ?_; intro v2 w2 hb2 hf2)
  have HB2 : Hid (Buf 5 B w2 v2 (l ++ [UInt8.ofNat (n % 128 + 128)] ++ [UInt8.ofNat (n / 128 % 128 + 128)])) := hb2
  have HF2 : Hid (Fr 5 B w w2) := HF.out.trans hf2
  have hB2 : B ≤ w2.heap.size := Nat.le_trans hB1 hf2.size
  rw [HQ.out]
  clear hb2 hf2 HQ a1' A1' a3' hc' x0' x1' z0 z1 hB1 HB HF
  rw [rounds_succ]
  go_wp2_with (at_builtin; refine wpList_app1 rfl (.tmp 16) (.tmp 19) 49 5 rfl B Try.underlying49 info5 v2 _ rfl HB2.out _ (UInt8.ofNat (n / 16384)) hc3.out rfl (by simp; omega) hB2 ?_; intro v3 w3 hb3 hf3)
  go_ret
  exact ⟨v3, rfl, by rw [List.append_assoc, List.append_assoc] at hb3; exact hb3, HF2.out.trans hf3⟩

/-- zzAppendUint. -/
theorem app21 (B : Nat) (v : Value) (l : List UInt8) (n : Nat) (w : World) (hb : Buf 5 B w v l) (hB : B ≤ w.heap.size) (hl : l.length ≤ 100000000) (hn : n < 2097152) :
    Calls Try.prog 21 #[v, .int .u64 (n : Int)] w fun e w' => ∃ v', e = .returned v' ∧ Buf 5 B w' v' (l ++ encU n) ∧ Fr 5 B w w' := by
  unfold encU
  split
  · exact app_one B v l n w hb hB hl (by omega)
  · split
    · exact app_two B v l n w hb hB hl (by omega) (by omega)
    · exact app_three B v l n w hb hB hl (by omega) hn
end Go.Proofs.Qxb6609326a
