/-
  dropXMLSpace, countWordRuns, the bound on the length.
-/
import Derived.Test.Qxb6609200aModel
import Derived.Test.Qxb6609200aSingle
namespace Go.Proofs.Qxb6609200a
open Go.RowKit

theorem dropL_snoc (l : List UInt8) (b : UInt8) : dropL (l ++ [b]) = if sp b then dropL l else dropL l ++ [b] := by
  unfold dropL
  rw [List.filter_append]
  cases h : sp b <;> simp [h]

set_option maxHeartbeats 4000000 in
set_option maxRecDepth 100000 in
theorem drop9 (s : ByteArray) (hs : s.size ≤ 4194304) (w : World) :
    Calls Try.prog 9 #[.string s] w fun e w' => e = .returned (.string ⟨(dropL s.data.toList).toArray⟩) ∧ Below w.heap.size w w' := by
  obtain ⟨i0, hi, hz0, hz1, hz2⟩ := info_parts info5
  obtain ⟨W0, hmk, hown0, hg0⟩ := run_make_own (P := Try.prog) w w.heap.size 25 5 i0 _ 1 Try.underlying25 hi hz0 hz1 .i64 .i64 s.size (by rw [hz2]; omega) (by unfold maxLen; omega) (Nat.le_refl _)
  have hF0 : Fr 5 w.heap.size w W0 := ⟨(Below.refl _ w).grown hg0 (Nat.le_refl _) (by simp), (Lib.OthersKept.refl 5 none w).grown hg0 (by simp)⟩
  have hB0 : Buf 5 w.heap.size W0 (.slice (some ⟨w.heap.size, 0, none⟩) 0 s.size) [] := hown0
  clear hown0 hg0 hi hz0 hz1 hz2
  go_enter Try.func9, Try.ntmps9
  go_wp2
  clear hmk
  go_loopw [3, 4] (fun v i wr => ∃ (k : Nat) (l : List UInt8), k ≤ s.size ∧ i = .int .i64 k ∧ Hid (dropL (s.data.toList.take k) = l) ∧ l.length ≤ k ∧ Buf 5 w.heap.size wr v l ∧ Fr 5 w.heap.size w wr) (fun _ i _ => s.size - (intOf i).toNat)
  case atStart => exact ⟨0, [], Nat.zero_le _, rfl, rfl, Nat.zero_le _, hB0, hF0⟩
  case round =>
    obtain ⟨k, l, hk, rfl, HC, hlen, hbuf, hfr⟩ := hrel
    clear hB0 hF0
    by_cases hlt : k < s.size
    · have ST : Hid (dropL (s.data.toList.take (k + 1)) = if sp s[k] then l else l ++ [s[k]]) := by
        show _ = _
        rw [take_snoc s k hlt, dropL_snoc, HC.out]
      by_cases hsp : sp s[k] = true
      · have N : Hid (dropL (s.data.toList.take (k + 1)) = l) := by
          show _ = _
          rw [ST.out, if_pos hsp]
        clear ST HC
        go_wp2_with (go_at_call 12; refine (isSp12 _ _).mono ?_; rintro e w' ⟨rfl, rfl⟩)
        go_roundw
        case rel => exact ⟨k + 1, l, by omega, by go_num, N, by omega, hbuf, hfr⟩
        case measure => simp [intOf]; omega
      · have hsp' : sp s[k] = false := by simpa using hsp
        have N : Hid (dropL (s.data.toList.take (k + 1)) = l ++ [s[k]]) := by
          show _ = _
          rw [ST.out, if_neg hsp]
        clear ST HC hsp
        go_wp2_with (first
          | (go_at_call 12; refine (isSp12 _ _).mono ?_; rintro e w' ⟨rfl, rfl⟩)
          | (at_builtin; refine wpList_app1 rfl (.tmp 19) (.tmp 23) 25 5 rfl w.heap.size Try.underlying25 info5 _ l rfl hbuf _ s[k] rfl rfl (by omega) hfr.size ?_; intro v1 w1 hb1 hf1))
        go_roundw
        case rel => exact ⟨k + 1, l ++ [s[k]], by omega, by go_num, N, by simp; omega, hb1, hfr.trans hf1⟩
        case measure => simp [intOf]; omega
    · have hs2 := hbuf.run_string 25 9 Try.underlying25 Try.underlying5 Try.underlying9
      have N : Hid (l = dropL s.data.toList) := by
        show _ = _
        rw [← HC.out, List.take_of_length_le (by simp; omega)]
      clear HC
      go_wp2
      go_ret
      exact ⟨by rw [N.out]; rfl, hfr.1⟩

set_option maxHeartbeats 1600000 in
set_option maxRecDepth 100000 in
theorem runs10 (s : ByteArray) (hs : s.size ≤ 4194304) (w : World) :
    Calls Try.prog 10 #[.string s] w fun e w' => e = .returned (.int .i64 ((words s.data.toList).length : Int)) ∧ w' = w := by
  go_enter Try.func10, Try.ntmps10
  go_wp2
  go_loop [3, 4, 5] (fun r p i => ∃ (k n : Nat) (pd : Bool), k ≤ s.size ∧ i = .int .i64 k ∧ r = .int .i64 n ∧ p = .bool pd ∧ Hid (crS (s.data.toList.take k) = (n, pd)) ∧ n ≤ k) (fun _ _ i => s.size - (intOf i).toNat)
  case atStart => exact ⟨0, 0, false, Nat.zero_le _, rfl, rfl, rfl, rfl, Nat.le_refl _⟩
  case round =>
    obtain ⟨k, n, pd, hk, rfl, rfl, rfl, HC, hn⟩ := hrel
    by_cases hlt : k < s.size
    · have ST : Hid (crS (s.data.toList.take (k + 1)) = crStep (n, pd) s[k]) := by
        show _ = _
        rw [take_snoc s k hlt, crS_snoc, HC.out]
      by_cases hsp : sp s[k] = true
      · have N : Hid (crS (s.data.toList.take (k + 1)) = (n, false)) := by
          show _ = _
          rw [ST.out, crStep, if_pos hsp]
        clear ST HC
        go_wp2_with (go_at_call 12; refine (isSp12 _ _).mono ?_; rintro e w' ⟨rfl, rfl⟩)
        go_round
        case rel => exact ⟨k + 1, n, false, by omega, by go_num, rfl, rfl, N, by omega⟩
        case measure => simp [intOf]; omega
      · have hsp' : sp s[k] = false := by simpa using hsp
        cases pd
        · have N : Hid (crS (s.data.toList.take (k + 1)) = (n + 1, true)) := by
            show _ = _
            rw [ST.out, crStep, if_neg hsp]
            simp
          clear ST HC hsp
          go_wp2_with (go_at_call 12; refine (isSp12 _ _).mono ?_; rintro e w' ⟨rfl, rfl⟩)
          go_round
          case rel => exact ⟨k + 1, n + 1, true, by omega, by go_num, by go_num, rfl, N, by omega⟩
          case measure => simp [intOf]; omega
        · have N : Hid (crS (s.data.toList.take (k + 1)) = (n, true)) := by
            show _ = _
            rw [ST.out, crStep, if_neg hsp]
            simp
          clear ST HC hsp
          go_wp2_with (go_at_call 12; refine (isSp12 _ _).mono ?_; rintro e w' ⟨rfl, rfl⟩)
          go_round
          case rel => exact ⟨k + 1, n, true, by omega, by go_num, rfl, rfl, N, by omega⟩
          case measure => simp [intOf]; omega
    · have N : Hid (n = (words s.data.toList).length) := by
        show _ = _
        rw [← cr_eq, ← List.take_of_length_le (l := s.data.toList) (i := k) (by simp; omega), HC.out]
      clear HC
      go_wp2
      go_ret
      exact ⟨by rw [← N.out]; rfl, rfl⟩

set_option maxHeartbeats 800000 in
theorem bytes8 (s : ByteArray) (hs : s.size ≤ maxLen) (w : World) : Calls Try.prog 8 #[.string s] w fun e w' => e = .returned (.bool (decide (s.size ≤ 1048576))) ∧ w' = w := by
  unfold maxLen at hs
  by_cases h : s.size ≤ 1048576
  · have h1 : ¬ (1048576 : Int) < (s.size : Int) := by omega
    go_enter Try.func8, Try.ntmps8
    go_wp2
    go_ret
    exact ⟨rfl, rfl⟩
  · have h1 : (1048576 : Int) < (s.size : Int) := by omega
    go_enter Try.func8, Try.ntmps8
    go_wp2
    go_ret
    exact ⟨by rw [decide_eq_false h]; rfl, rfl⟩
end Go.Proofs.Qxb6609200a
