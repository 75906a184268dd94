/-
  isXMLSpaceByte, collapseModel, and the law that collapse is the one-pass model.
-/
import Derived.Test.Qxb6609200aCollapse
import Derived.Test.Qxb6609200aBuf
import Derived.Laws.MakeOwn
namespace Go.Proofs.Qxb6609200a
open Go.RowKit

theorem info5 : (Try.prog.info? 5).map (fun i => (i.zero, i.size, i.bytes)) = some (some (.int .u8 0), 1, 1) := by kernel_rfl

/-- isXMLSpaceByte. -/
theorem isSp12 (b : UInt8) (w : World) : Calls Try.prog 12 #[.int .u8 (b.toNat : Int)] w fun e w' => e = .returned (.bool (sp b)) ∧ w' = w := by
  have E : Hid (sp b = spN b.toNat) := rfl
  generalize sp b = r at *
  generalize b.toNat = x at *
  by_cases h1 : x = 32
  · subst h1
    go_enter Try.func12, Try.ntmps12
    go_wp2
    go_ret
    exact ⟨by rw [E.out]; rfl, rfl⟩
  by_cases h2 : x = 9
  · subst h2
    go_enter Try.func12, Try.ntmps12
    go_wp2
    go_ret
    exact ⟨by rw [E.out]; rfl, rfl⟩
  by_cases h3 : x = 13
  · subst h3
    go_enter Try.func12, Try.ntmps12
    go_wp2
    go_ret
    exact ⟨by rw [E.out]; rfl, rfl⟩
  by_cases h4 : x = 10
  · subst h4
    go_enter Try.func12, Try.ntmps12
    go_wp2
    go_ret
    exact ⟨by rw [E.out]; rfl, rfl⟩
  · have g1 : ((x : Int) == 32) = false := by rw [beq_eq_false_iff_ne]; omega
    have g2 : ((x : Int) == 9) = false := by rw [beq_eq_false_iff_ne]; omega
    have g3 : ((x : Int) == 13) = false := by rw [beq_eq_false_iff_ne]; omega
    have g4 : ((x : Int) == 10) = false := by rw [beq_eq_false_iff_ne]; omega
    have E2 : Hid (r = false) := by
      show r = false
      rw [E.out]
      simp [spN, h1, h2, h3, h4]
    clear h1 h2 h3 h4
    go_enter Try.func12, Try.ntmps12
    go_wp2
    go_ret
    exact ⟨by rw [E2.out]; rfl, rfl⟩

theorem take_snoc (s : ByteArray) (k : Nat) (h : k < s.size) : s.data.toList.take (k + 1) = s.data.toList.take k ++ [s[k]] := by
  rw [List.take_succ_eq_append_getElem (by simpa using h)]; rfl

set_option maxHeartbeats 4000000 in
set_option maxRecDepth 100000 in
/-- collapseModel: the one-pass model. -/
theorem model7 (s : ByteArray) (hs : s.size ≤ 4194304) (w : World) :
    Calls Try.prog 7 #[.string s] w fun e w' => e = .returned (.string ⟨(colL s.data.toList).toArray⟩) ∧ Below w.heap.size w w' := by
  obtain ⟨i0, hi, hz0, hz1, hz2⟩ := info_parts info5
  obtain ⟨W0, hmk, hown0, hg0⟩ := run_make_own (P := Try.prog) w w.heap.size 25 5 i0 _ 1 Try.underlying25 hi hz0 hz1 .i64 .i64 s.size (by rw [hz2]; omega) (by unfold maxLen; omega) (Nat.le_refl _)
  have hF0 : Fr 5 w.heap.size w W0 := ⟨(Below.refl _ w).grown hg0 (Nat.le_refl _) (by simp), (Lib.OthersKept.refl 5 none w).grown hg0 (by simp)⟩
  have hB0 : Buf 5 w.heap.size W0 (.slice (some ⟨w.heap.size, 0, none⟩) 0 s.size) [] := hown0
  clear hown0 hg0 hi hz0 hz1 hz2
  go_enter Try.func7, Try.ntmps7
  go_wp2
  clear hmk
  go_loopw [3, 4, 5] (fun v p i wr => ∃ (k : Nat) (l : List UInt8) (pd : Bool), k ≤ s.size ∧ i = .int .i64 k ∧ p = .bool pd ∧ Hid (cmS (s.data.toList.take k) = (l, pd)) ∧ l.length ≤ 2 * k ∧ Buf 5 w.heap.size wr v l ∧ Fr 5 w.heap.size w wr) (fun _ _ i _ => s.size - (intOf i).toNat)
  case atStart => exact ⟨0, [], false, Nat.zero_le _, rfl, rfl, rfl, Nat.zero_le _, hB0, hF0⟩
  case round =>
    obtain ⟨k, l, pd, hk, rfl, rfl, HC, hlen, hbuf, hfr⟩ := hrel
    clear hB0 hF0
    by_cases hlt : k < s.size
    · have ST : Hid (cmS (s.data.toList.take (k + 1)) = cmStep (l, pd) s[k]) := by
        show _ = _
        rw [take_snoc s k hlt, cmS_snoc, HC.out]
      by_cases hsp : sp s[k] = true
      · obtain ⟨ad, cap, rfl⟩ := hbuf.run_len
        by_cases hl0 : l = []
        · subst hl0
          have N : Hid (cmS (s.data.toList.take (k + 1)) = ([], pd)) := by
            show _ = _
            rw [ST.out, cmStep, if_pos hsp]
            simp
          clear ST HC
          go_wp2_with (go_at_call 12; refine (isSp12 _ _).mono ?_; rintro e w' ⟨rfl, rfl⟩)
          go_roundw
          case rel => exact ⟨k + 1, [], pd, by omega, by go_num, rfl, N, by simp, hbuf, hfr⟩
          case measure => simp [intOf]; omega
        · have hpos : (0 : Int) < (l.length : Int) := by
            have := List.length_pos_iff.2 hl0
            omega
          have N : Hid (cmS (s.data.toList.take (k + 1)) = (l, true)) := by
            show _ = _
            rw [ST.out, cmStep, if_pos hsp]
            simp [hl0]
          clear ST HC hl0
          go_wp2_with (go_at_call 12; refine (isSp12 _ _).mono ?_; rintro e w' ⟨rfl, rfl⟩)
          go_roundw
          case rel => exact ⟨k + 1, l, true, by omega, by go_num, rfl, N, by omega, hbuf, hfr⟩
          case measure => simp [intOf]; omega
      · have hsp' : sp s[k] = false := by simpa using hsp
        cases pd
        · have N : Hid (cmS (s.data.toList.take (k + 1)) = (l ++ [s[k]], false)) := by
            show _ = _
            rw [ST.out, cmStep, if_neg hsp]
            simp
          clear ST HC hsp
          go_wp2_with (first
            | (go_at_call 12; refine (isSp12 _ _).mono ?_; rintro e w' ⟨rfl, rfl⟩)
            | (at_builtin; refine wpList_app1 rfl (.tmp 28) (.tmp 30) 25 5 rfl w.heap.size Try.underlying25 info5 _ l rfl hbuf _ s[k] rfl rfl (by omega) hfr.size ?_; intro v1 w1 hb1 hf1))
          go_roundw
          case rel => exact ⟨k + 1, l ++ [s[k]], false, by omega, by go_num, rfl, N, by simp; omega, hb1, hfr.trans hf1⟩
          case measure => simp [intOf]; omega
        · have N : Hid (cmS (s.data.toList.take (k + 1)) = (l ++ [32] ++ [s[k]], false)) := by
            show _ = _
            rw [ST.out, cmStep, if_neg hsp]
            simp
          clear ST HC hsp
          go_wp2_with (first
            | (go_at_call 12; refine (isSp12 _ _).mono ?_; rintro e w' ⟨rfl, rfl⟩)
            | (at_builtin; refine wpList_app1 rfl (.tmp 25) (.tmp 26) 25 5 rfl w.heap.size Try.underlying25 info5 _ l rfl hbuf 32 32 rfl rfl (by omega) hfr.size ?_; intro v1 w1 hb1 hf1)
            | (at_builtin; refine wpList_app1 rfl (.tmp 28) (.tmp 30) 25 5 rfl w.heap.size Try.underlying25 info5 v1 (l ++ [32]) rfl hb1 _ s[k] rfl rfl (by simp; omega) (hfr.trans hf1).size ?_; intro v2 w2 hb2 hf2))
          go_roundw
          case rel => exact ⟨k + 1, l ++ [32] ++ [s[k]], false, by omega, by go_num, rfl, N, by simp; omega, hb2, (hfr.trans hf1).trans hf2⟩
          case measure => simp [intOf]; omega
    · have hks : k = s.size := by omega
      have hs2 := hbuf.run_string 25 9 Try.underlying25 Try.underlying5 Try.underlying9
      have N : Hid (l = colL s.data.toList) := by
        show _ = _
        rw [← cm_eq, ← List.take_of_length_le (l := s.data.toList) (i := k) (by simp; omega), HC.out]
      clear HC hks
      go_wp2
      go_ret
      exact ⟨by rw [N.out]; rfl, hfr.1⟩

set_option maxHeartbeats 800000 in
theorem bytes5 (s : ByteArray) (hs : s.size ≤ maxLen) (w : World) : Calls Try.prog 5 #[.string s] w fun e w' => e = .returned (.bool (decide (s.size ≤ 1048576))) ∧ w' = w := by
  unfold maxLen at hs
  by_cases h : s.size ≤ 1048576
  · have h1 : ¬ (1048576 : Int) < (s.size : Int) := by omega
    go_enter Try.func5, Try.ntmps5
    go_wp2
    go_ret
    exact ⟨rfl, rfl⟩
  · have h1 : (1048576 : Int) < (s.size : Int) := by omega
    go_enter Try.func5, Try.ntmps5
    go_wp2
    go_ret
    exact ⟨by rw [decide_eq_false h]; rfl, rfl⟩

set_option maxHeartbeats 800000 in
theorem law3 (s : ByteArray) (hs : s.size ≤ maxLen) (w : World) : Calls Try.prog 3 #[.string s] w fun e w' => e = .returned (.bool true) ∧ Below w.heap.size w w' := by
  by_cases h : s.size ≤ 1048576
  · have h1 : ¬ (1048576 : Int) < (s.size : Int) := by omega
    have B := bytes5 s hs
    rw [decide_eq_true h] at B
    have HB : Hid (∀ w : World, Calls Try.prog 5 #[.string s] w fun e w' => e = .returned (.bool true) ∧ w' = w) := B
    clear B
    go_enter Try.func3, Try.ntmps3
    go_wp2_with fail
    refine (HB.out _).mono ?_
    rintro e w' ⟨rfl, rfl⟩
    go_wp2_with fail
    refine (collapse6 s (by omega) _).mono ?_
    rintro e w1 ⟨rfl, hb1⟩
    go_wp2_with fail
    refine (model7 s (by omega) _).mono ?_
    rintro e w2 ⟨rfl, hb2⟩
    go_wp2
    go_ret
    exact ⟨by simp, hb1.trans (hb2.mono hb1.size)⟩
  · have B := bytes5 s hs
    rw [decide_eq_false h] at B
    have HB : Hid (∀ w : World, Calls Try.prog 5 #[.string s] w fun e w' => e = .returned (.bool false) ∧ w' = w) := B
    clear B
    go_enter Try.func3, Try.ntmps3
    go_wp2_with fail
    refine (HB.out _).mono ?_
    rintro e w' ⟨rfl, rfl⟩
    go_wp2
    go_ret
    exact ⟨rfl, Below.refl _ _⟩
end Go.Proofs.Qxb6609200a
