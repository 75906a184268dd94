/-
  The walk of FnCollapseLeavesSingleSpacesAndIsIdempotent.
-/
import Derived.Test.Qxb6609200aDrop
namespace Go.Proofs.Qxb6609200a
open Go.RowKit

theorem spcs_snoc (l : List UInt8) (b : UInt8) : spcs (l ++ [b]) = spcs l + if b = 32 then 1 else 0 := by
  rw [spcs_append]
  congr 1
  unfold spcs
  by_cases h : b = 32 <;> simp [h]
theorem spcs_le (l : List UInt8) : spcs l ≤ l.length := List.length_filter_le _ _

set_option maxHeartbeats 4000000 in
set_option maxRecDepth 100000 in
theorem single_walk (s c d : ByteArray) (n : Nat) (w : World) (hs : s.size ≤ 1048576) (hc : c.size ≤ 2097152) (hn : n ≤ 2097152)
    (f8 : ∀ W, Calls Try.prog 8 #[.string s] W fun e w' => e = .returned (.bool true) ∧ w' = W)
    (f6s : ∀ W, Calls Try.prog 6 #[.string s] W fun e w' => e = .returned (.string c) ∧ Below W.heap.size W w')
    (f6c : ∀ W, Calls Try.prog 6 #[.string c] W fun e w' => e = .returned (.string c) ∧ Below W.heap.size W w')
    (f9s : ∀ W, Calls Try.prog 9 #[.string s] W fun e w' => e = .returned (.string d) ∧ Below W.heap.size W w')
    (f9c : ∀ W, Calls Try.prog 9 #[.string c] W fun e w' => e = .returned (.string d) ∧ Below W.heap.size W w')
    (f10 : ∀ W, Calls Try.prog 10 #[.string s] W fun e w' => e = .returned (.int .i64 (n : Int)) ∧ w' = W)
    (first : ∀ h : 0 < c.size, (((c[0]'h).toNat : Int) == 32) = false) (last : ∀ h : c.size - 1 < c.size, (((c[c.size - 1]'h).toNat : Int) == 32) = false)
    (t9 : ∀ k (h : k < c.size), (((c[k]'h).toNat : Int) == 9) = false) (t13 : ∀ k (h : k < c.size), (((c[k]'h).toNat : Int) == 13) = false) (t10 : ∀ k (h : k < c.size), (((c[k]'h).toNat : Int) == 10) = false)
    (adj : ∀ k (h : k + 1 < c.size), (((c[k + 1]'h).toNat : Int) == 32) = true → (((c[k]'(by omega)).toNat : Int) == 32) = false)
    (fin0 : n = 0 → c.size = 0) (fin1 : n ≠ 0 → spcs c.data.toList + 1 = n) :
    Calls Try.prog 4 #[.string s] w fun e w' => e = .returned (.bool true) ∧ Below w.heap.size w w' := by
  have F8 : Hid (∀ W, Calls Try.prog 8 #[.string s] W fun e w' => e = .returned (.bool true) ∧ w' = W) := f8
  have F6s : Hid (∀ W, Calls Try.prog 6 #[.string s] W fun e w' => e = .returned (.string c) ∧ Below W.heap.size W w') := f6s
  have F6c : Hid (∀ W, Calls Try.prog 6 #[.string c] W fun e w' => e = .returned (.string c) ∧ Below W.heap.size W w') := f6c
  have F9s : Hid (∀ W, Calls Try.prog 9 #[.string s] W fun e w' => e = .returned (.string d) ∧ Below W.heap.size W w') := f9s
  have F9c : Hid (∀ W, Calls Try.prog 9 #[.string c] W fun e w' => e = .returned (.string d) ∧ Below W.heap.size W w') := f9c
  have F10 : Hid (∀ W, Calls Try.prog 10 #[.string s] W fun e w' => e = .returned (.int .i64 (n : Int)) ∧ w' = W) := f10
  have T9 : Hid (∀ k (h : k < c.size), (((c[k]'h).toNat : Int) == 9) = false) := t9
  have T13 : Hid (∀ k (h : k < c.size), (((c[k]'h).toNat : Int) == 13) = false) := t13
  have T10 : Hid (∀ k (h : k < c.size), (((c[k]'h).toNat : Int) == 10) = false) := t10
  have AD : Hid (∀ k (h : k + 1 < c.size), (((c[k + 1]'h).toNat : Int) == 32) = true → (((c[k]'(by omega)).toNat : Int) == 32) = false) := adj
  have FI0 : Hid (n = 0 → c.size = 0) := fin0
  have FI1 : Hid (n ≠ 0 → spcs c.data.toList + 1 = n) := fin1
  have LA : Hid (∀ h : c.size - 1 < c.size, (((c[c.size - 1]'h).toNat : Int) == 32) = false) := last
  clear f8 f6s f6c f9s f9c f10 t9 t13 t10 adj fin0 fin1 last
  have h1 : ¬ (1048576 : Int) < (s.size : Int) := by omega
  go_enter Try.func4, Try.ntmps4
  go_wp2_with fail
  refine (F8.out _).mono ?_
  rintro e w' ⟨rfl, rfl⟩
  go_wp2_with fail
  refine (F6s.out _).mono ?_
  rintro e w1 ⟨rfl, hb1⟩
  go_wp2_with fail
  refine (F6c.out _).mono ?_
  rintro e w2 ⟨rfl, hb2⟩
  have hb := hb1.trans (hb2.mono hb1.size)
  clear hb1 hb2
  have E9 : Hid (∀ k (h : k < c.size), c[k] = 32 ↔ (((c[k]'h).toNat : Int) == 32) = true) := by
    intro k h
    rw [beq_iff_eq]
    constructor
    · intro e; rw [e]; rfl
    · intro e; exact UInt8.toNat_inj.1 (by have : (32 : UInt8).toNat = 32 := rfl; omega)
  by_cases hc0 : c.size = 0
  case' pos =>
    have g0 : ¬ (0 : Int) < (c.size : Int) := by omega
    clear first
    go_wp2
  case' neg =>
    have g0 : (0 : Int) < (c.size : Int) := by omega
    have gf := first (by omega)
    have gl := LA.out (by omega)
    clear first
    go_wp2
    clear gf gl
  all_goals
    clear LA hc0 g0
    go_loop [4, 5] (fun z i => ∃ k : Nat, k ≤ c.size ∧ i = .int .i64 k ∧ z = .int .i64 (spcs (c.data.toList.take k))) (fun _ i => c.size - (intOf i).toNat)
    case atStart => exact ⟨0, Nat.zero_le _, rfl, rfl⟩
    case round =>
      obtain ⟨k, hk, rfl, rfl⟩ := hrel
      have hsl := spcs_le (c.data.toList.take k)
      have hlk : (c.data.toList.take k).length ≤ k := List.length_take_le _ _
      by_cases hlt : k < c.size
      · have a9 := T9.out k hlt
        have a13 := T13.out k hlt
        have a10 := T10.out k hlt
        have ST : Hid (spcs (c.data.toList.take (k + 1)) = spcs (c.data.toList.take k) + if c[k] = 32 then 1 else 0) := by
          show _ = _
          rw [take_snoc c k hlt, spcs_snoc]
        by_cases h32 : (((c[k]'hlt).toNat : Int) == 32) = true
        · have N : Hid (spcs (c.data.toList.take (k + 1)) = spcs (c.data.toList.take k) + 1) := by
            show _ = _
            rw [ST.out, if_pos ((E9.out k hlt).2 h32)]
          clear ST
          cases k with
          | zero =>
            have hnil : spcs ([] : List UInt8) = 0 := rfl
            go_wp2
            go_round
            case rel => exact ⟨0 + 1, by omega, by go_num, by rw [N.out]; rfl⟩
            case measure => simp [intOf]; omega
          | succ j =>
            have aj := AD.out j hlt h32
            have hj0 : (0 : Int) < (j : Int) + 1 := by omega
            go_wp2
            go_round
            case rel => exact ⟨j + 1 + 1, by omega, by go_num, by rw [N.out]; go_num⟩
            case measure => simp [intOf]; omega
        · have h32' : (((c[k]'hlt).toNat : Int) == 32) = false := by simpa using h32
          have N : Hid (spcs (c.data.toList.take (k + 1)) = spcs (c.data.toList.take k)) := by
            show _ = _
            rw [ST.out, if_neg (fun e => h32 ((E9.out k hlt).1 e))]
            rfl
          clear ST h32
          go_wp2
          go_round
          case rel => exact ⟨k + 1, by omega, by go_num, by rw [N.out]⟩
          case measure => simp [intOf]; omega
      · have TK : Hid (spcs (c.data.toList.take k) = spcs c.data.toList) := by
          show _ = _
          rw [List.take_of_length_le (by simp; omega)]
        go_wp2_with fail
        refine (F9s.out _).mono ?_
        rintro e w3 ⟨rfl, hb3⟩
        go_wp2_with fail
        refine (F9c.out _).mono ?_
        rintro e w4 ⟨rfl, hb4⟩
        have hbb := (hb.trans (hb3.mono hb.size)).trans (hb4.mono (Nat.le_trans hb.size hb3.size))
        clear hb hb3 hb4
        go_wp2_with fail
        refine (F10.out _).mono ?_
        rintro e w5 ⟨rfl, rfl⟩
        by_cases hn0 : n = 0
        · have z := FI0.out hn0
          have z1 : ((n : Int) == 0) = true := by rw [beq_iff_eq]; omega
          have z2 : ((c.size : Int) == 0) = true := by rw [beq_iff_eq]; omega
          clear hn0 z
          go_wp2
          go_ret
          exact ⟨rfl, hbb⟩
        · have z := FI1.out hn0
          have z1 : ((n : Int) == 0) = false := by rw [beq_eq_false_iff_ne]; omega
          have z2 : ((spcs (c.data.toList.take k) : Int) == (n : Int) - 1) = true := by rw [beq_iff_eq, TK.out]; omega
          clear hn0 z TK
          go_wp2
          go_ret
          exact ⟨rfl, hbb⟩
end Go.Proofs.Qxb6609200a
