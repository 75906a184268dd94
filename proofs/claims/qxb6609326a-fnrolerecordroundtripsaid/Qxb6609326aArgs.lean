/-
  A slice of strings that came in; the laws' own size counts; zzSameList.
-/
import Derived.Test.Qxb6609326aStrs
import Derived.Lib.LazyBuf
import Derived.Deep.QuietTactic
import Derived.BigQuiet
import Derived.Handy
namespace Go.Proofs.Qxb6609326a
open Go.RowKit

/-- The strings L lie behind the slice's address. -/
def SL (w : World) (oa : Option Addr) (L : List ByteArray) : Prop := ∀ k (h : k < L.length), ∃ a, oa = some a ∧ w.cell? (a.add k) = some (.string L[k])

set_option maxHeartbeats 1600000 in
theorem add20 (a b : Int) (ha : 0 ≤ a) (ha2 : a ≤ 4611686018427387904) (hb : b ≤ 9223372036854775807) (w : World) :
    Calls Try.prog 20 #[.int .i64 a, .int .i64 b] w fun e w' => ∃ n, e = .returned (.int .i64 n) ∧ 0 ≤ n ∧ n ≤ 2097152 ∧ w' = w := by
  go_enter Try.func20, Try.ntmps20
  go_wp2
  all_goals go_ret
  all_goals exact ⟨_, rfl, by omega, by omega, rfl⟩

set_option maxHeartbeats 1600000 in
set_option maxRecDepth 100000 in
theorem strsBytes23 (a : Int) (ha : 0 ≤ a) (ha2 : a ≤ 2097152) (oa : Option Addr) (cap : Nat) (L : List ByteArray) (w : World) (hL : SL w oa L) (hn : L.length ≤ 1048576) (hx : ∀ x ∈ L, x.size ≤ 1048576) :
    Calls Try.prog 23 #[.int .i64 a, .slice oa L.length cap] w fun e w' => ∃ n, e = .returned (.int .i64 n) ∧ 0 ≤ n ∧ n ≤ 2097152 ∧ w' = w := by
  have HL : Hid (SL w oa L) := hL
  have hlen : (L.length : Int) ≤ 1048576 := by omega
  have c0 := add20 a (24 + 16 * (L.length : Int)) ha (by omega) (by omega) w
  clear hL
  go_enter Try.func23, Try.ntmps23
  go_wp2_with fail
  refine c0.mono ?_
  rintro e w' ⟨n, rfl, n0, n1, rfl⟩
  clear c0 ha ha2
  go_wp2
  go_loopw [0, 5] (fun v i wr => ∃ (k : Nat) (m : Int), k ≤ L.length ∧ i = .int .i64 k ∧ v = .int .i64 m ∧ 0 ≤ m ∧ m ≤ 2097152 ∧ wr = w') (fun _ i _ => L.length - (intOf i).toNat)
  case atStart => exact ⟨0, n, Nat.zero_le _, rfl, rfl, n0, n1, rfl⟩
  case round =>
    obtain ⟨k, m, hk, rfl, rfl, m0, m1, rfl⟩ := hrel
    by_cases hlt : k < L.length
    · obtain ⟨p, rfl, hcell⟩ := HL.out k hlt
      have c1 := add20 m (L[k].size : Int) m0 (by omega) (by have := hx _ (List.getElem_mem hlt); omega) wr
      have hlt' : (k : Int) < L.length := by omega
      go_wp2_with fail
      refine c1.mono ?_
      rintro e w' ⟨m', rfl, m0, m1, rfl⟩
      clear c1 hcell
      by_cases hbig : 1048576 < m'
      · go_wp2
        go_ret
        exact ⟨_, rfl, m0, m1, rfl⟩
      · go_wp2
        go_roundw
        case rel => exact ⟨k + 1, m', by omega, by go_num, rfl, m0, m1, by trivial⟩
        case measure => simp [intOf]; omega
    · have hge : ¬ (k : Int) < L.length := by omega
      go_wp2
      go_ret
      exact ⟨_, rfl, m0, m1, rfl⟩

set_option maxHeartbeats 1600000 in
set_option maxRecDepth 100000 in
theorem tailBytes17 (oa : Option Addr) (cap : Nat) (L : List ByteArray) (t : ByteArray) (w : World) (hL : SL w oa L) (hn : L.length ≤ 1048576) (hx : ∀ x ∈ L, x.size ≤ 1048576) (ht : t.size ≤ 1048576) :
    Calls Try.prog 17 #[.slice oa L.length cap, .string t] w fun e w' => ∃ n, e = .returned (.int .i64 n) ∧ 0 ≤ n ∧ n ≤ 2097152 ∧ w' = w := by
  have c0 := strsBytes23 0 (by omega) (by omega) oa cap L w hL hn hx
  clear hL hx
  go_enter Try.func17, Try.ntmps17
  go_wp2_with fail
  refine c0.mono ?_
  rintro e w' ⟨n, rfl, n0, n1, rfl⟩
  have c1 := add20 n (t.size : Int) n0 (by omega) (by omega) w'
  clear c0
  go_wp2_with fail
  refine c1.mono ?_
  rintro e w' ⟨m, rfl, m0, m1, rfl⟩
  clear c1
  go_wp2
  go_ret
  exact ⟨_, rfl, m0, m1, rfl⟩

/-- The sizes of the first k strings together. -/
def tot (L : List ByteArray) (k : Nat) : Nat := ((L.take k).map ByteArray.size).sum
theorem tot_succ (L : List ByteArray) (k : Nat) (h : k < L.length) : tot L (k + 1) = tot L k + L[k].size := by
  unfold tot
  rw [List.take_succ_eq_append_getElem h, List.map_append, List.sum_append]
  simp
theorem le_sum_of (l : List Nat) (x : Nat) (h : x ∈ l) : x ≤ l.sum := by
  induction l with
  | nil => cases h
  | cons y l ih =>
    rw [List.sum_cons]
    rcases List.mem_cons.1 h with rfl | h
    · omega
    · have := ih h
      omega
theorem tot_le (L : List ByteArray) (k : Nat) (h : k < L.length) (n : Nat) (hn : k < n) : L[k].size ≤ tot L n := by
  unfold tot
  have h1 : L[k] ∈ L.take n := by
    rw [List.mem_take_iff_getElem]
    exact ⟨k, by omega, rfl⟩
  exact le_sum_of _ _ (List.mem_map_of_mem h1)

set_option maxHeartbeats 1600000 in
set_option maxRecDepth 100000 in
theorem bytes16 (oa : Option Addr) (cap : Nat) (L : List ByteArray) (t : ByteArray) (w : World) (hL : SL w oa L) (hn : L.length ≤ maxLen) (hx : ∀ x ∈ L, x.size ≤ maxLen) (ht : t.size ≤ maxLen) :
    Calls Try.prog 16 #[.slice oa L.length cap, .string t] w fun e w' => (e = .returned (.bool false) ∨ (e = .returned (.bool true) ∧ L.length + tot L L.length + t.size ≤ 1048576)) ∧ w' = w := by
  have HL : Hid (SL w oa L) := hL
  simp only [maxLen] at hn ht
  clear hL
  by_cases hbig : L.length ≤ 1048576
  case neg =>
    have hbig : 1048576 < (L.length : Int) := by omega
    go_enter Try.func16, Try.ntmps16
    go_wp2
    go_ret
    exact ⟨.inl rfl, rfl⟩
  have hlen : (L.length : Int) ≤ 1048576 := by omega
  go_enter Try.func16, Try.ntmps16
  go_wp2
  go_loopw [5, 6] (fun v i wr => ∃ (k : Nat) (m : Int), k ≤ L.length ∧ i = .int .i64 k ∧ v = .int .i64 m ∧ Hid (m = L.length + tot L k) ∧ 0 ≤ m ∧ m ≤ 1048576 ∧ wr = w) (fun _ i _ => L.length - (intOf i).toNat)
  case atStart => exact ⟨0, L.length, Nat.zero_le _, rfl, rfl, by show _ = _; simp [tot], by omega, by omega, rfl⟩
  case round =>
    obtain ⟨k, m, hk, rfl, rfl, HM, m0, m1, rfl⟩ := hrel
    by_cases hlt : k < L.length
    · obtain ⟨p, rfl, hcell⟩ := HL.out k hlt
      have hx1 := hx _ (List.getElem_mem hlt)
      simp only [maxLen] at hx1
      have hlt' : (k : Int) < L.length := by omega
      have hts := tot_succ L k hlt
      have HM2 : Hid (m + L[k].size = L.length + tot L (k + 1)) := by
        show _ = _
        rw [HM.out, hts]
        omega
      clear hx hts HM
      by_cases h1 : 1048576 < (L[k].size : Int)
      · go_wp2
        go_ret
        exact ⟨.inl rfl, rfl⟩
      by_cases h2 : 1048576 < m + (L[k].size : Int)
      · go_wp2
        go_ret
        exact ⟨.inl rfl, rfl⟩
      go_wp2
      go_roundw
      case rel => exact ⟨k + 1, _, by omega, by go_num, rfl, HM2, by omega, by omega, by trivial⟩
      case measure => simp [intOf]; omega
    · have hge : ¬ (k : Int) < L.length := by omega
      obtain rfl : k = L.length := by omega
      clear hx
      by_cases h1 : 1048576 < (t.size : Int)
      · go_wp2
        go_ret
        exact ⟨.inl rfl, rfl⟩
      by_cases h2 : 1048576 < m + (t.size : Int)
      · go_wp2
        go_ret
        exact ⟨.inl rfl, rfl⟩
      go_wp2
      go_ret
      exact ⟨.inr ⟨rfl, by have := HM.out; omega⟩, rfl⟩

set_option maxHeartbeats 1600000 in
set_option maxRecDepth 100000 in
/-- Two slices of the same strings, the first not nil: zzSameList says true. -/
theorem same12 (p : Addr) (oa : Option Addr) (c1 c2 : Nat) (L : List ByteArray) (w : World) (h1 : SL w (some p) L) (h2 : SL w oa L) (hn : L.length ≤ 1048576) :
    Calls Try.prog 12 #[.slice (some p) L.length c1, .slice oa L.length c2] w fun e w' => e = .returned (.bool true) ∧ Below w.heap.size w w' := by
  have H1 : Hid (SL w (some p) L) := h1
  have H2 : Hid (SL w oa L) := h2
  have q1 := fun W => Go.run_eql_slice_nil (P := Try.prog) W 24 9 (some p) L.length c1 Try.underlying24
  clear h1 h2
  go_enter Try.func12, Try.ntmps12
  go_wp2
  go_loopw [5] (fun i wr => ∃ (k : Nat), k ≤ L.length ∧ i = .int .i64 k ∧ Hid (SL wr (some p) L) ∧ Hid (SL wr oa L) ∧ Below w.heap.size w wr) (fun i _ => L.length - (intOf i).toNat)
  case atStart => exact ⟨0, Nat.zero_le _, rfl, H1, H2, Below.refl _ _⟩
  case round =>
    clear H1 H2
    obtain ⟨k, hk, rfl, H1, H2, bel⟩ := hrel
    by_cases hlt : k < L.length
    · obtain ⟨p', hp, d1⟩ := H1.out k hlt
      obtain rfl := Option.some.inj hp
      obtain ⟨q, rfl, d2⟩ := H2.out k hlt
      have hlt' : (k : Int) < L.length := by omega
      go_wp2
      go_quiet (fail)
      go_wp2
      go_roundw
      case rel => exact ⟨k + 1, by omega, by go_num, H1, H2, ⟨bel.os, bel.tape, bel.output, bel.size, bel.block⟩⟩
      case measure => simp [intOf]; omega
    · have hge : ¬ (k : Int) < L.length := by omega
      go_wp2
      go_ret
      exact ⟨rfl, bel⟩
end Go.Proofs.Qxb6609326a
