/-
  zzUitoa writes the decimal numeral.
-/
import Derived.Test.Qxb6609197aDoorContact
import Derived.Test.Qxb6609197aDoorPlain
namespace Go.Proofs.Qxb6609197aDoor
open Go.RowKit

/-- The array of twenty bytes when the numeral's tail tl has been written. -/
def bufL (tl : List UInt8) : List Value := List.replicate (20 - tl.length) (Value.int .u8 0) ++ Lib.byteCells tl

theorem buf_step (tl : List UInt8) (c : UInt8) (h : tl.length < 20) : (bufL tl).set (19 - tl.length) (.int .u8 (c.toNat : Int)) = bufL (c :: tl) := by
  unfold bufL
  rw [show 20 - tl.length = (19 - tl.length) + 1 by omega, List.replicate_succ', List.append_assoc, List.set_append]
  rw [if_neg (by simp)]
  simp only [List.length_replicate, Nat.sub_self, List.cons_append, List.nil_append, List.set_cons_zero, List.length_cons]
  rw [show 20 - (tl.length + 1) = 19 - tl.length by omega]
  simp [Lib.byteCells]

theorem buf_read (tl : List UInt8) (C : Array Value) (hC : C.toList = bufL tl) (w : World) (t : Nat) (cap : Nat) :
    (convert 35 9 (.slice (some ⟨w.heap.size, 20 - tl.length, none⟩) tl.length cap)).run Tryd.prog (w.alloc (.cells C t)) = .ok (.string ⟨tl.toArray⟩) (w.alloc (.cells C t)) := by
  refine run_convert_bytes_back _ 35 9 5 ⟨w.heap.size, 20 - tl.length, none⟩ cap tl Tryd.underlying35 Tryd.underlying5 Tryd.underlying9 ?_
  intro j hj
  have hplain : (⟨w.heap.size, 20 - tl.length, none⟩ : Addr).add j = ⟨w.heap.size, 20 - tl.length + j, none⟩ := by unfold Addr.add; split <;> simp_all
  rw [hplain]
  refine cell_of_block (heap_new w _) ?_
  rw [← Array.getElem?_toList, hC]
  unfold bufL
  rw [List.getElem?_append_right (by simp)]
  simp [Lib.byteCells, hj]

theorem dec_split (n : Nat) (h : 0 < n) (D tl : List UInt8) (hD : D = Lib.decDigits n ++ tl) :
    (0 < n / 10 → D = Lib.decDigits (n / 10) ++ (UInt8.ofNat (48 + n % 10) :: tl)) ∧ (n / 10 = 0 → D = UInt8.ofNat (48 + n % 10) :: tl) := by
  subst hD
  refine ⟨fun h1 => ?_, fun h1 => ?_⟩
  · have h2 : ¬ n < 10 := by omega
    conv => lhs; rw [Lib.decDigits, dif_neg h2]
    simp
  · have h2 : n < 10 := by omega
    rw [Lib.decDigits_one h2, show n % 10 = n by omega]
    rfl

theorem slice89 (b k : Nat) (h1 : 1 ≤ k) (h : k ≤ 20) (W : World) : (Instr.sliceAt 89 (.pointer (some ⟨b, 0, none⟩)) (some (.int .i64 ((20 - k : Nat) : Int))) none none).run Tryd.prog W = .ok (.slice (some ⟨b, 20 - k, none⟩) k k) W := by
  have hal : Tryd.prog.arrayLen 89 = 20 := by simp [Program.arrayLen, Tryd.underlying89]
  have hel : Tryd.prog.elem 89 = 5 := by simp [Program.elem, Tryd.underlying89]
  rw [run_sliceAt_array_l W 89 ⟨b, 0, none⟩ (by rw [hal, hel]; exact Tryd.underlying89) .i64 _ (by omega) (by rw [hal]; omega), hal, hel, Tryd.sizeOf5]
  simp only [Result.andThen_ok, slicedAt]
  have hne : ¬ (20 = ((20 - k : Nat) : Int).toNat) := by omega
  have e1 : ((20 - k : Nat) : Int).toNat = 20 - k := by omega
  rw [if_neg hne, e1, show 20 - (20 - k) = k by omega]
  have hplain : (⟨b, 0, none⟩ : Addr).add ((20 - k) * 1) = ⟨b, 20 - k, none⟩ := by unfold Addr.add; split <;> simp_all
  rw [hplain]

set_option maxHeartbeats 1600000 in
set_option maxRecDepth 100000 in
theorem uitoa15 (N : Nat) (hN : N < 65536) (w : World) :
    Calls Tryd.prog 15 #[.int .u64 N] w fun e w' => e = .returned (.string ⟨(Lib.decDigits N).toArray⟩) ∧ Fr 5 w.heap.size w w' := by
  by_cases h0 : N = 0
  · subst h0
    go_enter Tryd.func15, Tryd.ntmps15
    go_wp2
    go_ret
    exact ⟨by rw [Lib.decDigits_one (by omega)]; rfl, Fr.refl _ _ _⟩
  · have g0 : ((N : Int) == 0) = false := by rw [beq_eq_false_iff_ne]; omega
    have hL := decDigits_u16_le N hN
    go_enter Tryd.func15, Tryd.ntmps15
    go_wp2
    go_loopw [0, 4] (fun n i wr => ∃ (m : Nat) (tl : List UInt8) (C : Array Value), m ≤ N ∧ (0 < m → Lib.decDigits N = Lib.decDigits m ++ tl) ∧ (m = 0 → Lib.decDigits N = tl) ∧ n = .int .u64 m ∧ i = .int .i64 ((20 - tl.length : Nat) : Int) ∧ C.toList = bufL tl ∧ wr = w.alloc (.cells C 89))
      (fun n _ _ => (intOf n).toNat)
    case atStart => exact ⟨N, [], _, Nat.le_refl _, fun _ => by simp, fun h => absurd h h0, rfl, rfl, by rfl, rfl⟩
    case round =>
      obtain ⟨m, tl, C, hm, hD1, hD2, rfl, rfl, hC, rfl⟩ := hrel
      have HC : Hid (C.toList = bufL tl) := hC
      clear hC
      by_cases hm0 : 0 < m
      · have hD := hD1 hm0
        have hl : tl.length < (Lib.decDigits N).length := by rw [hD, List.length_append]; have := dec_ne m; omega
        have SP : Hid ((0 < m / 10 → Lib.decDigits N = Lib.decDigits (m / 10) ++ (UInt8.ofNat (48 + m % 10) :: tl)) ∧ (m / 10 = 0 → Lib.decDigits N = UInt8.ofNat (48 + m % 10) :: tl)) := dec_split m hm0 _ tl hD
        have hCs : C.size = 20 := by
          have := congrArg List.length HC.out
          simp [bufL, Lib.byteCells] at this
          omega
        have hl5 : tl.length < 5 := by omega
        obtain ⟨v0, hv0⟩ : ∃ v, C[20 - tl.length - 1]? = some v := ⟨_, Array.getElem?_eq_getElem (by omega)⟩
        have ST : Hid ((C.setIfInBounds (20 - tl.length - 1) (.int .u8 (48 + (m : Int) % 10))).toList = bufL (UInt8.ofNat (48 + m % 10) :: tl)) := by
          show _ = _
          rw [Array.toList_setIfInBounds, HC.out, show 20 - tl.length - 1 = 19 - tl.length by omega, ← buf_step tl _ (by omega), digit_toNat (m % 10) (by omega)]
          congr 2
        clear hD hD1 hD2 hl
        go_wp2
        go_roundw
        case rel => exact ⟨m / 10, UInt8.ofNat (48 + m % 10) :: tl, _, by omega, SP.out.1, SP.out.2, by go_num, by simp only [List.length_cons]; go_num, ST.out, rfl⟩
        case measure => simp [intOf]; omega
      · have hm1 : m = 0 := by omega
        subst hm1
        have hD := hD2 rfl
        have hl5 : tl.length ≤ 5 := by rw [hD] at hL; exact hL.2
        have hl1 : 1 ≤ tl.length := by rw [hD] at hL; exact hL.1
        have hCs : C.size = 20 := by
          have := congrArg List.length HC.out
          simp [bufL, Lib.byteCells] at this
          omega
        have RD := buf_read tl C HC.out w 89
        have DD : Hid (Lib.decDigits N = tl) := hD
        clear hD hD1 hD2
        have SL := slice89 w.heap.size tl.length hl1 (by omega)
        go_wp2
        go_ret
        exact ⟨by rw [DD.out]; rfl, (Fr.refl 5 _ w).alloc (Nat.le_refl _) _⟩
end Go.Proofs.Qxb6609197aDoor
