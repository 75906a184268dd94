/-
  zzParseDec reads a decimal numeral back.
-/
import Derived.Test.Qxb6609197aDoorProg
import Derived.Test.Qxb6609197aDoorPlain
import Derived.WalkKit
import Derived.WalkSpells
import Derived.WalkLawsBesides
namespace Go.Proofs.Qxb6609197aDoor
open Go.RowKit

set_option maxHeartbeats 1600000 in
set_option maxRecDepth 100000 in
theorem parse8 (s : ByteArray) (A D R : List UInt8) (c : UInt8) (mx : Int) (w : World) (hs : s.data.toList = A ++ D ++ c :: R) (hsz : s.size ≤ 1000)
    (hD : ∀ x ∈ D, 48 ≤ x.toNat ∧ x.toNat ≤ 57) (hD0 : 0 < D.length) (hv : (valOf D 0 : Int) ≤ mx) (hmx : mx ≤ 65535) (hc : c.toNat < 48 ∨ 57 < c.toNat) (hl : 1 < D.length → (D[0]'hD0).toNat ≠ 48) :
    Calls Tryd.prog 8 #[.string s, .int .i64 A.length, .int .u64 mx] w fun e w' => e = .returned (.tuple #[.int .u64 (valOf D 0), .int .i64 ((A.length + D.length : Nat) : Int), .bool true]) ∧ w' = w := by
  have hsl : s.size = A.length + D.length + (R.length + 1) := by
    have := congrArg List.length hs
    simp at this
    omega
  have hA : A.length ≤ 1000 := by omega
  go_enter Tryd.func8, Tryd.ntmps8
  go_wp2
  go_loop [1, 10] (fun i v => ∃ k : Nat, k ≤ D.length ∧ i = .int .i64 ((A.length + k : Nat) : Int) ∧ v = .int .u64 (valOf (D.take k) 0)) (fun i _ => s.size - (intOf i).toNat)
  case atStart => exact ⟨0, Nat.zero_le _, rfl, rfl⟩
  case round =>
    obtain ⟨k, hk, rfl, rfl⟩ := hrel
    have hvk : (valOf (D.take k) 0 : Int) ≤ mx := by have := valOf_take_le D k; omega
    have hj : A.length + k < s.size := by omega
    by_cases hlt : k < D.length
    · have hb : s[A.length + k]'hj = D[k] := byte_in s A D (c :: R) hs k hlt hj
      have hd := hD D[k] (List.getElem_mem hlt)
      have b1 : (48 : Int) ≤ ((s[A.length + k]'hj).toNat : Int) := by rw [hb]; omega
      have b2 : ((s[A.length + k]'hj).toNat : Int) ≤ 57 := by rw [hb]; omega
      have S : Hid (((valOf (D.take (k + 1)) 0 : Nat) : Int) = (valOf (D.take k) 0 : Int) * 10 + (((s[A.length + k]'hj).toNat : Int) - 48)) := by
        show _ = _
        rw [take_snoc D k hlt, valOf_snoc, hb]
        omega
      have hv1 : (valOf (D.take k) 0 : Int) * 10 + (((s[A.length + k]'hj).toNat : Int) - 48) ≤ mx := by
        rw [← S.out]
        have := valOf_take_le D (k + 1)
        omega
      clear hb hd
      go_wp2
      go_round
      case rel => exact ⟨k + 1, by omega, by go_num, by rw [S.out]⟩
      case measure => simp [intOf]; omega
    · obtain rfl : k = D.length := by omega
      have hb : s[A.length + D.length]'hj = c := by
        have := byte_in s (A ++ D) [c] R (by simpa using hs) 0 (by simp) (by simpa using hj)
        simpa using this
      have h0 : A.length < s.size := by omega
      have hb0 : s[A.length]'h0 = D[0] := by
        have := byte_in s A D (c :: R) hs 0 hD0 (by simpa using h0)
        simpa using this
      have g1 : ((A.length : Int) + (D.length : Int) == (A.length : Int)) = false := by rw [beq_eq_false_iff_ne]; omega
      clear hs
      rcases hc with hc | hc
      · have b1 : ((s[A.length + D.length]'hj).toNat : Int) < 48 := by rw [hb]; omega
        have b2 : ¬ (48 : Int) ≤ ((s[A.length + D.length]'hj).toNat : Int) := by omega
        by_cases h1 : 1 < D.length
        · have g2 : (((s[A.length]'h0).toNat : Int) == 48) = false := by
            rw [beq_eq_false_iff_ne, hb0]
            have := hl h1
            omega
          clear hb hb0 hl hD hsl hc
          go_wp2
          all_goals (go_ret3; exact ⟨rfl, rfl⟩)
        · clear hb hb0 hl hD hsl hc
          go_wp2
          all_goals (go_ret3; exact ⟨rfl, rfl⟩)
      · have b1 : (57 : Int) < ((s[A.length + D.length]'hj).toNat : Int) := by rw [hb]; omega
        have b2 : ¬ ((s[A.length + D.length]'hj).toNat : Int) ≤ 57 := by omega
        by_cases h1 : 1 < D.length
        · have g2 : (((s[A.length]'h0).toNat : Int) == 48) = false := by
            rw [beq_eq_false_iff_ne, hb0]
            have := hl h1
            omega
          clear hb hb0 hl hD hsl hc
          go_wp2
          all_goals (go_ret3; exact ⟨rfl, rfl⟩)
        · clear hb hb0 hl hD hsl hc
          go_wp2
          all_goals (go_ret3; exact ⟨rfl, rfl⟩)
end Go.Proofs.Qxb6609197aDoor
