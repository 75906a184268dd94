/-
  FnContactParsesBackToLocal returns true.
-/
import Derived.Test.Qxb6609197aDoorParse
import Derived.Test.Qxb6609197aDoorContact
import Derived.Test.Qxb6609197aDoorLaw4
import Derived.Lib.Strings
namespace Go.Proofs.Qxb6609197aDoor
open Go.RowKit

/-- zzParseDec, its numbers as Int. -/
theorem parse8' (s : ByteArray) (A R : List UInt8) (c : UInt8) (mx i n j : Int) (w : World) (hn0 : 0 ≤ n) (hs : s.data.toList = A ++ Lib.decDigits n.toNat ++ c :: R) (hsz : s.size ≤ 1000)
    (hv : n ≤ mx) (hmx : mx ≤ 65535) (hc : c.toNat < 48 ∨ 57 < c.toNat) (hi : (A.length : Int) = i) (hj : i + (Lib.decDigits n.toNat).length = j) :
    Calls Tryd.prog 8 #[.string s, .int .i64 i, .int .u64 mx] w fun e w' => e = .returned (.tuple #[.int .u64 n, .int .i64 j, .bool true]) ∧ w' = w := by
  subst hi hj
  have hn : (valOf (Lib.decDigits n.toNat) 0 : Int) = n := by rw [valOf_dec]; omega
  have := parse8 s A (Lib.decDigits n.toNat) R c mx w hs hsz (digits_dec _) (dec_ne _) (by omega) hmx hc (dec_lead _)
  rw [hn] at this
  refine this.mono ?_
  rintro e w' ⟨rfl, rfl⟩
  exact ⟨by simp, rfl⟩

theorem byte_at (s : ByteArray) (A R : List UInt8) (c : UInt8) (j : Nat) (hs : s.data.toList = A ++ c :: R) (hA : A.length = j) (hj : j < s.size) (k : Int) (hk : (c.toNat : Int) = k) : (((s[j]'hj).toNat : Int) != k) = false := by
  subst hA
  have := byte_in s A [c] R (by simpa using hs) 0 (by simp) (by simpa using hj)
  simp only [Nat.add_zero, List.getElem_cons_zero] at this
  rw [this, hk]
  simp

theorem pre_extract (s : ByteArray) (R : List UInt8) (hs : s.data.toList = pre ++ R) : ((s.extract 0 15).toList == [60, 115, 105, 112, 58, 114, 105, 110, 103, 98, 101, 110, 99, 104, 64]) = true := by
  have h : (s.extract 0 15).data.toList = pre := by
    rw [Lib.extract_data, hs]
    simp [pre]
  have h2 : (s.extract 0 15).toList = pre := (ByteArray.toList_eq _).trans h
  rw [h2]
  rfl

theorem back (a b c d port : Int) (p : Addr) (w : World) (ha : 0 ≤ a ∧ a < 256) (hb : 0 ≤ b ∧ b < 256) (hc : 0 ≤ c ∧ c < 256) (hd : 0 ≤ d ∧ d < 256) (hp0 : 0 ≤ port) (hp1 : port < 65536)
    (hz4 : w.cell? ⟨0, 0, none⟩ = some (.pointer (some p))) (hz0 : w.cell? ⟨1, 0, none⟩ = some (.pointer none)) (hau : AppUint w) :
    Calls Tryd.prog 4 #[.agg #[.int .u8 a, .int .u8 b, .int .u8 c, .int .u8 d], .int .u16 port] w fun e w' => e = .returned (.bool true) ∧ Below w.heap.size w w' := by
  have q0 := decDigits_byte_le a ha.1 ha.2
  have q1 := decDigits_byte_le b hb.1 hb.2
  have q2 := decDigits_byte_le c hc.1 hc.2
  have q3 := decDigits_byte_le d hd.1 hd.2
  have q4 := decDigits_u16_le port.toNat (by omega)
  have lp : pre.length = 15 := rfl
  have hS : contactL (lowOf a b c d) port = pre ++ (Lib.decDigits a.toNat ++ 46 :: (Lib.decDigits b.toNat ++ 46 :: (Lib.decDigits c.toNat ++ 46 :: (Lib.decDigits d.toNat ++ 58 :: (Lib.decDigits port.toNat ++ 62 :: []))))) := by
    unfold contactL
    rw [dotted_low a b c d ha hb hc hd]
    simp
  have zz : ∀ W, Below w.heap.size w W → Calls Tryd.prog 6 #[.agg #[.int .u8 a, .int .u8 b, .int .u8 c, .int .u8 d], .int .u16 port] W fun e w' => e = .returned (.string ⟨(contactL (lowOf a b c d) port).toArray⟩) ∧ Below W.heap.size W w' :=
    fun W hW => zz6 a b c d port p W ha hb hc hd hp0 hp1 ((hW.cell (p := ⟨0, 0, none⟩) (cell_lt hz4)).trans hz4) ((hW.cell (p := ⟨1, 0, none⟩) (cell_lt hz0)).trans hz0) (hau.later hW)
  obtain ⟨s, hs⟩ : ∃ s : ByteArray, s = ⟨(contactL (lowOf a b c d) port).toArray⟩ := ⟨_, rfl⟩
  rw [← hs] at zz
  have hd0 : s.data.toList = contactL (lowOf a b c d) port := by rw [hs]
  rw [hS] at hd0
  have hz : s.size = 20 + (Lib.decDigits a.toNat).length + (Lib.decDigits b.toNat).length + (Lib.decDigits c.toNat).length + (Lib.decDigits d.toNat).length + (Lib.decDigits port.toNat).length := by
    have := congrArg List.length hd0
    simp [lp] at this
    omega
  clear hs hS
  obtain ⟨D0, e0⟩ : ∃ D, D = Lib.decDigits a.toNat := ⟨_, rfl⟩
  obtain ⟨D1, e1⟩ : ∃ D, D = Lib.decDigits b.toNat := ⟨_, rfl⟩
  obtain ⟨D2, e2⟩ : ∃ D, D = Lib.decDigits c.toNat := ⟨_, rfl⟩
  obtain ⟨D3, e3⟩ : ∃ D, D = Lib.decDigits d.toNat := ⟨_, rfl⟩
  obtain ⟨D4, e4⟩ : ∃ D, D = Lib.decDigits port.toNat := ⟨_, rfl⟩
  rw [← e0] at q0; rw [← e1] at q1; rw [← e2] at q2; rw [← e3] at q3; rw [← e4] at q4
  rw [← e0, ← e1, ← e2, ← e3, ← e4] at hz hd0
  have c46 : (46 : UInt8).toNat < 48 ∨ 57 < (46 : UInt8).toNat := by decide
  have c58 : (58 : UInt8).toNat < 48 ∨ 57 < (58 : UInt8).toNat := by decide
  have c62 : (62 : UInt8).toNat < 48 ∨ 57 < (62 : UInt8).toNat := by decide
  have i0 : s.data.toList = pre ++ D0 ++ 46 :: (D1 ++ 46 :: (D2 ++ 46 :: (D3 ++ 58 :: (D4 ++ 62 :: [])))) := by rw [hd0]; simp
  have i1 : s.data.toList = (pre ++ D0 ++ [46]) ++ D1 ++ 46 :: (D2 ++ 46 :: (D3 ++ 58 :: (D4 ++ 62 :: []))) := by rw [hd0]; simp
  have i2 : s.data.toList = (pre ++ D0 ++ [46] ++ D1 ++ [46]) ++ D2 ++ 46 :: (D3 ++ 58 :: (D4 ++ 62 :: [])) := by rw [hd0]; simp
  have i3 : s.data.toList = (pre ++ D0 ++ [46] ++ D1 ++ [46] ++ D2 ++ [46]) ++ D3 ++ 58 :: (D4 ++ 62 :: []) := by rw [hd0]; simp
  have i4 : s.data.toList = (pre ++ D0 ++ [46] ++ D1 ++ [46] ++ D2 ++ [46] ++ D3 ++ [58]) ++ D4 ++ 62 :: [] := by rw [hd0]; simp
  refine law4 a b c d port w ha hb hc hd hp0 hp1 s (15 + D0.length) (16 + D0.length + D1.length) (17 + D0.length + D1.length + D2.length) (18 + D0.length + D1.length + D2.length + D3.length) (19 + D0.length + D1.length + D2.length + D3.length + D4.length)
    (by omega) (by omega) (by omega) (by omega) (by omega) (by omega) (by omega) (by omega) zz ?_ ?_ ?_ ?_ ?_ (pre_extract s _ hd0) ?_ ?_ ?_ ?_ ?_ ?_
  · exact fun W => parse8' s pre _ 46 255 15 a _ W ha.1 (by rw [← e0]; exact i0) (by omega) (by omega) (by omega) c46 rfl (by rw [← e0]; omega)
  · exact fun W => parse8' s _ _ 46 255 _ b _ W hb.1 (by rw [← e1]; exact i1) (by omega) (by omega) (by omega) c46 (by simp [lp]; omega) (by rw [← e1]; simp; omega)
  · exact fun W => parse8' s _ _ 46 255 _ c _ W hc.1 (by rw [← e2]; exact i2) (by omega) (by omega) (by omega) c46 (by simp [lp]; omega) (by rw [← e2]; simp; omega)
  · exact fun W => parse8' s _ _ 58 255 _ d _ W hd.1 (by rw [← e3]; exact i3) (by omega) (by omega) (by omega) c58 (by simp [lp]; omega) (by rw [← e3]; simp; omega)
  · exact fun W => parse8' s _ _ 62 65535 _ port _ W hp0 (by rw [← e4]; exact i4) (by omega) (by omega) (by omega) c62 (by simp [lp]; omega) (by rw [← e4]; simp; omega)
  · exact byte_at s _ _ 46 _ i0 (by simp [lp]) _ 46 rfl
  · exact byte_at s _ _ 46 _ i1 (by simp [lp]; omega) _ 46 rfl
  · exact byte_at s _ _ 46 _ i2 (by simp [lp]; omega) _ 46 rfl
  · exact byte_at s _ _ 58 _ i3 (by simp [lp]; omega) _ 58 rfl
  · exact byte_at s _ _ 62 _ i4 (by simp [lp]; omega) _ 62 rfl
  · simp [hz]; omega
end Go.Proofs.Qxb6609197aDoor
