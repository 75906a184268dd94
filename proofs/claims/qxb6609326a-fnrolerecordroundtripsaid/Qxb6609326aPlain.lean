/-
  Plain facts on the packing: numbers, strings, lists. No Go in sight.
-/
import Derived.Laws.BitsAllLaws
namespace Go.Proofs.Qxb6609326a

/-- A number below 2^21 as the packing writes it: seven bits a byte, low bits first. -/
def encU (v : Nat) : List UInt8 :=
  if v < 128 then [UInt8.ofNat v]
  else if v < 16384 then [UInt8.ofNat (v % 128 + 128), UInt8.ofNat (v / 128)]
  else [UInt8.ofNat (v % 128 + 128), UInt8.ofNat (v / 128 % 128 + 128), UInt8.ofNat (v / 16384)]
def encStr (s : ByteArray) : List UInt8 := encU s.size ++ s.data.toList
def encStrs (L : List ByteArray) : List UInt8 := encU L.length ++ (L.map encStr).flatten

/-- What the unpacker reads as a number: past the end it reads 0. -/
def RdU (l : List UInt8) (v : Nat) (r : List UInt8) : Prop := (l = [] ∧ v = 0 ∧ r = []) ∨ (v < 2097152 ∧ l = encU v ++ r)
def RdS (l : List UInt8) (s : ByteArray) (r : List UInt8) : Prop := RdU l s.size (s.data.toList ++ r)
def RdL (l : List UInt8) (L : List ByteArray) (r : List UInt8) : Prop := RdU l L.length ((L.map encStr).flatten ++ r)

theorem encU_len (v : Nat) : (encU v).length ≤ 3 ∧ 1 ≤ (encU v).length := by
  unfold encU
  split
  · simp
  · split <;> simp

theorem ofNat_toNat (k : Nat) (h : k < 256) : (UInt8.ofNat k).toNat = k := by
  rw [UInt8.toNat_ofNat']
  omega

/-! Bits. -/
theorem and127 (x : Int) (h0 : 0 ≤ x) (h1 : x < 256) : bits .and .u8 x 127 = x % 128 := by
  obtain ⟨n, rfl⟩ := Int.eq_ofNat_of_zero_le h0
  have := u8_and_nat n 127 (by omega) (by omega)
  rw [show ((127 : Nat) : Int) = 127 from rfl] at this
  rw [this]
  have e : n &&& 127 = n % 128 := Nat.and_two_pow_sub_one_eq_mod n 7
  rw [e]
  omega
theorem or_add (k : Nat) (m : Nat) (y : Int) (h0 : 0 ≤ y) (h1 : y < ((2 ^ k : Nat) : Int)) (h2 : ((2 ^ k * m : Nat) : Int) < 18446744073709551616) (h3 : y < 18446744073709551616) :
    bits .or .u64 y ((2 ^ k * m : Nat) : Int) = y + ((2 ^ k * m : Nat) : Int) := by
  obtain ⟨b, rfl⟩ := Int.eq_ofNat_of_zero_le h0
  rw [u64_or_nat _ _ (by omega) (by omega), Nat.or_comm, ← Nat.two_pow_add_eq_or_of_lt (by omega)]
  omega
theorem or0 (y : Int) (h0 : 0 ≤ y) (h1 : y < 128) : bits .or .u64 0 y = y := by
  obtain ⟨b, rfl⟩ := Int.eq_ofNat_of_zero_le h0
  have := u64_or_nat 0 b (by omega) (by omega)
  rw [show ((0 : Nat) : Int) = 0 from rfl] at this
  rw [this]
  simp
theorem or1 (y0 y1 : Int) (h0 : 0 ≤ y0) (h1 : y0 < 128) (h2 : 0 ≤ y1) (h3 : y1 < 128) : bits .or .u64 y0 (y1 * 128) = y0 + y1 * 128 := by
  obtain ⟨b, rfl⟩ := Int.eq_ofNat_of_zero_le h2
  have := or_add 7 b y0 h0 (by omega) (by omega) (by omega)
  rw [show ((2 ^ 7 * b : Nat) : Int) = (b : Int) * 128 by omega] at this
  exact this
theorem or2 (y0 y1 : Int) (h0 : 0 ≤ y0) (h1 : y0 < 16384) (h2 : 0 ≤ y1) (h3 : y1 < 128) : bits .or .u64 y0 (y1 * 16384) = y0 + y1 * 16384 := by
  obtain ⟨b, rfl⟩ := Int.eq_ofNat_of_zero_le h2
  have := or_add 14 b y0 h0 (by omega) (by omega) (by omega)
  rw [show ((2 ^ 14 * b : Nat) : Int) = (b : Int) * 16384 by omega] at this
  exact this
end Go.Proofs.Qxb6609326a
