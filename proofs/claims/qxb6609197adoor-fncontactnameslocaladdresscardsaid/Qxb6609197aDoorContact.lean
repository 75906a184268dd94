/-
  net/netip.AddrFrom4, AddrPortFrom, (*call).contact, bench.ZZcontact.
-/
import Derived.Test.Qxb6609197aDoorStr
import Derived.Laws.BitsAllLaws
namespace Go.Proofs.Qxb6609197aDoor
open Go.RowKit

theorem or_add (k : Nat) (m : Nat) (y : Int) (h0 : 0 ≤ y) (h1 : y < ((2 ^ k : Nat) : Int)) (h2 : ((2 ^ k * m : Nat) : Int) < 18446744073709551616) (h3 : y < 18446744073709551616) :
    bits .or .u64 ((2 ^ k * m : Nat) : Int) y = ((2 ^ k * m : Nat) : Int) + y := by
  obtain ⟨b, rfl⟩ := Int.eq_ofNat_of_zero_le h0
  rw [u64_or_nat _ _ (by omega) (by omega), ← Nat.two_pow_add_eq_or_of_lt (by omega)]
  omega

/-- The low word of the address a.b.c.d. -/
def lowOf (a b c d : Int) : Int := 281470681743360 + a * 16777216 + b * 65536 + c * 256 + d

theorem low_eq (a b c d : Int) (ha : 0 ≤ a ∧ a < 256) (hb : 0 ≤ b ∧ b < 256) (hc : 0 ≤ c ∧ c < 256) (hd : 0 ≤ d ∧ d < 256) :
    bits .or .u64 (bits .or .u64 (bits .or .u64 (bits .or .u64 281470681743360 (a * 16777216)) (b * 65536)) (c * 256)) d = lowOf a b c d := by
  obtain ⟨a, rfl⟩ := Int.eq_ofNat_of_zero_le ha.1
  obtain ⟨b, rfl⟩ := Int.eq_ofNat_of_zero_le hb.1
  obtain ⟨c, rfl⟩ := Int.eq_ofNat_of_zero_le hc.1
  have e1 := or_add 32 65535 ((a : Int) * 16777216) (by omega) (by omega) (by omega) (by omega)
  rw [show ((2 ^ 32 * 65535 : Nat) : Int) = 281470681743360 from rfl] at e1
  rw [e1]
  have e2 := or_add 24 (16776960 + a) ((b : Int) * 65536) (by omega) (by omega) (by omega) (by omega)
  rw [show ((2 ^ 24 * (16776960 + a) : Nat) : Int) = 281470681743360 + (a : Int) * 16777216 by omega] at e2
  rw [e2]
  have e3 := or_add 16 (4294901760 + a * 256 + b) ((c : Int) * 256) (by omega) (by omega) (by omega) (by omega)
  rw [show ((2 ^ 16 * (4294901760 + a * 256 + b) : Nat) : Int) = 281470681743360 + (a : Int) * 16777216 + (b : Int) * 65536 by omega] at e3
  rw [e3]
  have e4 := or_add 8 (1099494850560 + a * 65536 + b * 256 + c) d (by omega) (by omega) (by omega) (by omega)
  rw [show ((2 ^ 8 * (1099494850560 + a * 65536 + b * 256 + c) : Nat) : Int) = 281470681743360 + (a : Int) * 16777216 + (b : Int) * 65536 + (c : Int) * 256 by omega] at e4
  rw [e4]
  rfl

theorem dotted_low (a b c d : Int) (ha : 0 ≤ a ∧ a < 256) (hb : 0 ≤ b ∧ b < 256) (hc : 0 ≤ c ∧ c < 256) (hd : 0 ≤ d ∧ d < 256) :
    dotted (lowOf a b c d) = Lib.decDigits a.toNat ++ [46] ++ Lib.decDigits b.toNat ++ [46] ++ Lib.decDigits c.toNat ++ [46] ++ Lib.decDigits d.toNat := by
  unfold dotted lowOf
  rw [show (281470681743360 + a * 16777216 + b * 65536 + c * 256 + d) / 16777216 % 256 = a by omega,
    show (281470681743360 + a * 16777216 + b * 65536 + c * 256 + d) / 65536 % 256 = b by omega,
    show (281470681743360 + a * 16777216 + b * 65536 + c * 256 + d) / 256 % 256 = c by omega,
    show (281470681743360 + a * 16777216 + b * 65536 + c * 256 + d) % 256 = d by omega]

set_option maxHeartbeats 400000 in
set_option maxRecDepth 100000 in
theorem from4 (a b c d : Int) (p : Addr) (w : World) (ha : 0 ≤ a ∧ a < 256) (hb : 0 ≤ b ∧ b < 256) (hc : 0 ≤ c ∧ c < 256) (hd : 0 ≤ d ∧ d < 256) (hz4 : w.cell? ⟨0, 0, none⟩ = some (.pointer (some p))) :
    Calls Tryd.prog 13 #[.agg #[.int .u8 a, .int .u8 b, .int .u8 c, .int .u8 d]] w fun e w' => e = .returned (.agg #[.int .u64 0, .int .u64 (lowOf a b c d), .pointer (some p)]) ∧ ∃ o1 o2, w' = (w.alloc o1).alloc o2 := by
  have k1 := fun x y => cell_alloc (cell_alloc hz4 x) y
  have L : Hid (bits .or .u64 (bits .or .u64 (bits .or .u64 (bits .or .u64 281470681743360 (a * 16777216)) (b * 65536)) (c * 256)) d = lowOf a b c d) := low_eq a b c d ha hb hc hd
  go_enter Tryd.func13, Tryd.ntmps13
  go_wp2_with fail
  refine bodyPost_ret (v := .agg #[.int .u64 0, .int .u64 (bits .or .u64 (bits .or .u64 (bits .or .u64 (bits .or .u64 281470681743360 (a * 16777216)) (b * 65536)) (c * 256)) d), .pointer (some p)]) (by simp [results, Tryd.results13, go_sem]) rfl ⟨?_, _, _, rfl⟩
  rw [L.out]

set_option maxHeartbeats 400000 in
set_option maxRecDepth 100000 in
theorem from12 (h lo port : Int) (p : Option Addr) (w : World) :
    Calls Tryd.prog 12 #[.agg #[.int .u64 h, .int .u64 lo, .pointer p], .int .u16 port] w fun e w' => e = .returned (.agg #[.int .u64 h, .int .u64 lo, .pointer p, .int .u16 port]) ∧ ∃ o1 o2, w' = (w.alloc o1).alloc o2 := by
  go_enter Tryd.func12, Tryd.ntmps12
  go_wp2_with fail
  exact bodyPost_ret (v := .agg #[.int .u64 h, .int .u64 lo, .pointer p, .int .u16 port]) (by simp [results, Tryd.results12, go_sem]) rfl ⟨rfl, _, _, rfl⟩

def pre : List UInt8 := [60, 115, 105, 112, 58, 114, 105, 110, 103, 98, 101, 110, 99, 104, 64]

/-- The whole Contact. -/
def contactL (lo port : Int) : List UInt8 := pre ++ (dotted lo ++ [58] ++ Lib.decDigits port.toNat) ++ [62]

theorem ba_append (a b : List UInt8) : (⟨a.toArray⟩ : ByteArray) ++ ⟨b.toArray⟩ = ⟨(a ++ b).toArray⟩ := by
  apply ByteArray.ext
  simp

theorem decDigits_u16_le (u : Nat) (h : u < 65536) : 1 ≤ (Lib.decDigits u).length ∧ (Lib.decDigits u).length ≤ 5 := by
  rw [Lib.decDigits_length]
  refine ⟨Lib.nDigits_pos u, ?_⟩
  by_cases c1 : u < 10
  · rw [Lib.nDigits_small c1]; omega
  rw [Lib.nDigits_big c1]
  by_cases c2 : u / 10 < 10
  · rw [Lib.nDigits_small c2]; omega
  rw [Lib.nDigits_big c2]
  by_cases c3 : u / 10 / 10 < 10
  · rw [Lib.nDigits_small c3]; omega
  rw [Lib.nDigits_big c3]
  by_cases c4 : u / 10 / 10 / 10 < 10
  · rw [Lib.nDigits_small c4]; omega
  rw [Lib.nDigits_big c4, Lib.nDigits_small (by omega)]
  omega

theorem whole_eq (x y : List UInt8) : (⟨#[60, 115, 105, 112, 58, 114, 105, 110, 103, 98, 101, 110, 99, 104, 64]⟩ : ByteArray) ++ ⟨(x ++ 58 :: y).toArray⟩ ++ ⟨#[62]⟩ = ⟨(pre ++ (x ++ [58] ++ y) ++ [62]).toArray⟩ := by
  have e : (⟨#[60, 115, 105, 112, 58, 114, 105, 110, 103, 98, 101, 110, 99, 104, 64]⟩ : ByteArray) = ⟨pre.toArray⟩ := rfl
  have e2 : (⟨#[62]⟩ : ByteArray) = ⟨[62].toArray⟩ := rfl
  rw [e, e2, ba_append, ba_append]
  simp

set_option maxHeartbeats 800000 in
set_option maxRecDepth 100000 in
theorem con14 (h lo port : Int) (p : Addr) (B : Nat) (w : World) (hp0 : 0 ≤ port) (hp1 : port < 65536) (hz4 : w.cell? ⟨0, 0, none⟩ = some (.pointer (some p))) (hz0 : w.cell? ⟨1, 0, none⟩ = some (.pointer none)) (hau : AppUint w)
    (h5 : w.cell? ⟨B, 5, none⟩ = some (.int .u64 h)) (h6 : w.cell? ⟨B, 6, none⟩ = some (.int .u64 lo)) (h7 : w.cell? ⟨B, 7, none⟩ = some (.pointer (some p))) (h8 : w.cell? ⟨B, 8, none⟩ = some (.int .u16 port)) :
    Calls Tryd.prog 14 #[.pointer (some ⟨B, 0, none⟩)] w fun e w' =>
      e = .returned (.string ⟨(contactL lo port).toArray⟩) ∧ Below w.heap.size w w' := by
  have n1 := dotted_le lo
  have n2 := decDigits_u16_le port.toNat (by omega)
  have E : Hid ((⟨#[60, 115, 105, 112, 58, 114, 105, 110, 103, 98, 101, 110, 99, 104, 64]⟩ : ByteArray) ++ ⟨(dotted lo ++ 58 :: Lib.decDigits port.toNat).toArray⟩ ++ ⟨#[62]⟩ = ⟨(contactL lo port).toArray⟩) := whole_eq _ _
  go_enter Tryd.func14, Tryd.ntmps14
  go_wp2_with fail
  refine (str17 h lo port p w hp0 hp1 hz4 hz0 hau).mono ?_
  rintro e w1 ⟨rfl, hb1⟩
  go_wp2
  go_ret
  exact ⟨by rw [E.out]; rfl, hb1⟩

set_option maxHeartbeats 800000 in
set_option maxRecDepth 100000 in
theorem zz6 (a b c d port : Int) (p : Addr) (w : World) (ha : 0 ≤ a ∧ a < 256) (hb : 0 ≤ b ∧ b < 256) (hc : 0 ≤ c ∧ c < 256) (hd : 0 ≤ d ∧ d < 256) (hp0 : 0 ≤ port) (hp1 : port < 65536) (hz4 : w.cell? ⟨0, 0, none⟩ = some (.pointer (some p))) (hz0 : w.cell? ⟨1, 0, none⟩ = some (.pointer none)) (hau : AppUint w) :
    Calls Tryd.prog 6 #[.agg #[.int .u8 a, .int .u8 b, .int .u8 c, .int .u8 d], .int .u16 port] w fun e w' =>
      e = .returned (.string ⟨(contactL (lowOf a b c d) port).toArray⟩) ∧ Below w.heap.size w w' := by
  go_enter Tryd.func6, Tryd.ntmps6
  go_wp2_with fail
  refine (from4 a b c d p _ ha hb hc hd (cell_alloc (cell_alloc hz4 _) _)).mono ?_
  rintro e w1 ⟨rfl, o1, o2, rfl⟩
  go_wp2_with fail
  refine (from12 0 (lowOf a b c d) port (some p) _).mono ?_
  rintro e w2 ⟨rfl, o3, o4, rfl⟩
  go_wp2_with fail
  refine (con14 0 (lowOf a b c d) port p (w.heap.size + 1) _ hp0 hp1 (cell_alloc (cell_alloc (cell_alloc (cell_alloc (cell_alloc (cell_alloc hz4 _) _) _) _) _) _) (cell_alloc (cell_alloc (cell_alloc (cell_alloc (cell_alloc (cell_alloc hz0 _) _) _) _) _) _)
    (hau.later ((((((Below.refl _ w).alloc (by simp) _).alloc (by simp) _).alloc (by simp; omega) _).alloc (by simp; omega) _).alloc (by simp; omega) _ |>.alloc (by simp; omega) _)) (by simp [go_sem]) (by simp [go_sem]) (by simp [go_sem]) (by simp [go_sem])).mono ?_
  rintro e w3 ⟨rfl, hb3⟩
  go_wp2
  go_ret
  exact ⟨rfl, ((((((Below.refl _ w).alloc (by simp) _).alloc (by simp) _).alloc (by simp; omega) _).alloc (by simp; omega) _).alloc (by simp; omega) _ |>.alloc (by simp; omega) _).trans (hb3.mono (by simp; omega))⟩
end Go.Proofs.Qxb6609197aDoor
