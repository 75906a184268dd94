/-
  Plain facts on decimal numerals: no Go in sight.
-/
import Derived.Lib.ItoaNum
namespace Go.Proofs.Qxb6609197aDoor

/-- The number that a list of digits spells. -/
def valOf : List UInt8 → Nat → Nat
  | [], v => v
  | c :: l, v => valOf l (v * 10 + (c.toNat - 48))
theorem valOf_append (a b : List UInt8) (v : Nat) : valOf (a ++ b) v = valOf b (valOf a v) := by
  induction a generalizing v with
  | nil => rfl
  | cons c a ih => simp only [List.cons_append, valOf, ih]
theorem valOf_snoc (a : List UInt8) (c : UInt8) (v : Nat) : valOf (a ++ [c]) v = valOf a v * 10 + (c.toNat - 48) := by rw [valOf_append]; rfl
theorem valOf_ge (b : List UInt8) (v : Nat) : v ≤ valOf b v := by
  induction b generalizing v with
  | nil => exact Nat.le_refl _
  | cons c b ih =>
    have := ih (v * 10 + (c.toNat - 48))
    simp only [valOf]
    omega
theorem valOf_take_le (l : List UInt8) (k : Nat) : valOf (l.take k) 0 ≤ valOf l 0 := by
  have h : valOf l 0 = valOf (l.drop k) (valOf (l.take k) 0) := by rw [← valOf_append, List.take_append_drop]
  rw [h]
  exact valOf_ge _ _
theorem take_snoc (l : List UInt8) (k : Nat) (h : k < l.length) : l.take (k + 1) = l.take k ++ [l[k]] := List.take_succ_eq_append_getElem h

theorem digit_toNat (k : Nat) (h : k < 10) : (UInt8.ofNat (48 + k)).toNat = 48 + k := by
  rw [UInt8.toNat_ofNat']
  omega
theorem valOf_dec (n : Nat) : valOf (Lib.decDigits n) 0 = n := by
  induction n using Nat.strongRecOn with
  | _ n ih =>
    rw [Lib.decDigits]
    split
    · rename_i h
      simp only [valOf]
      rw [digit_toNat n h]
      omega
    · rename_i h
      rw [valOf_snoc, ih (n / 10) (by omega), digit_toNat (n % 10) (by omega)]
      omega
theorem digits_dec (n : Nat) : ∀ c ∈ Lib.decDigits n, 48 ≤ c.toNat ∧ c.toNat ≤ 57 := by
  induction n using Nat.strongRecOn with
  | _ n ih =>
    intro c hc
    rw [Lib.decDigits] at hc
    split at hc
    · rename_i h
      simp only [List.mem_singleton] at hc
      subst hc
      rw [digit_toNat n h]
      omega
    · rename_i h
      rcases List.mem_append.1 hc with h1 | h1
      · exact ih (n / 10) (by omega) c h1
      · simp only [List.mem_singleton] at h1
        subst h1
        rw [digit_toNat (n % 10) (by omega)]
        omega
theorem dec_ne (n : Nat) : 0 < (Lib.decDigits n).length := by rw [Lib.decDigits_length]; exact Lib.nDigits_pos n
/-- No leading zero, but for 0 itself. -/
theorem dec_head (n : Nat) (h : 10 ≤ n) : ((Lib.decDigits n)[0]'(dec_ne n)).toNat ≠ 48 := by
  induction n using Nat.strongRecOn with
  | _ n ih =>
    have e : Lib.decDigits n = Lib.decDigits (n / 10) ++ [UInt8.ofNat (48 + n % 10)] := by
      rw [Lib.decDigits, dif_neg (by omega)]
    have e0 : (Lib.decDigits n)[0]'(dec_ne n) = (Lib.decDigits (n / 10))[0]'(dec_ne (n / 10)) := by
      simp only [e]
      rw [List.getElem_append_left]
    rw [e0]
    by_cases h2 : 10 ≤ n / 10
    · exact ih (n / 10) (by omega) h2
    · have e1 : Lib.decDigits (n / 10) = [UInt8.ofNat (48 + n / 10)] := Lib.decDigits_one (by omega)
      simp only [e1, List.getElem_cons_zero]
      rw [digit_toNat (n / 10) (by omega)]
      omega
theorem dec_lead (n : Nat) (h : 1 < (Lib.decDigits n).length) : ((Lib.decDigits n)[0]'(dec_ne n)).toNat ≠ 48 := by
  apply dec_head
  rcases Nat.lt_or_ge n 10 with h1 | h1
  · rw [Lib.decDigits_one h1] at h
    simp at h
  · exact h1

/-- The bytes of a string that holds D at i0, and c behind. -/
theorem byte_in (s : ByteArray) (A D R : List UInt8) (hs : s.data.toList = A ++ D ++ R) (k : Nat) (hk : k < D.length) (hj : A.length + k < s.size) : s[A.length + k]'hj = D[k] := by
  have h1 : s.data.toList[A.length + k]? = some D[k] := by
    rw [hs, List.append_assoc, List.getElem?_append_right (by omega), List.getElem?_append_left (by omega), List.getElem?_eq_getElem (by omega)]
    simp
  have h2 : s.data.toList[A.length + k]? = some (s[A.length + k]'hj) := by
    rw [List.getElem?_eq_getElem (by simpa using hj)]
    rfl
  rw [h2] at h1
  exact Option.some.inj h1
end Go.Proofs.Qxb6609197aDoor
