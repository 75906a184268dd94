/-
  (*unpacker).uint.
-/
import Derived.Test.Qxb6609326aProg
import Derived.Test.Qxb6609326aPlain
import Derived.WalkKit
import Derived.WalkSpells
import Derived.WalkLawsBesides
import Derived.Lib.Strings
namespace Go.Proofs.Qxb6609326a
open Go.RowKit

/-- The unpacker in block U holds t; every other block of w is as it was. -/
structure Un (U : Nat) (w w' : World) (t : ByteArray) : Prop where
  blk : w'.heap[U]? = some (.cells #[.string t] 65 (0, 0))
  os : w'.os = w.os
  tape : w'.tape = w.tape
  output : w'.output = w.output
  size : w.heap.size ≤ w'.heap.size
  block : ∀ k, k < w.heap.size → k ≠ U → w'.heap[k]? = w.heap[k]?

theorem Un.start {U : Nat} {w : World} {t : ByteArray} (h : w.heap[U]? = some (.cells #[.string t] 65 (0, 0))) : Un U w w t := ⟨h, rfl, rfl, rfl, Nat.le_refl _, fun _ _ _ => rfl⟩
theorem Un.trans {U : Nat} {a b c : World} {t u : ByteArray} (h : Un U a b t) (k : Un U b c u) : Un U a c u :=
  ⟨k.blk, k.os.trans h.os, k.tape.trans h.tape, k.output.trans h.output, Nat.le_trans h.size k.size, fun i hi hu => (k.block i (Nat.lt_of_lt_of_le hi h.size) hu).trans (h.block i hi hu)⟩
theorem Un.lt {U : Nat} {a b : World} {t : ByteArray} (h : Un U a b t) : U < b.heap.size := (Array.getElem?_eq_some_iff.1 h.blk).1
theorem Un.below {U B : Nat} {a b : World} {t : ByteArray} (h : Un U a b t) (hB : B ≤ U) (hs : B ≤ a.heap.size) : Below B a b :=
  ⟨h.os, h.tape, h.output, h.size, fun k hk => h.block k (by omega) (by omega)⟩
theorem Un.alloc {U : Nat} {a b : World} {t : ByteArray} (h : Un U a b t) (o : Obj) : Un U a (b.alloc o) t :=
  ⟨(Below.heap_alloc b o U h.lt).trans h.blk, h.os, h.tape, h.output, by have := h.size; simp; omega, fun k hk hu => (Below.heap_alloc b o k (Nat.lt_of_lt_of_le hk h.size)).trans (h.block k hk hu)⟩
theorem Un.set {U : Nat} {a b : World} {t : ByteArray} (h : Un U a b t) (u : ByteArray) : Un U a (b.setCell ⟨U, 0, none⟩ (.string u)) u :=
  ⟨one_setCell h.blk, h.os, h.tape, h.output, by have := h.size; simpa using this, fun k hk hu => (Below.heap_setCell b _ _ k hu).trans (h.block k hk hu)⟩
theorem Un.cell {U : Nat} {a b : World} {t : ByteArray} (h : Un U a b t) : b.cell? ⟨U, 0, none⟩ = some (.string t) := by
  simp [World.cell?, h.blk]
theorem Un.frozen {U : Nat} {a b : World} {t : ByteArray} (h : Un U a b t) : b.frozen? ⟨U, 0, none⟩ = false := by
  simp [World.frozen?, h.blk]

theorem isEmpty_false (s : ByteArray) (h : 0 < s.size) : s.toList.isEmpty = false := by
  rw [ByteArray.toList_eq, List.isEmpty_eq_false_iff]
  intro e
  have h2 : s.data.toList.length = s.size := by simp
  rw [e] at h2
  have h3 : ([] : List UInt8).length = 0 := rfl
  omega
theorem isEmpty_true (s : ByteArray) (h : s.data.toList = []) : s.toList.isEmpty = true := by
  rw [ByteArray.toList_eq, h]
  rfl
/-- What is left of a text behind its first byte. -/
theorem tail_of (s : ByteArray) (c : UInt8) (r : List UInt8) (h : s.data.toList = c :: r) : ∃ (h0 : 0 < s.size) (t : ByteArray), s[0]'h0 = c ∧ s.extract 1 s.size = t ∧ t.data.toList = r ∧ s.size = r.length + 1 := by
  have hl : s.size = r.length + 1 := by
    have := congrArg List.length h
    simpa using this
  refine ⟨by omega, _, ?_, rfl, ?_, hl⟩
  · have e : s.data.toList[0]? = some c := by rw [h]; rfl
    have e2 : s.data.toList[0]? = some (s[0]'(by omega)) := by
      rw [List.getElem?_eq_getElem (by simp; omega)]
      rfl
    rw [e2] at e
    exact Option.some.inj e
  · rw [Lib.extract_data, h]
    simp [hl]

/-- At the end of the text: 0. -/
theorem uint_end (U : Nat) (s : ByteArray) (w : World) (hb : w.heap[U]? = some (.cells #[.string s] 65 (0, 0))) (hs : s.data.toList = []) :
    Calls Try.prog 27 #[.pointer (some ⟨U, 0, none⟩)] w fun e w' => e = .returned (.int .u64 0) ∧ Un U w w' s := by
  have hc := (Un.start hb).cell
  have he := isEmpty_true s hs
  go_enter Try.func27, Try.ntmps27
  go_wp2
  go_ret
  exact ⟨rfl, Un.start hb⟩

set_option maxHeartbeats 800000 in
set_option maxRecDepth 100000 in
/-- One byte. -/
theorem uint_one (U : Nat) (s : ByteArray) (w : World) (hb : w.heap[U]? = some (.cells #[.string s] 65 (0, 0))) (c : UInt8) (r : List UInt8) (hs : s.data.toList = c :: r) (hr : r.length ≤ 100000000) (c0 : c.toNat < 128) :
    Calls Try.prog 27 #[.pointer (some ⟨U, 0, none⟩)] w fun e w' => e = .returned (.int .u64 (c.toNat : Int)) ∧ ∃ t, t.data.toList = r ∧ Un U w w' t := by
  obtain ⟨h0, s1, b0, e1, d1, hsz⟩ := tail_of s c r hs
  have u1 := (Un.start hb).set s1
  have hc := (Un.start hb).cell
  have hf := (Un.start hb).frozen
  have he := isEmpty_false s h0
  obtain ⟨x, hx⟩ : ∃ x : Int, x = (c.toNat : Int) := ⟨_, rfl⟩
  have X : Hid (x = (c.toNat : Int)) := hx
  have a0 : ((s[0]'h0).toNat : Int) = x := by rw [b0, hx]
  have x0 : 0 ≤ x := by omega
  have x1 : x < 128 := by omega
  have q0 : bits .and .u8 x 127 = x := by rw [and127 x x0 (by omega)]; omega
  have o0 := or0 x x0 x1
  have hsz2 : s.size ≤ 100000001 := by omega
  clear hx hs hsz b0
  go_enter Try.func27, Try.ntmps27
  go_wp2
  refine wp_loop_rounds 1 ?_
  rw [rounds_succ]
  go_wp2
  go_ret
  exact ⟨by rw [← X.out]; rfl, s1, d1, u1⟩

set_option maxHeartbeats 1600000 in
set_option maxRecDepth 100000 in
/-- Two bytes. -/
theorem uint_two (U : Nat) (s : ByteArray) (w : World) (hb : w.heap[U]? = some (.cells #[.string s] 65 (0, 0))) (c d : UInt8) (r : List UInt8) (hs : s.data.toList = c :: d :: r) (hr : r.length ≤ 100000000) (c0 : 128 ≤ c.toNat) (d0 : d.toNat < 128) :
    Calls Try.prog 27 #[.pointer (some ⟨U, 0, none⟩)] w fun e w' => e = .returned (.int .u64 ((c.toNat : Int) - 128 + (d.toNat : Int) * 128)) ∧ ∃ t, t.data.toList = r ∧ Un U w w' t := by
  have c256 : c.toNat < 256 := c.toNat_lt
  obtain ⟨h0, s1, b0, e1, d1, hsz⟩ := tail_of s c (d :: r) hs
  obtain ⟨h1, s2, b1, e2, d2, hsz1⟩ := tail_of s1 d r d1
  have u1 := (Un.start hb).set s1
  have hc := (Un.start hb).cell
  have hf := (Un.start hb).frozen
  have he := isEmpty_false s h0
  obtain ⟨x, hx⟩ : ∃ x : Int, x = (c.toNat : Int) - 128 := ⟨_, rfl⟩
  obtain ⟨y, hy⟩ : ∃ y : Int, y = (d.toNat : Int) := ⟨_, rfl⟩
  have X : Hid (x = (c.toNat : Int) - 128) := hx
  have Y : Hid (y = (d.toNat : Int)) := hy
  have a0 : ((s[0]'h0).toNat : Int) = x + 128 := by rw [b0, hx]; omega
  have a1 : ((s1[0]'h1).toNat : Int) = y := by rw [b1, hy]
  have x0 : 0 ≤ x := by omega
  have x1 : x < 128 := by omega
  have y0 : 0 ≤ y := by omega
  have y1 : y < 128 := by omega
  have q0 : bits .and .u8 (x + 128) 127 = x := by rw [and127 (x + 128) (by omega) (by omega)]; omega
  have q1 : bits .and .u8 y 127 = y := by rw [and127 y y0 (by omega)]; omega
  have o0 := or0 x x0 x1
  have o1 := or1 x y x0 x1 y0 y1
  have z0 : s.size ≤ 100000002 := by simp at hsz; omega
  have z1 : s1.size ≤ 100000001 := by omega
  clear hx hy hs hsz b0 b1 d1 hsz1 c0 d0 c256
  go_enter Try.func27, Try.ntmps27
  go_wp2
  refine wp_loop_rounds 2 ?_
  rw [rounds_succ]
  go_wp2
  generalize w.setCell ⟨U, 0, none⟩ (.string s1) = W1 at *
  have hc1 := u1.cell
  have hf1 := u1.frozen
  have u2 := u1.set s2
  clear hc hf
  rw [rounds_succ]
  go_wp2
  go_ret
  exact ⟨by rw [← X.out, ← Y.out]; rfl, s2, d2, u2⟩

set_option maxHeartbeats 1600000 in
set_option maxRecDepth 100000 in
/-- Three bytes. -/
theorem uint_three (U : Nat) (s : ByteArray) (w : World) (hb : w.heap[U]? = some (.cells #[.string s] 65 (0, 0))) (c d f : UInt8) (r : List UInt8) (hs : s.data.toList = c :: d :: f :: r) (hr : r.length ≤ 100000000) (c0 : 128 ≤ c.toNat) (d0 : 128 ≤ d.toNat) (f0 : f.toNat < 128) :
    Calls Try.prog 27 #[.pointer (some ⟨U, 0, none⟩)] w fun e w' => e = .returned (.int .u64 ((c.toNat : Int) - 128 + ((d.toNat : Int) - 128) * 128 + (f.toNat : Int) * 16384)) ∧ ∃ t, t.data.toList = r ∧ Un U w w' t := by
  have c256 : c.toNat < 256 := c.toNat_lt
  have d256 : d.toNat < 256 := d.toNat_lt
  obtain ⟨h0, s1, b0, e1, d1, hsz⟩ := tail_of s c (d :: f :: r) hs
  obtain ⟨h1, s2, b1, e2, d2, hsz1⟩ := tail_of s1 d (f :: r) d1
  obtain ⟨h2, s3, b2, e3, d3, hsz2⟩ := tail_of s2 f r d2
  have u1 := (Un.start hb).set s1
  have hc := (Un.start hb).cell
  have hf := (Un.start hb).frozen
  have he := isEmpty_false s h0
  obtain ⟨x, hx⟩ : ∃ x : Int, x = (c.toNat : Int) - 128 := ⟨_, rfl⟩
  obtain ⟨y, hy⟩ : ∃ y : Int, y = (d.toNat : Int) - 128 := ⟨_, rfl⟩
  obtain ⟨z, hz⟩ : ∃ z : Int, z = (f.toNat : Int) := ⟨_, rfl⟩
  have X : Hid (x = (c.toNat : Int) - 128) := hx
  have Y : Hid (y = (d.toNat : Int) - 128) := hy
  have Z : Hid (z = (f.toNat : Int)) := hz
  have a0 : ((s[0]'h0).toNat : Int) = x + 128 := by rw [b0, hx]; omega
  have a1 : ((s1[0]'h1).toNat : Int) = y + 128 := by rw [b1, hy]; omega
  have a2 : ((s2[0]'h2).toNat : Int) = z := by rw [b2, hz]
  have x0 : 0 ≤ x := by omega
  have x1 : x < 128 := by omega
  have y0 : 0 ≤ y := by omega
  have y1 : y < 128 := by omega
  have zz0 : 0 ≤ z := by omega
  have zz1 : z < 128 := by omega
  have q0 : bits .and .u8 (x + 128) 127 = x := by rw [and127 (x + 128) (by omega) (by omega)]; omega
  have q1 : bits .and .u8 (y + 128) 127 = y := by rw [and127 (y + 128) (by omega) (by omega)]; omega
  have q2 : bits .and .u8 z 127 = z := by rw [and127 z zz0 (by omega)]; omega
  have o0 := or0 x x0 x1
  have o1 := or1 x y x0 x1 y0 y1
  have o2 := or2 (x + y * 128) z (by omega) (by omega) zz0 zz1
  have z0 : s.size ≤ 100000003 := by simp at hsz; omega
  have z1 : s1.size ≤ 100000002 := by simp at hsz1; omega
  have z2 : s2.size ≤ 100000001 := by omega
  clear hx hy hz hs hsz b0 b1 b2 d1 d2 hsz1 hsz2 c0 d0 f0 c256 d256
  go_enter Try.func27, Try.ntmps27
  go_wp2
  refine wp_loop_rounds 3 ?_
  rw [rounds_succ]
  go_wp2
  generalize w.setCell ⟨U, 0, none⟩ (.string s1) = W1 at *
  have hc1 := u1.cell
  have hf1 := u1.frozen
  have u2 := u1.set s2
  clear hc hf
  rw [rounds_succ]
  go_wp2
  generalize W1.setCell ⟨U, 0, none⟩ (.string s2) = W2 at *
  have hc2 := u2.cell
  have hf2 := u2.frozen
  have u3 := u2.set s3
  clear hc1 hf1
  rw [rounds_succ]
  go_wp2
  go_ret
  exact ⟨by rw [← X.out, ← Y.out, ← Z.out]; rfl, s3, d3, u3⟩

/-- (*unpacker).uint. -/
theorem uint27 (U : Nat) (s : ByteArray) (w : World) (hb : w.heap[U]? = some (.cells #[.string s] 65 (0, 0))) (v : Nat) (r : List UInt8) (hs : RdU s.data.toList v r) (hr : r.length ≤ 100000000) :
    Calls Try.prog 27 #[.pointer (some ⟨U, 0, none⟩)] w fun e w' => e = .returned (.int .u64 (v : Int)) ∧ ∃ t, t.data.toList = r ∧ Un U w w' t := by
  rcases hs with ⟨h1, rfl, rfl⟩ | ⟨hv, h1⟩
  · exact (uint_end U s w hb h1).mono fun _ _ ⟨he, hu⟩ => ⟨he, s, h1, hu⟩
  · unfold encU at h1
    split at h1
    · rename_i hlt
      refine (uint_one U s w hb _ r h1 hr (by rw [ofNat_toNat _ (by omega)]; omega)).mono ?_
      rintro e w' ⟨rfl, hu⟩
      exact ⟨by rw [ofNat_toNat _ (by omega)], hu⟩
    · split at h1
      · refine (uint_two U s w hb _ _ r h1 hr (by rw [ofNat_toNat _ (by omega)]; omega) (by rw [ofNat_toNat _ (by omega)]; omega)).mono ?_
        rintro e w' ⟨rfl, hu⟩
        refine ⟨?_, hu⟩
        rw [ofNat_toNat _ (by omega), ofNat_toNat _ (by omega)]
        exact congrArg (fun z => Ending.returned (.int .u64 z)) (by omega)
      · refine (uint_three U s w hb _ _ _ r h1 hr (by rw [ofNat_toNat _ (by omega)]; omega) (by rw [ofNat_toNat _ (by omega)]; omega) (by rw [ofNat_toNat _ (by omega)]; omega)).mono ?_
        rintro e w' ⟨rfl, hu⟩
        refine ⟨?_, hu⟩
        rw [ofNat_toNat _ (by omega), ofNat_toNat _ (by omega), ofNat_toNat _ (by omega)]
        exact congrArg (fun z => Ending.returned (.int .u64 z)) (by omega)
end Go.Proofs.Qxb6609326a
