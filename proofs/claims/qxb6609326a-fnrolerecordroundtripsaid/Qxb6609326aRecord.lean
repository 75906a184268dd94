/-
  (*role).record and ZZroleRecord, over whatever unpack answers.
-/
import Derived.Test.Qxb6609326aStrs
import Derived.BigRegion
import Derived.Handy
namespace Go.Proofs.Qxb6609326a
open Go.RowKit

/-- Block N has been turned, all else stands. -/
structure Same (N : Nat) (a b : World) : Prop where
  os : b.os = a.os
  tape : b.tape = a.tape
  output : b.output = a.output
  size : b.heap.size = a.heap.size
  block : ∀ k, k ≠ N → b.heap[k]? = a.heap[k]?
theorem Same.refl (N : Nat) (a : World) : Same N a a := ⟨rfl, rfl, rfl, rfl, fun _ _ => rfl⟩
theorem Same.set {N j : Nat} {a b : World} (h : Same N a b) (v : Value) : Same N a (b.setCell ⟨N, j, none⟩ v) :=
  ⟨h.os, h.tape, h.output, (by simpa using h.size), fun k hk => (Below.heap_setCell b _ _ k hk).trans (h.block k hk)⟩
theorem Same.below {N B : Nat} {a b : World} (h : Same N a b) (hB : B ≤ N) : Below B a b :=
  ⟨h.os, h.tape, h.output, Nat.le_of_eq h.size.symm, fun k hk => h.block k (by omega)⟩
theorem set_at {N j t : Nat} {w : World} {C C' : Array Value} (h : w.heap[N]? = some (.cells C t (0, 0))) (v : Value) (hC : C.setIfInBounds j v = C') : (w.setCell ⟨N, j, none⟩ v).heap[N]? = some (.cells C' t (0, 0)) := by
  rw [← hC]
  exact Lib.heap_setCell_same h v
theorem set8 {N t : Nat} {w : World} {z0 z1 z2 z3 z4 z5 z6 z7 : Value} (h : w.heap[N]? = some (.cells #[z0, z1, z2, z3, z4, z5, z6, z7] t (0, 0))) (v0 v1 v2 v3 v4 v5 v6 v7 : Value) (W : World)
    (hW : ((((((((w.setCell ⟨N, 0, none⟩ v0).setCell ⟨N, 1, none⟩ v1).setCell ⟨N, 2, none⟩ v2).setCell ⟨N, 3, none⟩ v3).setCell ⟨N, 4, none⟩ v4).setCell ⟨N, 5, none⟩ v5).setCell ⟨N, 6, none⟩ v6).setCell ⟨N, 7, none⟩ v7) = W) :
    W.heap[N]? = some (.cells #[v0, v1, v2, v3, v4, v5, v6, v7] t (0, 0)) ∧ Same N w W := by
  have h0 := set_at (j := 0) (C' := #[v0, z1, z2, z3, z4, z5, z6, z7]) h v0 rfl
  have s0 := (Same.refl N w).set (j := 0) v0
  generalize w.setCell ⟨N, 0, none⟩ v0 = w0 at *
  have h1 := set_at (j := 1) (C' := #[v0, v1, z2, z3, z4, z5, z6, z7]) h0 v1 rfl
  have s1 := s0.set (j := 1) v1
  generalize w0.setCell ⟨N, 1, none⟩ v1 = w1 at *
  have h2 := set_at (j := 2) (C' := #[v0, v1, v2, z3, z4, z5, z6, z7]) h1 v2 rfl
  have s2 := s1.set (j := 2) v2
  generalize w1.setCell ⟨N, 2, none⟩ v2 = w2 at *
  have h3 := set_at (j := 3) (C' := #[v0, v1, v2, v3, z4, z5, z6, z7]) h2 v3 rfl
  have s3 := s2.set (j := 3) v3
  generalize w2.setCell ⟨N, 3, none⟩ v3 = w3 at *
  have h4 := set_at (j := 4) (C' := #[v0, v1, v2, v3, v4, z5, z6, z7]) h3 v4 rfl
  have s4 := s3.set (j := 4) v4
  generalize w3.setCell ⟨N, 4, none⟩ v4 = w4 at *
  have h5 := set_at (j := 5) (C' := #[v0, v1, v2, v3, v4, v5, z6, z7]) h4 v5 rfl
  have s5 := s4.set (j := 5) v5
  generalize w4.setCell ⟨N, 5, none⟩ v5 = w5 at *
  have h6 := set_at (j := 6) (C' := #[v0, v1, v2, v3, v4, v5, v6, z7]) h5 v6 rfl
  have s6 := s5.set (j := 6) v6
  generalize w5.setCell ⟨N, 6, none⟩ v6 = w6 at *
  have h7 := set_at (j := 7) (C' := #[v0, v1, v2, v3, v4, v5, v6, v7]) h6 v7 rfl
  have s7 := s6.set (j := 7) v7
  rw [hW] at h7 s7
  exact ⟨h7, s7⟩

set_option maxHeartbeats 3200000 in
set_option maxRecDepth 100000 in
theorem record19 (R : Nat) (i n d h g : ByteArray) (c m : Int) (w : World) (hR : w.heap[R]? = some (.cells #[.string i, .string n, .string d, .string h, .int .u64 c, .int .u64 m, .string g] 54 (0, 0)))
    (a b f : Nat) (Q : Nat → Nat → Nat → Nat → World → Prop) (hQ : ∀ S x y z u v, Q S x y z u → (∀ k, S ≤ k → v.heap[k]? = u.heap[k]?) → Q S x y z v)
    (hu : ∀ W, Calls Try.prog 25 #[.string g] W fun e w' => ∃ x y z, e = .returned (.tuple #[.slice (some ⟨x, 0, none⟩) a a, .slice (some ⟨y, 0, none⟩) b b, .slice (some ⟨z, 0, none⟩) f f]) ∧ Below W.heap.size W w' ∧ Hid (Q W.heap.size x y z w')) :
    Calls Try.prog 19 #[.pointer (some ⟨R, 0, none⟩)] w fun e w' => ∃ S x y z, e = .returned (.agg #[.string i, .string n, .string d, .slice (some ⟨x, 0, none⟩) a a, .slice (some ⟨y, 0, none⟩) b b, .slice (some ⟨z, 0, none⟩) f f, .int .u64 c, .int .u64 m]) ∧ Below w.heap.size w w' ∧ w.heap.size < S ∧ Hid (Q S x y z w') := by
  have hu0 := hu (w.alloc (.cells #[.string ⟨#[]⟩, .string ⟨#[]⟩, .string ⟨#[]⟩, .slice none 0 0, .slice none 0 0, .slice none 0 0, .int .u64 0, .int .u64 0] 28))
  have hRw : R < w.heap.size := (Array.getElem?_eq_some_iff.1 hR).1
  have hR0 := (Below.heap_alloc w (.cells #[.string ⟨#[]⟩, .string ⟨#[]⟩, .string ⟨#[]⟩, .slice none 0 0, .slice none 0 0, .slice none 0 0, .int .u64 0, .int .u64 0] 28) R hRw).trans hR
  have hN0 := heap_new w (.cells #[.string ⟨#[]⟩, .string ⟨#[]⟩, .string ⟨#[]⟩, .slice none 0 0, .slice none 0 0, .slice none 0 0, .int .u64 0, .int .u64 0] 28)
  have b0 : Below w.heap.size w (w.alloc (.cells #[.string ⟨#[]⟩, .string ⟨#[]⟩, .string ⟨#[]⟩, .slice none 0 0, .slice none 0 0, .slice none 0 0, .int .u64 0, .int .u64 0] 28)) := (Below.refl _ _).alloc (Nat.le_refl _) _
  have hc6 := cell_of_block hR0 (j := 6) (v := .string g) rfl
  have hlt0 : w.heap.size < (w.alloc (.cells #[.string ⟨#[]⟩, .string ⟨#[]⟩, .string ⟨#[]⟩, .slice none 0 0, .slice none 0 0, .slice none 0 0, .int .u64 0, .int .u64 0] 28)).heap.size := by simp
  clear hu
  go_enter Try.func19, Try.ntmps19
  go_wp2_with fail
  generalize w.alloc (.cells #[.string ⟨#[]⟩, .string ⟨#[]⟩, .string ⟨#[]⟩, .slice none 0 0, .slice none 0 0, .slice none 0 0, .int .u64 0, .int .u64 0] 28) = W0 at *
  refine hu0.mono ?_
  rintro e w1 ⟨x, y, z, rfl, b1, hq⟩
  have hR1 := (b1.block R (by omega)).trans hR0
  have hN1 := (b1.block w.heap.size hlt0).trans hN0
  have b2 := b0.trans (b1.mono b0.size)
  have l0 := cell_of_block hR1 (j := 0) (v := .string i) rfl
  have l1 := cell_of_block hR1 (j := 1) (v := .string n) rfl
  have l2 := cell_of_block hR1 (j := 2) (v := .string d) rfl
  have l4 := cell_of_block hR1 (j := 4) (v := .int .u64 c) rfl
  have l5 := cell_of_block hR1 (j := 5) (v := .int .u64 m) rfl
  have n0 := cell_of_block hN1 (j := 0) (v := .string ⟨#[]⟩) rfl
  have f0 := free_of_block (j := 0) hN1
  have n1 := cell_of_block hN1 (j := 1) (v := .string ⟨#[]⟩) rfl
  have f1 := free_of_block (j := 1) hN1
  have n2 := cell_of_block hN1 (j := 2) (v := .string ⟨#[]⟩) rfl
  have f2 := free_of_block (j := 2) hN1
  have n3 := cell_of_block hN1 (j := 3) (v := .slice none 0 0) rfl
  have f3 := free_of_block (j := 3) hN1
  have n4 := cell_of_block hN1 (j := 4) (v := .slice none 0 0) rfl
  have f4 := free_of_block (j := 4) hN1
  have n5 := cell_of_block hN1 (j := 5) (v := .slice none 0 0) rfl
  have f5 := free_of_block (j := 5) hN1
  have n6 := cell_of_block hN1 (j := 6) (v := .int .u64 0) rfl
  have f6 := free_of_block (j := 6) hN1
  have n7 := cell_of_block hN1 (j := 7) (v := .int .u64 0) rfl
  have f7 := free_of_block (j := 7) hN1
  clear hu0 hc6 hR0 hN0 b0
  go_wp2_with fail
  go_region
  obtain ⟨W9, hW9⟩ : ∃ W9, ((((((((w1.setCell ⟨w.heap.size, 0, none⟩ (.string i)).setCell ⟨w.heap.size, 1, none⟩ (.string n)).setCell ⟨w.heap.size, 2, none⟩ (.string d)).setCell ⟨w.heap.size, 3, none⟩ (.slice (some ⟨x, 0, none⟩) a a)).setCell ⟨w.heap.size, 4, none⟩ (.slice (some ⟨y, 0, none⟩) b b)).setCell ⟨w.heap.size, 5, none⟩ (.slice (some ⟨z, 0, none⟩) f f)).setCell ⟨w.heap.size, 6, none⟩ (.int .u64 c)).setCell ⟨w.heap.size, 7, none⟩ (.int .u64 m)) = W9 := ⟨_, rfl⟩
  obtain ⟨hN9, s9⟩ := set8 hN1 _ _ _ _ _ _ _ _ W9 hW9
  rw [hW9]
  have e0 := cell_of_block hN9 (j := 0) (v := .string i) rfl
  have e1 := cell_of_block hN9 (j := 1) (v := .string n) rfl
  have e2 := cell_of_block hN9 (j := 2) (v := .string d) rfl
  have e3 := cell_of_block hN9 (j := 3) (v := .slice (some ⟨x, 0, none⟩) a a) rfl
  have e4 := cell_of_block hN9 (j := 4) (v := .slice (some ⟨y, 0, none⟩) b b) rfl
  have e5 := cell_of_block hN9 (j := 5) (v := .slice (some ⟨z, 0, none⟩) f f) rfl
  have e6 := cell_of_block hN9 (j := 6) (v := .int .u64 c) rfl
  have e7 := cell_of_block hN9 (j := 7) (v := .int .u64 m) rfl
  clear hW9 n0 n1 n2 n3 n4 n5 n6 n7 f0 f1 f2 f3 f4 f5 f6 f7 l0 l1 l2 l4 l5
  go_wp2
  refine bodyPost_ret (v := .agg #[.string i, .string n, .string d, .slice (some ⟨x, 0, none⟩) a a, .slice (some ⟨y, 0, none⟩) b b, .slice (some ⟨z, 0, none⟩) f f, .int .u64 c, .int .u64 m]) (by simp [results, Try.results19, go_sem, e0, e1, e2, e3, e4, e5, e6, e7]) rfl ?_
  exact ⟨_, x, y, z, rfl, (b2.trans (s9.below (Nat.le_refl _))).drew, hlt0, hQ _ _ _ _ _ _ hq.out fun k hk => s9.block k (by omega)⟩
set_option maxHeartbeats 3200000 in
set_option maxRecDepth 100000 in
theorem role8 (i n d h g : ByteArray) (c m : Int) (w : World)
    (a b f : Nat) (Q : Nat → Nat → Nat → Nat → World → Prop) (hQ : ∀ S x y z u v, Q S x y z u → (∀ k, S ≤ k → v.heap[k]? = u.heap[k]?) → Q S x y z v)
    (hu : ∀ W, Calls Try.prog 25 #[.string g] W fun e w' => ∃ x y z, e = .returned (.tuple #[.slice (some ⟨x, 0, none⟩) a a, .slice (some ⟨y, 0, none⟩) b b, .slice (some ⟨z, 0, none⟩) f f]) ∧ Below W.heap.size W w' ∧ Hid (Q W.heap.size x y z w')) :
    Calls Try.prog 8 #[.string i, .string n, .string d, .string h, .int .u64 c, .int .u64 m, .string g] w fun e w' => ∃ S x y z, e = .returned (.agg #[.string i, .string n, .string d, .slice (some ⟨x, 0, none⟩) a a, .slice (some ⟨y, 0, none⟩) b b, .slice (some ⟨z, 0, none⟩) f f, .int .u64 c, .int .u64 m]) ∧ Below w.heap.size w w' ∧ w.heap.size < S ∧ Hid (Q S x y z w') := by
  have b0 : Below w.heap.size w (w.alloc (.cells #[.string ⟨#[]⟩, .string ⟨#[]⟩, .string ⟨#[]⟩, .slice none 0 0, .slice none 0 0, .slice none 0 0, .int .u64 0, .int .u64 0] 28)) := (Below.refl _ _).alloc (Nat.le_refl _) _
  have hN0 := heap_new w (.cells #[.string ⟨#[]⟩, .string ⟨#[]⟩, .string ⟨#[]⟩, .slice none 0 0, .slice none 0 0, .slice none 0 0, .int .u64 0, .int .u64 0] 28)
  have hs0 : (w.alloc (.cells #[.string ⟨#[]⟩, .string ⟨#[]⟩, .string ⟨#[]⟩, .slice none 0 0, .slice none 0 0, .slice none 0 0, .int .u64 0, .int .u64 0] 28)).heap.size = w.heap.size + 1 := by simp
  have b1 := b0.alloc b0.size (.cells #[.string i, .string n, .string d, .string h, .int .u64 c, .int .u64 m, .string g] 54)
  have hN1 := (Below.heap_alloc (w.alloc (.cells #[.string ⟨#[]⟩, .string ⟨#[]⟩, .string ⟨#[]⟩, .slice none 0 0, .slice none 0 0, .slice none 0 0, .int .u64 0, .int .u64 0] 28)) (.cells #[.string i, .string n, .string d, .string h, .int .u64 c, .int .u64 m, .string g] 54) w.heap.size (by omega)).trans hN0
  have hR1 := heap_new (w.alloc (.cells #[.string ⟨#[]⟩, .string ⟨#[]⟩, .string ⟨#[]⟩, .slice none 0 0, .slice none 0 0, .slice none 0 0, .int .u64 0, .int .u64 0] 28)) (.cells #[.string i, .string n, .string d, .string h, .int .u64 c, .int .u64 m, .string g] 54)
  rw [hs0] at hR1
  have hs1 : ((w.alloc (.cells #[.string ⟨#[]⟩, .string ⟨#[]⟩, .string ⟨#[]⟩, .slice none 0 0, .slice none 0 0, .slice none 0 0, .int .u64 0, .int .u64 0] 28)).alloc (.cells #[.string i, .string n, .string d, .string h, .int .u64 c, .int .u64 m, .string g] 54)).heap.size = w.heap.size + 2 := by simp
  have hc := record19 (w.heap.size + 1) i n d h g c m _ hR1 a b f Q hQ hu
  clear hu hN0 b0
  go_enter Try.func8, Try.ntmps8
  go_wp2_with fail
  generalize (w.alloc (.cells #[.string ⟨#[]⟩, .string ⟨#[]⟩, .string ⟨#[]⟩, .slice none 0 0, .slice none 0 0, .slice none 0 0, .int .u64 0, .int .u64 0] 28)).alloc (.cells #[.string i, .string n, .string d, .string h, .int .u64 c, .int .u64 m, .string g] 54) = W1 at *
  refine hc.mono ?_
  rintro e w1 ⟨S, x, y, z, rfl, bb, hS, hq⟩
  have hN1 := (bb.block w.heap.size (by omega)).trans hN1
  have b2 := b1.trans (bb.mono b1.size)
  have n0 := cell_of_block hN1 (j := 0) (v := .string ⟨#[]⟩) rfl
  have f0 := free_of_block (j := 0) hN1
  have n1 := cell_of_block hN1 (j := 1) (v := .string ⟨#[]⟩) rfl
  have f1 := free_of_block (j := 1) hN1
  have n2 := cell_of_block hN1 (j := 2) (v := .string ⟨#[]⟩) rfl
  have f2 := free_of_block (j := 2) hN1
  have n3 := cell_of_block hN1 (j := 3) (v := .slice none 0 0) rfl
  have f3 := free_of_block (j := 3) hN1
  have n4 := cell_of_block hN1 (j := 4) (v := .slice none 0 0) rfl
  have f4 := free_of_block (j := 4) hN1
  have n5 := cell_of_block hN1 (j := 5) (v := .slice none 0 0) rfl
  have f5 := free_of_block (j := 5) hN1
  have n6 := cell_of_block hN1 (j := 6) (v := .int .u64 0) rfl
  have f6 := free_of_block (j := 6) hN1
  have n7 := cell_of_block hN1 (j := 7) (v := .int .u64 0) rfl
  have f7 := free_of_block (j := 7) hN1
  clear hc hR1
  go_wp2_with fail
  obtain ⟨W9, hW9⟩ : ∃ W9, ((((((((w1.setCell ⟨w.heap.size, 0, none⟩ (.string i)).setCell ⟨w.heap.size, 1, none⟩ (.string n)).setCell ⟨w.heap.size, 2, none⟩ (.string d)).setCell ⟨w.heap.size, 3, none⟩ (.slice (some ⟨x, 0, none⟩) a a)).setCell ⟨w.heap.size, 4, none⟩ (.slice (some ⟨y, 0, none⟩) b b)).setCell ⟨w.heap.size, 5, none⟩ (.slice (some ⟨z, 0, none⟩) f f)).setCell ⟨w.heap.size, 6, none⟩ (.int .u64 c)).setCell ⟨w.heap.size, 7, none⟩ (.int .u64 m)) = W9 := ⟨_, rfl⟩
  obtain ⟨hN9, s9⟩ := set8 hN1 _ _ _ _ _ _ _ _ W9 hW9
  rw [hW9]
  have e0 := cell_of_block hN9 (j := 0) (v := .string i) rfl
  have e1 := cell_of_block hN9 (j := 1) (v := .string n) rfl
  have e2 := cell_of_block hN9 (j := 2) (v := .string d) rfl
  have e3 := cell_of_block hN9 (j := 3) (v := .slice (some ⟨x, 0, none⟩) a a) rfl
  have e4 := cell_of_block hN9 (j := 4) (v := .slice (some ⟨y, 0, none⟩) b b) rfl
  have e5 := cell_of_block hN9 (j := 5) (v := .slice (some ⟨z, 0, none⟩) f f) rfl
  have e6 := cell_of_block hN9 (j := 6) (v := .int .u64 c) rfl
  have e7 := cell_of_block hN9 (j := 7) (v := .int .u64 m) rfl
  clear hW9 n0 n1 n2 n3 n4 n5 n6 n7 f0 f1 f2 f3 f4 f5 f6 f7
  go_wp2
  refine bodyPost_ret (v := .agg #[.string i, .string n, .string d, .slice (some ⟨x, 0, none⟩) a a, .slice (some ⟨y, 0, none⟩) b b, .slice (some ⟨z, 0, none⟩) f f, .int .u64 c, .int .u64 m]) (by simp [results, Try.results8, go_sem, e0, e1, e2, e3, e4, e5, e6, e7]) rfl ?_
  exact ⟨S, x, y, z, rfl, b2.trans (s9.below (Nat.le_refl _)), by omega, hQ _ _ _ _ _ _ hq.out fun k hk => s9.block k (by omega)⟩
end Go.Proofs.Qxb6609326a
