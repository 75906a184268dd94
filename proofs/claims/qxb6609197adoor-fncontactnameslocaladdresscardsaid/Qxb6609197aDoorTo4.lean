/-
  (net/netip.Addr).appendTo4.
-/
import Derived.Test.Qxb6609197aDoorDec
namespace Go.Proofs.Qxb6609197aDoor
open Go.RowKit

/-- The dotted form of the address whose low word is lo. -/
def dotted (lo : Int) : List UInt8 :=
  Lib.decDigits (lo / 16777216 % 256).toNat ++ [46] ++ Lib.decDigits (lo / 65536 % 256).toNat ++ [46] ++ Lib.decDigits (lo / 256 % 256).toNat ++ [46] ++ Lib.decDigits (lo % 256).toNat

theorem box3 {w : World} {k t : Nat} {a b c : Value} (hk : w.heap[k]? = some (.cells #[a, b, c] t (0, 0))) :
    w.cell? ⟨k, 0, none⟩ = some a ∧ w.cell? ⟨k, 1, none⟩ = some b ∧ w.cell? ⟨k, 2, none⟩ = some c :=
  ⟨cell_of_block hk rfl, cell_of_block hk rfl, cell_of_block hk rfl⟩
theorem heap_new (w : World) (o : Obj) : (w.alloc o).heap[w.heap.size]? = some o := by
  show (w.heap.push o)[w.heap.size]? = _
  simp
theorem heap_old {w : World} {k : Nat} {o o' : Obj} (h : w.heap[k]? = some o) : (w.alloc o').heap[k]? = some o := by
  have hlt : k < w.heap.size := (Array.getElem?_eq_some_iff.1 h).1
  exact (Below.heap_alloc w o' k hlt).trans h

set_option maxHeartbeats 1600000 in
set_option maxRecDepth 100000 in
theorem appTo4 (B : Nat) (h lo : Int) (p : Option Addr) (sv : Value) (l : List UInt8) (w : World) (hown : Buf 5 B w sv l) (hBw : B ≤ w.heap.size) (hlim : l.length + 15 ≤ 140737488355328) :
    Calls Tryd.prog 20 #[.agg #[.int .u64 h, .int .u64 lo, .pointer p], sv] w fun e w' => ∃ v', e = .returned v' ∧ Buf 5 B w' v' (l ++ dotted lo) ∧ Fr 5 B w w' := by
  have n0 := decDigits_byte_le (lo / 16777216 % 256) (by omega) (by omega)
  have n1 := decDigits_byte_le (lo / 65536 % 256) (by omega) (by omega)
  have n2 := decDigits_byte_le (lo / 256 % 256) (by omega) (by omega)
  have n3 := decDigits_byte_le (lo % 256) (by omega) (by omega)
  have D : Hid (dotted lo = Lib.decDigits (lo / 16777216 % 256).toNat ++ [46] ++ Lib.decDigits (lo / 65536 % 256).toNat ++ [46] ++ Lib.decDigits (lo / 256 % 256).toNat ++ [46] ++ Lib.decDigits (lo % 256).toNat) := rfl
  go_enter Tryd.func20, Tryd.ntmps20
  go_wp2_with fail
  refine (v4_0 h lo (.pointer p) _).mono ?_
  rintro e w' ⟨rfl, rfl⟩
  go_wp2_with fail
  refine (appDec B _ (by omega) (by omega) sv l _ ((hown.alloc _).alloc _) (by simp; omega) (by omega)).mono ?_
  rintro e w1 ⟨v1, rfl, hb1, hf1⟩
  have f1 : Fr 5 B w w1 := (((Fr.refl 5 B w).alloc hBw _).alloc (by simp; omega) _).trans hf1
  have x1 := hf1.block (heap_old (heap_new w _)) (by decide)
  clear hf1
  go_wp2_with (at_builtin; refine wpList_app1 rfl (.tmp 9) (.tmp 10) 35 5 rfl B Tryd.underlying35 info5 v1 _ rfl hb1 46 46 rfl rfl (by simp; omega) (Nat.le_trans hBw f1.size) ?_; intro v2 w2 hb2 hf2; have x2 := hf2.block x1 (by decide); obtain ⟨c20, c21, c22⟩ := box3 x2)
  refine (v4_1 h lo (.pointer p) _).mono ?_
  rintro e w' ⟨rfl, rfl⟩
  go_wp2_with fail
  refine (appDec B _ (by omega) (by omega) v2 _ _ (hb2.alloc _) (by have := f1.size; have := hf2.size; simp; omega) (by simp; omega)).mono ?_
  rintro e w3 ⟨v3, rfl, hb3, hf3⟩
  have f3 : Fr 5 B w w3 := ((f1.trans hf2).alloc (by have := f1.size; have := hf2.size; omega) _).trans hf3
  have x3 := hf3.block (heap_old x2) (by decide)
  clear hf3 x2 x1 c20 c21 c22 hb2 hb1 hf2 f1
  go_wp2_with (at_builtin; refine wpList_app1 rfl (.tmp 16) (.tmp 17) 35 5 rfl B Tryd.underlying35 info5 v3 _ rfl hb3 46 46 rfl rfl (by simp; omega) (Nat.le_trans hBw f3.size) ?_; intro v4 w4 hb4 hf4; have x4 := hf4.block x3 (by decide); obtain ⟨c40, c41, c42⟩ := box3 x4)
  refine (v4_2 h lo (.pointer p) _).mono ?_
  rintro e w' ⟨rfl, rfl⟩
  go_wp2_with fail
  refine (appDec B _ (by omega) (by omega) v4 _ _ (hb4.alloc _) (by have := f3.size; have := hf4.size; simp; omega) (by simp; omega)).mono ?_
  rintro e w5 ⟨v5, rfl, hb5, hf5⟩
  have f5 : Fr 5 B w w5 := ((f3.trans hf4).alloc (by have := f3.size; have := hf4.size; omega) _).trans hf5
  have x5 := hf5.block (heap_old x4) (by decide)
  clear hf5 x4 x3 c40 c41 c42 hb4 hb3 hf4 f3
  go_wp2_with (at_builtin; refine wpList_app1 rfl (.tmp 23) (.tmp 24) 35 5 rfl B Tryd.underlying35 info5 v5 _ rfl hb5 46 46 rfl rfl (by simp; omega) (Nat.le_trans hBw f5.size) ?_; intro v6 w6 hb6 hf6; have x6 := hf6.block x5 (by decide); obtain ⟨c60, c61, c62⟩ := box3 x6)
  refine (v4_3 h lo (.pointer p) _).mono ?_
  rintro e w' ⟨rfl, rfl⟩
  go_wp2_with fail
  refine (appDec B _ (by omega) (by omega) v6 _ _ (hb6.alloc _) (by have := f5.size; have := hf6.size; simp; omega) (by simp; omega)).mono ?_
  rintro e w7 ⟨v7, rfl, hb7, hf7⟩
  have f7 : Fr 5 B w w7 := ((f5.trans hf6).alloc (by have := f5.size; have := hf6.size; omega) _).trans hf7
  clear hf7 x6 x5 c60 c61 c62 hb6 hb5 hf6 f5
  go_wp2
  go_ret
  refine ⟨v7, rfl, ?_, f7⟩
  rw [D.out]
  simpa only [List.append_assoc] using hb7
end Go.Proofs.Qxb6609197aDoor
