/-
  FnContactNamesLocalAddress returns true.
-/
import Derived.Test.Qxb6609197aDoorHost
namespace Go.Proofs.Qxb6609197aDoor
open Go.RowKit

theorem same_text (s : ByteArray) (lo port : Int) (h : s.data.toList = dotted lo ++ [58] ++ Lib.decDigits port.toNat) :
    (contactL lo port == (⟨#[60, 115, 105, 112, 58, 114, 105, 110, 103, 98, 101, 110, 99, 104, 64]⟩ ++ s ++ ⟨#[62]⟩ : ByteArray).toList) = true := by
  have e : (⟨(contactL lo port).toArray⟩ : ByteArray) = ⟨#[60, 115, 105, 112, 58, 114, 105, 110, 103, 98, 101, 110, 99, 104, 64]⟩ ++ s ++ ⟨#[62]⟩ := by
    apply ByteArray.ext
    apply Array.toList_inj.1
    unfold contactL
    simp [h, pre]
  rw [← e, ByteArray.toList_eq]
  simp

set_option maxHeartbeats 800000 in
set_option maxRecDepth 100000 in
theorem names (a b c d port : Int) (p : Addr) (w : World) (ha : 0 ≤ a ∧ a < 256) (hb : 0 ≤ b ∧ b < 256) (hc : 0 ≤ c ∧ c < 256) (hd : 0 ≤ d ∧ d < 256) (hp0 : 0 ≤ port) (hp1 : port < 65536)
    (hz4 : w.cell? ⟨0, 0, none⟩ = some (.pointer (some p))) (hz0 : w.cell? ⟨1, 0, none⟩ = some (.pointer none)) (hau : AppUint w) :
    Calls Tryd.prog 3 #[.agg #[.int .u8 a, .int .u8 b, .int .u8 c, .int .u8 d], .int .u16 port] w fun e w' => e = .returned (.bool true) ∧ Below w.heap.size w w' := by
  have hba : Below w.heap.size w (w.alloc (.cells #[.int .u8 a, .int .u8 b, .int .u8 c, .int .u8 d] 22)) := (Below.refl _ _).alloc (Nat.le_refl _) _
  have zz := zz6 a b c d port p (w.alloc (.cells #[.int .u8 a, .int .u8 b, .int .u8 c, .int .u8 d] 22)) ha hb hc hd hp0 hp1 (cell_alloc hz4 _) (cell_alloc hz0 _) (hau.later hba)
  have dl := dotted_le (lowOf a b c d)
  have pl := decDigits_u16_le port.toNat (by omega)
  go_enter Tryd.func3, Tryd.ntmps3
  go_wp2_with fail
  refine zz.mono ?_
  rintro e w1 ⟨rfl, hb1⟩
  have n1 : w1.heap[w.heap.size]? = some (.cells #[.int .u8 a, .int .u8 b, .int .u8 c, .int .u8 d] 22) := (hb1.block w.heap.size (by simp)).trans (heap_new w _)
  have k0 := cell_of_block n1 (j := 0) rfl
  have k1 := cell_of_block n1 (j := 1) rfl
  have k2 := cell_of_block n1 (j := 2) rfl
  have k3 := cell_of_block n1 (j := 3) rfl
  clear zz
  go_wp2_with fail
  refine (host7 a b c d port w1 ha hb hc hd hp0 hp1).mono ?_
  rintro e w2 ⟨⟨s, rfl, hs⟩, hb2⟩
  have hsz : s.size ≤ 100 := by
    have := congrArg List.length hs
    simp at this
    omega
  have ST := same_text s (lowOf a b c d) port hs
  clear hs n1 k0 k1 k2 k3 hau
  go_wp2
  go_ret
  exact ⟨rfl, hba.trans ((hb1.mono (by simp)).trans (hb2.mono (by have := hb1.size; simp at this; omega)))⟩
end Go.Proofs.Qxb6609197aDoor
