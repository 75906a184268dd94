/-
  (*unpacker).str, (*unpacker).strs.
-/
import Derived.Test.Qxb6609326aUint
import Derived.Test.Qxb6609326aBuf
import Derived.Laws.MakeOwn
import Derived.OwnWalk
import Derived.Deep.OwnRows
import Derived.Lib.BufferMore
namespace Go.Proofs.Qxb6609326a
open Go.RowKit

theorem size_list (s : ByteArray) : s.data.toList.length = s.size := by simp

/-- The text in two. -/
theorem cut_of (t x : ByteArray) (r : List UInt8) (h : t.data.toList = x.data.toList ++ r) : t.extract 0 x.size = x ∧ ∃ t2, t.extract x.size t.size = t2 ∧ t2.data.toList = r ∧ t.size = x.size + r.length := by
  have hl : t.size = x.size + r.length := by
    rw [← size_list t, h, List.length_append, size_list]
  refine ⟨?_, _, rfl, ?_, hl⟩
  · apply ByteArray.ext
    apply Array.toList_inj.1
    rw [Lib.extract_data, h]
    simp
  · rw [Lib.extract_data, h]
    simp [hl]

set_option maxHeartbeats 800000 in
set_option maxRecDepth 100000 in
theorem str28 (U : Nat) (s x : ByteArray) (w : World) (hb : w.heap[U]? = some (.cells #[.string s] 65 (0, 0))) (r : List UInt8) (hs : RdS s.data.toList x r) (hx : x.size ≤ 10000000) (hr : r.length ≤ 10000000) :
    Calls Try.prog 28 #[.pointer (some ⟨U, 0, none⟩)] w fun e w' => e = .returned (.string x) ∧ ∃ t, t.data.toList = r ∧ Un U w w' t := by
  have hu := uint27 U s w hb x.size (x.data.toList ++ r) hs (by rw [List.length_append, size_list]; omega)
  go_enter Try.func28, Try.ntmps28
  go_wp2_with fail
  refine hu.mono ?_
  rintro e w1 ⟨rfl, t, ht, u1⟩
  obtain ⟨e1, t2, e2, d2, hsz⟩ := cut_of t x r ht
  have hc := u1.cell
  have hf := u1.frozen
  have u2 := u1.set t2
  have z1 : x.size ≤ t.size := by omega
  have z2 : t.size ≤ 100000000 := by omega
  clear hu ht hsz hs hb
  go_wp2
  go_ret
  exact ⟨rfl, t2, d2, u2⟩

/-- A store into a block that the call itself has made. -/
theorem Un.other {U G j : Nat} {a b : World} {t : ByteArray} (h : Un U a b t) (hG : a.heap.size ≤ G) (hne : U ≠ G) (v : Value) : Un U a (b.setCell ⟨G, j, none⟩ v) t :=
  ⟨(Below.heap_setCell b _ _ U hne).trans h.blk, h.os, h.tape, h.output, by have := h.size; simpa using this, fun k hk hu => (Below.heap_setCell b _ _ k (by show k ≠ G; omega)).trans (h.block k hk hu)⟩
theorem free_of_block {w : World} {k j t : Nat} {c : Array Value} (hk : w.heap[k]? = some (.cells c t (0, 0))) : w.frozen? ⟨k, j, none⟩ = false := by
  simp [World.frozen?, hk]
theorem heap_new (w : World) (o : Obj) : (w.alloc o).heap[w.heap.size]? = some o := by
  show (w.heap.push o)[w.heap.size]? = _
  simp

theorem info9 : (Try.prog.info? 9).map (fun i => (i.zero, i.size, i.bytes)) = some (some (.string ⟨#[]⟩), 1, 16) := by kernel_rfl

/-- The row of strings when k of them have been read. -/
structure Row (L : List ByteArray) (k : Nat) (C : Array Value) : Prop where
  size : C.size = L.length
  head : C.toList.take k = (L.take k).map Value.string
theorem Row.step {L : List ByteArray} {k : Nat} {C : Array Value} (h : Row L k C) (hk : k < L.length) : Row L (k + 1) (C.setIfInBounds k (.string L[k])) := by
  refine ⟨by simpa using h.size, ?_⟩
  have h1 : k < C.toList.length := by have := h.size; simpa using (by omega : k < C.size)
  rw [Array.toList_setIfInBounds, List.take_add_one, List.take_set_of_le (Nat.le_refl k), h.head, List.getElem?_set_self h1, List.take_succ_eq_append_getElem hk, List.map_append]
  rfl
theorem Row.full {L : List ByteArray} {C : Array Value} (h : Row L L.length C) : C = (L.map Value.string).toArray := by
  apply Array.toList_inj.1
  have h1 := h.head
  rw [List.take_length, List.take_of_length_le (by have := h.size; simp; omega)] at h1
  rw [h1]

theorem rdS_of (x : ByteArray) (r : List UInt8) (h : x.size < 2097152) : RdS (encStr x ++ r) x r := by
  refine .inr ⟨h, ?_⟩
  unfold encStr
  simp

set_option maxHeartbeats 1600000 in
set_option maxRecDepth 100000 in
theorem strs26 (U : Nat) (s : ByteArray) (w : World) (hb : w.heap[U]? = some (.cells #[.string s] 65 (0, 0))) (L : List ByteArray) (r : List UInt8) (hs : RdL s.data.toList L r) (hL : ∀ x ∈ L, x.size ≤ 1048576) (hn : L.length ≤ 1048576) (hsz : ((L.map encStr).flatten ++ r).length ≤ 10000000) :
    Calls Try.prog 26 #[.pointer (some ⟨U, 0, none⟩)] w fun e w' => ∃ G t, e = .returned (.slice (some ⟨G, 0, none⟩) L.length L.length) ∧ t.data.toList = r ∧ Un U w w' t ∧ w.heap.size ≤ G ∧ w'.heap[G]? = some (.cells (L.map Value.string).toArray 9 (0, 0)) := by
  have hUw : U < w.heap.size := (Array.getElem?_eq_some_iff.1 hb).1
  have hu := uint27 U s w hb L.length _ hs (by omega)
  go_enter Try.func26, Try.ntmps26
  go_wp2_with fail
  refine hu.mono ?_
  rintro e w1 ⟨rfl, t, ht, u1⟩
  have hmk := run_make_row' (P := Try.prog) 24 9 (.string ⟨#[]⟩) 16 Try.underlying24 info9 rfl .u64 .u64 L.length (by omega) (by omega) w1
  have u2 := u1.alloc (.cells (madeCells #[.string ⟨#[]⟩] L.length) 9)
  have hG0 := heap_new w1 (.cells (madeCells #[.string ⟨#[]⟩] L.length) 9)
  have hGw : w.heap.size ≤ w1.heap.size := u1.size
  have R0 : Row L 0 (madeCells #[.string ⟨#[]⟩] L.length) := ⟨size_madeCells _ _, by simp⟩
  clear hu hb hs
  go_wp2
  generalize w1.alloc (.cells (madeCells #[.string ⟨#[]⟩] L.length) 9) = W0 at *
  clear hmk
  go_loopw [10] (fun i wr => ∃ (k : Nat) (t : ByteArray) (C : Array Value), k ≤ L.length ∧ i = .int .i64 k ∧ Hid (t.data.toList = ((L.drop k).map encStr).flatten ++ r) ∧ Un U w wr t ∧ Hid (Row L k C) ∧ wr.heap[w1.heap.size]? = some (.cells C 9 (0, 0))) (fun i _ => L.length - (intOf i).toNat)
  case atStart => exact ⟨0, t, _, Nat.zero_le _, rfl, ht, u2, R0, hG0⟩
  case round =>
    clear u1 u2 ht hG0 R0
    obtain ⟨k, t, C, hk, rfl, HT, un, HR, hblk⟩ := hrel
    by_cases hlt : k < L.length
    · have hx := hL L[k] (List.getElem_mem hlt)
      have e0 : ((L.drop k).map encStr).flatten = encStr L[k] ++ ((L.drop (k + 1)).map encStr).flatten := by
        rw [List.drop_eq_getElem_cons hlt, List.map_cons, List.flatten_cons]
      have hlen : (((L.drop (k + 1)).map encStr).flatten ++ r).length ≤ 10000000 := by
        have h1 : ((L.map encStr).flatten ++ r) = ((L.take (k + 1)).map encStr).flatten ++ (((L.drop (k + 1)).map encStr).flatten ++ r) := by
          rw [← List.append_assoc, ← List.flatten_append, ← List.map_append, List.take_append_drop]
        rw [h1, List.length_append] at hsz
        omega
      have hrd : RdS t.data.toList L[k] (((L.drop (k + 1)).map encStr).flatten ++ r) := by
        rw [HT.out, e0, List.append_assoc]
        exact rdS_of _ _ (by omega)
      have cS := str28 U t L[k] wr un.blk _ hrd (by omega) hlen
      have hlt' : (k : Int) < (L.length : Int) := by omega
      clear hrd e0 hlen HT
      go_wp2_with fail
      refine cS.mono ?_
      rintro e w2 ⟨rfl, t2, ht2, un2⟩
      have hne : U ≠ w1.heap.size := by omega
      have hb2 : w2.heap[w1.heap.size]? = some (.cells C 9 (0, 0)) := (un2.block _ (Array.getElem?_eq_some_iff.1 hblk).1 (Ne.symm hne)).trans hblk
      obtain ⟨v0, hv0⟩ : ∃ v, C[k]? = some v := ⟨_, Array.getElem?_eq_getElem (by have := HR.out.size; omega)⟩
      have hcell := cell_of_block hb2 hv0
      have hfrz := free_of_block (j := k) hb2
      have un3 := ((un.trans un2).other hGw hne (.string L[k]) (j := k))
      have hb3 := Lib.heap_setCell_same (i := k) hb2 (.string L[k])
      have HR3 : Hid (Row L (k + 1) (C.setIfInBounds k (.string L[k]))) := HR.out.step hlt
      clear cS un un2 hb2 hv0 hblk
      go_wp2
      go_roundw
      case rel => exact ⟨k + 1, t2, _, by omega, by go_num, ht2, un3, HR3, hb3⟩
      case measure => simp [intOf]; omega
    · have hkL : k = L.length := by omega
      subst hkL
      have hfull := HR.out.full
      have HT2 : Hid (t.data.toList = r) := by
        show _ = _
        rw [HT.out]
        simp
      rw [hfull] at hblk
      clear hfull HR HT
      go_wp2
      go_ret
      exact ⟨w1.heap.size, t, rfl, HT2.out, un, hGw, hblk⟩
end Go.Proofs.Qxb6609326a
