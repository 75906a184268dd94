/-
  zzAppendStr, zzAppendStrs.
-/
import Derived.Test.Qxb6609326aApp
namespace Go.Proofs.Qxb6609326a
open Go.RowKit

set_option maxHeartbeats 1600000 in
set_option maxRecDepth 100000 in
theorem app22 (B : Nat) (v : Value) (l : List UInt8) (s : ByteArray) (w : World) (hb : Buf 5 B w v l) (hB : B ≤ w.heap.size) (hl : l.length ≤ 50000000) (hs : s.size ≤ 1048576) :
    Calls Try.prog 22 #[v, .string s] w fun e w' => ∃ v', e = .returned v' ∧ Buf 5 B w' v' (l ++ encStr s) ∧ Fr 5 B w w' := by
  have c0 := app21 B v l s.size w hb hB (by omega) (by omega)
  have hle := (encU_len s.size).1
  clear hb
  go_enter Try.func22, Try.ntmps22
  go_wp2_with fail
  refine c0.mono ?_
  rintro e w1 ⟨v1, rfl, hb1, hf1⟩
  have HB : Hid (Buf 5 B w1 v1 (l ++ encU s.size)) := hb1
  clear c0 hb1
  go_wp2
  go_loopw [0, 5] (fun v i wr => ∃ (k : Nat), k ≤ s.size ∧ i = .int .i64 k ∧ Hid (Buf 5 B wr v (l ++ encU s.size ++ s.data.toList.take k)) ∧ Fr 5 B w wr) (fun _ i _ => s.size - (intOf i).toNat)
  case atStart => exact ⟨0, Nat.zero_le _, rfl, by simpa using HB, hf1⟩
  case round =>
    clear HB hf1
    obtain ⟨k, hk, rfl, HB, hf⟩ := hrel
    by_cases hlt : k < s.size
    · have hlt' : (k : Int) < s.size := by omega
      have hlen : (l ++ encU s.size ++ s.data.toList.take k).length + 1 ≤ 140737488355328 := by
        simp only [List.length_append, List.length_take]
        omega
      have hBr : B ≤ wr.heap.size := Nat.le_trans hB hf.size
      go_wp2_with (at_builtin; refine wpList_app1 rfl (.tmp 17) (.tmp 21) 49 5 rfl B Try.underlying49 info5 _ _ rfl HB.out _ (s[k]) rfl rfl hlen hBr ?_; intro v2 w2 hb2 hf2)
      go_roundw
      case rel =>
        refine ⟨k + 1, by omega, by go_num, ?_, hf.trans hf2⟩
        show Buf _ _ _ _ _
        rw [List.take_succ_eq_append_getElem (by simpa using hlt), ← List.append_assoc]
        exact hb2
      case measure => simp [intOf]; omega
    · have hge : ¬ (k : Int) < s.size := by omega
      obtain rfl : k = s.size := by omega
      go_wp2
      go_ret
      refine ⟨_, rfl, ?_, hf⟩
      have := HB.out
      rw [List.take_of_length_le (by simp), List.append_assoc] at this
      exact this

/-- The strings L lie behind the slice's address, in blocks below B: whatever is done from B on. -/
def SLb (B : Nat) (w : World) (oa : Option Addr) (L : List ByteArray) : Prop := ∀ W, Below B w W → SL W oa L
theorem SLb.fr {B : Nat} {w w' : World} {oa : Option Addr} {L : List ByteArray} (h : SLb B w oa L) (k : Below B w w') : SLb B w' oa L := fun W hW => h W (k.trans hW)
theorem SLb.here {B : Nat} {w : World} {oa : Option Addr} {L : List ByteArray} (h : SLb B w oa L) : SL w oa L := h w (Below.refl _ _)

theorem encStr_len (s : ByteArray) : (encStr s).length ≤ 3 + s.size := by
  unfold encStr
  have := (encU_len s.size).1
  simp only [List.length_append, size_list]
  omega
theorem encs_len (L : List ByteArray) : (L.map encStr).flatten.length ≤ 3 * L.length + (L.map ByteArray.size).sum := by
  induction L with
  | nil => simp
  | cons x L ih =>
    have := encStr_len x
    simp only [List.map_cons, List.flatten_cons, List.length_append, List.sum_cons, List.length_cons]
    omega
theorem encStrs_len (L : List ByteArray) : (encStrs L).length ≤ 3 + 3 * L.length + (L.map ByteArray.size).sum := by
  unfold encStrs
  have := (encU_len L.length).1
  have := encs_len L
  simp only [List.length_append]
  omega
theorem sum_take_le (L : List ByteArray) (k : Nat) : ((L.take k).map ByteArray.size).sum ≤ (L.map ByteArray.size).sum := by
  have h : L = L.take k ++ L.drop k := (List.take_append_drop k L).symm
  have h2 : (L.map ByteArray.size).sum = ((L.take k).map ByteArray.size).sum + ((L.drop k).map ByteArray.size).sum := by
    rw [← List.sum_append, ← List.map_append, ← h]
  omega

set_option maxHeartbeats 1600000 in
set_option maxRecDepth 100000 in
theorem app18 (B : Nat) (v : Value) (l : List UInt8) (oa : Option Addr) (cap : Nat) (L : List ByteArray) (w : World) (hb : Buf 5 B w v l) (hB : B ≤ w.heap.size) (hl : l.length ≤ 20000000) (hL : SLb B w oa L) (hn : L.length ≤ 1048576) (hs : (L.map ByteArray.size).sum ≤ 1048576) :
    Calls Try.prog 18 #[v, .slice oa L.length cap] w fun e w' => ∃ v', e = .returned v' ∧ Buf 5 B w' v' (l ++ encStrs L) ∧ Fr 5 B w w' := by
  have c0 := app21 B v l L.length w hb hB (by omega) (by omega)
  have hle := (encU_len L.length).1
  have HL : Hid (SLb B w oa L) := hL
  clear hb hL
  go_enter Try.func18, Try.ntmps18
  go_wp2_with fail
  refine c0.mono ?_
  rintro e w1 ⟨v1, rfl, hb1, hf1⟩
  have HB : Hid (Buf 5 B w1 v1 (l ++ encU L.length)) := hb1
  clear c0 hb1
  go_wp2
  go_loopw [0, 5] (fun v i wr => ∃ (k : Nat), k ≤ L.length ∧ i = .int .i64 k ∧ Hid (Buf 5 B wr v (l ++ encU L.length ++ ((L.take k).map encStr).flatten)) ∧ Fr 5 B w wr) (fun _ i _ => L.length - (intOf i).toNat)
  case atStart => exact ⟨0, Nat.zero_le _, rfl, by simpa using HB, hf1⟩
  case round =>
    clear HB hf1
    obtain ⟨k, hk, rfl, HB, hf⟩ := hrel
    by_cases hlt : k < L.length
    · have hlt' : (k : Int) < L.length := by omega
      have hlen : (l ++ encU L.length ++ ((L.take k).map encStr).flatten).length ≤ 50000000 := by
        have h1 := encs_len (L.take k)
        have h2 := sum_take_le L k
        simp only [List.length_append, List.length_take] at *
        omega
      have hBr : B ≤ wr.heap.size := Nat.le_trans hB hf.size
      obtain ⟨p, rfl, hcell⟩ := HL.out wr hf.1 k hlt
      have hx : L[k].size ≤ 1048576 := Nat.le_trans (le_sum_of _ _ (List.mem_map_of_mem (List.getElem_mem hlt))) hs
      have c1 := app22 B _ _ L[k] wr HB.out hBr hlen hx
      clear hlen hx
      go_wp2_with fail
      refine c1.mono ?_
      rintro e w2 ⟨v2, rfl, hb2, hf2⟩
      have HB2 : Hid (Buf 5 B w2 v2 (l ++ encU L.length ++ ((L.take (k + 1)).map encStr).flatten)) := by
        show Buf _ _ _ _ _
        rw [List.take_succ_eq_append_getElem hlt, List.map_append, List.flatten_append, ← List.append_assoc]
        simpa using hb2
      clear c1 hb2 hcell
      go_wp2
      go_roundw
      case rel => exact ⟨k + 1, by omega, by go_num, HB2, hf.trans hf2⟩
      case measure => simp [intOf]; omega
    · have hge : ¬ (k : Int) < L.length := by omega
      obtain rfl : k = L.length := by omega
      go_wp2
      go_ret
      refine ⟨_, rfl, ?_, hf⟩
      have := HB.out
      rw [List.take_length, List.append_assoc] at this
      exact this
end Go.Proofs.Qxb6609326a
