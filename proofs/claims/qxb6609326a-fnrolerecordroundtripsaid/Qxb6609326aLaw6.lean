/-
  policyIDs, ZZgrantsPolicyIDs; the law FnPolicyIDsReadsOnlyTheFront, walked.
-/
import Derived.Test.Qxb6609326aApps
namespace Go.Proofs.Qxb6609326a
open Go.RowKit

theorem rdL_of (L : List ByteArray) (r : List UInt8) (h : L.length < 2097152) : RdL (encStrs L ++ r) L r := by
  refine .inr ⟨h, ?_⟩
  unfold encStrs
  simp

set_option maxHeartbeats 800000 in
set_option maxRecDepth 100000 in
theorem policy24 (s : ByteArray) (L : List ByteArray) (r : List UInt8) (hs : s.data.toList = encStrs L ++ r) (hL : ∀ x ∈ L, x.size ≤ 1048576) (hn : L.length ≤ 1048576) (hsz : ((L.map encStr).flatten ++ r).length ≤ 10000000) (w : World) :
    Calls Try.prog 24 #[.string s] w fun e w' => ∃ G, e = .returned (.slice (some ⟨G, 0, none⟩) L.length L.length) ∧ Below w.heap.size w w' ∧ w'.heap[G]? = some (.cells (L.map Value.string).toArray 9 (0, 0)) := by
  have hb := heap_new w (.cells #[.string s] 65 (0, 0))
  have cS := strs26 w.heap.size s (w.alloc (.cells #[.string s] 65 (0, 0))) hb L r (by rw [hs]; exact rdL_of L r (by omega)) hL hn hsz
  have b0 : Below w.heap.size w (w.alloc (.cells #[.string s] 65 (0, 0))) := (Below.refl _ _).alloc (Nat.le_refl _) _
  have hU : w.heap.size ≤ (w.alloc (.cells #[.string s] 65 (0, 0))).heap.size := b0.size
  clear hL hs
  go_enter Try.func24, Try.ntmps24
  go_wp2_with fail
  generalize w.alloc (.cells #[.string s] 65 (0, 0)) = W0 at *
  refine cS.mono ?_
  rintro e w1 ⟨G, t, rfl, ht, u1, -, hG⟩
  have b1 := b0.trans (u1.below (Nat.le_refl _) hU)
  clear cS hb
  go_wp2
  go_ret
  exact ⟨G, rfl, b1, hG⟩

set_option maxHeartbeats 800000 in
set_option maxRecDepth 100000 in
theorem policy15 (s : ByteArray) (L : List ByteArray) (r : List UInt8) (hs : s.data.toList = encStrs L ++ r) (hL : ∀ x ∈ L, x.size ≤ 1048576) (hn : L.length ≤ 1048576) (hsz : ((L.map encStr).flatten ++ r).length ≤ 10000000) (w : World) :
    Calls Try.prog 15 #[.string s] w fun e w' => ∃ G, e = .returned (.slice (some ⟨G, 0, none⟩) L.length L.length) ∧ Below w.heap.size w w' ∧ w'.heap[G]? = some (.cells (L.map Value.string).toArray 9 (0, 0)) := by
  have c0 := policy24 s L r hs hL hn hsz w
  clear hL hs
  go_enter Try.func15, Try.ntmps15
  go_wp2_with fail
  refine c0.mono ?_
  rintro e w1 ⟨G, rfl, b1, hG⟩
  clear c0
  go_wp2
  go_ret
  exact ⟨G, rfl, b1, hG⟩

theorem SL.of_block {w : World} {G : Nat} {L : List ByteArray} {fz : Nat × Nat} (h : w.heap[G]? = some (.cells (L.map Value.string).toArray 9 fz)) : SL w (some ⟨G, 0, none⟩) L := by
  intro k hk
  refine ⟨_, rfl, ?_⟩
  have e : (⟨G, 0, none⟩ : Addr).add k = ⟨G, k, none⟩ := by unfold Addr.add; split <;> simp_all
  rw [e]
  exact cell_of_block h (by simp [hk])

set_option maxHeartbeats 1600000 in
set_option maxRecDepth 100000 in
theorem law6 (oa : Option Addr) (cap : Nat) (L : List ByteArray) (t : ByteArray) (w : World) (hL : SLb w.heap.size w oa L) (hn : L.length ≤ maxLen) (hx : ∀ x ∈ L, x.size ≤ maxLen) (ht : t.size ≤ maxLen) :
    Calls Try.prog 6 #[.slice oa L.length cap, .string t] w fun e w' => e = .returned (.bool true) ∧ Below w.heap.size w w' := by
  have cB := bytes16 oa cap L t w hL.here hn hx ht
  have HL : Hid (SLb w.heap.size w oa L) := hL
  clear hL hx
  go_enter Try.func6, Try.ntmps6
  go_wp2_with fail
  refine cB.mono ?_
  rintro e w' ⟨rfl | ⟨rfl, hsum⟩, rfl⟩
  · clear cB
    go_wp2
    go_ret
    exact ⟨rfl, Below.refl _ _⟩
  clear cB hn ht
  have htot : tot L L.length = (L.map ByteArray.size).sum := by unfold tot; rw [List.take_length]
  have hsum2 : (L.map ByteArray.size).sum ≤ 1048576 := by omega
  have hn : L.length ≤ 1048576 := by omega
  have ht : t.size ≤ 1048576 := by omega
  have hx : Hid (∀ x ∈ L, x.size ≤ 1048576) := fun x h => Nat.le_trans (le_sum_of _ _ (List.mem_map_of_mem h)) hsum2
  have cT := tailBytes17 oa cap L t w' HL.out.here hn hx.out ht
  have cA := app18 w'.heap.size (.slice none 0 0) [] oa cap L w' (Buf.nil _ _ _) (Nat.le_refl _) (by simp) HL.out hn hsum2
  clear hsum htot
  have hLL := encStrs_len L
  have hsz : ((L.map encStr).flatten ++ t.data.toList).length ≤ 10000000 := by
    have := encs_len L
    simp only [List.length_append, size_list]
    omega
  go_wp2_with fail
  refine cT.mono ?_
  rintro e w' ⟨n, rfl, n0, n1, rfl⟩
  clear cT
  by_cases hbig : 1048576 < n
  · clear cA
    go_wp2
    go_ret
    exact ⟨rfl, Below.refl _ _⟩
  go_wp2_with fail
  refine cA.mono ?_
  rintro e w1 ⟨v1, rfl, hb1, hf1⟩
  have HB : Hid (Buf 5 w'.heap.size w1 v1 (encStrs L)) := hb1
  clear cA hb1
  go_wp2
  go_loopw [5, 6] (fun v i wr => ∃ (k : Nat), k ≤ t.size ∧ i = .int .i64 k ∧ Hid (Buf 5 w'.heap.size wr v (encStrs L ++ t.data.toList.take k)) ∧ Fr 5 w'.heap.size w' wr) (fun _ i _ => t.size - (intOf i).toNat)
  case atStart => exact ⟨0, Nat.zero_le _, rfl, by simpa using HB, hf1⟩
  case round =>
    clear HB hf1
    obtain ⟨k, hk, rfl, HB, hf⟩ := hrel
    by_cases hlt : k < t.size
    · have hlt' : (k : Int) < t.size := by omega
      have hlen : (encStrs L ++ t.data.toList.take k).length + 1 ≤ 140737488355328 := by
        simp only [List.length_append, List.length_take]
        omega
      go_wp2_with (at_builtin; refine wpList_app1 rfl (.tmp 23) (.tmp 27) 49 5 rfl w'.heap.size Try.underlying49 info5 _ _ rfl HB.out _ (t[k]) rfl rfl hlen hf.size ?_; intro v2 w2 hb2 hf2)
      go_roundw
      case rel =>
        refine ⟨k + 1, by omega, by go_num, ?_, hf.trans hf2⟩
        show Buf _ _ _ _ _
        rw [List.take_succ_eq_append_getElem (by simpa using hlt), ← List.append_assoc]
        exact hb2
      case measure => simp [intOf]; omega
    · have hge : ¬ (k : Int) < t.size := by omega
      obtain rfl : k = t.size := by omega
      have hB2 := HB.out
      rw [List.take_of_length_le (by simp)] at hB2
      have cv := hB2.run_string 49 9 Try.underlying49 Try.underlying5 Try.underlying9
      obtain ⟨s, hs⟩ : ∃ s : ByteArray, s = ⟨(encStrs L ++ t.data.toList).toArray⟩ := ⟨_, rfl⟩
      rw [← hs] at cv
      have hsl : s.data.toList = encStrs L ++ t.data.toList := by rw [hs]
      have cP := policy15 s L t.data.toList hsl hx.out hn hsz wr
      clear HB hB2 hs hsl
      go_wp2_with fail
      refine cP.mono ?_
      rintro e w3 ⟨G, rfl, b3, hG⟩
      have b4 := hf.1.trans (b3.mono hf.size)
      have cE := same12 ⟨G, 0, none⟩ oa L.length cap L w3 (SL.of_block hG) (HL.out w3 b4) hn
      clear cP cv hG
      go_wp2_with fail
      refine cE.mono ?_
      rintro e w4 ⟨rfl, b5⟩
      have b6 := b4.trans (b5.mono b4.size)
      clear cE
      go_wp2
      go_ret
      exact ⟨rfl, b6⟩
end Go.Proofs.Qxb6609326a
