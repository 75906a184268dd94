/-
  The law FnPolicyIDsRoundTrip, walked.
-/
import Derived.Test.Qxb6609326aLaw6
import Derived.Test.Qxb6609326aBytes
import Derived.Test.Qxb6609326aPack
namespace Go.Proofs.Qxb6609326a
open Go.RowKit

/-- The bounds that the law's own tests give. -/
theorem bounds_of {L : List ByteArray} {S : List Svc} {N : List Nod} {c : Nat} (h : c + L.length + tot L L.length + S.length + totS S S.length + N.length + totN N N.length ≤ 1048576) :
    L.length ≤ 1048576 ∧ (L.map ByteArray.size).sum ≤ 1048576 ∧ S.length ≤ 1048576 ∧ (S.map Svc.wt).sum ≤ 1048576 ∧ N.length ≤ 1048576 ∧ (N.map Nod.wt).sum ≤ 1048576 ∧
    ((L.map encStr).flatten ++ (encU S.length ++ ((S.map encSvc).flatten ++ (encU N.length ++ (N.map encNod).flatten)))).length ≤ 10000000 := by
  unfold tot totS totN at h
  rw [List.take_length, List.take_length, List.take_length] at h
  have h1 := encs_len L
  have h2 := encSvcs_len S
  have h3 := encNods_len N
  have h4 := (encU_len S.length).1
  have h5 := (encU_len N.length).1
  refine ⟨by omega, by omega, by omega, by omega, by omega, by omega, ?_⟩
  simp only [List.length_append]
  omega

set_option maxHeartbeats 1600000 in
set_option maxRecDepth 100000 in
theorem law5 (oa ob oc : Option Addr) (ca cb cc : Nat) (L : List ByteArray) (S : List Svc) (N : List Nod) (w : World) (hL : SLb w.heap.size w oa L) (hS : SvLb w.heap.size w ob S) (hN : NdLb w.heap.size w oc N)
    (hn : L.length ≤ maxLen) (hx : ∀ x ∈ L, x.size ≤ maxLen) (hsn : S.length ≤ maxLen) (hsx : ∀ s ∈ S, s.name.size ≤ maxLen ∧ s.dcs.length ≤ maxLen ∧ ∀ x ∈ s.dcs, x.size ≤ maxLen) (hnn : N.length ≤ maxLen) (hnx : ∀ n ∈ N, n.name.size ≤ maxLen ∧ n.dc.size ≤ maxLen) :
    Calls Try.prog 5 #[.slice oa L.length ca, .slice ob S.length cb, .slice oc N.length cc] w fun e w' => e = .returned (.bool true) ∧ Below w.heap.size w w' := by
  have cB := bytes13 oa ob oc ca cb cc L S N w hL.here (hS.at (Below.refl _ _)) (hN.at (Below.refl _ _)) hn hx hsn hsx hnn hnx
  have HL : Hid (SLb w.heap.size w oa L) := hL
  have HS : Hid (SvLb w.heap.size w ob S) := hS
  have HN : Hid (NdLb w.heap.size w oc N) := hN
  clear hL hS hN hx hsx hnx hn hsn hnn
  go_enter Try.func5, Try.ntmps5
  go_wp2_with fail
  refine cB.mono ?_
  rintro e w' ⟨rfl | ⟨rfl, hsum⟩, rfl⟩
  · clear cB
    go_wp2
    go_ret
    exact ⟨rfl, Below.refl _ _⟩
  clear cB
  obtain ⟨b1, b2, b3, b4, b5, b6, b7⟩ := bounds_of hsum
  have hx : Hid (∀ x ∈ L, x.size ≤ 1048576) := fun x h => Nat.le_trans (le_sum_of _ _ (List.mem_map_of_mem h)) b2
  have cG := grantsBytes14 oa ob oc ca cb cc L S N w' HL.out.here (HS.out.at (Below.refl _ _)) (HN.out.at (Below.refl _ _)) b1 hx.out b3 (fun s h => Nat.le_trans (le_sum_of _ _ (List.mem_map_of_mem h)) b4) b5 (fun n h => Nat.le_trans (le_sum_of _ _ (List.mem_map_of_mem h)) b6)
  have cP := pack11 oa ob oc ca cb cc L S N w' HL.out HS.out HN.out b1 b2 b3 b4 b5 b6
  have B7 : Hid (((L.map encStr).flatten ++ (encU S.length ++ ((S.map encSvc).flatten ++ (encU N.length ++ (N.map encNod).flatten)))).length ≤ 10000000) := b7
  clear hsum b7
  go_wp2_with fail
  refine cG.mono ?_
  rintro e w' ⟨n, rfl, n0, n1, rfl⟩
  clear cG
  by_cases hbig : 1048576 < n
  · clear cP
    go_wp2
    go_ret
    exact ⟨rfl, Below.refl _ _⟩
  go_wp2_with fail
  refine cP.mono ?_
  rintro e w1 ⟨s, rfl, hs, bb1⟩
  have cQ := policy15 s L _ hs hx.out b1 B7.out w1
  clear cP hs
  go_wp2_with fail
  refine cQ.mono ?_
  rintro e w3 ⟨G, rfl, b3, hG⟩
  have b4 := bb1.trans (b3.mono bb1.size)
  have cE := same12 ⟨G, 0, none⟩ oa L.length ca L w3 (SL.of_block hG) (HL.out w3 b4) b1
  clear cQ hG
  go_wp2_with fail
  refine cE.mono ?_
  rintro e w4 ⟨rfl, b5⟩
  have b6 := b4.trans (b5.mono b4.size)
  clear cE
  go_wp2
  go_ret
  exact ⟨rfl, b6⟩
end Go.Proofs.Qxb6609326a
