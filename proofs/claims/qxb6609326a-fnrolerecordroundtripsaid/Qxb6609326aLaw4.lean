/-
  zzRecordBytes; the law FnRoleRecordRoundTrip, walked.
-/
import Derived.Test.Qxb6609326aBytesR
import Derived.Test.Qxb6609326aUnpack
import Derived.Test.Qxb6609326aRecord
import Derived.Deep.QuietTactic
import Derived.BigQuiet
import Derived.Laws.Cover3
namespace Go.Proofs.Qxb6609326a
open Go.RowKit

set_option maxHeartbeats 1600000 in
set_option maxRecDepth 100000 in
theorem recordBytes10 (a0 a1 a2 a3 : ByteArray) (h0 : a0.size ≤ 1048576) (h1 : a1.size ≤ 1048576) (h2 : a2.size ≤ 1048576) (h3 : a3.size ≤ 1048576) (v0 v1 v2 : Value) (w : World)
    (hG : Calls Try.prog 14 #[v0, v1, v2] w fun e w' => ∃ n, e = .returned (.int .i64 n) ∧ 0 ≤ n ∧ n ≤ 2097152 ∧ w' = w) :
    Calls Try.prog 10 #[.string a0, .string a1, .string a2, .string a3, v0, v1, v2] w fun e w' => ∃ n, e = .returned (.int .i64 n) ∧ 0 ≤ n ∧ n ≤ 2097152 ∧ w' = w := by
  go_enter Try.func10, Try.ntmps10
  go_wp2_with fail
  refine hG.mono ?_
  rintro e w' ⟨n, rfl, n0, n1, rfl⟩
  have c0 := add20 n (a0.size : Int) n0 (by omega) (by omega) w'
  clear hG
  go_wp2_with fail
  refine c0.mono ?_
  rintro e w' ⟨m0, rfl, p0, q0, rfl⟩
  have c1 := add20 m0 (a1.size : Int) p0 (by omega) (by omega) w'
  clear c0
  go_wp2_with fail
  refine c1.mono ?_
  rintro e w' ⟨m1, rfl, p1, q1, rfl⟩
  have c2 := add20 m1 (a2.size : Int) p1 (by omega) (by omega) w'
  clear c1
  go_wp2_with fail
  refine c2.mono ?_
  rintro e w' ⟨m2, rfl, p2, q2, rfl⟩
  have c3 := add20 m2 (a3.size : Int) p2 (by omega) (by omega) w'
  clear c2
  go_wp2_with fail
  refine c3.mono ?_
  rintro e w' ⟨m3, rfl, p3, q3, rfl⟩
  clear c3
  go_wp2
  go_ret
  exact ⟨_, rfl, p3, q3, rfl⟩

set_option maxHeartbeats 1600000 in
set_option maxRecDepth 100000 in
/-- zzSameList once more: it only draws. -/
theorem same12q (p : Addr) (oa : Option Addr) (c1 c2 : Nat) (L : List ByteArray) (w : World) (h1 : SL w (some p) L) (h2 : SL w oa L) (hn : L.length ≤ 1048576) :
    Calls Try.prog 12 #[.slice (some p) L.length c1, .slice oa L.length c2] w fun e w' => e = .returned (.bool true) ∧ ∃ m, w' = w.drewN m := by
  have H1 : Hid (SL w (some p) L) := h1
  have H2 : Hid (SL w oa L) := h2
  have q1 := fun W => Go.run_eql_slice_nil (P := Try.prog) W 24 9 (some p) L.length c1 Try.underlying24
  clear h1 h2
  go_enter Try.func12, Try.ntmps12
  go_wp2
  go_loopw [5] (fun i wr => ∃ (k m : Nat), k ≤ L.length ∧ i = .int .i64 k ∧ wr = w.drewN m) (fun i _ => L.length - (intOf i).toNat)
  case atStart => exact ⟨0, 0, Nat.zero_le _, rfl, rfl⟩
  case round =>
    obtain ⟨k, m, hk, rfl, rfl⟩ := hrel
    by_cases hlt : k < L.length
    · obtain ⟨p', hp, d1⟩ := H1.out k hlt
      obtain rfl := Option.some.inj hp
      obtain ⟨q, rfl, d2⟩ := H2.out k hlt
      have hlt' : (k : Int) < L.length := by omega
      go_wp2
      go_quiet (fail)
      go_wp2
      go_roundw
      case rel => exact ⟨k + 1, _, by omega, by go_num, rfl⟩
      case measure => simp [intOf]; omega
    · have hge : ¬ (k : Int) < L.length := by omega
      go_wp2
      go_ret
      exact ⟨rfl, m, rfl⟩

set_option maxHeartbeats 6400000 in
set_option maxRecDepth 100000 in
theorem law4 (a0 a1 a2 a3 : ByteArray) (a4 a5 : Int) (oa ob oc : Option Addr) (ca cb cc : Nat) (L : List ByteArray) (S : List Svc) (N : List Nod) (w : World) (hL : SLb w.heap.size w oa L) (hS : SvLb w.heap.size w ob S) (hN : NdLb w.heap.size w oc N)
    (w0 : a0.size ≤ maxLen) (w1 : a1.size ≤ maxLen) (w2 : a2.size ≤ maxLen) (w3 : a3.size ≤ maxLen)
    (hn : L.length ≤ maxLen) (hx : ∀ x ∈ L, x.size ≤ maxLen) (hsn : S.length ≤ maxLen) (hsx : ∀ s ∈ S, s.name.size ≤ maxLen ∧ s.dcs.length ≤ maxLen ∧ ∀ x ∈ s.dcs, x.size ≤ maxLen) (hnn : N.length ≤ maxLen) (hnx : ∀ n ∈ N, n.name.size ≤ maxLen ∧ n.dc.size ≤ maxLen) :
    Calls Try.prog 4 #[.string a0, .string a1, .string a2, .string a3, .int .u64 a4, .int .u64 a5, .slice oa L.length ca, .slice ob S.length cb, .slice oc N.length cc] w fun e w' => e = .returned (.bool true) ∧ Below w.heap.size w w' := by
  have cB := bytes9 a0 a1 a2 a3 a4 a5 oa ob oc ca cb cc L S N w hL.here (hS.at (Below.refl _ _)) (hN.at (Below.refl _ _)) w0 w1 w2 w3 hn hx hsn hsx hnn hnx
  have HL : Hid (SLb w.heap.size w oa L) := hL
  have HS : Hid (SvLb w.heap.size w ob S) := hS
  have HN : Hid (NdLb w.heap.size w oc N) := hN
  clear hL hS hN hx hsx hnx hn hsn hnn w0 w1 w2 w3
  go_enter Try.func4, Try.ntmps4
  go_wp2_with fail
  refine cB.mono ?_
  rintro e w' ⟨rfl | ⟨rfl, hsum⟩, rfl⟩
  · clear cB
    go_wp2
    go_ret
    exact ⟨rfl, Below.refl _ _⟩
  clear cB
  obtain ⟨b1, b2, b3, b4, b5, b6, b7⟩ := bounds_of hsum
  have hx : Hid (∀ x ∈ L, x.size ≤ 1048576) := fun x h => Nat.le_trans (le_sum_of _ _ (List.mem_map_of_mem h)) b2
  have cG := recordBytes10 a0 a1 a2 a3 (by omega) (by omega) (by omega) (by omega) _ _ _ w' (grantsBytes14 oa ob oc ca cb cc L S N w' HL.out.here (HS.out.at (Below.refl _ _)) (HN.out.at (Below.refl _ _)) b1 hx.out b3 (fun s h => Nat.le_trans (le_sum_of _ _ (List.mem_map_of_mem h)) b4) b5 (fun n h => Nat.le_trans (le_sum_of _ _ (List.mem_map_of_mem h)) b6))
  have cP := pack11 oa ob oc ca cb cc L S N w' HL.out HS.out HN.out b1 b2 b3 b4 b5 b6
  have B7 : Hid (((L.map encStr).flatten ++ (encU S.length ++ ((S.map encSvc).flatten ++ (encU N.length ++ (N.map encNod).flatten)))).length ≤ 10000000) := b7
  clear hsum b7
  go_wp2_with fail
  refine cG.mono ?_
  rintro e w' ⟨n, rfl, n0, n1, rfl⟩
  clear cG
  by_cases hbig : 1048576 < n
  · clear cP
    go_wp2
    go_ret
    exact ⟨rfl, Below.refl _ _⟩
  go_wp2_with fail
  refine cP.mono ?_
  rintro e w1 ⟨s, rfl, hs, bb1⟩
  have cR := role8 a0 a1 a2 a3 s a4 a5 w1 L.length S.length N.length (QQ L S N) (fun _ _ _ _ _ _ h k => h.turn k) (fun W => unpack25 s L S N hs b1 b2 b3 b4 b5 b6 B7.out W)
  clear cP hs
  go_wp2_with fail
  refine cR.mono ?_
  rintro e w2 ⟨S0, x, y, z, rfl, bb2, hS0, HQ⟩
  have bb3 := bb1.trans (bb2.mono bb1.size)
  have bb4 := bb3.alloc bb3.size (.cells #[.string a0, .string a1, .string a2, .slice (some ⟨x, 0, none⟩) L.length L.length, .slice (some ⟨y, 0, none⟩) S.length S.length, .slice (some ⟨z, 0, none⟩) N.length N.length, .int .u64 a4, .int .u64 a5] 28)
  have hR := heap_new w2 (.cells #[.string a0, .string a1, .string a2, .slice (some ⟨x, 0, none⟩) L.length L.length, .slice (some ⟨y, 0, none⟩) S.length S.length, .slice (some ⟨z, 0, none⟩) N.length N.length, .int .u64 a4, .int .u64 a5] 28)
  have hq := HQ.out (w2.alloc (.cells #[.string a0, .string a1, .string a2, .slice (some ⟨x, 0, none⟩) L.length L.length, .slice (some ⟨y, 0, none⟩) S.length S.length, .slice (some ⟨z, 0, none⟩) N.length N.length, .int .u64 a4, .int .u64 a5] 28)) (fun k _ hk => Below.heap_alloc _ _ k hk)
  have k0 := cell_of_block hR (j := 0) (v := .string a0) rfl
  have k1 := cell_of_block hR (j := 1) (v := .string a1) rfl
  have k2 := cell_of_block hR (j := 2) (v := .string a2) rfl
  have k3 := cell_of_block hR (j := 3) (v := .slice (some ⟨x, 0, none⟩) L.length L.length) rfl
  have k4 := cell_of_block hR (j := 4) (v := .slice (some ⟨y, 0, none⟩) S.length S.length) rfl
  have k5 := cell_of_block hR (j := 5) (v := .slice (some ⟨z, 0, none⟩) N.length N.length) rfl
  have k6 := cell_of_block hR (j := 6) (v := .int .u64 a4) rfl
  have k7 := cell_of_block hR (j := 7) (v := .int .u64 a5) rfl
  clear cR bb1 bb2 bb3 HQ hR
  have q1 := fun W => Go.run_eql_slice_nil (P := Try.prog) W 25 37 (some ⟨y, 0, none⟩) S.length S.length Try.underlying25
  have q2 := fun W => Go.run_eql_slice_nil (P := Try.prog) W 26 41 (some ⟨z, 0, none⟩) N.length N.length Try.underlying26
  obtain ⟨hq1, hq2, hq3⟩ := hq
  have HQ2 : Hid (SvP (w2.alloc (.cells #[.string a0, .string a1, .string a2, .slice (some ⟨x, 0, none⟩) L.length L.length, .slice (some ⟨y, 0, none⟩) S.length S.length, .slice (some ⟨z, 0, none⟩) N.length N.length, .int .u64 a4, .int .u64 a5] 28)) y S) := hq2
  have HQ3 : Hid (NdP (w2.alloc (.cells #[.string a0, .string a1, .string a2, .slice (some ⟨x, 0, none⟩) L.length L.length, .slice (some ⟨y, 0, none⟩) S.length S.length, .slice (some ⟨z, 0, none⟩) N.length N.length, .int .u64 a4, .int .u64 a5] 28)) z N) := hq3
  have cE := same12q ⟨x, 0, none⟩ oa L.length ca L (w2.alloc (.cells #[.string a0, .string a1, .string a2, .slice (some ⟨x, 0, none⟩) L.length L.length, .slice (some ⟨y, 0, none⟩) S.length S.length, .slice (some ⟨z, 0, none⟩) N.length N.length, .int .u64 a4, .int .u64 a5] 28)) hq1 (HL.out _ bb4) b1
  clear hq1 hq2 hq3
  go_wp2_with fail
  generalize w2.alloc (.cells #[.string a0, .string a1, .string a2, .slice (some ⟨x, 0, none⟩) L.length L.length, .slice (some ⟨y, 0, none⟩) S.length S.length, .slice (some ⟨z, 0, none⟩) N.length N.length, .int .u64 a4, .int .u64 a5] 28) = W3 at *
  refine cE.mono ?_
  rintro e w4 ⟨rfl, m, rfl⟩
  clear cE
  go_wp2
  go_loopw [21] (fun i wr => ∃ (k m : Nat), k ≤ S.length ∧ i = .int .i64 k ∧ wr = W3.drewN m) (fun i _ => S.length - (intOf i).toNat)
  case atStart => exact ⟨0, m, Nat.zero_le _, rfl, rfl⟩
  case round =>
    obtain ⟨k, m, hk, rfl, rfl⟩ := hrel
    by_cases hlt : k < S.length
    · obtain ⟨p, od, cd, rfl, hd⟩ := HS.out k hlt
      obtain ⟨d1, d2, d3⟩ := hd W3 bb4
      obtain ⟨g, cg, e1, e2, e3⟩ := HQ2.out k hlt
      have hlt' : (k : Int) < S.length := by omega
      have hwt : S[k].wt ≤ 1048576 := Nat.le_trans (le_sum_of _ _ (List.mem_map_of_mem (List.getElem_mem hlt))) b4
      unfold Svc.wt at hwt
      have D3 : Hid (SL W3 od S[k].dcs) := d3
      have E3 : Hid (SL W3 (some g) S[k].dcs) := e3
      have HW : Hid (S[k].dcs.length ≤ 1048576) := by show _ ≤ _; omega
      clear hd d3 e3 hwt
      go_wp2
      go_quiet (fail)
      go_wp2
      obtain ⟨W5, hW5⟩ : ∃ W5, W5 = (W3.drewN m).drewN nq := ⟨_, rfl⟩
      rw [← hW5]
      have x0 : W5.cell? ⟨w2.heap.size, 4, none⟩ = some (.slice (some ⟨y, 0, none⟩) S.length S.length) := by rw [hW5]; exact k4
      have x1 : W5.cell? ⟨y, k * 2 + 1, none⟩ = some (.slice (some g) S[k].dcs.length cg) := by rw [hW5]; exact e2
      have x2 : W5.cell? ⟨(p.add (k * 2)).block, (p.add (k * 2)).off + 1, none⟩ = some (.slice od S[k].dcs.length cd) := by rw [hW5]; exact d2
      have D5 : Hid (∀ j, SL (W5.drewN j) od S[k].dcs) := by rw [hW5]; exact fun _ => D3.out
      have E5 : Hid (∀ j, SL (W5.drewN j) (some g) S[k].dcs) := by rw [hW5]; exact fun _ => E3.out
      have HW5 : Hid (W5 = (W3.drewN m).drewN nq) := hW5
      clear hW5 e1 e2 d1 d2
      go_quiet ((go_at_call 12; refine Calls.quiet_of (same12q g od cg cd S[k].dcs _ (E5.out _) (D5.out _) HW.out)))
      go_wp2
      go_roundw
      case rel => exact ⟨k + 1, _, by omega, by go_num, by rw [HW5.out, World.drewN_drewN, World.drewN_drewN]⟩
      case measure => simp [intOf]; omega
    · have hge : ¬ (k : Int) < S.length := by omega
      go_wp2
      go_loopw [22] (fun i wr => ∃ (k m : Nat), k ≤ N.length ∧ i = .int .i64 k ∧ wr = W3.drewN m) (fun i _ => N.length - (intOf i).toNat)
      case atStart => exact ⟨0, _, Nat.zero_le _, rfl, rfl⟩
      case round =>
        obtain ⟨k, m, hk, rfl, rfl⟩ := hrel
        by_cases hlt : k < N.length
        · obtain ⟨p, rfl, hd⟩ := HN.out k hlt
          obtain ⟨d1, d2⟩ := hd W3 bb4
          obtain ⟨e1, e2⟩ := HQ3.out k hlt
          have hlt' : (k : Int) < N.length := by omega
          clear hd
          go_wp2
          go_quiet (fail)
          go_wp2
          go_roundw
          case rel => exact ⟨k + 1, _, by omega, by go_num, rfl⟩
          case measure => simp [intOf]; omega
        · have hge2 : ¬ (k : Int) < N.length := by omega
          go_wp2
          go_ret
          exact ⟨rfl, ⟨bb4.os, bb4.tape, bb4.output, bb4.size, bb4.block⟩⟩
end Go.Proofs.Qxb6609326a
