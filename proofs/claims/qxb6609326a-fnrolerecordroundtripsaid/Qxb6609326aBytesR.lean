/-
  The law's own bound: zzBytes_.. (9).
-/
import Derived.Test.Qxb6609326aBytes
namespace Go.Proofs.Qxb6609326a
open Go.RowKit

set_option maxHeartbeats 6400000 in
set_option maxRecDepth 100000 in
theorem bytes9 (a0 a1 a2 a3 : ByteArray) (a4 a5 : Int) (oa ob oc : Option Addr) (ca cb cc : Nat) (L : List ByteArray) (S : List Svc) (N : List Nod) (w : World) (hL : SL w oa L) (hS : SvL w ob S) (hN : NdL w oc N) (w0 : a0.size ≤ maxLen) (w1 : a1.size ≤ maxLen) (w2 : a2.size ≤ maxLen) (w3 : a3.size ≤ maxLen)
    (hn : L.length ≤ maxLen) (hx : ∀ x ∈ L, x.size ≤ maxLen) (hsn : S.length ≤ maxLen) (hsx : ∀ s ∈ S, s.name.size ≤ maxLen ∧ s.dcs.length ≤ maxLen ∧ ∀ x ∈ s.dcs, x.size ≤ maxLen) (hnn : N.length ≤ maxLen) (hnx : ∀ n ∈ N, n.name.size ≤ maxLen ∧ n.dc.size ≤ maxLen) :
    Calls Try.prog 9 #[.string a0, .string a1, .string a2, .string a3, .int .u64 a4, .int .u64 a5, .slice oa L.length ca, .slice ob S.length cb, .slice oc N.length cc] w fun e w' => (e = .returned (.bool false) ∨ (e = .returned (.bool true) ∧ (a0.size + a1.size + a2.size + a3.size) + L.length + tot L L.length + S.length + totS S S.length + N.length + totN N N.length ≤ 1048576)) ∧ w' = w := by
  have HL : Hid (SL w oa L) := hL
  have HS : Hid (SvL w ob S) := hS
  have HN : Hid (NdL w oc N) := hN
  have HX : Hid (∀ x ∈ L, x.size ≤ maxLen) := hx
  have HSX : Hid (∀ s ∈ S, s.name.size ≤ maxLen ∧ s.dcs.length ≤ maxLen ∧ ∀ x ∈ s.dcs, x.size ≤ maxLen) := hsx
  have HNX : Hid (∀ n ∈ N, n.name.size ≤ maxLen ∧ n.dc.size ≤ maxLen) := hnx
  clear hL hS hN hx hsx hnx
  simp only [maxLen] at hn hsn hnn
  simp only [maxLen] at w0 w1 w2 w3
  by_cases h_a0 : 1048576 < (a0.size : Int)
  case pos =>
    go_enter Try.func9, Try.ntmps9
    go_wp2
    go_ret
    exact ⟨.inl rfl, rfl⟩
  by_cases h_a1 : 1048576 < (a1.size : Int)
  case pos =>
    go_enter Try.func9, Try.ntmps9
    go_wp2
    go_ret
    exact ⟨.inl rfl, rfl⟩
  by_cases g_a1 : 1048576 < (a0.size : Int) + (a1.size : Int)
  case pos =>
    go_enter Try.func9, Try.ntmps9
    go_wp2
    go_ret
    exact ⟨.inl rfl, rfl⟩
  by_cases h_a2 : 1048576 < (a2.size : Int)
  case pos =>
    go_enter Try.func9, Try.ntmps9
    go_wp2
    go_ret
    exact ⟨.inl rfl, rfl⟩
  by_cases g_a2 : 1048576 < (a0.size : Int) + (a1.size : Int) + (a2.size : Int)
  case pos =>
    go_enter Try.func9, Try.ntmps9
    go_wp2
    go_ret
    exact ⟨.inl rfl, rfl⟩
  by_cases h_a3 : 1048576 < (a3.size : Int)
  case pos =>
    go_enter Try.func9, Try.ntmps9
    go_wp2
    go_ret
    exact ⟨.inl rfl, rfl⟩
  by_cases g_a3 : 1048576 < (a0.size : Int) + (a1.size : Int) + (a2.size : Int) + (a3.size : Int)
  case pos =>
    go_enter Try.func9, Try.ntmps9
    go_wp2
    go_ret
    exact ⟨.inl rfl, rfl⟩
  by_cases hb1 : 1048576 < (L.length : Int)
  case pos =>
    go_enter Try.func9, Try.ntmps9
    go_wp2
    go_ret
    exact ⟨.inl rfl, rfl⟩
  by_cases hb2 : 1048576 < (a0.size : Int) + (a1.size : Int) + (a2.size : Int) + (a3.size : Int) + (L.length : Int)
  case pos =>
    go_enter Try.func9, Try.ntmps9
    go_wp2
    go_ret
    exact ⟨.inl rfl, rfl⟩
  obtain ⟨c, hc⟩ : ∃ c : Nat, c = (a0.size + a1.size + a2.size + a3.size) := ⟨_, rfl⟩
  go_enter Try.func9, Try.ntmps9
  go_wp2
  go_loopw [19, 20] (fun v i wr => ∃ (k : Nat) (m : Int), k ≤ L.length ∧ i = .int .i64 k ∧ v = .int .i64 m ∧ Hid (m = c + L.length + tot L k) ∧ 0 ≤ m ∧ m ≤ 1048576 ∧ wr = w) (fun _ i _ => L.length - (intOf i).toNat)
  case atStart => exact ⟨0, _, Nat.zero_le _, rfl, rfl, by show _ = _; simp [tot, hc], by omega, by omega, rfl⟩
  case round =>
    obtain ⟨k, m, hk, rfl, rfl, HM, m0, m1, rfl⟩ := hrel
    by_cases hlt : k < L.length
    · obtain ⟨p, rfl, hcell⟩ := HL.out k hlt
      have hx1 := HX.out _ (List.getElem_mem hlt)
      simp only [maxLen] at hx1
      have hlt' : (k : Int) < L.length := by omega
      have hts := tot_succ L k hlt
      have HM2 : Hid (m + L[k].size = c + L.length + tot L (k + 1)) := by
        show _ = _
        rw [HM.out, hts]
        omega
      clear hts HM
      by_cases h1 : 1048576 < (L[k].size : Int)
      · go_wp2
        go_ret
        exact ⟨.inl rfl, rfl⟩
      by_cases h2 : 1048576 < m + (L[k].size : Int)
      · go_wp2
        go_ret
        exact ⟨.inl rfl, rfl⟩
      go_wp2
      go_roundw
      case rel => exact ⟨k + 1, _, by omega, by go_num, rfl, HM2, by omega, by omega, by trivial⟩
      case measure => simp [intOf]; omega
    · have hge : ¬ (k : Int) < L.length := by omega
      obtain rfl : k = L.length := by omega
      by_cases h1 : 1048576 < (S.length : Int)
      · go_wp2
        go_ret
        exact ⟨.inl rfl, rfl⟩
      by_cases h2 : 1048576 < m + (S.length : Int)
      · go_wp2
        go_ret
        exact ⟨.inl rfl, rfl⟩
      clear hk
      go_wp2
      obtain ⟨c2, hc2⟩ : ∃ c2 : Nat, c2 = c + L.length + tot L L.length + S.length := ⟨_, rfl⟩
      have e2 : m + S.length = c2 := by rw [HM.out, hc2]; omega
      have HC2 : Hid (c2 = c + L.length + tot L L.length + S.length) := hc2
      have HE2 : Hid (m + S.length = c2) := e2
      clear hc2 e2 HM
      go_loopw [19, 21] (fun v i wr' => ∃ (k : Nat) (m : Int), k ≤ S.length ∧ i = .int .i64 k ∧ v = .int .i64 m ∧ Hid (m = c2 + totS S k) ∧ 0 ≤ m ∧ m ≤ 1048576 ∧ wr' = wr) (fun _ i _ => S.length - (intOf i).toNat)
      case atStart => exact ⟨0, _, Nat.zero_le _, rfl, rfl, by show _ = _; rw [HE2.out]; simp [totS], by omega, by omega, rfl⟩
      case round =>
        clear m0 m1 h1 h2 HE2
        obtain ⟨k, m, hk, rfl, rfl, HM, m0, m1, rfl⟩ := hrel
        by_cases hlt : k < S.length
        · obtain ⟨p, od, cd, rfl, d1, d2, hd⟩ := HS.out k hlt
          have HD : Hid (SL wr od S[k].dcs) := hd
          obtain ⟨hx1, hx2, hx3⟩ := HSX.out _ (List.getElem_mem hlt)
          have HX3 : Hid (∀ x ∈ S[k].dcs, x.size ≤ maxLen) := hx3
          simp only [maxLen] at hx1 hx2
          have hlt' : (k : Int) < S.length := by omega
          have HT : Hid (totS S (k + 1) = totS S k + S[k].wt) := totS_succ S k hlt
          clear hd hx3
          obtain ⟨nm, hnm⟩ : ∃ nm, nm = S[k].name := ⟨_, rfl⟩
          obtain ⟨D, hD⟩ : ∃ D, D = S[k].dcs := ⟨_, rfl⟩
          rw [← hnm] at d1 hx1
          rw [← hD] at d2 hx2 HD HX3
          have HW : Hid (S[k].wt = nm.size + D.length + (D.map ByteArray.size).sum) := by show _ = _; unfold Svc.wt; rw [← hnm, ← hD]
          clear hnm hD
          by_cases h1 : 1048576 < (nm.size : Int)
          · go_wp2
            go_ret
            exact ⟨.inl rfl, rfl⟩
          by_cases h2 : 1048576 < m + (nm.size : Int)
          · go_wp2
            go_ret
            exact ⟨.inl rfl, rfl⟩
          by_cases h3 : 1048576 < (D.length : Int)
          · go_wp2
            go_ret
            exact ⟨.inl rfl, rfl⟩
          by_cases h4 : 1048576 < m + (nm.size : Int) + (D.length : Int)
          · go_wp2
            go_ret
            exact ⟨.inl rfl, rfl⟩
          go_wp2
          obtain ⟨m3, hm3⟩ : ∃ m3, m3 = m + (nm.size : Int) + (D.length : Int) := ⟨_, rfl⟩
          have HM3 : Hid (m3 = m + (nm.size : Int) + (D.length : Int)) := hm3
          go_loopw [19, 22] (fun v i wr' => ∃ (j : Nat) (q : Int), j ≤ D.length ∧ i = .int .i64 j ∧ v = .int .i64 q ∧ Hid (q = m3 + tot D j) ∧ 0 ≤ q ∧ q ≤ 1048576 ∧ wr' = wr) (fun _ i _ => D.length - (intOf i).toNat)
          case atStart => exact ⟨0, _, Nat.zero_le _, rfl, rfl, by show _ = _; rw [hm3]; simp [tot], by omega, by omega, rfl⟩
          case round =>
            clear hm3 h1 h2 h3 h4
            obtain ⟨j, q, hj, rfl, rfl, HQ, q0, q1, rfl⟩ := hrel
            by_cases hjt : j < D.length
            · obtain ⟨p2, rfl, d3⟩ := HD.out j hjt
              have hy1 := HX3.out _ (List.getElem_mem hjt)
              simp only [maxLen] at hy1
              have hjt' : (j : Int) < D.length := by omega
              have hts := tot_succ D j hjt
              have HQ2 : Hid (q + D[j].size = m3 + tot D (j + 1)) := by
                show _ = _
                rw [HQ.out, hts]
                omega
              clear hts HQ
              by_cases h1 : 1048576 < (D[j].size : Int)
              · go_wp2
                go_ret
                exact ⟨.inl rfl, rfl⟩
              by_cases h2 : 1048576 < q + (D[j].size : Int)
              · go_wp2
                go_ret
                exact ⟨.inl rfl, rfl⟩
              go_wp2
              go_roundw
              case rel => exact ⟨j + 1, _, by omega, by go_num, rfl, HQ2, by omega, by omega, by trivial⟩
              case measure => simp [intOf]; omega
            · have hge : ¬ (j : Int) < D.length := by omega
              obtain rfl : j = D.length := by omega
              have HQ2 : Hid (q = c2 + totS S (k + 1)) := by
                have e1 : tot D D.length = (D.map ByteArray.size).sum := by unfold tot; rw [List.take_length]
                have e2 := HQ.out
                have e3 := HM3.out
                have e4 := HM.out
                have e5 := HT.out
                have e6 := HW.out
                show _ = _
                omega
              clear HQ HM3 HM HT HW
              go_wp2
              go_roundw
              case rel => exact ⟨k + 1, _, by omega, by go_num, rfl, HQ2, q0, q1, by trivial⟩
              case measure => simp [intOf]; omega
        · have hge2 : ¬ (k : Int) < S.length := by omega
          obtain rfl : k = S.length := by omega
          clear hk
          by_cases h1 : 1048576 < (N.length : Int)
          · go_wp2
            go_ret
            exact ⟨.inl rfl, rfl⟩
          by_cases h2 : 1048576 < m + (N.length : Int)
          · go_wp2
            go_ret
            exact ⟨.inl rfl, rfl⟩
          go_wp2
          obtain ⟨c3, hc3⟩ : ∃ c3 : Nat, c3 = c2 + totS S S.length + N.length := ⟨_, rfl⟩
          have HC3 : Hid (c3 = c2 + totS S S.length + N.length) := hc3
          have HE3 : Hid (m + N.length = c3) := by show _ = _; rw [HM.out, hc3]; omega
          clear hc3 HM
          go_loopw [19, 23] (fun v i wr' => ∃ (k : Nat) (m : Int), k ≤ N.length ∧ i = .int .i64 k ∧ v = .int .i64 m ∧ Hid (m = c3 + totN N k) ∧ 0 ≤ m ∧ m ≤ 1048576 ∧ wr' = wr) (fun _ i _ => N.length - (intOf i).toNat)
          case atStart => exact ⟨0, _, Nat.zero_le _, rfl, rfl, by show _ = _; rw [HE3.out]; simp [totN], by omega, by omega, rfl⟩
          case round =>
            clear m0 m1 h1 h2 HE3
            obtain ⟨k, m, hk, rfl, rfl, HM, m0, m1, rfl⟩ := hrel
            by_cases hlt : k < N.length
            · obtain ⟨p, rfl, d1, d2⟩ := HN.out k hlt
              obtain ⟨hx1, hx2⟩ := HNX.out _ (List.getElem_mem hlt)
              simp only [maxLen] at hx1 hx2
              have hlt' : (k : Int) < N.length := by omega
              have HM2 : Hid (m + N[k].name.size + N[k].dc.size = c3 + totN N (k + 1)) := by
                have e1 := totN_succ N k hlt
                have e2 := HM.out
                unfold Nod.wt at e1
                show _ = _
                omega
              clear HM
              by_cases h1 : 1048576 < (N[k].name.size : Int)
              · go_wp2
                go_ret
                exact ⟨.inl rfl, rfl⟩
              by_cases h2 : 1048576 < m + (N[k].name.size : Int)
              · go_wp2
                go_ret
                exact ⟨.inl rfl, rfl⟩
              by_cases h3 : 1048576 < (N[k].dc.size : Int)
              · go_wp2
                go_ret
                exact ⟨.inl rfl, rfl⟩
              by_cases h4 : 1048576 < m + (N[k].name.size : Int) + (N[k].dc.size : Int)
              · go_wp2
                go_ret
                exact ⟨.inl rfl, rfl⟩
              go_wp2
              go_roundw
              case rel => exact ⟨k + 1, _, by omega, by go_num, rfl, HM2, by omega, by omega, by trivial⟩
              case measure => simp [intOf]; omega
            · have hge3 : ¬ (k : Int) < N.length := by omega
              obtain rfl : k = N.length := by omega
              go_wp2
              go_ret
              exact ⟨.inr ⟨rfl, by have := HM.out; have := HC3.out; have := HC2.out; omega⟩, rfl⟩
end Go.Proofs.Qxb6609326a
