/-
  The two lists of structs that come in; their packing; zzGrantsBytes.
-/
import Derived.Test.Qxb6609326aApps
namespace Go.Proofs.Qxb6609326a
open Go.RowKit

/-- A service as it comes in: its name, its datacenters. A node: its name, its datacenter. -/
structure Svc where
  name : ByteArray
  dcs : List ByteArray
structure Nod where
  name : ByteArray
  dc : ByteArray
def Svc.wt (s : Svc) : Nat := s.name.size + s.dcs.length + (s.dcs.map ByteArray.size).sum
def Nod.wt (n : Nod) : Nat := n.name.size + n.dc.size
def encSvc (s : Svc) : List UInt8 := encStr s.name ++ encStrs s.dcs
def encNod (n : Nod) : List UInt8 := encStr n.name ++ encStr n.dc
def encAll (L : List ByteArray) (S : List Svc) (N : List Nod) : List UInt8 :=
  encStrs L ++ (encU S.length ++ ((S.map encSvc).flatten ++ (encU N.length ++ (N.map encNod).flatten)))

def SvL (w : World) (oa : Option Addr) (S : List Svc) : Prop := ∀ k (h : k < S.length), ∃ a ob cb, oa = some a ∧ w.cell? (a.add (k * 2)) = some (.string S[k].name) ∧ w.cell? ⟨(a.add (k * 2)).block, (a.add (k * 2)).off + 1, none⟩ = some (.slice ob S[k].dcs.length cb) ∧ SL w ob S[k].dcs
def NdL (w : World) (oa : Option Addr) (N : List Nod) : Prop := ∀ k (h : k < N.length), ∃ a, oa = some a ∧ w.cell? (a.add (k * 2)) = some (.string N[k].name) ∧ w.cell? ⟨(a.add (k * 2)).block, (a.add (k * 2)).off + 1, none⟩ = some (.string N[k].dc)

set_option maxHeartbeats 1600000 in
set_option maxRecDepth 100000 in
theorem grantsBytes14 (oa ob oc : Option Addr) (ca cb cc : Nat) (L : List ByteArray) (S : List Svc) (N : List Nod) (w : World) (hL : SL w oa L) (hS : SvL w ob S) (hN : NdL w oc N)
    (hn : L.length ≤ 1048576) (hx : ∀ x ∈ L, x.size ≤ 1048576) (hsn : S.length ≤ 1048576) (hsx : ∀ s ∈ S, s.wt ≤ 1048576) (hnn : N.length ≤ 1048576) (hnx : ∀ n ∈ N, n.wt ≤ 1048576) :
    Calls Try.prog 14 #[.slice oa L.length ca, .slice ob S.length cb, .slice oc N.length cc] w fun e w' => ∃ n, e = .returned (.int .i64 n) ∧ 0 ≤ n ∧ n ≤ 2097152 ∧ w' = w := by
  have c0 := strsBytes23 0 (by omega) (by omega) oa ca L w hL hn hx
  have HS : Hid (SvL w ob S) := hS
  have HN : Hid (NdL w oc N) := hN
  have HSX : Hid (∀ s ∈ S, s.wt ≤ 1048576) := hsx
  have HNX : Hid (∀ n ∈ N, n.wt ≤ 1048576) := hnx
  clear hL hS hN hx hsx hnx
  go_enter Try.func14, Try.ntmps14
  go_wp2_with fail
  refine c0.mono ?_
  rintro e w' ⟨n, rfl, n0, n1, rfl⟩
  clear c0
  have i1 : (S.length : Int) ≤ 1048576 := by omega
  have i2 : (N.length : Int) ≤ 1048576 := by omega
  have c1 := add20 n (40 * (S.length : Int)) n0 (by omega) (by omega) w'
  go_wp2_with fail
  refine c1.mono ?_
  rintro e w' ⟨n', rfl, n0', n1', rfl⟩
  clear c1 n0 n1
  go_wp2
  go_loopw [7, 8] (fun v i wr => ∃ (k : Nat) (m : Int), k ≤ S.length ∧ i = .int .i64 k ∧ v = .int .i64 m ∧ 0 ≤ m ∧ m ≤ 2097152 ∧ wr = w') (fun _ i _ => S.length - (intOf i).toNat)
  case atStart => exact ⟨0, _, Nat.zero_le _, rfl, rfl, n0', n1', rfl⟩
  case round =>
    obtain ⟨k, m, hk, rfl, rfl, m0, m1, rfl⟩ := hrel
    by_cases hlt : k < S.length
    · obtain ⟨p, od, cd, rfl, d1, d2, hd⟩ := HS.out k hlt
      have hwt := HSX.out _ (List.getElem_mem hlt)
      unfold Svc.wt at hwt
      have hlt' : (k : Int) < S.length := by omega
      have c1 := add20 m (S[k].name.size : Int) m0 (by omega) (by omega) wr
      go_wp2_with fail
      refine c1.mono ?_
      rintro e w' ⟨m', rfl, m0', m1', rfl⟩
      have c2 := strsBytes23 m' m0' m1' od cd S[k].dcs w' hd (by omega) (fun x hx => Nat.le_trans (le_sum_of _ _ (List.mem_map_of_mem hx)) (by omega))
      clear c1 d1 hd m0 m1
      go_wp2_with fail
      refine c2.mono ?_
      rintro e w' ⟨m2, rfl, m0, m1, rfl⟩
      clear c2 d2
      by_cases hbig : 1048576 < m2
      · go_wp2
        go_ret
        exact ⟨_, rfl, m0, m1, rfl⟩
      · go_wp2
        go_roundw
        case rel => exact ⟨k + 1, m2, by omega, by go_num, rfl, m0, m1, by trivial⟩
        case measure => simp [intOf]; omega
    · have hge : ¬ (k : Int) < S.length := by omega
      have c1 := add20 m (32 * (N.length : Int)) m0 (by omega) (by omega) wr
      clear n0' n1'
      go_wp2_with fail
      refine c1.mono ?_
      rintro e w' ⟨n2, rfl, n0, n1, rfl⟩
      clear c1
      go_wp2
      go_loopw [7, 9] (fun v i wr => ∃ (k : Nat) (m : Int), k ≤ N.length ∧ i = .int .i64 k ∧ v = .int .i64 m ∧ 0 ≤ m ∧ m ≤ 2097152 ∧ wr = w') (fun _ i _ => N.length - (intOf i).toNat)
      case atStart => exact ⟨0, _, Nat.zero_le _, rfl, rfl, n0, n1, rfl⟩
      case round =>
        obtain ⟨k, m, hk, rfl, rfl, m0, m1, rfl⟩ := hrel
        by_cases hlt : k < N.length
        · obtain ⟨p, rfl, d1, d2⟩ := HN.out k hlt
          have hwt := HNX.out _ (List.getElem_mem hlt)
          unfold Nod.wt at hwt
          have hlt' : (k : Int) < N.length := by omega
          have c1 := add20 m (N[k].name.size : Int) m0 (by omega) (by omega) wr
          go_wp2_with fail
          refine c1.mono ?_
          rintro e w' ⟨m', rfl, m0', m1', rfl⟩
          have c2 := add20 m' (N[k].dc.size : Int) m0' (by omega) (by omega) w'
          clear c1 d1
          go_wp2_with fail
          refine c2.mono ?_
          rintro e w' ⟨m2, rfl, m0, m1, rfl⟩
          clear c2 d2
          by_cases hbig : 1048576 < m2
          · go_wp2
            go_ret
            exact ⟨_, rfl, m0, m1, rfl⟩
          · go_wp2
            go_roundw
            case rel => exact ⟨k + 1, m2, by omega, by go_num, rfl, m0, m1, by trivial⟩
            case measure => simp [intOf]; omega
        · have hge : ¬ (k : Int) < N.length := by omega
          go_wp2
          go_ret
          exact ⟨_, rfl, m0, m1, rfl⟩
end Go.Proofs.Qxb6609326a
