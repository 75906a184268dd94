/-
  zzPackGrants.
-/
import Derived.Test.Qxb6609326aSvc
namespace Go.Proofs.Qxb6609326a
open Go.RowKit

/-- The structs stand whatever is done from B on. -/
def SvLb (B : Nat) (w : World) (oa : Option Addr) (S : List Svc) : Prop := ∀ k (h : k < S.length), ∃ a ob cb, oa = some a ∧ ∀ W, Below B w W → W.cell? (a.add (k * 2)) = some (.string S[k].name) ∧ W.cell? ⟨(a.add (k * 2)).block, (a.add (k * 2)).off + 1, none⟩ = some (.slice ob S[k].dcs.length cb) ∧ SL W ob S[k].dcs
def NdLb (B : Nat) (w : World) (oa : Option Addr) (N : List Nod) : Prop := ∀ k (h : k < N.length), ∃ a, oa = some a ∧ ∀ W, Below B w W → W.cell? (a.add (k * 2)) = some (.string N[k].name) ∧ W.cell? ⟨(a.add (k * 2)).block, (a.add (k * 2)).off + 1, none⟩ = some (.string N[k].dc)
theorem SvLb.at {B : Nat} {w W : World} {oa : Option Addr} {S : List Svc} (h : SvLb B w oa S) (hW : Below B w W) : SvL W oa S := fun k hk => by
  obtain ⟨a, ob, cb, e, r⟩ := h k hk
  exact ⟨a, ob, cb, e, r W hW⟩
theorem NdLb.at {B : Nat} {w W : World} {oa : Option Addr} {N : List Nod} (h : NdLb B w oa N) (hW : Below B w W) : NdL W oa N := fun k hk => by
  obtain ⟨a, e, r⟩ := h k hk
  exact ⟨a, e, r W hW⟩

theorem encSvc_len (s : Svc) : (encSvc s).length ≤ 6 + 3 * s.wt := by
  unfold encSvc Svc.wt
  have h1 := encStr_len s.name
  have h2 := encStrs_len s.dcs
  simp only [List.length_append]
  omega
theorem encNod_len (n : Nod) : (encNod n).length ≤ 6 + n.wt := by
  unfold encNod Nod.wt
  have h1 := encStr_len n.name
  have h2 := encStr_len n.dc
  simp only [List.length_append]
  omega
theorem encSvcs_len (S : List Svc) : (S.map encSvc).flatten.length ≤ 6 * S.length + 3 * (S.map Svc.wt).sum := by
  induction S with
  | nil => simp
  | cons x S ih =>
    have := encSvc_len x
    simp only [List.map_cons, List.flatten_cons, List.length_append, List.sum_cons, List.length_cons]
    omega
theorem encNods_len (N : List Nod) : (N.map encNod).flatten.length ≤ 6 * N.length + (N.map Nod.wt).sum := by
  induction N with
  | nil => simp
  | cons x N ih =>
    have := encNod_len x
    simp only [List.map_cons, List.flatten_cons, List.length_append, List.sum_cons, List.length_cons]
    omega
theorem sumS_take (S : List Svc) (k : Nat) : ((S.take k).map Svc.wt).sum ≤ (S.map Svc.wt).sum := by
  have h : S = S.take k ++ S.drop k := (List.take_append_drop k S).symm
  have h2 : (S.map Svc.wt).sum = ((S.take k).map Svc.wt).sum + ((S.drop k).map Svc.wt).sum := by
    rw [← List.sum_append, ← List.map_append, ← h]
  omega
theorem sumN_take (N : List Nod) (k : Nat) : ((N.take k).map Nod.wt).sum ≤ (N.map Nod.wt).sum := by
  have h : N = N.take k ++ N.drop k := (List.take_append_drop k N).symm
  have h2 : (N.map Nod.wt).sum = ((N.take k).map Nod.wt).sum + ((N.drop k).map Nod.wt).sum := by
    rw [← List.sum_append, ← List.map_append, ← h]
  omega

set_option maxHeartbeats 3200000 in
set_option maxRecDepth 100000 in
theorem pack11 (oa ob oc : Option Addr) (ca cb cc : Nat) (L : List ByteArray) (S : List Svc) (N : List Nod) (w : World) (hL : SLb w.heap.size w oa L) (hS : SvLb w.heap.size w ob S) (hN : NdLb w.heap.size w oc N)
    (hn : L.length ≤ 1048576) (hx : (L.map ByteArray.size).sum ≤ 1048576) (hsn : S.length ≤ 1048576) (hsx : (S.map Svc.wt).sum ≤ 1048576) (hnn : N.length ≤ 1048576) (hnx : (N.map Nod.wt).sum ≤ 1048576) :
    Calls Try.prog 11 #[.slice oa L.length ca, .slice ob S.length cb, .slice oc N.length cc] w fun e w' => ∃ s : ByteArray, e = .returned (.string s) ∧ s.data.toList = encAll L S N ∧ Below w.heap.size w w' := by
  have HS : Hid (SvLb w.heap.size w ob S) := hS
  have HN : Hid (NdLb w.heap.size w oc N) := hN
  have c0 := app18 w.heap.size (.slice none 0 0) [] oa ca L w (Buf.nil _ _ _) (Nat.le_refl _) (by simp) hL hn hx
  have hLL := encStrs_len L
  obtain ⟨l0, hl0⟩ : ∃ l, l = encStrs L := ⟨_, rfl⟩
  rw [← hl0] at hLL
  rw [List.nil_append, ← hl0] at c0
  have HL0 : Hid (l0 = encStrs L) := hl0
  have hul := (encU_len S.length).1
  have hul2 := (encU_len N.length).1
  clear hS hN hL hl0
  go_enter Try.func11, Try.ntmps11
  go_wp2_with fail
  refine c0.mono ?_
  rintro e w1 ⟨v1, rfl, hb1, hf1⟩
  have c1 := app21 w.heap.size v1 l0 S.length w1 hb1 hf1.size (by omega) (by omega)
  clear c0 hb1
  go_wp2_with fail
  refine c1.mono ?_
  rintro e w2 ⟨v2, rfl, hb2, hf2⟩
  have HB : Hid (Buf 5 w.heap.size w2 v2 (l0 ++ encU S.length)) := hb2
  have hf := hf1.trans hf2
  clear c1 hb2 hf1 hf2
  go_wp2
  go_loopw [7, 8] (fun v i wr => ∃ (k : Nat), k ≤ S.length ∧ i = .int .i64 k ∧ Hid (Buf 5 w.heap.size wr v (l0 ++ encU S.length ++ ((S.take k).map encSvc).flatten)) ∧ Fr 5 w.heap.size w wr) (fun _ i _ => S.length - (intOf i).toNat)
  case atStart => exact ⟨0, Nat.zero_le _, rfl, by simpa using HB, hf⟩
  case round =>
    clear HB hf
    obtain ⟨k, hk, rfl, HB, hf⟩ := hrel
    by_cases hlt : k < S.length
    · have hlt' : (k : Int) < S.length := by omega
      have hlen : (l0 ++ encU S.length ++ ((S.take k).map encSvc).flatten).length ≤ 15000000 := by
        have h1 := encSvcs_len (S.take k)
        have h2 := sumS_take S k
        simp only [List.length_append, List.length_take] at *
        omega
      obtain ⟨p, od, cd, rfl, hd⟩ := HS.out k hlt
      have HD : Hid (∀ W, Below w.heap.size w W → W.cell? (p.add (k * 2)) = some (.string S[k].name) ∧ W.cell? ⟨(p.add (k * 2)).block, (p.add (k * 2)).off + 1, none⟩ = some (.slice od S[k].dcs.length cd) ∧ SL W od S[k].dcs) := hd
      have d1 := (hd wr hf.1).1
      have hwt : S[k].wt ≤ 1048576 := Nat.le_trans (le_sum_of _ _ (List.mem_map_of_mem (List.getElem_mem hlt))) hsx
      unfold Svc.wt at hwt
      have c1 := app22 w.heap.size _ _ S[k].name wr HB.out hf.size (by omega) (by omega)
      have hel := encStr_len S[k].name
      clear hd
      go_wp2_with fail
      refine c1.mono ?_
      rintro e w3 ⟨v3, rfl, hb3, hf3⟩
      have hfr := hf.trans hf3
      have d2 := (HD.out w3 hfr.1).2.1
      have c2 := app18 w.heap.size v3 _ od cd S[k].dcs w3 hb3 hfr.size (by rw [List.length_append]; omega) (fun W hW => (HD.out W (hfr.1.trans hW)).2.2) (by omega) (by omega)
      clear c1 d1 hb3 hlen
      go_wp2_with fail
      refine c2.mono ?_
      rintro e w4 ⟨v4, rfl, hb4, hf4⟩
      have HB2 : Hid (Buf 5 w.heap.size w4 v4 (l0 ++ encU S.length ++ ((S.take (k + 1)).map encSvc).flatten)) := by
        show Buf _ _ _ _ _
        rw [List.take_succ_eq_append_getElem hlt, List.map_append, List.flatten_append, ← List.append_assoc]
        rw [List.append_assoc _ (encStr _) (encStrs _)] at hb4
        simpa [encSvc] using hb4
      have hfr2 := hfr.trans hf4
      clear c2 d2 hb4 hf3 hf4 hfr
      go_wp2
      go_roundw
      case rel => exact ⟨k + 1, by omega, by go_num, HB2, hfr2⟩
      case measure => simp [intOf]; omega
    · have hge : ¬ (k : Int) < S.length := by omega
      obtain rfl : k = S.length := by omega
      have hlen := encSvcs_len S
      have hB1 := HB.out
      rw [List.take_length] at hB1
      obtain ⟨l1, hl1⟩ : ∃ l, l = l0 ++ encU S.length ++ (S.map encSvc).flatten := ⟨_, rfl⟩
      rw [← hl1] at hB1
      have HL1 : Hid (l1 = l0 ++ encU S.length ++ (S.map encSvc).flatten) := hl1
      have hl1n : l1.length ≤ 15000000 := by
        rw [hl1]
        simp only [List.length_append]
        omega
      have c1 := app21 w.heap.size _ l1 N.length wr hB1 hf.size (by omega) (by omega)
      clear HB hB1 hl1 hlen
      go_wp2_with fail
      refine c1.mono ?_
      rintro e w2 ⟨v2, rfl, hb2, hf2⟩
      have HB : Hid (Buf 5 w.heap.size w2 v2 (l1 ++ encU N.length)) := hb2
      have hf3 := hf.trans hf2
      clear c1 hb2 hf hf2
      go_wp2
      go_loopw [7, 9] (fun v i wr => ∃ (k : Nat), k ≤ N.length ∧ i = .int .i64 k ∧ Hid (Buf 5 w.heap.size wr v (l1 ++ encU N.length ++ ((N.take k).map encNod).flatten)) ∧ Fr 5 w.heap.size w wr) (fun _ i _ => N.length - (intOf i).toNat)
      case atStart => exact ⟨0, Nat.zero_le _, rfl, by simpa using HB, hf3⟩
      case round =>
        clear HB hf3
        obtain ⟨k, hk, rfl, HB, hf⟩ := hrel
        by_cases hlt : k < N.length
        · have hlt' : (k : Int) < N.length := by omega
          have hlen : (l1 ++ encU N.length ++ ((N.take k).map encNod).flatten).length ≤ 40000000 := by
            have h1 := encNods_len (N.take k)
            have h2 := sumN_take N k
            simp only [List.length_append, List.length_take] at *
            omega
          obtain ⟨p, rfl, hd⟩ := HN.out k hlt
          have HD : Hid (∀ W, Below w.heap.size w W → W.cell? (p.add (k * 2)) = some (.string N[k].name) ∧ W.cell? ⟨(p.add (k * 2)).block, (p.add (k * 2)).off + 1, none⟩ = some (.string N[k].dc)) := hd
          have d1 := (hd wr hf.1).1
          have hwt : N[k].wt ≤ 1048576 := Nat.le_trans (le_sum_of _ _ (List.mem_map_of_mem (List.getElem_mem hlt))) hnx
          unfold Nod.wt at hwt
          have c1 := app22 w.heap.size _ _ N[k].name wr HB.out hf.size (by omega) (by omega)
          have hel := encStr_len N[k].name
          clear hd
          go_wp2_with fail
          refine c1.mono ?_
          rintro e w3 ⟨v3, rfl, hb3, hf3⟩
          have hfr := hf.trans hf3
          have d2 := (HD.out w3 hfr.1).2
          have c2 := app22 w.heap.size v3 _ N[k].dc w3 hb3 hfr.size (by rw [List.length_append]; omega) (by omega)
          clear c1 d1 hb3 hlen
          go_wp2_with fail
          refine c2.mono ?_
          rintro e w4 ⟨v4, rfl, hb4, hf4⟩
          have HB2 : Hid (Buf 5 w.heap.size w4 v4 (l1 ++ encU N.length ++ ((N.take (k + 1)).map encNod).flatten)) := by
            show Buf _ _ _ _ _
            rw [List.take_succ_eq_append_getElem hlt, List.map_append, List.flatten_append, ← List.append_assoc]
            rw [List.append_assoc _ (encStr _) (encStr _)] at hb4
            simpa [encNod] using hb4
          have hfr2 := hfr.trans hf4
          clear c2 d2 hb4 hf3 hf4 hfr
          go_wp2
          go_roundw
          case rel => exact ⟨k + 1, by omega, by go_num, HB2, hfr2⟩
          case measure => simp [intOf]; omega
        · have hge2 : ¬ (k : Int) < N.length := by omega
          obtain rfl : k = N.length := by omega
          have hB2 := HB.out
          rw [List.take_length] at hB2
          have cv := hB2.run_string 49 9 Try.underlying49 Try.underlying5 Try.underlying9
          obtain ⟨s, hs⟩ : ∃ s : ByteArray, s = ⟨(l1 ++ encU N.length ++ (N.map encNod).flatten).toArray⟩ := ⟨_, rfl⟩
          rw [← hs] at cv
          have hsl : Hid (s.data.toList = encAll L S N) := by
            show _ = _
            rw [hs, HL1.out, HL0.out]
            unfold encAll
            simp
          clear HB hB2 hs
          go_wp2
          go_ret
          exact ⟨s, rfl, hsl.out, hf.1⟩
end Go.Proofs.Qxb6609326a
