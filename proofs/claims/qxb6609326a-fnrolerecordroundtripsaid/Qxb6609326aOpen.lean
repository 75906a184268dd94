/-
  The arguments opened: a slice of strings, a slice of services, a slice of nodes.
-/
import Derived.Test.Qxb6609326aLaw5
import Derived.ProofKit
import Derived.OpenShut
import Derived.ShutString
import Derived.SliceStrings
import Derived.ChangeSame
import Derived.Carry
import Derived.Below
namespace Go.Proofs.Qxb6609326a
open Go.ChangeShapes Go.WideShapes Go.ChangeAt Go.RowKit

theorem ownK : ownKnob Try.prog.godebug = none := by kernel_rfl
theorem laidOutK : laidOutB Try.prog = true := by kernel_rfl
theorem size9 : Try.prog.cellsOf 9 = 1 := by kernel_rfl
theorem size24 : Try.prog.cellsOf 24 = 1 := by kernel_rfl
theorem size39 : Try.prog.cellsOf 39 = 2 := by kernel_rfl
theorem size43 : Try.prog.cellsOf 43 = 2 := by kernel_rfl

theorem cell_below {w : World} {a : Addr} {v : Value} (h : w.cell? a = some v) : a.block < w.heap.size := by
  rcases Nat.lt_or_ge a.block w.heap.size with h1 | h1
  · exact h1
  · simp [World.cell?, Array.getElem?_eq_none h1] at h

variable {H : Type} {enc : TypeId × Value → H} {W : World}

theorem open_strs {v : Value} {fuel : Nat} {x : DataW H × List MemPlace} (h : DataW.trod enc Try.prog W 0 (fun _ => true) true fuel 24 [v] = some x) :
    ∃ oa cap L, v = .slice oa L.length cap ∧ SLb W.heap.size W oa L ∧ L.length ≤ maxLen ∧ (∀ x ∈ L, x.size ≤ maxLen) := by
  rcases open_strings Try.underlying24 Try.underlying9 size9 h with ⟨hcs, -⟩ | ⟨a, len, cap, ss, hcs, -, hl, hm, hz, -, hcell, hsz⟩
  · obtain rfl : v = _ := (List.cons.inj hcs).1
    exact ⟨none, 0, [], rfl, (fun _ _ k hk => absurd hk (by simp)), by simp, by simp⟩
  · obtain rfl : v = _ := (List.cons.inj hcs).1
    simp only [if_true] at hz
    have hlen : (ss.take len).length = len := by rw [List.length_take]; omega
    refine ⟨some a, cap, ss.take len, by rw [hlen], ?_, by rw [hlen]; omega, fun x hx => hsz x (List.mem_of_mem_take hx)⟩
    intro W' hW' k hk
    rw [hlen] at hk
    have hc := hcell k (by omega)
    refine ⟨a, rfl, ?_⟩
    rw [hW'.cell (cell_below hc), hc]
    have hk2 : k < ss.length := by omega
    rw [List.getElem_take, List.getD_eq_getElem?_getD, List.getElem?_eq_getElem hk2]
    rfl

theorem list_of {α : Type} (P : Nat → α → Prop) (n : Nat) (h : ∀ i, i < n → ∃ s, P i s) : ∃ S : List α, S.length = n ∧ ∀ i (hi : i < S.length), P i S[i] := by
  induction n with
  | zero => exact ⟨[], rfl, fun i hi => absurd hi (by simp)⟩
  | succ n ih =>
    obtain ⟨S, hS, hP⟩ := ih fun i hi => h i (by omega)
    obtain ⟨s, hs⟩ := h n (by omega)
    refine ⟨S ++ [s], by simp [hS], fun i hi => ?_⟩
    by_cases hlt : i < S.length
    · rw [List.getElem_append_left hlt]
      exact hP i hlt
    · have e : i = S.length := by
        simp at hi
        omega
      subst e
      simp
      rw [hS]
      exact hs

theorem two_cells {a : Addr} {cs : List Value} (h : W.cells? 0 a 2 = some cs) : ∃ c0 c1, cs = [c0, c1] ∧ W.cell? a = some c0 ∧ W.cell? ⟨a.block, a.off + 1, none⟩ = some c1 := by
  simp [World.cells?, List.range, List.range.loop, Option.bind_eq_some_iff] at h
  obtain ⟨c0, h0, l1, ⟨c1, h1, rfl⟩, rfl⟩ := h
  refine ⟨c0, c1, rfl, by simpa [Addr.add] using h0, by simpa [Addr.add] using h1⟩

theorem open_svcs {v : Value} {fuel : Nat} {x : DataW H × List MemPlace} (h : DataW.trod enc Try.prog W 0 (fun _ => true) true fuel 30 [v] = some x) :
    ∃ oa cap S, v = .slice oa S.length cap ∧ SvLb W.heap.size W oa S ∧ S.length ≤ maxLen ∧ (∀ s ∈ S, s.name.size ≤ maxLen ∧ s.dcs.length ≤ maxLen ∧ ∀ x ∈ s.dcs, x.size ≤ maxLen) := by
  rcases DataW.trod_slice Try.underlying30 h with ⟨hcs, -⟩ | ⟨a, len, cap, elems, rest, n, -, hcs, -, -, hl, hm, hlen, hel, -, -⟩
  · obtain rfl : v = _ := (List.cons.inj hcs).1
    exact ⟨none, 0, [], rfl, (fun k hk => absurd hk (by simp)), by simp, by simp⟩
  · obtain rfl : v = _ := (List.cons.inj hcs).1
    obtain ⟨S, hS, hP⟩ := list_of (fun i (s : Svc) => (∃ ob cb, ∀ W', Below W.heap.size W W' → W'.cell? (a.add (i * 2)) = some (.string s.name) ∧ W'.cell? ⟨(a.add (i * 2)).block, (a.add (i * 2)).off + 1, none⟩ = some (.slice ob s.dcs.length cb) ∧ SL W' ob s.dcs) ∧ (s.name.size ≤ maxLen ∧ s.dcs.length ≤ maxLen ∧ ∀ x ∈ s.dcs, x.size ≤ maxLen)) len (by
      intro i hi
      have h1 := hel i hi
      rw [List.getElem?_eq_getElem (by omega), size39, Option.bind_eq_some_iff] at h1
      obtain ⟨cs, hc, ht⟩ := h1
      obtain ⟨c0, c1, rfl, e0, e1⟩ := two_cells hc
      obtain ⟨y0, y1, n', -, -, t0, t1⟩ := trod_struct2 Try.underlying39 ht
      simp only [size9, size24, List.drop_zero, List.drop_succ_cons, List.take_succ_cons, List.take_zero] at t0 t1
      obtain ⟨s, hs0, -, hsz⟩ := DataW.trod_string Try.underlying9 t0
      obtain rfl : c0 = _ := (List.cons.inj hs0).1
      obtain ⟨ob, cb, D, rfl, hD, hDn, hDx⟩ := open_strs t1
      refine ⟨⟨s, D⟩, ⟨ob, cb, fun W' hW' => ⟨?_, ?_, hD W' hW'⟩⟩, hsz, hDn, hDx⟩
      · rw [hW'.cell (cell_below e0), e0]
      · rw [hW'.cell (cell_below e1), e1])
    subst hS
    refine ⟨some a, cap, S, rfl, fun k hk => ?_, by omega, fun s hs => ?_⟩
    · obtain ⟨⟨ob, cb, hh⟩, -⟩ := hP k hk
      exact ⟨a, ob, cb, rfl, hh⟩
    · obtain ⟨k, hk, rfl⟩ := List.getElem_of_mem hs
      exact (hP k hk).2

theorem open_nods {v : Value} {fuel : Nat} {x : DataW H × List MemPlace} (h : DataW.trod enc Try.prog W 0 (fun _ => true) true fuel 31 [v] = some x) :
    ∃ oa cap N, v = .slice oa N.length cap ∧ NdLb W.heap.size W oa N ∧ N.length ≤ maxLen ∧ (∀ n ∈ N, n.name.size ≤ maxLen ∧ n.dc.size ≤ maxLen) := by
  rcases DataW.trod_slice Try.underlying31 h with ⟨hcs, -⟩ | ⟨a, len, cap, elems, rest, n, -, hcs, -, -, hl, hm, hlen, hel, -, -⟩
  · obtain rfl : v = _ := (List.cons.inj hcs).1
    exact ⟨none, 0, [], rfl, (fun k hk => absurd hk (by simp)), by simp, by simp⟩
  · obtain rfl : v = _ := (List.cons.inj hcs).1
    obtain ⟨N, hN, hP⟩ := list_of (fun i (s : Nod) => (∀ W', Below W.heap.size W W' → W'.cell? (a.add (i * 2)) = some (.string s.name) ∧ W'.cell? ⟨(a.add (i * 2)).block, (a.add (i * 2)).off + 1, none⟩ = some (.string s.dc)) ∧ (s.name.size ≤ maxLen ∧ s.dc.size ≤ maxLen)) len (by
      intro i hi
      have h1 := hel i hi
      rw [List.getElem?_eq_getElem (by omega), size43, Option.bind_eq_some_iff] at h1
      obtain ⟨cs, hc, ht⟩ := h1
      obtain ⟨c0, c1, rfl, e0, e1⟩ := two_cells hc
      obtain ⟨y0, y1, n', -, -, t0, t1⟩ := trod_struct2 Try.underlying43 ht
      simp only [size9, List.drop_zero, List.drop_succ_cons, List.take_succ_cons, List.take_zero] at t0 t1
      obtain ⟨s, hs0, -, hsz⟩ := DataW.trod_string Try.underlying9 t0
      obtain rfl : c0 = _ := (List.cons.inj hs0).1
      obtain ⟨s1, hs1, -, hsz1⟩ := DataW.trod_string Try.underlying9 t1
      obtain rfl : c1 = _ := (List.cons.inj hs1).1
      refine ⟨⟨s, s1⟩, fun W' hW' => ⟨?_, ?_⟩, hsz, hsz1⟩
      · rw [hW'.cell (cell_below e0), e0]
      · rw [hW'.cell (cell_below e1), e1])
    subst hN
    refine ⟨some a, cap, N, rfl, fun k hk => ?_, by omega, fun s hs => ?_⟩
    · exact ⟨a, rfl, (hP k hk).1⟩
    · obtain ⟨k, hk, rfl⟩ := List.getElem_of_mem hs
      exact (hP k hk).2

/-- A slice's reading, and its places' numbers. -/
theorem trod_of {t : TypeId} {v : Value} {d : DataW H} {ps : List MemPlace} (hv : ∃ a len cap, v = .slice a len cap) (h : DataW.Trod enc Try.prog W 0 (fun _ => true) true t v d ps) :
    (∃ fuel, DataW.trod enc Try.prog W 0 (fun _ => true) true fuel t [v] = some (d, ps)) ∧ ∀ x ∈ ps, x.block < W.heap.size := by
  obtain ⟨a, len, cap, rfl⟩ := hv
  obtain ⟨fuel, hf⟩ := h
  exact ⟨⟨fuel, hf⟩, fun x hx => DataW.trod_lt _ _ _ _ hf x hx⟩
end Go.Proofs.Qxb6609326a
