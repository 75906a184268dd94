/-
  grants.unpack of what zzPackGrants packs.
-/
import Derived.Test.Qxb6609326aLaw5
import Derived.Test.Qxb6609326aEmpty
namespace Go.Proofs.Qxb6609326a
open Go.RowKit

/-- The services that have been read: block Y holds two cells a service; the first k are filled; the lists of datacenters lie in blocks of their own. -/
structure SvR (U Y : Nat) (S : List Svc) (k : Nat) (w : World) (C : Array Value) : Prop where
  blk : w.heap[Y]? = some (.cells C 37 (0, 0))
  size : C.size = S.length * 2
  each : ∀ j (h : j < S.length), j < k → C[j * 2]? = some (.string S[j].name) ∧ ∃ g, C[j * 2 + 1]? = some (.slice (some ⟨g, 0, none⟩) S[j].dcs.length S[j].dcs.length) ∧ g ≠ Y ∧ U < g ∧ w.heap[g]? = some (.cells (S[j].dcs.map Value.string).toArray 9 (0, 0))
structure NdR (Z : Nat) (N : List Nod) (k : Nat) (w : World) (C : Array Value) : Prop where
  blk : w.heap[Z]? = some (.cells C 41 (0, 0))
  size : C.size = N.length * 2
  each : ∀ j (h : j < N.length), j < k → C[j * 2]? = some (.string N[j].name) ∧ C[j * 2 + 1]? = some (.string N[j].dc)

theorem set_two {w : World} {Y t j : Nat} {C : Array Value} (h : w.heap[Y]? = some (.cells C t (0, 0))) (u v : Value) :
    ((w.setCell ⟨Y, j * 2, none⟩ u).setCell ⟨Y, j * 2 + 1, none⟩ v).heap[Y]? = some (.cells ((C.setIfInBounds (j * 2) u).setIfInBounds (j * 2 + 1) v) t (0, 0)) :=
  Lib.heap_setCell_same (Lib.heap_setCell_same h u) v

theorem lt_of_some {w : World} {k : Nat} {o : Obj} (h : w.heap[k]? = some o) : k < w.heap.size := (Array.getElem?_eq_some_iff.1 h).1

/-- One service more. -/
theorem SvR.step {U Y : Nat} {S : List Svc} {k : Nat} {w w1 : World} {C : Array Value} {t1 : ByteArray} (h : SvR U Y S k w C) (hk : k < S.length) (u1 : Un U w w1 t1) (hUY : U ≠ Y) (g : Nat) (hg : w.heap.size ≤ g) (hUg : U < g)
    (hb : w1.heap[g]? = some (.cells (S[k].dcs.map Value.string).toArray 9 (0, 0))) :
    SvR U Y S (k + 1) ((w1.setCell ⟨Y, k * 2, none⟩ (.string S[k].name)).setCell ⟨Y, k * 2 + 1, none⟩ (.slice (some ⟨g, 0, none⟩) S[k].dcs.length S[k].dcs.length)) ((C.setIfInBounds (k * 2) (.string S[k].name)).setIfInBounds (k * 2 + 1) (.slice (some ⟨g, 0, none⟩) S[k].dcs.length S[k].dcs.length)) := by
  have hY := lt_of_some h.blk
  have hsz := h.size
  refine ⟨set_two ((u1.block Y hY (Ne.symm hUY)).trans h.blk) _ _, by simpa using hsz, fun j hj hjk => ?_⟩
  by_cases hlt : j < k
  · obtain ⟨e1, g', e2, hgY, hUg', e3⟩ := h.each j hj hlt
    refine ⟨?_, g', ?_, hgY, hUg', ?_⟩
    · rw [Array.getElem?_setIfInBounds_ne (by omega), Array.getElem?_setIfInBounds_ne (by omega)]
      exact e1
    · rw [Array.getElem?_setIfInBounds_ne (by omega), Array.getElem?_setIfInBounds_ne (by omega)]
      exact e2
    · rw [Below.heap_setCell _ _ _ _ hgY, Below.heap_setCell _ _ _ _ hgY]
      exact (u1.block g' (lt_of_some e3) (by omega)).trans e3
  · obtain rfl : j = k := by omega
    refine ⟨?_, g, ?_, by omega, hUg, ?_⟩
    · rw [Array.getElem?_setIfInBounds_ne (by omega), Array.getElem?_setIfInBounds_self_of_lt (by omega)]
    · rw [Array.getElem?_setIfInBounds_self_of_lt (by simp; omega)]
    · rw [Below.heap_setCell _ _ _ _ (by show g ≠ Y; omega), Below.heap_setCell _ _ _ _ (by show g ≠ Y; omega)]
      exact hb
theorem NdR.step {U Z : Nat} {N : List Nod} {k : Nat} {w w1 : World} {C : Array Value} {t1 : ByteArray} (h : NdR Z N k w C) (hk : k < N.length) (u1 : Un U w w1 t1) (hUZ : U ≠ Z) :
    NdR Z N (k + 1) ((w1.setCell ⟨Z, k * 2, none⟩ (.string N[k].name)).setCell ⟨Z, k * 2 + 1, none⟩ (.string N[k].dc)) ((C.setIfInBounds (k * 2) (.string N[k].name)).setIfInBounds (k * 2 + 1) (.string N[k].dc)) := by
  have hZ := lt_of_some h.blk
  have hsz := h.size
  refine ⟨set_two ((u1.block Z hZ (Ne.symm hUZ)).trans h.blk) _ _, by simpa using hsz, fun j hj hjk => ?_⟩
  by_cases hlt : j < k
  · obtain ⟨e1, e2⟩ := h.each j hj hlt
    refine ⟨?_, ?_⟩
    · rw [Array.getElem?_setIfInBounds_ne (by omega), Array.getElem?_setIfInBounds_ne (by omega)]
      exact e1
    · rw [Array.getElem?_setIfInBounds_ne (by omega), Array.getElem?_setIfInBounds_ne (by omega)]
      exact e2
  · obtain rfl : j = k := by omega
    refine ⟨?_, ?_⟩
    · rw [Array.getElem?_setIfInBounds_ne (by omega), Array.getElem?_setIfInBounds_self_of_lt (by omega)]
    · rw [Array.getElem?_setIfInBounds_self_of_lt (by simp; omega)]

/-- The services, the nodes as they lie behind a record that unpack made: no list of datacenters is nil. -/
def SvP (w : World) (y : Nat) (S : List Svc) : Prop := ∀ k (h : k < S.length), ∃ g cb, w.cell? ⟨y, k * 2, none⟩ = some (.string S[k].name) ∧ w.cell? ⟨y, k * 2 + 1, none⟩ = some (.slice (some g) S[k].dcs.length cb) ∧ SL w (some g) S[k].dcs
def NdP (w : World) (z : Nat) (N : List Nod) : Prop := ∀ k (h : k < N.length), w.cell? ⟨z, k * 2, none⟩ = some (.string N[k].name) ∧ w.cell? ⟨z, k * 2 + 1, none⟩ = some (.string N[k].dc)
theorem SvR.out {U Y : Nat} {S : List Svc} {w V : World} {C : Array Value} (h : SvR U Y S S.length w C) (hUY : U < Y) (hV : ∀ k, U < k → k < w.heap.size → V.heap[k]? = w.heap[k]?) : SvP V Y S := by
  intro k hk
  obtain ⟨e1, g, e2, -, hUg, e3⟩ := h.each k hk hk
  have hY := (hV Y hUY (lt_of_some h.blk)).trans h.blk
  exact ⟨⟨g, 0, none⟩, S[k].dcs.length, cell_of_block hY e1, cell_of_block hY e2, SL.of_block ((hV g hUg (lt_of_some e3)).trans e3)⟩
theorem NdR.out {Z : Nat} {N : List Nod} {w V : World} {C : Array Value} (h : NdR Z N N.length w C) (hV : V.heap[Z]? = w.heap[Z]?) : NdP V Z N := by
  intro k hk
  obtain ⟨e1, e2⟩ := h.each k hk hk
  have hZ := hV.trans h.blk
  exact ⟨cell_of_block hZ e1, cell_of_block hZ e2⟩

/-- What unpack's three lists hold, whatever is done to blocks below B. -/
def QQ (L : List ByteArray) (S : List Svc) (N : List Nod) (B x y z : Nat) (w : World) : Prop :=
  ∀ V, (∀ k, B ≤ k → k < w.heap.size → V.heap[k]? = w.heap[k]?) → SL V (some ⟨x, 0, none⟩) L ∧ SvP V y S ∧ NdP V z N
theorem QQ.turn {L : List ByteArray} {S : List Svc} {N : List Nod} {B x y z : Nat} {u v : World} (h : QQ L S N B x y z u) (huv : ∀ k, B ≤ k → v.heap[k]? = u.heap[k]?) : QQ L S N B x y z v := by
  intro V hV
  refine h V fun k hB hk => ?_
  have e := huv k hB
  rw [← e]
  refine hV k hB ?_
  rw [Array.getElem?_eq_getElem hk] at e
  exact lt_of_some e

theorem flat_cut {α : Type} (f : α → List UInt8) (S : List α) (k : Nat) (hk : k < S.length) (r : List UInt8) : ((S.drop k).map f).flatten ++ r = f S[k] ++ (((S.drop (k + 1)).map f).flatten ++ r) := by
  rw [List.drop_eq_getElem_cons hk, List.map_cons, List.flatten_cons, List.append_assoc]
theorem flat_le {α : Type} (f : α → List UInt8) (S : List α) (k : Nat) (r : List UInt8) (n : Nat) (h : ((S.map f).flatten ++ r).length ≤ n) : (((S.drop k).map f).flatten ++ r).length ≤ n := by
  have h1 : ((S.map f).flatten ++ r) = ((S.take k).map f).flatten ++ (((S.drop k).map f).flatten ++ r) := by
    rw [← List.append_assoc, ← List.flatten_append, ← List.map_append, List.take_append_drop]
  rw [h1, List.length_append] at h
  omega
theorem rdU_of (v : Nat) (r : List UInt8) (h : v < 2097152) : RdU (encU v ++ r) v r := .inr ⟨h, rfl⟩

set_option maxHeartbeats 6400000 in
set_option maxRecDepth 100000 in
theorem unpack25 (s : ByteArray) (L : List ByteArray) (S : List Svc) (N : List Nod) (hs : s.data.toList = encAll L S N)
    (hn : L.length ≤ 1048576) (hx : (L.map ByteArray.size).sum ≤ 1048576) (hsn : S.length ≤ 1048576) (hsx : (S.map Svc.wt).sum ≤ 1048576) (hnn : N.length ≤ 1048576) (hnx : (N.map Nod.wt).sum ≤ 1048576)
    (hall : ((L.map encStr).flatten ++ (encU S.length ++ ((S.map encSvc).flatten ++ (encU N.length ++ (N.map encNod).flatten)))).length ≤ 10000000) (w : World) :
    Calls Try.prog 25 #[.string s] w fun e w' => ∃ x y z, e = .returned (.tuple #[.slice (some ⟨x, 0, none⟩) L.length L.length, .slice (some ⟨y, 0, none⟩) S.length S.length, .slice (some ⟨z, 0, none⟩) N.length N.length]) ∧ Below w.heap.size w w' ∧ Hid (QQ L S N w.heap.size x y z w') := by
  obtain ⟨r3, hr3⟩ : ∃ r, r = (N.map encNod).flatten := ⟨_, rfl⟩
  obtain ⟨r2, hr2⟩ : ∃ r, r = encU N.length ++ r3 := ⟨_, rfl⟩
  obtain ⟨r1, hr1⟩ : ∃ r, r = encU S.length ++ ((S.map encSvc).flatten ++ r2) := ⟨_, rfl⟩
  unfold encAll at hs
  rw [← hr3, ← hr2, ← hr1] at hall hs
  have hall1 : r1.length ≤ 10000000 := by rw [List.length_append] at hall; omega
  have hall2 : ((S.map encSvc).flatten ++ r2).length ≤ 10000000 := by rw [hr1, List.length_append] at hall1; omega
  have hall3 : r3.length ≤ 10000000 := by
    rw [List.length_append, hr2, List.length_append] at hall2
    omega
  have hb := heap_new w (.cells #[.string s] 65 (0, 0))
  have c0 := strs26 w.heap.size s (w.alloc (.cells #[.string s] 65 (0, 0))) hb L r1 (by rw [hs]; exact rdL_of L r1 (by omega)) (fun x h => Nat.le_trans (le_sum_of _ _ (List.mem_map_of_mem h)) hx) hn hall
  have b0 : Below w.heap.size w (w.alloc (.cells #[.string s] 65 (0, 0))) := (Below.refl _ _).alloc (Nat.le_refl _) _
  have hU : w.heap.size < (w.alloc (.cells #[.string s] 65 (0, 0))).heap.size := by simp
  have A2 : Hid (((S.map encSvc).flatten ++ r2).length ≤ 10000000) := hall2
  have A3 : Hid (r3.length ≤ 10000000) := hall3
  have R3 : Hid (r3 = (N.map encNod).flatten) := hr3
  have R2 : Hid (r2 = encU N.length ++ r3) := hr2
  have R1 : Hid (r1 = encU S.length ++ ((S.map encSvc).flatten ++ r2)) := hr1
  clear hall hall1 hall2 hall3 hr1 hr2 hr3 hs
  go_enter Try.func25, Try.ntmps25
  go_wp2_with fail
  generalize w.alloc (.cells #[.string s] 65 (0, 0)) = W0 at *
  refine c0.mono ?_
  rintro e w1 ⟨G, t, rfl, ht, u1, hG, hGb⟩
  have b1 := b0.trans (u1.below (Nat.le_refl _) (by omega))
  have c1 := uint27 w.heap.size t w1 u1.blk S.length ((S.map encSvc).flatten ++ r2) (by rw [ht, R1.out]; exact rdU_of _ _ (by omega)) (by have := A2.out; omega)
  clear c0 hb ht
  go_wp2_with fail
  refine c1.mono ?_
  rintro e w2 ⟨rfl, t2, ht2, u2⟩
  have b2 := b1.trans (u2.below (Nat.le_refl _) b1.size)
  have hmk := make_two (P := Try.prog) 25 37 _ 40 Try.underlying25 info37 .u64 .u64 S.length (by omega) (by omega) w2
  have hs1 := u1.size
  have hs2 := u2.size
  have u3 := (Un.start u2.blk).alloc (.cells (madeCells #[.string ⟨#[]⟩, .slice none 0 0] (S.length * 2)) 37)
  have R0 : Hid (SvR w.heap.size w2.heap.size S 0 (w2.alloc (.cells (madeCells #[.string ⟨#[]⟩, .slice none 0 0] (S.length * 2)) 37)) (madeCells #[.string ⟨#[]⟩, .slice none 0 0] (S.length * 2))) := ⟨heap_new _ _, size_madeCells _ _, fun j _ h => absurd h (by omega)⟩
  have HT2 : Hid (t2.data.toList = (S.map encSvc).flatten ++ r2) := ht2
  have HGb : Hid (w2.heap[G]? = some (.cells (L.map Value.string).toArray 9 (0, 0))) := (u2.block G (lt_of_some hGb) (by omega)).trans hGb
  clear c1 ht2 hGb
  go_wp2
  generalize w2.alloc (.cells (madeCells #[.string ⟨#[]⟩, .slice none 0 0] (S.length * 2)) 37) = W3 at *
  clear hmk
  go_loopw [15] (fun i wr => ∃ (k : Nat) (t : ByteArray) (C : Array Value), k ≤ S.length ∧ i = .int .i64 k ∧ Hid (t.data.toList = ((S.drop k).map encSvc).flatten ++ r2) ∧ Un w.heap.size w2 wr t ∧ Hid (SvR w.heap.size w2.heap.size S k wr C)) (fun i _ => S.length - (intOf i).toNat)
  case atStart => exact ⟨0, t2, _, Nat.zero_le _, rfl, HT2, u3, R0⟩
  case round =>
    clear u3 HT2 R0
    obtain ⟨k, t, C, hk, rfl, HT, un, HR⟩ := hrel
    by_cases hlt : k < S.length
    · have hwt : S[k].wt ≤ 1048576 := Nat.le_trans (le_sum_of _ _ (List.mem_map_of_mem (List.getElem_mem hlt))) hsx
      unfold Svc.wt at hwt
      obtain ⟨rr, hrr⟩ : ∃ r, r = ((S.drop (k + 1)).map encSvc).flatten ++ r2 := ⟨_, rfl⟩
      have hcut := flat_cut encSvc S k hlt r2
      have hle := flat_le encSvc S k r2 _ A2.out
      rw [hcut, ← hrr] at hle
      rw [← hrr] at hcut
      unfold encSvc at hle
      simp only [List.length_append] at hle
      have hlt' : (k : Int) < S.length := by omega
      have c1 := str28 w.heap.size t S[k].name wr un.blk (encStrs S[k].dcs ++ rr) (by rw [HT.out, hcut]; unfold encSvc; rw [List.append_assoc]; exact rdS_of _ _ (by omega)) (by omega) (by rw [List.length_append]; omega)
      have HRR : Hid (rr = ((S.drop (k + 1)).map encSvc).flatten ++ r2) := hrr
      have HLE : Hid ((encStr S[k].name).length + (encStrs S[k].dcs).length + rr.length ≤ 10000000) := hle
      clear hrr hcut hle HT
      go_wp2_with fail
      refine c1.mono ?_
      rintro e w3 ⟨rfl, t3, ht3, un3⟩
      have c2 := strs26 w.heap.size t3 w3 un3.blk S[k].dcs rr (by rw [ht3]; exact rdL_of _ _ (by omega)) (fun x h => Nat.le_trans (le_sum_of _ _ (List.mem_map_of_mem h)) (by omega)) (by omega) (by have := HLE.out; unfold encStrs at this; simp only [List.length_append] at this ⊢; omega)
      clear c1 ht3 HLE
      go_wp2_with fail
      refine c2.mono ?_
      rintro e w4 ⟨g, t4, rfl, ht4, un4, hg, hgb⟩
      have un5 := un3.trans un4
      have hs3 := un3.size
      have hsr := un.size
      have hYlt := lt_of_some HR.out.blk
      have hblk := (un5.block _ hYlt (by omega)).trans HR.out.blk
      have hCs := HR.out.size
      obtain ⟨z0, hz0⟩ : ∃ v, C[k * 2]? = some v := ⟨_, Array.getElem?_eq_getElem (by omega)⟩
      obtain ⟨z1, hz1⟩ : ∃ v, C[k * 2 + 1]? = some v := ⟨_, Array.getElem?_eq_getElem (by omega)⟩
      have e0 := cell_of_block hblk hz0
      have e1 := cell_of_block hblk hz1
      have g0 := free_of_block (j := k * 2) hblk
      have g1 := free_of_block (j := k * 2 + 1) hblk
      have HR2 : Hid (SvR w.heap.size w2.heap.size S (k + 1) _ _) := HR.out.step hlt un5 (by omega) g (by omega) (by omega) hgb
      have un6 := ((un.trans un5).other (j := k * 2) (G := w2.heap.size) (Nat.le_refl _) (by omega) (.string S[k].name)).other (j := k * 2 + 1) (G := w2.heap.size) (Nat.le_refl _) (by omega) (.slice (some ⟨g, 0, none⟩) S[k].dcs.length S[k].dcs.length)
      have HT4 : Hid (t4.data.toList = ((S.drop (k + 1)).map encSvc).flatten ++ r2) := by rw [← HRR.out]; exact ht4
      clear c2 ht4 un3 un4 un5 hblk hz0 hz1 HR hgb
      go_wp2
      go_roundw
      case rel => exact ⟨k + 1, t4, _, by omega, by go_num, HT4, un6, HR2⟩
      case measure => simp [intOf]; omega
    · have hge : ¬ (k : Int) < S.length := by omega
      obtain rfl : k = S.length := by omega
      have ht0 : t.data.toList = r2 := by
        rw [HT.out, List.drop_length]
        rfl
      have c1 := uint27 w.heap.size t wr un.blk N.length r3 (by rw [ht0, R2.out]; exact rdU_of _ _ (by omega)) (by have := A3.out; omega)
      clear ht0 HT
      go_wp2_with fail
      refine c1.mono ?_
      rintro e w5 ⟨rfl, t5, ht5, u5⟩
      have hs5 := u5.size
      have hsr := un.size
      have hmk := make_two (P := Try.prog) 26 41 _ 32 Try.underlying26 info41 .u64 .u64 N.length (by omega) (by omega) w5
      have u6 := (Un.start u5.blk).alloc (.cells (madeCells #[.string ⟨#[]⟩, .string ⟨#[]⟩] (N.length * 2)) 41)
      have R0 : Hid (NdR w5.heap.size N 0 (w5.alloc (.cells (madeCells #[.string ⟨#[]⟩, .string ⟨#[]⟩] (N.length * 2)) 41)) (madeCells #[.string ⟨#[]⟩, .string ⟨#[]⟩] (N.length * 2))) := ⟨heap_new _ _, size_madeCells _ _, fun j _ h => absurd h (by omega)⟩
      have HT5 : Hid (t5.data.toList = (N.map encNod).flatten ++ []) := by show _ = _; rw [ht5, R3.out, List.append_nil]
      have A4 : Hid (((N.map encNod).flatten ++ []).length ≤ 10000000) := by show _ ≤ _; rw [List.append_nil, ← R3.out]; exact A3.out
      clear c1 ht5
      go_wp2
      generalize w5.alloc (.cells (madeCells #[.string ⟨#[]⟩, .string ⟨#[]⟩] (N.length * 2)) 41) = W6 at *
      clear hmk
      have HC : Hid (∃ C, SvR w.heap.size w2.heap.size S S.length wr C) := ⟨C, HR.out⟩
      clear HR
      generalize wr = wS at *
      go_loopw [29] (fun i wr' => ∃ (k : Nat) (t : ByteArray) (C : Array Value), k ≤ N.length ∧ i = .int .i64 k ∧ Hid (t.data.toList = ((N.drop k).map encNod).flatten ++ []) ∧ Un w.heap.size w5 wr' t ∧ Hid (NdR w5.heap.size N k wr' C)) (fun i _ => N.length - (intOf i).toNat)
      case atStart => exact ⟨0, t5, _, Nat.zero_le _, rfl, HT5, u6, R0⟩
      case round =>
        clear u6 HT5 R0
        obtain ⟨k, t, C, hk, rfl, HT, un7, HR⟩ := hrel
        by_cases hlt : k < N.length
        · have hwt : N[k].wt ≤ 1048576 := Nat.le_trans (le_sum_of _ _ (List.mem_map_of_mem (List.getElem_mem hlt))) hnx
          unfold Nod.wt at hwt
          obtain ⟨rr, hrr⟩ : ∃ r, r = ((N.drop (k + 1)).map encNod).flatten ++ [] := ⟨_, rfl⟩
          have hcut := flat_cut encNod N k hlt []
          have hle := flat_le encNod N k [] _ A4.out
          rw [hcut, ← hrr] at hle
          rw [← hrr] at hcut
          unfold encNod at hle
          simp only [List.length_append] at hle
          have hlt' : (k : Int) < N.length := by omega
          have c1 := str28 w.heap.size t N[k].name wr un7.blk (encStr N[k].dc ++ rr) (by rw [HT.out, hcut]; unfold encNod; rw [List.append_assoc]; exact rdS_of _ _ (by omega)) (by omega) (by rw [List.length_append]; omega)
          have HRR : Hid (rr = ((N.drop (k + 1)).map encNod).flatten ++ []) := hrr
          have HLE : Hid ((encStr N[k].name).length + (encStr N[k].dc).length + rr.length ≤ 10000000) := hle
          clear hrr hcut hle HT
          go_wp2_with fail
          refine c1.mono ?_
          rintro e w3 ⟨rfl, t3, ht3, un3⟩
          have c2 := str28 w.heap.size t3 N[k].dc w3 un3.blk rr (by rw [ht3]; exact rdS_of _ _ (by omega)) (by omega) (by have := HLE.out; omega)
          clear c1 ht3 HLE
          go_wp2_with fail
          refine c2.mono ?_
          rintro e w4 ⟨rfl, t4, ht4, un4⟩
          have un5 := un3.trans un4
          have hs3 := un3.size
          have hs7 := un7.size
          have hYlt := lt_of_some HR.out.blk
          have hblk := (un5.block _ hYlt (by omega)).trans HR.out.blk
          have hCs := HR.out.size
          obtain ⟨z0, hz0⟩ : ∃ v, C[k * 2]? = some v := ⟨_, Array.getElem?_eq_getElem (by omega)⟩
          obtain ⟨z1, hz1⟩ : ∃ v, C[k * 2 + 1]? = some v := ⟨_, Array.getElem?_eq_getElem (by omega)⟩
          have e0 := cell_of_block hblk hz0
          have e1 := cell_of_block hblk hz1
          have g0 := free_of_block (j := k * 2) hblk
          have g1 := free_of_block (j := k * 2 + 1) hblk
          have HR2 : Hid (NdR w5.heap.size N (k + 1) _ _) := HR.out.step hlt un5 (by omega)
          have un6 := ((un7.trans un5).other (j := k * 2) (G := w5.heap.size) (Nat.le_refl _) (by omega) (.string N[k].name)).other (j := k * 2 + 1) (G := w5.heap.size) (Nat.le_refl _) (by omega) (.string N[k].dc)
          have HT4 : Hid (t4.data.toList = ((N.drop (k + 1)).map encNod).flatten ++ []) := by rw [← HRR.out]; exact ht4
          clear c2 ht4 un3 un4 un5 hblk hz0 hz1 HR
          go_wp2
          go_roundw
          case rel => exact ⟨k + 1, t4, _, by omega, by go_num, HT4, un6, HR2⟩
          case measure => simp [intOf]; omega
        · have hge2 : ¬ (k : Int) < N.length := by omega
          obtain rfl : k = N.length := by omega
          have b3 := b2.trans (un.below (Nat.le_refl _) b2.size)
          have b4 := b3.trans (u5.below (Nat.le_refl _) b3.size)
          have b5 := b4.trans (un7.below (Nat.le_refl _) b4.size)
          have uE := u5.trans un7
          have HQ : Hid (QQ L S N w.heap.size G w2.heap.size w5.heap.size wr) := by
            intro V hV
            obtain ⟨C0, hC0⟩ := HC.out
            have hsE := uE.size
            have hGb := HGb.out
            have hG2 := lt_of_some hGb
            have hG3 := (un.block G hG2 (by omega)).trans hGb
            have hG4 := (uE.block G (by omega) (by omega)).trans hG3
            refine ⟨SL.of_block ((hV G (by omega) (by omega)).trans hG4), hC0.out (by omega) ?_, HR.out.out (hV _ (by omega) (lt_of_some HR.out.blk))⟩
            intro j hj1 hj2
            exact (hV j (by omega) (by omega)).trans (uE.block j hj2 (by omega))
          clear HR HT un u5 un7 uE
          go_wp2
          go_ret3
          exact ⟨_, _, _, rfl, b5, HQ⟩
end Go.Proofs.Qxb6609326a
