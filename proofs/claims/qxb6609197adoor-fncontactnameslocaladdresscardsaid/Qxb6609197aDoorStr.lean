/-
  (net/netip.AddrPort).String, over a contract of strconv.AppendUint.
-/
import Derived.Test.Qxb6609197aDoorTo4
import Derived.LaidEql
import Derived.Lib.LaidTab
import Derived.WalkSmall
namespace Go.Proofs.Qxb6609197aDoor
open Go.RowKit

/-- What is asked of strconv.AppendUint(dst, u, 10) at the world w and at every later one. -/
def AppUint (w : World) : Prop := ∀ (B u : Nat) (sv : Value) (l : List UInt8) (W : World), Below w.heap.size w W → u < 65536 → Buf 5 B W sv l → B ≤ W.heap.size → l.length + 20 ≤ 140737488355328 →
    Calls Tryd.prog 24 #[sv, .int .u64 u, .int .i64 10] W fun e w' => ∃ v', e = .returned v' ∧ Buf 5 B w' v' (l ++ Lib.decDigits u) ∧ Fr 5 B W w'
theorem AppUint.later {w w1 : World} (h : AppUint w) (hb : Below w.heap.size w w1) : AppUint w1 :=
  fun B u sv l W hW => h B u sv l W (hb.trans (hW.mono hb.size))

theorem mk21 (w : World) : (Instr.makeSlice 35 (.int .i64 0) (.int .i64 21)).run Tryd.prog w = .ok (.slice (some ⟨w.heap.size, 0, none⟩) 0 21) (w.alloc (.cells (Array.replicate 21 (.int .u8 0)) 5)) := by kernel_rfl

theorem equalIn_ptr_same {P : Program} {tp te : TypeId} {j : TypeInfo} (a : Addr) (hp : P.underlying tp = some (.pointer te)) (hte : P.info? te = some j) (d : Nat) (w : World) :
    (Op.equalIn (d + 1) tp (.pointer (some a)) (.pointer (some a))).run P w = .ok true w := by
  simp [Op.equalIn, run_underlying hp, sizeOf, typeInfo, hte, run_sameAddr_same]
theorem equalIn_ptr_nil {P : Program} {tp te : TypeId} (a : Addr) (hp : P.underlying tp = some (.pointer te)) (d : Nat) (w : World) :
    (Op.equalIn (d + 1) tp (.pointer (some a)) (.pointer none)).run P w = .ok false w := by
  simp [Op.equalIn, run_underlying hp]
theorem info114 : (Tryd.prog.info? 114).isSome = true := by kernel_rfl

theorem cell_lt {w : World} {b o : Nat} {v : Value} (h : w.cell? ⟨b, o, none⟩ = some v) : b < w.heap.size := by
  rcases Nat.lt_or_ge b w.heap.size with h' | h'
  · exact h'
  · simp [World.cell?, Array.getElem?_eq_none h'] at h
theorem cell_alloc {w : World} {b o : Nat} {v : Value} (h : w.cell? ⟨b, o, none⟩ = some v) (x : Obj) : (w.alloc x).cell? ⟨b, o, none⟩ = some v := by
  rw [World.cell?_alloc_old w x ⟨b, o, none⟩ (Nat.ne_of_lt (cell_lt h))]
  exact h

theorem dotted_le (lo : Int) : 7 ≤ (dotted lo).length ∧ (dotted lo).length ≤ 15 := by
  have n0 := decDigits_byte_le (lo / 16777216 % 256) (by omega) (by omega)
  have n1 := decDigits_byte_le (lo / 65536 % 256) (by omega) (by omega)
  have n2 := decDigits_byte_le (lo / 256 % 256) (by omega) (by omega)
  have n3 := decDigits_byte_le (lo % 256) (by omega) (by omega)
  unfold dotted
  simp only [List.length_append, List.length_cons, List.length_nil]
  omega

set_option maxHeartbeats 1600000 in
set_option maxRecDepth 100000 in
theorem str17 (h lo port : Int) (p : Addr) (w : World) (hp0 : 0 ≤ port) (hp1 : port < 65536) (hz4 : w.cell? ⟨0, 0, none⟩ = some (.pointer (some p))) (hz0 : w.cell? ⟨1, 0, none⟩ = some (.pointer none)) (hau : AppUint w) :
    Calls Tryd.prog 17 #[.agg #[.int .u64 h, .int .u64 lo, .pointer (some p), .int .u16 port]] w fun e w' =>
      e = .returned (.string ⟨(dotted lo ++ [58] ++ Lib.decDigits port.toNat).toArray⟩) ∧ Below w.heap.size w w' := by
  have o0 := cell_alloc hz4 (.cells #[.int .u64 h, .int .u64 lo, .pointer (some p), .int .u16 port] 54)
  have o1 := cell_alloc hz0 (.cells #[.int .u64 h, .int .u64 lo, .pointer (some p), .int .u16 port] 54)
  obtain ⟨j, hj⟩ := Option.isSome_iff_exists.1 info114
  have e1 : ∀ W, (Op.equalIn 9999 48 (.pointer (some p)) (.pointer none)).run Tryd.prog W = .ok false W := equalIn_ptr_nil p Tryd.underlying48 9998
  have e2 : ∀ W, (Op.equalIn 9999 48 (.pointer (some p)) (.pointer (some p))).run Tryd.prog W = .ok true W := equalIn_ptr_same p Tryd.underlying48 hj 9998
  have m1 := mk21
  have dl := dotted_le lo
  obtain ⟨u, rfl⟩ := Int.eq_ofNat_of_zero_le hp0
  have hu : u < 65536 := by omega
  clear hj hp0 hp1
  go_enter Tryd.func17, Tryd.ntmps17
  go_wp2_with fail
  refine (appTo4 w.heap.size h lo (some p) _ [] _ (Buf.made _ 21 _ (by simp) (by simp) (by unfold maxLen; decide) (by simp)) (by simp; omega) (by simp)).mono ?_
  rintro e w1 ⟨v1, rfl, hb1, hf1⟩
  have f1 : Fr 5 w.heap.size w w1 := (((Fr.refl 5 _ w).alloc (Nat.le_refl _) _).alloc (by simp) _).trans hf1
  have x1 := hf1.block (heap_old (heap_new w _)) (by decide)
  clear hf1 o0 o1 e1 e2 m1 hz4 hz0
  rw [List.nil_append] at hb1
  go_wp2_with (at_builtin; refine wpList_app1 rfl (.tmp 40) (.tmp 41) 35 5 rfl w.heap.size Tryd.underlying35 info5 v1 _ rfl hb1 58 58 rfl rfl (by omega) f1.size ?_; intro v2 w2 hb2 hf2; have x2 := hf2.block x1 (by decide); have c23 := cell_of_block x2 (j := 3) rfl)
  refine (hau w.heap.size u v2 _ _ (f1.trans hf2).1 hu hb2 (f1.trans hf2).size (by simp; omega)).mono ?_
  rintro e w3 ⟨v3, rfl, hb3, hf3⟩
  have f3 := (f1.trans hf2).trans hf3
  have hs := hb3.run_string 35 9 Tryd.underlying35 Tryd.underlying5 Tryd.underlying9
  clear hf3 hf2 f1 x2 x1 c23 hb2 hb1
  go_wp2
  go_ret
  exact ⟨by simp, f3.1⟩
end Go.Proofs.Qxb6609197aDoor
