/-
  zzHostPort: the dotted address and the port.
-/
import Derived.Test.Qxb6609197aDoorUitoa
import Derived.Deep.RegionHeld3
namespace Go.Proofs.Qxb6609197aDoor
open Go.RowKit

/-- The numeral as a string. -/
def uS (n : Int) : ByteArray := ⟨(Lib.decDigits n.toNat).toArray⟩
theorem uS_size (n : Int) (h0 : 0 ≤ n) (h1 : n < 65536) : (uS n).size ≤ 5 := by
  have := decDigits_u16_le n.toNat (by omega)
  simpa [uS, ByteArray.size] using this.2
theorem cat9 (s t : ByteArray) (h : s.size + t.size ≤ 1000) (W : World) : (Op.stringOp .add s t).run Tryd.prog W = .ok (.string (s ++ t)) W :=
  run_string_add_sum W s t (by omega)

theorem cat_data (a b c d port : Int) (ha : 0 ≤ a ∧ a < 256) (hb : 0 ≤ b ∧ b < 256) (hc : 0 ≤ c ∧ c < 256) (hd : 0 ≤ d ∧ d < 256) :
    (uS a ++ ⟨#[46]⟩ ++ uS b ++ ⟨#[46]⟩ ++ uS c ++ ⟨#[46]⟩ ++ uS d ++ ⟨#[58]⟩ ++ uS port).data.toList = dotted (lowOf a b c d) ++ [58] ++ Lib.decDigits port.toNat := by
  rw [dotted_low a b c d ha hb hc hd]
  simp [uS]

/-- zzUitoa at whatever Int. -/
theorem uitoaI (n : Int) (h0 : 0 ≤ n) (h1 : n < 65536) (w : World) :
    Calls Tryd.prog 15 #[.int .u64 n] w fun e w' => e = .returned (.string (uS n)) ∧ Below w.heap.size w w' := by
  obtain ⟨m, rfl⟩ := Int.eq_ofNat_of_zero_le h0
  exact (uitoa15 m (by omega) w).mono fun _ _ ⟨he, hf⟩ => ⟨he, hf.1⟩

/-- What is known of the world in the midst of zzHostPort's one statement. -/
def Mid (w : World) (a b c d : Int) (w' : World) : Prop :=
  Below w.heap.size w w' ∧ w.heap.size < w'.heap.size ∧ w'.heap[w.heap.size]? = some (.cells #[.int .u8 a, .int .u8 b, .int .u8 c, .int .u8 d] 22 (0, 0))
theorem Mid.start (w : World) (a b c d : Int) : Mid w a b c d (w.alloc (.cells #[.int .u8 a, .int .u8 b, .int .u8 c, .int .u8 d] 22)) :=
  ⟨(Below.refl _ _).alloc (Nat.le_refl _) _, by simp, heap_new w _⟩
theorem Mid.drew {w : World} {a b c d : Int} {w' : World} (h : Mid w a b c d w') : Mid w a b c d w'.drew := ⟨h.1.drew, h.2.1, h.2.2⟩
theorem Mid.next {w : World} {a b c d : Int} {w' w'' : World} (h : Mid w a b c d w') (hb : Below w'.heap.size w' w'') : Mid w a b c d w'' :=
  ⟨h.1.trans (hb.mono (by have := h.2.1; omega)), Nat.lt_of_lt_of_le h.2.1 hb.size, (hb.block _ h.2.1).trans h.2.2⟩
theorem Mid.cells {w : World} {a b c d : Int} {w' : World} (h : Mid w a b c d w') :
    w'.cell? ⟨w.heap.size, 0, none⟩ = some (.int .u8 a) ∧ w'.cell? ⟨w.heap.size, 1, none⟩ = some (.int .u8 b) ∧ w'.cell? ⟨w.heap.size, 2, none⟩ = some (.int .u8 c) ∧ w'.cell? ⟨w.heap.size, 3, none⟩ = some (.int .u8 d) :=
  ⟨cell_of_block h.2.2 rfl, cell_of_block h.2.2 rfl, cell_of_block h.2.2 rfl, cell_of_block h.2.2 rfl⟩

theorem Mid.held {w : World} {a b c d : Int} {W w' : World} (h : W.cell? ⟨w.heap.size, 0, none⟩ = some (.int .u8 a) ∧ W.cell? ⟨w.heap.size, 1, none⟩ = some (.int .u8 b) ∧ W.cell? ⟨w.heap.size, 2, none⟩ = some (.int .u8 c) ∧ W.cell? ⟨w.heap.size, 3, none⟩ = some (.int .u8 d) ∧ Mid w a b c d W) (hb : Below W.heap.size W w') :
    w'.cell? ⟨w.heap.size, 0, none⟩ = some (.int .u8 a) ∧ w'.cell? ⟨w.heap.size, 1, none⟩ = some (.int .u8 b) ∧ w'.cell? ⟨w.heap.size, 2, none⟩ = some (.int .u8 c) ∧ w'.cell? ⟨w.heap.size, 3, none⟩ = some (.int .u8 d) ∧ Mid w a b c d w' := by
  have hM := h.2.2.2.2.next hb
  exact ⟨hM.cells.1, hM.cells.2.1, hM.cells.2.2.1, hM.cells.2.2.2, hM⟩

set_option maxHeartbeats 4000000 in
set_option maxRecDepth 100000 in
theorem host7 (a b c d port : Int) (w : World) (ha : 0 ≤ a ∧ a < 256) (hb : 0 ≤ b ∧ b < 256) (hc : 0 ≤ c ∧ c < 256) (hd : 0 ≤ d ∧ d < 256) (hp0 : 0 ≤ port) (hp1 : port < 65536) :
    Calls Tryd.prog 7 #[.agg #[.int .u8 a, .int .u8 b, .int .u8 c, .int .u8 d], .int .u16 port] w fun e w' =>
      (∃ s : ByteArray, e = .returned (.string s) ∧ s.data.toList = dotted (lowOf a b c d) ++ [58] ++ Lib.decDigits port.toNat) ∧ Below w.heap.size w w' := by
  have q0 := decDigits_byte_le a ha.1 ha.2
  have q1 := decDigits_byte_le b hb.1 hb.2
  have q2 := decDigits_byte_le c hc.1 hc.2
  have q3 := decDigits_byte_le d hd.1 hd.2
  have q4 := decDigits_u16_le port.toNat (by omega)
  have z0 := uS_size a ha.1 (by omega)
  have z1 := uS_size b hb.1 (by omega)
  have z2 := uS_size c hc.1 (by omega)
  have z3 := uS_size d hd.1 (by omega)
  have z4 := uS_size port hp0 hp1
  have o1 : (⟨#[46]⟩ : ByteArray).size = 1 := rfl
  have o2 : (⟨#[58]⟩ : ByteArray).size = 1 := rfl
  have c1 := cat9 (uS a) ⟨#[46]⟩ (by omega)
  have c2 := cat9 (uS a ++ ⟨#[46]⟩) (uS b) (by rw [ByteArray.size_append]; omega)
  have c3 := cat9 (uS a ++ ⟨#[46]⟩ ++ uS b) ⟨#[46]⟩ (by simp only [ByteArray.size_append]; omega)
  have c4 := cat9 (uS a ++ ⟨#[46]⟩ ++ uS b ++ ⟨#[46]⟩) (uS c) (by simp only [ByteArray.size_append]; omega)
  have c5 := cat9 (uS a ++ ⟨#[46]⟩ ++ uS b ++ ⟨#[46]⟩ ++ uS c) ⟨#[46]⟩ (by simp only [ByteArray.size_append]; omega)
  have c6 := cat9 (uS a ++ ⟨#[46]⟩ ++ uS b ++ ⟨#[46]⟩ ++ uS c ++ ⟨#[46]⟩) (uS d) (by simp only [ByteArray.size_append]; omega)
  have c7 := cat9 (uS a ++ ⟨#[46]⟩ ++ uS b ++ ⟨#[46]⟩ ++ uS c ++ ⟨#[46]⟩ ++ uS d) ⟨#[58]⟩ (by simp only [ByteArray.size_append]; omega)
  have c8 := cat9 (uS a ++ ⟨#[46]⟩ ++ uS b ++ ⟨#[46]⟩ ++ uS c ++ ⟨#[46]⟩ ++ uS d ++ ⟨#[58]⟩) (uS port) (by simp only [ByteArray.size_append]; omega)
  clear z0 z1 z2 z3 z4 o1 o2 q0 q1 q2 q3 q4
  have E : Hid ((uS a ++ ⟨#[46]⟩ ++ uS b ++ ⟨#[46]⟩ ++ uS c ++ ⟨#[46]⟩ ++ uS d ++ ⟨#[58]⟩ ++ uS port).data.toList = dotted (lowOf a b c d) ++ [58] ++ Lib.decDigits port.toNat) := cat_data a b c d port ha hb hc hd
  have wa : IntKind.u64.wrap a = a := by rw [IntKind.wrap_u64]; omega
  have wb : IntKind.u64.wrap b = b := by rw [IntKind.wrap_u64]; omega
  have wc : IntKind.u64.wrap c = c := by rw [IntKind.wrap_u64]; omega
  have wd : IntKind.u64.wrap d = d := by rw [IntKind.wrap_u64]; omega
  have wp : IntKind.u64.wrap port = port := by rw [IntKind.wrap_u64]; omega
  have hM0 := Mid.start w a b c d
  go_enter Tryd.func7, Tryd.ntmps7
  go_wp2
  generalize w.alloc (.cells #[.int .u8 a, .int .u8 b, .int .u8 c, .int .u8 d] 22) = W0 at *
  have hS0 : W0.drew.cell? ⟨w.heap.size, 0, none⟩ = some (.int .u8 a) ∧ W0.drew.cell? ⟨w.heap.size, 1, none⟩ = some (.int .u8 b) ∧ W0.drew.cell? ⟨w.heap.size, 2, none⟩ = some (.int .u8 c) ∧ W0.drew.cell? ⟨w.heap.size, 3, none⟩ = some (.int .u8 d) ∧ Mid w a b c d W0.drew :=
    ⟨hM0.drew.cells.1, hM0.drew.cells.2.1, hM0.drew.cells.2.2.1, hM0.drew.cells.2.2.2, hM0.drew⟩
  clear hM0
  go_region_held3 (fun w' => w'.cell? ⟨w.heap.size, 0, none⟩ = some (.int .u8 a) ∧ w'.cell? ⟨w.heap.size, 1, none⟩ = some (.int .u8 b) ∧ w'.cell? ⟨w.heap.size, 2, none⟩ = some (.int .u8 c) ∧ w'.cell? ⟨w.heap.size, 3, none⟩ = some (.int .u8 d) ∧ Mid w a b c d w')
    (first | exact hS0 | (refine Mid.held ?_ hbel; assumption))
    ((go_at_call 15; refine (uitoaI _ (by omega) (by omega) _).mono ?_; rintro e w1 ⟨rfl, hbel⟩))
  have hF : w1.cell? ⟨w.heap.size, 0, none⟩ = some (.int .u8 a) ∧ w1.cell? ⟨w.heap.size, 1, none⟩ = some (.int .u8 b) ∧ w1.cell? ⟨w.heap.size, 2, none⟩ = some (.int .u8 c) ∧ w1.cell? ⟨w.heap.size, 3, none⟩ = some (.int .u8 d) ∧ Mid w a b c d w1 := by assumption
  have hB := hF.2.2.2.2.1
  go_wp2
  go_ret
  exact ⟨⟨_, rfl, E.out⟩, hB⟩
end Go.Proofs.Qxb6609197aDoor
