/-
  What the rows' condition on the listed variables gives the walks; how the arguments are opened; the witness's world.
-/
import Derived.Test.Qxb6609197aDoorUint
import Derived.ProofKit
import Derived.LaidMore
import Derived.OpenShut
import Derived.Stop.Joined
import Derived.Stop.LaidErr
import Derived.Below
import Derived.Carry
namespace Go.Proofs.Qxb6609197aDoor
open Go.ChangeShapes Go.WideShapes Go.ChangeAt Go.RowKit

theorem own : ownKnob Tryd.prog.godebug = none := by kernel_rfl
theorem laidOut : laidOutB Tryd.prog = true := by kernel_rfl
theorem cells5 : Tryd.prog.cellsOf 5 = 1 := by kernel_rfl
theorem cells22 : Tryd.prog.cellsOf 22 = 4 := by kernel_rfl
theorem cells26 : Tryd.prog.cellsOf 26 = 1 := by kernel_rfl
theorem cells48 : Tryd.prog.cellsOf 48 = 1 := by kernel_rfl

def z4Name : String := Rows.fnContactNamesLocalAddressRow.named.getD 0 ""
def z0Name : String := Rows.fnContactNamesLocalAddressRow.named.getD 1 ""
theorem gZ4 : Tryd.prog.globalNamed z4Name = some 0 := by kernel_rfl
theorem gZ0 : Tryd.prog.globalNamed z0Name = some 1 := by kernel_rfl
theorem tZ4 : (Tryd.prog.globals[0]?).map (·.type) = some 50 := by kernel_rfl
theorem tZ0 : (Tryd.prog.globals[1]?).map (·.type) = some 50 := by kernel_rfl
theorem tPow : ∃ t, (Tryd.prog.globals[8]?).map (·.type) = some t ∧ Tryd.prog.underlying t = some (.array 20 26) ∧ Tryd.prog.cellsOf t = 20 := by
  refine ⟨((Tryd.prog.globals[8]?).map (·.type)).getD 0, by kernel_rfl, by kernel_rfl, by kernel_rfl⟩
theorem powData : (Lib.tabData .u64 Lib.pow10Tab : DataW Unit) = Rows.laid_internal_strconv_uint64pow10 := by rfl

/-- A listed variable that is a struct of one pointer: its cell. -/
theorem ptr_var {W : World} {name : String} {g : Nat} {d : DataW Unit} {rest : List (String × DataW Unit)} (hg : Tryd.prog.globalNamed name = some g) (ht : (Tryd.prog.globals[g]?).map (·.type) = some 50)
    (h : laidMet Tryd.prog ((name, .agg [d]) :: rest) W) : (d = .nil ∧ W.cell? ⟨g, 0, none⟩ = some (.pointer none)) ∨ ∃ a, d ≠ .nil ∧ W.cell? ⟨g, 0, none⟩ = some (.pointer (some a)) := by
  obtain ⟨ps, ⟨g', t', cs, fuel, p, q, hg', ht', hvar, hd, _, _⟩, _⟩ := h
  obtain rfl := Option.some.inj (hg.symm.trans hg')
  obtain rfl := Option.some.inj (ht.symm.trans ht')
  obtain ⟨y0, n, hx, hl, h0⟩ := trod_struct1 Tryd.underlying50 hd
  simp only [Prod.mk.injEq, DataW.agg.injEq, List.cons.injEq, and_true] at hx
  have hc := World.var?_cell hg hvar 0
  have hl1 : cs.toList.length = 1 := hl.trans (by kernel_rfl)
  obtain ⟨c, hcs⟩ : ∃ c, cs.toList = [c] := by
    match cs.toList, hl1 with
    | [c], _ => exact ⟨c, rfl⟩
  rw [Array.eq_one_of_toList hcs] at hc
  simp only [hcs, List.drop_zero, cells48, List.take_succ_cons, List.take_zero] at h0
  rcases DataW.trod_pointer Tryd.underlying48 h0 with ⟨h1, h2⟩ | ⟨a, cs', y, m, _, h1, h2, _⟩
  · simp only [List.cons.injEq, and_true] at h1
    subst h1
    refine .inl ⟨?_, by simpa using hc⟩
    rw [hx.1, h2]
  · simp only [List.cons.injEq, and_true] at h1
    subst h1
    refine .inr ⟨a, ?_, by simpa using hc⟩
    rw [hx.1, h2]
    intro e
    cases e

set_option maxRecDepth 100000 in
theorem of_laid {W : World} (h : laidMetH Tryd.prog Rows.fnContactNamesLocalAddressRow.laid W) :
    ∃ p, W.cell? ⟨0, 0, none⟩ = some (.pointer (some p)) ∧ W.cell? ⟨1, 0, none⟩ = some (.pointer none) ∧ AppUint W := by
  rw [MakeChecks.laidMetH_plain _ _ _ (by kernel_rfl)] at h
  have h2 := laidMet.tail (laidMet.tail (show laidMet Tryd.prog (_ :: _ :: _) W from h))
  obtain ⟨t, ht1, ht2, ht3⟩ := tPow
  have htab : Lib.TabIs Tryd.prog W powName .u64 Lib.pow10Tab := by
    have h2' := h2
    rw [← powData] at h2'
    exact Lib.tabIs_of_head gPow ht1 ht2 Tryd.underlying26 cells26 ht3 h2'
  have h3 := laidMet.tail (show laidMet Tryd.prog (_ :: _) W from h2)
  have h5 := laidMet.tail (laidMet.tail (show laidMet Tryd.prog (_ :: _ :: _) W from h3))
  have k4 := ptr_var gZ4 tZ4 (show laidMet Tryd.prog ((z4Name, .agg [_]) :: _) W from h3)
  have k0 := ptr_var gZ0 tZ0 (show laidMet Tryd.prog ((z0Name, .agg [_]) :: _) W from h5)
  rcases k4 with ⟨e, _⟩ | ⟨p, _, c4⟩
  · cases e
  rcases k0 with ⟨_, c0⟩ | ⟨_, e, _⟩
  · refine ⟨p, c4, c0, appUint_all W ?_ htab⟩
    have := World.var?_cell gPow htab 0
    exact cell_lt (v := .int .u64 1) (by simpa [Lib.pow10Tab] using this)
  · exact absurd rfl e

/-- A start for the witness: the settled world, the listed variables laid. -/
def setRow (c : Array Value) : Obj → Obj
  | .cells _ t fr => .cells c t fr
  | o => o
def litCells : DataW Unit → Array Value
  | .agg l => (l.map fun | .lit (.int k n) => Value.int k n | _ => .bool false).toArray
  | _ => #[]
def laidAt (P : Program) (os : Os) : World :=
  let w := World.holding P os ⟨#[.cells #[.bool false, .string ⟨#[]⟩] 114, .cells #[.bool true, .string ⟨#[]⟩] 114], #[], []⟩
  { w with heap := ((((w.heap.modify 0 (setRow #[.pointer (some ⟨20, 0, none⟩)])).modify 2 (setRow #[.pointer (some ⟨21, 0, none⟩)])).modify 8 (setRow (litCells Rows.laid_internal_strconv_uint64pow10))).modify 12 (setRow (litCells Rows.laid_math_bits_deBruijn32tab))).modify 13 (setRow (litCells Rows.laid_math_bits_deBruijn64tab)) }
theorem laid_met (os : Os) (args : Array Value) : laidMetH Tryd.prog Rows.fnContactNamesLocalAddressRow.laid ((laidAt Tryd.prog os).forCall (fun _ _ => 0) ⟨#[], args, []⟩).memory :=
  laidMetH_of_parts3 (fuel := 8) (laidMet_of_run' 8 (by kernel_rfl) (by kernel_rfl)) (by kernel_rfl) (by kernel_rfl)
theorem laid_shaped (os : Os) (args : Array Value) : ((laidAt Tryd.prog os).forCall (fun _ _ => 0) ⟨#[], args, []⟩).Shaped Tryd.checked.prog :=
  World.shaped_of_RefB (by kernel_rfl) (by kernel_rfl)

theorem okWide_arr {P : Program} {w : World} {r : Reach} {base t n e : Nat} {v : Value} (ht : P.underlying t = some (.array n e)) (h : Value.okWide P w r base t v) : ∃ cs, v = .agg cs ∧ cs.size = P.cellsOf t := by
  simp only [Value.okWide, ht] at h
  obtain ⟨cs, h1, h2, _⟩ := h
  exact ⟨cs, h1, h2⟩

set_option maxRecDepth 100000 in
/-- A [4]byte that came in. -/
theorem open_arr {H : Type} {enc : TypeId × Value → H} {w : World} {base b0 : Nat} {spare : Nat → Bool} {held : Bool} {r : Reach} {v : Value} {d : DataW H} {p : List MemPlace}
    (hv : Value.okWide Tryd.prog w r b0 22 v) (h : DataW.Trod enc Tryd.prog w base spare held 22 v d p) :
    ∃ a b c e : Int, v = .agg #[.int .u8 a, .int .u8 b, .int .u8 c, .int .u8 e] ∧ (0 ≤ a ∧ a < 256) ∧ (0 ≤ b ∧ b < 256) ∧ (0 ≤ c ∧ c < 256) ∧ (0 ≤ e ∧ e < 256) := by
  obtain ⟨cs, rfl, hsz⟩ := okWide_arr Tryd.underlying22 hv
  obtain ⟨fuel, hf⟩ := h
  obtain ⟨xs, m, _, _, hl, hn, hel⟩ := DataW.trod_array Tryd.underlying22 hf
  rw [cells22] at hsz
  have one : ∀ i, i < 4 → ∃ z : Int, cs[i]? = some (.int .u8 z) ∧ (0 ≤ z ∧ z < 256) := by
    intro i hi
    have hx := hel i hi
    rw [cells5, List.getElem?_eq_getElem (by omega)] at hx
    obtain ⟨z, hc, _, hwf⟩ := DataW.trod_int Tryd.underlying5 hx
    refine ⟨z, ?_, ?_⟩
    · have := congrArg (·[0]?) hc
      simpa [Value.cells, List.getElem?_take, List.getElem?_drop] using this
    · have := bounds_u8 hwf
      omega
  obtain ⟨l⟩ := cs
  obtain ⟨a, ha, ba⟩ := one 0 (by omega)
  obtain ⟨b, hb, bb⟩ := one 1 (by omega)
  obtain ⟨c, hc, bc⟩ := one 2 (by omega)
  obtain ⟨e, he, be⟩ := one 3 (by omega)
  refine ⟨a, b, c, e, ?_, ba, bb, bc, be⟩
  match l, hsz with
  | [x, y, z, u], _ =>
    simp at ha hb hc he
    subst ha hb hc he
    rfl
end Go.Proofs.Qxb6609197aDoor
