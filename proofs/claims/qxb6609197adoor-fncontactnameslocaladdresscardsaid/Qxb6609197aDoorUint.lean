/-
  internal/strconv.AppendUint at this dump: the kit's tool wrote the table of numbers and the laying; the contract of strconv.AppendUint(dst, u, 10) out of the shelf's.
-/
import Derived.Shelf.LaysM
import Derived.Shelf.Strconv.AppendInt10
import Derived.Test.Qxb6609197aDoorRows
import Derived.Test.Qxb6609197aDoorStr
namespace Go.Proofs
open Go.Shelf
def Tryd.laysM288_ren : Go.Shelf.Ren := ⟨fun | 288 => 38 | 283 => 49 | 284 => 50 | 285 => 51 | 286 => 52 | 129 => 65 | 317 => 64 | 318 => 66 | 319 => 67 | 320 => 68 | 337 => 78 | 338 => 79 | n => n, fun | 37 => 35 | 53 => 26 | 3 => 3 | 4 => 4 | 9 => 9 | 171 => 120 | 0 => 0 | 173 => 123 | 212 => 141 | 51 => 66 | 5 => 5 | 20 => 20 | 213 => 142 | 46 => 88 | 232 => 169 | 233 => 170 | n => n, fun | 17 => 8 | 18 => 12 | 19 => 13 | n => n⟩
theorem Tryd.laysM288 : Go.Proofs.LaysM.n288 Tryd.prog Tryd.laysM288_ren := {
  mixed := by kernel_rfl
  f129 := Tryd.func65.trans (congrArg some (by kernel_rfl))
  f283 := Tryd.func49.trans (congrArg some (by kernel_rfl))
  f284 := Tryd.func50.trans (congrArg some (by kernel_rfl))
  f285 := Tryd.func51.trans (congrArg some (by kernel_rfl))
  f286 := Tryd.func52.trans (congrArg some (by kernel_rfl))
  f288 := Tryd.func38.trans (congrArg some (by kernel_rfl))
  f317 := Tryd.func64.trans (congrArg some (by kernel_rfl))
  f318 := Tryd.func66.trans (congrArg some (by kernel_rfl))
  f319 := Tryd.func67.trans (congrArg some (by kernel_rfl))
  f320 := Tryd.func68.trans (congrArg some (by kernel_rfl))
  f337 := Tryd.func78.trans (congrArg some (by kernel_rfl))
  f338 := Tryd.func79.trans (congrArg some (by kernel_rfl))
  t0 := Tryd.underlying0
  a0 := Tryd.isAgg0
  z0 := Tryd.sizeOf0
  v0 := Tryd.zeroValue0
  t3 := Tryd.underlying3
  a3 := Tryd.isAgg3
  z3 := Tryd.sizeOf3
  v3 := Tryd.zeroValue3
  t4 := Tryd.underlying4
  a4 := Tryd.isAgg4
  z4 := Tryd.sizeOf4
  v4 := Tryd.zeroValue4
  t5 := Tryd.underlying5
  a5 := Tryd.isAgg5
  z5 := Tryd.sizeOf5
  v5 := Tryd.zeroValue5
  t9 := Tryd.underlying9
  a9 := Tryd.isAgg9
  z9 := Tryd.sizeOf9
  v9 := Tryd.zeroValue9
  t20 := Tryd.underlying20
  a20 := Tryd.isAgg20
  z20 := Tryd.sizeOf20
  v20 := Tryd.zeroValue20
  t37 := Tryd.underlying35
  a37 := Tryd.isAgg35
  z37 := Tryd.sizeOf35
  v37 := Tryd.zeroValue35
  t46 := Tryd.underlying88
  a46 := Tryd.isAgg88
  z46 := Tryd.sizeOf88
  v46 := Tryd.zeroValue88
  t51 := Tryd.underlying66
  a51 := Tryd.isAgg66
  z51 := Tryd.sizeOf66
  v51 := Tryd.zeroValue66
  t53 := Tryd.underlying26
  a53 := Tryd.isAgg26
  z53 := Tryd.sizeOf26
  v53 := Tryd.zeroValue26
  t171 := Tryd.underlying120
  a171 := Tryd.isAgg120
  z171 := Tryd.sizeOf120
  v171 := Tryd.zeroValue120
  t173 := Tryd.underlying123
  a173 := Tryd.isAgg123
  z173 := Tryd.sizeOf123
  v173 := Tryd.zeroValue123
  t212 := Tryd.underlying141
  a212 := Tryd.isAgg141
  z212 := Tryd.sizeOf141
  v212 := Tryd.zeroValue141
  t213 := Tryd.underlying142
  a213 := Tryd.isAgg142
  z213 := Tryd.sizeOf142
  t232 := Tryd.underlying169
  a232 := Tryd.isAgg169
  z232 := Tryd.sizeOf169
  v232 := Tryd.zeroValue169
  t233 := Tryd.underlying170
  a233 := Tryd.isAgg170
  z233 := Tryd.sizeOf170
  v233 := Tryd.zeroValue170
  g17 := by kernel_rfl
  g18 := by kernel_rfl
  g19 := by kernel_rfl
  i0 := by kernel_rfl
  i3 := by kernel_rfl
  i4 := by kernel_rfl
  i5 := by kernel_rfl
  i9 := by kernel_rfl
  i20 := by kernel_rfl
  i37 := by kernel_rfl
  i46 := by kernel_rfl
  i51 := by kernel_rfl
  i53 := by kernel_rfl
  i171 := by kernel_rfl
  i173 := by kernel_rfl
  i212 := by kernel_rfl
  i232 := by kernel_rfl
  i233 := by kernel_rfl
  m17 := by kernel_rfl
  m18 := by kernel_rfl
  m19 := by kernel_rfl }
end Go.Proofs
namespace Go.Proofs.Qxb6609197aDoor
open Go.RowKit

/-- The name of the table of powers of ten, as the row has it. -/
def powName : String := Rows.fnContactNamesLocalAddressRow.named.getD 3 ""
theorem gPow : Tryd.prog.globalNamed powName = some 8 := by kernel_rfl

set_option maxHeartbeats 800000 in
set_option maxRecDepth 100000 in
theorem appUint24 (B u : Nat) (hu : u < 65536) (sv : Value) (l : List UInt8) (w : World) (hown : Buf 5 B w sv l) (hBw : B ≤ w.heap.size) (hlim : l.length + 20 ≤ 140737488355328) (htab : Lib.TabIs Tryd.prog w powName .u64 Lib.pow10Tab) :
    Calls Tryd.prog 24 #[sv, .int .u64 u, .int .i64 10] w fun e w' => ∃ v', e = .returned v' ∧ Buf 5 B w' v' (l ++ Lib.decDigits u) ∧ Fr 5 B w w' := by
  have c := Any.internal_strconv_AppendUint_10 Tryd.laysM288 B l.length u (by omega) sv (Lib.byteCells l) w hown hBw hlim htab
  have c38 : Calls Tryd.prog 38 #[sv, .int .u64 u, .int .i64 10] w fun e w' => ∃ v', e = .returned v' ∧ Buf 5 B w' v' (l ++ Lib.decDigits u) ∧ Fr 5 B w w' := by
    refine Calls.mono c ?_
    rintro e w' ⟨v', rfl, h1, h2, h3⟩
    refine ⟨v', rfl, ?_, h2, h3⟩
    unfold Buf
    have e2 : Lib.byteCells (l ++ Lib.decDigits u) = Lib.byteCells l ++ Lib.byteCells (Lib.decDigits u) := by simp [Lib.byteCells]
    rw [List.length_append, e2]
    exact h1
  clear c htab
  have C : Hid (Calls Tryd.prog 38 #[sv, .int .u64 u, .int .i64 10] w fun e w' => ∃ v', e = .returned v' ∧ Buf 5 B w' v' (l ++ Lib.decDigits u) ∧ Fr 5 B w w') := c38
  clear c38
  go_enter Tryd.func24, Tryd.ntmps24
  go_wp2_with fail
  refine C.out.mono ?_
  rintro e w' ⟨v', rfl, h1, h2⟩
  go_wp2
  go_ret
  exact ⟨v', rfl, h1, h2⟩

theorem appUint_all (w : World) (hlt : 8 < w.heap.size) (htab : Lib.TabIs Tryd.prog w powName .u64 Lib.pow10Tab) : AppUint w :=
  fun B u sv l W hW hu hown hB hl => appUint24 B u hu sv l W hown hB hl (var?_below hW gPow hlt htab)
end Go.Proofs.Qxb6609197aDoor
