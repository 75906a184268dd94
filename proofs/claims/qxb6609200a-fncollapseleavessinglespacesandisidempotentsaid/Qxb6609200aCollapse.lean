/-
  strings.Join and strings.FieldsFunc at this dump: the kit's tool wrote the tables of numbers and the layings; isXMLSpace; collapse; ZZcollapse.
-/
import Derived.Shelf.Strings.OnBuilder
import Derived.Shelf.Strings.FieldsFuncAny
import Derived.Test.Qxb6609200aProg
import Derived.Test.Qxb6609200aWords
import Derived.WalkKit
import Derived.WalkSpells
import Derived.WalkLawsBesides
namespace Go.Proofs
open Go.Shelf
def Try.lays156_ren : Go.Shelf.Ren := ⟨fun | 156 => 13 | 165 => 16 | 166 => 17 | 169 => 18 | 240 => 19 | 241 => 20 | 276 => 21 | 277 => 22 | n => n, fun | 31 => 28 | 9 => 9 | 3 => 3 | 4 => 4 | 0 => 0 | 20 => 20 | 72 => 33 | 76 => 37 | 70 => 31 | 37 => 25 | 75 => 36 | 127 => 43 | 164 => 44 | 5 => 5 | 80 => 39 | n => n, fun | n => n⟩
theorem Try.lays156 : Go.Proofs.Lays.n156 Try.prog Try.lays156_ren := {
  mixed := by kernel_rfl
  f156 := Try.func13.trans (congrArg some (by kernel_rfl))
  f165 := Try.func16.trans (congrArg some (by kernel_rfl))
  f166 := Try.func17.trans (congrArg some (by kernel_rfl))
  f169 := Try.func18.trans (congrArg some (by kernel_rfl))
  f240 := Try.func19.trans (congrArg some (by kernel_rfl))
  f241 := Try.func20.trans (congrArg some (by kernel_rfl))
  f276 := Try.func21.trans (congrArg some (by kernel_rfl))
  f277 := Try.func22.trans (congrArg some (by kernel_rfl))
  t0 := Try.underlying0
  a0 := Try.isAgg0
  z0 := Try.sizeOf0
  v0 := Try.zeroValue0
  t3 := Try.underlying3
  a3 := Try.isAgg3
  z3 := Try.sizeOf3
  v3 := Try.zeroValue3
  t4 := Try.underlying4
  a4 := Try.isAgg4
  z4 := Try.sizeOf4
  v4 := Try.zeroValue4
  t9 := Try.underlying9
  a9 := Try.isAgg9
  z9 := Try.sizeOf9
  v9 := Try.zeroValue9
  t20 := Try.underlying20
  a20 := Try.isAgg20
  z20 := Try.sizeOf20
  v20 := Try.zeroValue20
  t31 := Try.underlying28
  a31 := Try.isAgg28
  z31 := Try.sizeOf28
  v31 := Try.zeroValue28
  t37 := Try.underlying25
  a37 := Try.isAgg25
  z37 := Try.sizeOf25
  v37 := Try.zeroValue25
  t70 := Try.underlying31
  a70 := Try.isAgg31
  z70 := Try.sizeOf31
  v70 := Try.zeroValue31
  t72 := Try.underlying33
  a72 := Try.isAgg33
  z72 := Try.sizeOf33
  v72 := Try.zeroValue33
  t75 := Try.underlying36
  a75 := Try.isAgg36
  z75 := Try.sizeOf36
  v75 := Try.zeroValue36
  t76 := Try.underlying37
  a76 := Try.isAgg37
  z76 := Try.sizeOf37
  v76 := Try.zeroValue37
  t127 := Try.underlying43
  a127 := Try.isAgg43
  z127 := Try.sizeOf43
  v127 := Try.zeroValue43
  t164 := Try.underlying44
  a164 := Try.isAgg44
  z164 := Try.sizeOf44
  v164 := Try.zeroValue44 }
theorem Try.Builder_Extra_156 : Builder.Extra Try.prog Try.lays156_ren := {
  sizeBuilder := by kernel_rfl
  liesBuilder := by kernel_rfl
  t5 := Try.underlying5
  a5 := Try.isAgg5
  z5 := Try.sizeOf5
  v5 := Try.zeroValue5
  infoByte := by kernel_rfl
  cellsByte := by kernel_rfl
  sizeByte := by kernel_rfl
  neB5 := by decide }
def Try.lays229_ren : Go.Shelf.Ren := ⟨fun | 229 => 14 | n => n, fun | 9 => 9 | 40 => 30 | 31 => 28 | 152 => 40 | 3 => 3 | 0 => 0 | 4 => 4 | 21 => 21 | 154 => 42 | n => n, fun | n => n⟩
theorem Try.lays229 : Go.Proofs.Lays.n229 Try.prog Try.lays229_ren := {
  mixed := by kernel_rfl
  f229 := Try.func14.trans (congrArg some (by kernel_rfl))
  t0 := Try.underlying0
  a0 := Try.isAgg0
  z0 := Try.sizeOf0
  v0 := Try.zeroValue0
  t3 := Try.underlying3
  a3 := Try.isAgg3
  z3 := Try.sizeOf3
  v3 := Try.zeroValue3
  t4 := Try.underlying4
  a4 := Try.isAgg4
  z4 := Try.sizeOf4
  v4 := Try.zeroValue4
  t9 := Try.underlying9
  a9 := Try.isAgg9
  z9 := Try.sizeOf9
  v9 := Try.zeroValue9
  t21 := Try.underlying21
  a21 := Try.isAgg21
  z21 := Try.sizeOf21
  v21 := Try.zeroValue21
  t31 := Try.underlying28
  a31 := Try.isAgg28
  z31 := Try.sizeOf28
  v31 := Try.zeroValue28
  t40 := Try.underlying30
  a40 := Try.isAgg30
  z40 := Try.sizeOf30
  v40 := Try.zeroValue30
  t152 := Try.underlying40
  a152 := Try.isAgg40
  z152 := Try.sizeOf40
  v152 := Try.zeroValue40
  t154 := Try.underlying42
  a154 := Try.isAgg42
  z154 := Try.sizeOf42
  v154 := Try.zeroValue42 }
end Go.Proofs
namespace Go.Proofs.Qxb6609200a
open Go.RowKit Go.Lib

theorem enters15 : ∀ args w, (callFunc 15 args).run Try.prog w = .ok (.enter 15 args) w := enters_of Try.func15 (by kernel_rfl) rfl

/-- isXMLSpace, at every number. -/
theorem isSpace15 (x : Nat) (w : World) : Calls Try.prog 15 #[.int .i32 (x : Int)] w fun e w' => e = .returned (.bool (spN x)) ∧ w' = w := by
  by_cases h1 : x = 32
  · subst h1
    go_enter Try.func15, Try.ntmps15
    go_wp2
    go_ret
    exact ⟨rfl, rfl⟩
  by_cases h2 : x = 9
  · subst h2
    go_enter Try.func15, Try.ntmps15
    go_wp2
    go_ret
    exact ⟨rfl, rfl⟩
  by_cases h3 : x = 13
  · subst h3
    go_enter Try.func15, Try.ntmps15
    go_wp2
    go_ret
    exact ⟨rfl, rfl⟩
  by_cases h4 : x = 10
  · subst h4
    go_enter Try.func15, Try.ntmps15
    go_wp2
    go_ret
    exact ⟨rfl, rfl⟩
  · have g1 : ((x : Int) == 32) = false := by rw [beq_eq_false_iff_ne]; omega
    have g2 : ((x : Int) == 9) = false := by rw [beq_eq_false_iff_ne]; omega
    have g3 : ((x : Int) == 13) = false := by rw [beq_eq_false_iff_ne]; omega
    have g4 : ((x : Int) == 10) = false := by rw [beq_eq_false_iff_ne]; omega
    have E : Hid (spN x = false) := by
      show spN x = false
      simp [spN, h1, h2, h3, h4]
    clear h1 h2 h3 h4
    go_enter Try.func15, Try.ntmps15
    go_wp2
    go_ret
    exact ⟨by rw [E.out]; rfl, rfl⟩

theorem pred15 (w : World) : PredAtRunes Try.prog 15 #[] spN w := fun W x _ _ =>
  (isSpace15 x W).mono fun _ _ ⟨he, hw⟩ => ⟨he, 0, by rw [hw]; rfl⟩

theorem words_count (l : List UInt8) : ∀ cur, (wordsF l cur).length ≤ l.length + 1 := by
  induction l with
  | nil => intro cur; unfold wordsF; split <;> simp
  | cons b l ih =>
    intro cur
    unfold wordsF
    have h0 := ih []
    have h1 := ih (cur ++ [b])
    split
    · split
      · simp; omega
      · simp; omega
    · simp; omega
theorem col_len (l : List UInt8) : (colL l).length ≤ 2 * l.length := by rw [← cm_eq]; exact cm_len l

set_option maxHeartbeats 800000 in
set_option maxRecDepth 100000 in
/-- collapse: the collapsed text. -/
theorem collapse11 (s : ByteArray) (hs : s.size ≤ 4194304) (w : World) :
    Calls Try.prog 11 #[.string s] w fun e w' => e = .returned (.string ⟨(colL s.data.toList).toArray⟩) ∧ Below w.heap.size w w' := by
  have hsz : s.data.toList.length = s.size := by simp
  have hfl : (Lib.goFieldsP spN s).length ≤ s.size + 1 := by
    have h := congrArg List.length (fields_words s)
    rw [List.length_map] at h
    rw [h]
    have := words_count s.data.toList []
    unfold words
    omega
  have hjl : (Lib.join ((Lib.goFieldsP spN s).map (·.data.toList)) [32]).length ≤ 140737488355328 := by
    rw [fields_words]
    have := col_len s.data.toList
    unfold colL at this
    omega
  have E : Hid (Lib.join ((Lib.goFieldsP spN s).map (·.data.toList)) [32] = colL s.data.toList) := by
    show _ = _
    rw [fields_words]
    rfl
  have cF := Any.strings_FieldsFunc_runes Try.lays229 15 #[] enters15 spN s w (by omega) (pred15 w) (by kernel_rfl) (by kernel_rfl)
  have CF : Hid (Calls Try.prog 14 #[.string s, .func (.func 15) #[] #[]] w fun e w' => ∃ A, e = .returned (.slice (some ⟨A, 0, none⟩) (Lib.goFieldsP spN s).length (Lib.goFieldsP spN s).length) ∧ w.heap.size ≤ A ∧
      w'.ownsRow w.heap.size 9 1 (.slice (some ⟨A, 0, none⟩) (Lib.goFieldsP spN s).length (Lib.goFieldsP spN s).length) (Lib.goFieldsP spN s).length ((Lib.goFieldsP spN s).map Value.string) ∧ Below w.heap.size w w') := cF
  clear cF
  generalize Lib.goFieldsP spN s = xs at *
  go_enter Try.func11, Try.ntmps11
  go_wp2_with fail
  refine CF.out.mono ?_
  rintro e w1 ⟨A, rfl, hA, hown, hb1⟩
  have hcells : ∀ (j : Nat) x, xs[j]? = some x → w1.cell? ⟨A, 0 + j, none⟩ = some (.string x) := by
    intro j x hx
    have hj : j < xs.length := (List.getElem?_eq_some_iff.1 hx).1
    rw [Nat.zero_add, hown.cellAt j (by omega), List.getElem?_map, hx]
    rfl
  have hbk : A < w1.heap.size := (hown.lt A rfl).2
  have cJ := Any.strings_Join Try.lays156 Try.Builder_Extra_156 A 0 xs.length xs ⟨#[32]⟩ w1 hcells hbk (by omega) (Nat.le_refl _) hjl
  have CJ : Hid (Calls Try.prog 13 #[.slice (some ⟨A, 0, none⟩) xs.length xs.length, .string ⟨#[32]⟩] w1 fun e w' => e = .returned (.string ⟨(Lib.join (xs.map (·.data.toList)) [32]).toArray⟩) ∧ Below w1.heap.size w1 w') := cJ
  clear cJ hcells CF hown hjl
  go_wp2_with fail
  refine CJ.out.mono ?_
  rintro e w2 ⟨rfl, hb2⟩
  rw [E.out]
  go_wp2
  go_ret
  exact ⟨rfl, hb1.trans (hb2.mono hb1.size)⟩

theorem collapse6 (s : ByteArray) (hs : s.size ≤ 4194304) (w : World) :
    Calls Try.prog 6 #[.string s] w fun e w' => e = .returned (.string ⟨(colL s.data.toList).toArray⟩) ∧ Below w.heap.size w w' := by
  go_enter Try.func6, Try.ntmps6
  go_wp2_with fail
  refine (collapse11 s hs _).mono ?_
  rintro e w1 ⟨rfl, hb1⟩
  go_wp2
  go_ret
  exact ⟨rfl, hb1⟩
end Go.Proofs.Qxb6609200a
