/-
  Plain facts on the words of a text and on their joining by one space. No Go in sight.
-/
import Derived.Test.Qxb6609200aPlain
namespace Go.Proofs.Qxb6609200a

/-- The collapsed text. -/
def colL (l : List UInt8) : List UInt8 := Lib.join (words l) [32]

/-- A word: not empty, no white space in it. -/
def isWord (x : List UInt8) : Prop := x ≠ [] ∧ ∀ b ∈ x, sp b = false

theorem wordsF_are (l : List UInt8) : ∀ cur : List UInt8, (∀ b ∈ cur, sp b = false) → ∀ x ∈ wordsF l cur, isWord x := by
  induction l with
  | nil =>
    intro cur hc x hx
    unfold wordsF at hx
    split at hx
    · simp at hx
    · rename_i hne
      simp only [List.mem_singleton] at hx
      subst hx
      exact ⟨hne, hc⟩
  | cons b l ih =>
    intro cur hc x hx
    unfold wordsF at hx
    split at hx
    · split at hx
      · exact ih [] (by simp) x hx
      · rename_i hne
        rcases List.mem_cons.1 hx with h | h
        · subst h; exact ⟨hne, hc⟩
        · exact ih [] (by simp) x h
    · rename_i hb
      refine ih (cur ++ [b]) ?_ x hx
      intro y hy
      rcases List.mem_append.1 hy with h | h
      · exact hc y h
      · simp only [List.mem_singleton] at h; subst h; simpa using hb
theorem words_are (l : List UInt8) : ∀ x ∈ words l, isWord x := wordsF_are l [] (by simp)

theorem join_snoc (W : List (List UInt8)) (x : List UInt8) : Lib.join (W ++ [x]) [32] = if W = [] then x else Lib.join W [32] ++ [32] ++ x := by
  cases W with
  | nil => simp [Lib.join_one]
  | cons y r =>
    rw [if_neg (by simp), List.cons_append, Lib.join_cons, Lib.join_cons]
    simp [Lib.joinTail]
theorem join_ne (W : List (List UInt8)) (h : W ≠ []) (hw : ∀ x ∈ W, x ≠ []) : Lib.join W [32] ≠ [] := by
  cases W with
  | nil => exact absurd rfl h
  | cons y r =>
    rw [Lib.join_cons]
    have := hw y (by simp)
    simp [this]

/-! The one-pass model. -/
def cmStep (st : List UInt8 × Bool) (b : UInt8) : List UInt8 × Bool :=
  if sp b then (st.1, if st.1 = [] then st.2 else true) else ((if st.2 then st.1 ++ [32] else st.1) ++ [b], false)
def cmS (l : List UInt8) : List UInt8 × Bool := l.foldl cmStep ([], false)
theorem cmS_snoc (l : List UInt8) (b : UInt8) : cmS (l ++ [b]) = cmStep (cmS l) b := by simp [cmS, List.foldl_append]

def Jc (W : List (List UInt8)) (cur : List UInt8) : List UInt8 := Lib.join (W ++ if cur = [] then [] else [cur]) [32]

theorem cm_go (l : List UInt8) : ∀ (W : List (List UInt8)) (cur : List UInt8) (pend : Bool), (∀ x ∈ W, x ≠ []) → (pend = decide (cur = [] ∧ W ≠ [])) →
    (l.foldl cmStep (Jc W cur, pend)).1 = Lib.join (W ++ wordsF l cur) [32] := by
  induction l with
  | nil =>
    intro W cur pend _ _
    simp only [List.foldl_nil, Jc, wordsF]
  | cons b l ih =>
    intro W cur pend hW hp
    rw [List.foldl_cons, wordsF]
    by_cases hb : sp b = true
    · rw [if_pos hb]
      by_cases hc : cur = []
      · subst hc
        rw [if_pos rfl]
        have e : cmStep (Jc W [], pend) b = (Jc W [], pend) := by
          unfold cmStep
          rw [if_pos hb]
          dsimp only
          congr 1
          by_cases hW0 : W = []
          · subst hW0
            simp [Jc, Lib.join_nil]
          · rw [if_neg (by simpa [Jc] using join_ne W hW0 hW), hp]
            simp [hW0]
        rw [e]
        exact ih W [] pend hW hp
      · rw [if_neg hc]
        have hne : ∀ x ∈ W ++ [cur], x ≠ [] := by
          intro x hx
          rcases List.mem_append.1 hx with h | h
          · exact hW x h
          · simp only [List.mem_singleton] at h; subst h; exact hc
        have e : cmStep (Jc W cur, pend) b = (Jc (W ++ [cur]) [], true) := by
          unfold cmStep
          rw [if_pos hb]
          dsimp only
          have e1 : Jc W cur = Jc (W ++ [cur]) [] := by simp [Jc, hc]
          rw [e1, if_neg (by simpa [Jc] using join_ne (W ++ [cur]) (by simp) hne)]
        rw [e, ih (W ++ [cur]) [] true hne (by simp)]
        simp
    · rw [if_neg hb]
      have e : cmStep (Jc W cur, pend) b = (Jc W (cur ++ [b]), false) := by
        unfold cmStep
        rw [if_neg hb]
        dsimp only
        congr 1
        by_cases hc : cur = []
        · subst hc
          by_cases hW0 : W = []
          · subst hW0
            rw [hp]
            simp [Jc, Lib.join_nil, Lib.join_one]
          · rw [hp]
            simp [Jc, hW0, join_snoc]
        · rw [hp]
          simp only [hc, false_and, decide_false, Bool.false_eq_true, if_false]
          simp only [Jc, if_neg hc, List.append_eq_nil_iff, List.cons_ne_nil, and_false, if_false]
          rw [join_snoc, join_snoc]
          split <;> simp
      rw [e]
      exact ih W (cur ++ [b]) false hW (by simp)
/-- The one-pass model gives the collapsed text. -/
theorem cm_eq (l : List UInt8) : (cmS l).1 = colL l := by
  have := cm_go l [] [] false (by simp) (by simp)
  simpa [Jc, Lib.join_nil, cmS, colL, words] using this
theorem cm_len (l : List UInt8) : (cmS l).1.length ≤ 2 * l.length := by
  have key : ∀ (l : List UInt8) (st : List UInt8 × Bool), (l.foldl cmStep st).1.length ≤ st.1.length + 2 * l.length := by
    intro l
    induction l with
    | nil => intro st; simp
    | cons b l ih =>
      intro st
      have h := ih (cmStep st b)
      have h2 : (cmStep st b).1.length ≤ st.1.length + 2 := by
        unfold cmStep
        split
        · simp
        · dsimp only
          split <;> simp
      rw [List.foldl_cons, List.length_cons]
      omega
  have := key l ([], false)
  simpa [cmS] using this
end Go.Proofs.Qxb6609200a
