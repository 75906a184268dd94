/-
  Plain facts on the collapsed text: single spaces, none at the ends; collapsing again changes nothing; words and spaces counted. No Go in sight.
-/
import Derived.Test.Qxb6609200aWords
namespace Go.Proofs.Qxb6609200a

theorem sp32 : sp 32 = true := rfl

theorem wordsF_word (x : List UInt8) : ∀ (r cur : List UInt8), (∀ b ∈ x, sp b = false) → wordsF (x ++ r) cur = wordsF r (cur ++ x) := by
  induction x with
  | nil => intro r cur _; simp
  | cons b x ih =>
    intro r cur h
    rw [List.cons_append, wordsF, h b (by simp), ih r (cur ++ [b]) (fun y hy => h y (by simp [hy]))]
    simp

theorem wordsF_tail (R : List (List UInt8)) : ∀ cur : List UInt8, cur ≠ [] → (∀ x ∈ R, isWord x) → wordsF (Lib.joinTail [32] R) cur = cur :: R := by
  induction R with
  | nil => intro cur hc _; simp [Lib.joinTail, wordsF, hc]
  | cons y R ih =>
    intro cur hc h
    have hy := h y (by simp)
    have e : Lib.joinTail [32] (y :: R) = 32 :: (y ++ Lib.joinTail [32] R) := by simp [Lib.joinTail]
    rw [e, wordsF, sp32, if_pos rfl, if_neg hc, wordsF_word y _ [] hy.2, List.nil_append, ih y hy.1 (fun x hx => h x (by simp [hx]))]

/-- The words of joined words are those words. -/
theorem words_join (W : List (List UInt8)) (h : ∀ x ∈ W, isWord x) : words (Lib.join W [32]) = W := by
  cases W with
  | nil => simp [Lib.join_nil, words, wordsF]
  | cons x R =>
    have hx := h x (by simp)
    rw [Lib.join_cons, words, wordsF_word x _ [] hx.2, List.nil_append, wordsF_tail R x hx.1 (fun y hy => h y (by simp [hy]))]
theorem col_col (l : List UInt8) : colL (colL l) = colL l := by
  unfold colL
  rw [words_join _ (words_are l)]

/-! Single spaces. -/
def good : Bool → List UInt8 → Bool
  | _, [] => true
  | p, b :: l => if sp b then (b == 32) && !p && good true l else good false l
theorem good_word (x : List UInt8) : ∀ (p : Bool) (r : List UInt8), x ≠ [] → (∀ b ∈ x, sp b = false) → good p (x ++ r) = good false r := by
  induction x with
  | nil => intro p r h; exact absurd rfl h
  | cons b x ih =>
    intro p r _ h
    rw [List.cons_append, good, h b (by simp), if_neg (by simp)]
    cases x with
    | nil => rfl
    | cons c x => exact ih false r (by simp) (fun y hy => h y (by simp [hy]))
theorem good_tail (R : List (List UInt8)) (h : ∀ x ∈ R, isWord x) : good false (Lib.joinTail [32] R) = true := by
  induction R with
  | nil => rfl
  | cons y R ih =>
    have hy := h y (by simp)
    have e : Lib.joinTail [32] (y :: R) = 32 :: (y ++ Lib.joinTail [32] R) := by simp [Lib.joinTail]
    rw [e, good, sp32, if_pos rfl, good_word y true _ hy.1 hy.2, ih (fun x hx => h x (by simp [hx]))]
    rfl
theorem good_col (l : List UInt8) : good false (colL l) = true := by
  unfold colL
  have h := words_are l
  cases hW : words l with
  | nil => rw [Lib.join_nil]; rfl
  | cons x R =>
    rw [hW] at h
    have hx := h x (by simp)
    rw [Lib.join_cons, good_word x false _ hx.1 hx.2, good_tail R (fun y hy => h y (by simp [hy]))]

theorem good_at (c : List UInt8) : ∀ (p : Bool), good p c = true → ∀ (i : Nat) (h : i < c.length), sp c[i] = true → c[i] = 32 ∧ (i = 0 → p = false) ∧ (∀ hi : 0 < i, sp (c[i - 1]'(by omega)) = false) := by
  induction c with
  | nil => intro p _ i h; simp at h
  | cons b c ih =>
    intro p hg i h hs
    rw [good] at hg
    cases i with
    | zero =>
      simp only [List.getElem_cons_zero] at hs ⊢
      rw [if_pos hs] at hg
      simp only [Bool.and_eq_true, beq_iff_eq, Bool.not_eq_true'] at hg
      exact ⟨hg.1.1, fun _ => hg.1.2, fun hi => absurd hi (by omega)⟩
    | succ i =>
      simp only [List.getElem_cons_succ] at hs ⊢
      have hlt : i < c.length := by simpa using h
      by_cases hb : sp b = true
      · rw [if_pos hb] at hg
        simp only [Bool.and_eq_true] at hg
        obtain ⟨h1, h2, h3⟩ := ih true hg.2 i hlt hs
        refine ⟨h1, by omega, fun _ => ?_⟩
        cases i with
        | zero => exact absurd (h2 rfl) (by simp)
        | succ j => simpa using h3 (by omega)
      · rw [if_neg hb] at hg
        obtain ⟨h1, h2, h3⟩ := ih false hg i hlt hs
        refine ⟨h1, by omega, fun _ => ?_⟩
        cases i with
        | zero => simpa using hb
        | succ j => simpa using h3 (by omega)

/-- No white space at the ends. -/
theorem col_first (l : List UInt8) (h : 0 < (colL l).length) : sp ((colL l)[0]'h) = false := by
  cases hs : sp ((colL l)[0]'h) with
  | false => rfl
  | true =>
    exfalso
    unfold colL at hs h
    have hw := words_are l
    cases hW : words l with
    | nil => rw [hW, Lib.join_nil] at h; simp at h
    | cons x R =>
      rw [hW] at hw
      have hx := hw x (by simp)
      have hx0 : 0 < x.length := List.length_pos_iff.2 hx.1
      have e : (Lib.join (words l) [32])[0]'h = x[0]'hx0 := by
        simp only [hW, Lib.join_cons]
        rw [List.getElem_append_left]
      rw [e, hx.2 _ (List.getElem_mem hx0)] at hs
      cases hs
theorem col_last (l : List UInt8) (h : (colL l).length - 1 < (colL l).length) : sp ((colL l)[(colL l).length - 1]'h) = false := by
  have hw := words_are l
  have key : ∀ (c : List UInt8) (hc : c.length - 1 < c.length) (a x : List UInt8), c = a ++ x → isWord x → sp (c[c.length - 1]'hc) = false := by
    intro c hc a x e hx
    subst e
    have hx0 : 0 < x.length := List.length_pos_iff.2 hx.1
    have e2 : (a ++ x)[(a ++ x).length - 1]'hc = x[x.length - 1]'(by omega) := by
      rw [List.getElem_append_right (by simp; omega)]
      congr 1
      simp
      omega
    rw [e2]
    exact hx.2 _ (List.getElem_mem _)
  rcases List.eq_nil_or_concat (words l) with hW | ⟨W, x, hW⟩
  · exfalso
    unfold colL at h
    rw [hW, Lib.join_nil] at h
    simp at h
  · rw [List.concat_eq_append] at hW
    have hx : isWord x := hw x (by rw [hW]; simp)
    have e : colL l = (if W = [] then [] else Lib.join W [32] ++ [32]) ++ x := by
      unfold colL
      rw [hW, join_snoc]
      split <;> simp
    exact key (colL l) h _ x e hx

/-! What is not white space is kept. -/
def dropL (l : List UInt8) : List UInt8 := l.filter fun b => !sp b
theorem dropL_word (x : List UInt8) (h : ∀ b ∈ x, sp b = false) : dropL x = x := by
  unfold dropL
  rw [List.filter_eq_self]
  intro b hb
  simp [h b hb]
theorem dropL_wordsF (l : List UInt8) : ∀ cur : List UInt8, (∀ b ∈ cur, sp b = false) → cur ++ dropL l = (wordsF l cur).flatten := by
  induction l with
  | nil =>
    intro cur _
    unfold wordsF
    split <;> simp_all [dropL]
  | cons b l ih =>
    intro cur hc
    rw [wordsF]
    by_cases hb : sp b = true
    · have e : dropL (b :: l) = dropL l := by simp [dropL, hb]
      rw [if_pos hb, e]
      by_cases h0 : cur = []
      · rw [if_pos h0, h0]
        exact ih [] (by simp)
      · rw [if_neg h0, List.flatten_cons, ← ih [] (by simp)]
        simp
    · have hb' : sp b = false := by simpa using hb
      have e : dropL (b :: l) = b :: dropL l := by simp [dropL, hb']
      rw [if_neg hb, e, ← ih (cur ++ [b]) (by
        intro y hy
        rcases List.mem_append.1 hy with h | h
        · exact hc y h
        · simp only [List.mem_singleton] at h; subst h; exact hb')]
      simp
theorem dropL_col (l : List UInt8) : dropL (colL l) = dropL l := by
  have h1 := dropL_wordsF l [] (by simp)
  have h2 := dropL_wordsF (colL l) [] (by simp)
  rw [List.nil_append] at h1 h2
  rw [h1, h2]
  have e : wordsF (colL l) [] = words l := words_join (words l) (words_are l)
  rw [e]
  rfl

/-! Words counted; spaces counted. -/
def crStep (st : Nat × Bool) (b : UInt8) : Nat × Bool := if sp b then (st.1, false) else (if st.2 then st.1 else st.1 + 1, true)
def crS (l : List UInt8) : Nat × Bool := l.foldl crStep (0, false)
theorem crS_snoc (l : List UInt8) (b : UInt8) : crS (l ++ [b]) = crStep (crS l) b := by simp [crS, List.foldl_append]
theorem cr_go (l : List UInt8) : ∀ (n : Nat) (cur : List UInt8), (l.foldl crStep (n + (if cur = [] then 0 else 1), !(decide (cur = [])))).1 = n + (wordsF l cur).length := by
  induction l with
  | nil =>
    intro n cur
    simp only [List.foldl_nil, wordsF]
    split <;> simp
  | cons b l ih =>
    intro n cur
    rw [List.foldl_cons, wordsF]
    by_cases hb : sp b = true
    · rw [if_pos hb, crStep, if_pos hb]
      by_cases h0 : cur = []
      · subst h0
        have := ih n []
        simpa using this
      · rw [if_neg h0]
        have := ih (n + 1) []
        simp only [h0, if_false, List.length_cons]
        rw [show n + ((wordsF l []).length + 1) = n + 1 + (wordsF l []).length by omega, ← this]
        rfl
    · rw [if_neg hb, crStep, if_neg hb]
      have := ih n (cur ++ [b])
      rw [← this]
      congr 2
      by_cases h0 : cur = []
      · subst h0; rfl
      · simp [h0]
theorem cr_eq (l : List UInt8) : (crS l).1 = (words l).length := by
  have := cr_go l 0 []
  simpa [crS, words] using this
theorem cr_le (l : List UInt8) : (crS l).1 ≤ l.length := by
  have key : ∀ (l : List UInt8) (st : Nat × Bool), (l.foldl crStep st).1 ≤ st.1 + l.length := by
    intro l
    induction l with
    | nil => intro st; simp
    | cons b l ih =>
      intro st
      have h := ih (crStep st b)
      have h2 : (crStep st b).1 ≤ st.1 + 1 := by
        unfold crStep
        split
        · simp
        · dsimp only
          split <;> omega
      rw [List.foldl_cons, List.length_cons]
      omega
  have := key l (0, false)
  simpa [crS] using this

def spcs (l : List UInt8) : Nat := (l.filter fun b => b == 32).length
theorem spcs_word (x : List UInt8) (h : ∀ b ∈ x, sp b = false) : spcs x = 0 := by
  unfold spcs
  rw [List.length_eq_zero_iff, List.filter_eq_nil_iff]
  intro b hb h2
  have := h b hb
  rw [beq_iff_eq] at h2
  subst h2
  rw [sp32] at this
  cases this
theorem spcs_append (a b : List UInt8) : spcs (a ++ b) = spcs a + spcs b := by simp [spcs]
theorem spcs_tail (R : List (List UInt8)) (h : ∀ x ∈ R, isWord x) : spcs (Lib.joinTail [32] R) = R.length := by
  induction R with
  | nil => rfl
  | cons y R ih =>
    have hy := h y (by simp)
    have e : Lib.joinTail [32] (y :: R) = [32] ++ (y ++ Lib.joinTail [32] R) := by simp [Lib.joinTail]
    rw [e, spcs_append, spcs_append, spcs_word y hy.2, ih (fun x hx => h x (by simp [hx]))]
    simp [spcs]
    omega
theorem spcs_col (l : List UInt8) : spcs (colL l) = (words l).length - 1 := by
  unfold colL
  have h := words_are l
  cases hW : words l with
  | nil => rw [Lib.join_nil]; rfl
  | cons x R =>
    rw [hW] at h
    have hx := h x (by simp)
    rw [Lib.join_cons, spcs_append, spcs_word x hx.2, spcs_tail R (fun y hy => h y (by simp [hy]))]
    simp
theorem col_nil (l : List UInt8) (h : (words l).length = 0) : colL l = [] := by
  unfold colL
  rw [List.length_eq_zero_iff.1 h, Lib.join_nil]
end Go.Proofs.Qxb6609200a
