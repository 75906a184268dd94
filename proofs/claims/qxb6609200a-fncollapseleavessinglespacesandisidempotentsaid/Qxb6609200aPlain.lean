/-
  Plain facts: the words of a text, between runs of XML white space; what FieldsFunc cuts are those words. No Go in sight.
-/
import Derived.Lib.FieldsP
import Derived.Lib.Join
import Derived.Lib.DecodeN
import Derived.Lib.Strings
namespace Go.Proofs.Qxb6609200a

/-- XML white space: space, tab, carriage return, line feed. -/
def spN (x : Nat) : Bool := x == 32 || x == 9 || x == 13 || x == 10
def sp (b : UInt8) : Bool := spN b.toNat

/-- The words of a text; cur: the word in hand. -/
def wordsF : List UInt8 → List UInt8 → List (List UInt8)
  | [], cur => if cur = [] then [] else [cur]
  | b :: l, cur => if sp b then (if cur = [] then wordsF l [] else cur :: wordsF l []) else wordsF l (cur ++ [b])
def words (l : List UInt8) : List (List UInt8) := wordsF l []

/-! What a decoded rune tells of its bytes. -/
theorem dec_shape (s : ByteArray) (i : Nat) (h : i < s.size) :
    ((s.get! i).toNat < 128 ∧ Utf8.decode s i = ((s.get! i).toNat, 1)) ∨
    (128 ≤ (s.get! i).toNat ∧ 128 ≤ (Utf8.decode s i).1 ∧ 1 ≤ (Utf8.decode s i).2 ∧ i + (Utf8.decode s i).2 ≤ s.size ∧ ∀ k, k < (Utf8.decode s i).2 → 128 ≤ (s.get! (i + k)).toNat) := by
  rw [Lib.decode_at]
  have n1 : 1 ≤ s.size - i := by omega
  have e : s.size = i + (s.size - i) := by omega
  generalize s.size - i = n at *
  generalize h0 : (s.get! i).toNat = b0 at *
  generalize h1 : (s.get! (i + 1)).toNat = b1 at *
  generalize h2 : (s.get! (i + 2)).toNat = b2 at *
  generalize h3 : (s.get! (i + 3)).toNat = b3 at *
  by_cases c : b0 < 128
  · left
    refine ⟨c, ?_⟩
    unfold Lib.decodeN
    rw [if_pos c]
  · right
    refine ⟨by omega, ?_⟩
    have cases4 : ∀ (w : Nat), w ≤ 4 → (1 < w → 128 ≤ b1) → (2 < w → 128 ≤ b2) → (3 < w → 128 ≤ b3) → ∀ k, k < w → 128 ≤ (s.get! (i + k)).toNat := by
      intro w hw q1 q2 q3 k hk
      have : k = 0 ∨ k = 1 ∨ k = 2 ∨ k = 3 := by omega
      rcases this with rfl | rfl | rfl | rfl
      · show 128 ≤ (s.get! i).toNat
        rw [h0]; omega
      · rw [h1]; exact q1 hk
      · rw [h2]; exact q2 hk
      · rw [h3]; exact q3 hk
    unfold Lib.decodeN
    rw [if_neg c]
    repeat' split
    all_goals (dsimp only; refine ⟨by omega, by omega, by omega, cases4 _ (by omega) (by omega) (by omega) (by omega)⟩)

theorem get!_list (s : ByteArray) (i : Nat) (h : i < s.size) : s.data.toList[i]? = some (s.get! i) := by
  obtain ⟨⟨l⟩⟩ := s
  have hl : i < l.length := by simpa [ByteArray.size] using h
  simp [ByteArray.get!, hl]

theorem drop_cons (s : ByteArray) (i : Nat) (h : i < s.size) : s.data.toList.drop i = s.get! i :: s.data.toList.drop (i + 1) := by
  have hl : i < s.data.toList.length := by simpa using h
  rw [List.drop_eq_getElem_cons hl]
  congr 1
  have := get!_list s i h
  rw [List.getElem?_eq_getElem hl] at this
  exact Option.some.inj this

/-- A run of bytes that are no white space goes into the word in hand. -/
theorem wordsF_run (s : ByteArray) (i : Nat) : ∀ (w : Nat) (cur : List UInt8), i + w ≤ s.size → (∀ k, k < w → sp (s.get! (i + k)) = false) →
    wordsF (s.data.toList.drop i) cur = wordsF (s.data.toList.drop (i + w)) (cur ++ (s.data.toList.drop i).take w)
  | 0, cur, _, _ => by simp
  | w + 1, cur, h, hk => by
    rw [wordsF_run s i w cur (by omega) (fun k hk' => hk k (by omega)), drop_cons s (i + w) (by omega), wordsF, hk w (by omega)]
    have e : (s.data.toList.drop i).take (w + 1) = (s.data.toList.drop i).take w ++ [s.get! (i + w)] := by
      rw [List.take_add_one]
      congr 1
      rw [List.getElem?_drop, get!_list s (i + w) (by omega)]
      rfl
    rw [e]
    simp [Nat.add_assoc]

/-- The word in hand, as FieldsFunc's start has it. -/
def openW (s : ByteArray) (st : Option Nat) (pos : Nat) : List UInt8 := match st with
  | some a => (s.data.toList.drop a).take (pos - a)
  | none => []
theorem piece_grow (l : List UInt8) (a pos k : Nat) (h : a ≤ pos) : (l.drop a).take (pos - a) ++ (l.drop pos).take k = (l.drop a).take (pos + k - a) := by
  have e : l.drop pos = (l.drop a).drop (pos - a) := by rw [List.drop_drop]; congr 1; omega
  rw [e, show pos + k - a = (pos - a) + k by omega, List.take_add]

theorem spans_end (s : ByteArray) (f pos : Nat) (st : Option Nat) (acc : List (Nat × Nat)) (hp : pos ≤ s.size) (hlt : ¬ pos < s.size) (hst : ∀ a, st = some a → a < pos) :
    (Lib.closeSpans s (Lib.spansFromP spN s f pos st acc)).map (fun x => (s.data.toList.drop x.1).take (x.2 - x.1)) =
      acc.map (fun x => (s.data.toList.drop x.1).take (x.2 - x.1)) ++ wordsF (s.data.toList.drop pos) (openW s st pos) := by
  have hpe : pos = s.size := by omega
  rw [Lib.spansFromP_end _ _ _ _ _ _ hlt, List.drop_of_length_le (by simp [hpe]), wordsF]
  cases st with
  | none => simp [openW, Lib.closeSpans]
  | some a =>
    have ha := hst a rfl
    have hne : ¬ openW s (some a) pos = [] := by
      intro h0
      have := congrArg List.length h0
      simp [openW] at this
      omega
    rw [if_neg hne]
    simp [Lib.closeSpans, openW, hpe]

theorem spans_words (s : ByteArray) (f : Nat) : ∀ (pos : Nat) (st : Option Nat) (acc : List (Nat × Nat)), pos ≤ s.size → s.size - pos ≤ f → (∀ a, st = some a → a < pos) →
    (Lib.closeSpans s (Lib.spansFromP spN s f pos st acc)).map (fun x => (s.data.toList.drop x.1).take (x.2 - x.1)) =
      acc.map (fun x => (s.data.toList.drop x.1).take (x.2 - x.1)) ++ wordsF (s.data.toList.drop pos) (openW s st pos) := by
  induction f with
  | zero => exact fun pos st acc hp hf hst => spans_end s 0 pos st acc hp (by omega) hst
  | succ f ih =>
    intro pos st acc hp hf hst
    by_cases hlt : pos < s.size
    · unfold Lib.spansFromP
      rw [if_pos hlt]
      rcases dec_shape s pos hlt with ⟨c, e⟩ | ⟨c0, c1, c2, c3, c4⟩
      · rw [e]
        dsimp only
        rw [drop_cons s pos hlt, wordsF]
        by_cases hs : spN (s.get! pos).toNat = true
        · have hs' : sp (s.get! pos) = true := hs
          rw [if_pos hs, hs', if_pos rfl]
          cases st with
          | none =>
            rw [if_pos (show openW s none pos = [] from rfl)]
            dsimp only
            exact ih (pos + 1) none acc (by omega) (by omega) (by simp)
          | some a =>
            have ha := hst a rfl
            have hne : ¬ openW s (some a) pos = [] := by
              intro h0
              have := congrArg List.length h0
              simp [openW] at this
              omega
            rw [if_neg hne]
            dsimp only
            rw [ih (pos + 1) none _ (by omega) (by omega) (by simp)]
            simp [openW]
        · have hs' : sp (s.get! pos) = false := by unfold sp; simpa using hs
          rw [if_neg hs, hs', if_neg (by simp)]
          have h1 : (s.data.toList.drop pos).take 1 = [s.get! pos] := by rw [drop_cons s pos hlt]; rfl
          cases st with
          | none =>
            dsimp only
            rw [ih (pos + 1) (some pos) acc (by omega) (by omega) (by simp)]
            dsimp only [openW]
            rw [show pos + 1 - pos = 1 by omega, h1]
            rfl
          | some a =>
            have ha := hst a rfl
            dsimp only
            rw [ih (pos + 1) (some a) acc (by omega) (by omega) (by intro b hb; cases hb; omega)]
            dsimp only [openW]
            rw [← piece_grow _ a pos 1 (by omega), h1]
      · have hr : spN (Utf8.decode s pos).1 = false := by
          unfold spN
          simp
          omega
        have hb : ∀ k, k < (Utf8.decode s pos).2 → sp (s.get! (pos + k)) = false := by
          intro k hk
          have := c4 k hk
          unfold sp spN
          simp
          omega
        rw [if_neg (by simp [hr]), wordsF_run s pos _ _ c3 hb]
        cases st with
        | none =>
          dsimp only
          rw [ih _ (some pos) acc c3 (by omega) (by intro b hb; cases hb; omega)]
          dsimp only [openW]
          rw [show pos + (Utf8.decode s pos).2 - pos = (Utf8.decode s pos).2 by omega]
          rfl
        | some a =>
          have ha := hst a rfl
          dsimp only
          rw [ih _ (some a) acc c3 (by omega) (by intro b hb; cases hb; omega)]
          dsimp only [openW]
          rw [piece_grow _ a pos _ (by omega)]
    · exact spans_end s (f + 1) pos st acc hp hlt hst

/-- What FieldsFunc cuts at XML white space: the words. -/
theorem fields_words (s : ByteArray) : (Lib.goFieldsP spN s).map (·.data.toList) = words s.data.toList := by
  have h := spans_words s s.size 0 none [] (by omega) (by omega) (by simp)
  unfold Lib.goFieldsP Lib.spansOfP
  rw [List.map_map]
  have e : ((fun x : ByteArray => x.data.toList) ∘ fun x : Nat × Nat => s.extract x.1 x.2) = fun x => (s.data.toList.drop x.1).take (x.2 - x.1) := by
    funext x
    simp
  rw [e, h]
  simp [openW, words]
end Go.Proofs.Qxb6609200a
