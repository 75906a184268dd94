/-
  A byte slice that the call itself has made ('Buf'): appending one byte, and 'string(b)'. Over any program.
-/
import Derived.WalkKit
import Derived.WalkSpells
import Derived.Laws.IdiomStrings
import Derived.Laws.BytesArg
import Derived.Lib.OwnKind
namespace Go.Proofs.Qxb6609326a
open Go.RowKit
variable {P : Program}

/-- The slice value v owns just the bytes l, in blocks from B on. -/
def Buf (e : TypeId) (B : Nat) (w : World) (v : Value) (l : List UInt8) : Prop := w.ownsRow B e 1 v l.length (Lib.byteCells l)

theorem Buf.nil (e : TypeId) (B : Nat) (w : World) : Buf e B w (.slice none 0 0) [] := World.ownsRow_nil _ _ _ _
theorem Buf.alloc {e : TypeId} {B : Nat} {w : World} {v : Value} {l : List UInt8} (h : Buf e B w v l) (o : Obj) : Buf e B (w.alloc o) v l := World.ownsRow.alloc h o
theorem Buf.drew {e : TypeId} {B : Nat} {w : World} {v : Value} {l : List UInt8} (h : Buf e B w v l) : Buf e B w.drew v l := h

theorem Buf.made {e : TypeId} {B : Nat} {w : World} (C : Array Value) (cap g : Nat) (hg : w.heap.size = g) (hB : B ≤ w.heap.size) (hm : cap ≤ maxLen) (hs : C.size = cap) :
    Buf e B (w.alloc (.cells C e)) (.slice (some ⟨g, 0, none⟩) 0 cap) [] := by
  subst hg
  exact World.ownsRow_made w C cap hB hm (by omega)

theorem byteCells_one (l : List UInt8) : ∀ u ∈ Lib.byteCells l, u.oneCell' = true := by
  intro u hu
  simp only [Lib.byteCells, List.mem_map] at hu
  obtain ⟨b, _, rfl⟩ := hu
  rfl

/-- The frame: below B all is as it was; and every block that is no row of e's is as it was. -/
def Fr (e : TypeId) (B : Nat) (w w' : World) : Prop := Below B w w' ∧ Lib.OthersKept e none w w'
theorem Fr.refl (e : TypeId) (B : Nat) (w : World) : Fr e B w w := ⟨Below.refl _ _, Lib.OthersKept.refl _ _ _⟩
theorem Fr.trans {e : TypeId} {B : Nat} {a b c : World} (h : Fr e B a b) (k : Fr e B b c) : Fr e B a c := ⟨h.1.trans k.1, h.2.trans k.2⟩
theorem Fr.alloc {e : TypeId} {B : Nat} {a w : World} (h : Fr e B a w) (hB : B ≤ w.heap.size) (o : Obj) : Fr e B a (w.alloc o) := ⟨h.1.alloc hB o, h.2.alloc o⟩
theorem Fr.drew {e : TypeId} {B : Nat} {a w : World} (h : Fr e B a w) : Fr e B a w.drew := ⟨h.1.drew, h.2.drew⟩
theorem Fr.size {e : TypeId} {B : Nat} {a w : World} (h : Fr e B a w) : a.heap.size ≤ w.heap.size := h.1.size
theorem Fr.block {e t : TypeId} {B k : Nat} {a w : World} {c : Array Value} {fz : Nat × Nat} (h : Fr e B a w) (hk : a.heap[k]? = some (.cells c t fz)) (ht : t ≠ e) : w.heap[k]? = some (.cells c t fz) :=
  h.2 k _ hk (by simp) (fun c' fz' e' => by cases e'; exact ht rfl)
theorem cell_of_block {w : World} {k j t : Nat} {c : Array Value} {fz : Nat × Nat} {v : Value} (hk : w.heap[k]? = some (.cells c t fz)) (hj : c[j]? = some v) : w.cell? ⟨k, j, none⟩ = some v := by
  simp only [World.cell?, hk]
  simpa using hj

/-- 'b = append(b, c)'. -/
theorem wpList_app1 {ops : Array Oper} {rest : List Oper} {o : Oper} {a : Act} {Q : Exit → Act → World → Prop} {w : World} (hgd : o.guard = none) (s x : Operand) (t e : TypeId)
    (ho : o.op = .call { callee := .builtin .append, args := #[s, x], argTypes := #[t, t] }) (B : Nat) (ht : P.underlying t = some (.slice e))
    (hinfo : (P.info? e).map (fun i => (i.zero, i.size, i.bytes)) = some (some (.int .u8 0), 1, 1))
    (v : Value) (l : List UInt8) (hs : a.eval s = v) (hb : Buf e B w v l) (c : Int) (b : UInt8) (hc : c = (b.toNat : Int))
    (hx : a.eval x = .slice (some ⟨w.heap.size, 0, none⟩) 1 1) (hl : l.length + 1 ≤ 140737488355328) (hB : B ≤ w.heap.size)
    (h : ∀ v' w', Buf e B w' v' (l ++ [b]) → Fr e B w w' → wpList P ops Q rest (a.put o.dst v') w') : wpList P ops Q (o :: rest) a (w.alloc (.cells #[.int .u8 c] e)) := by
  subst hc
  obtain ⟨i0, hi, hz0, hz1, hz2⟩ := info_parts hinfo
  refine wpList_append_own (w.alloc (.cells #[.int .u8 (b.toNat : Int)] e)) hgd s x t ho B e i0 (.int .u8 0) 1 1 ht hi hz0 hz1 hz2 rfl (by decide) v l.length (Lib.byteCells l) hs (World.ownsRow.alloc hb _) ⟨w.heap.size, 0, none⟩ 1 1 [.int .u8 (b.toNat : Int)] hx rfl
    (cell_one_new _ _ _) (by simp [Value.oneCell']) (by unfold maxLen; omega) (by omega) (by simp; omega) ?_
  intro v' w' hown hgrow _
  refine h v' w' ?_ ⟨((Below.refl B w).alloc hB _).grown hgrow (by simp; omega) (fun k hk => (World.ownsRow.lt hb k hk).1), ((Lib.OthersKept.refl e none w).alloc _).grown hgrow (Lib.ownsRow_kind (World.ownsRow.alloc hb _))⟩
  unfold Buf
  have e1 : (l ++ [b]).length = l.length + 1 := by simp
  have e2 : Lib.byteCells (l ++ [b]) = Lib.byteCells l ++ [.int .u8 (b.toNat : Int)] := by simp [Lib.byteCells]
  rw [e1, e2]
  exact hown

/-- 'string(b)'. -/
theorem Buf.run_string {e : TypeId} {B : Nat} {w : World} {v : Value} {l : List UInt8} (h : Buf e B w v l) (src dst : TypeId) (hs : P.underlying src = some (.slice e)) (he : P.underlying e = some (.int .u8)) (hd : P.underlying dst = some .string) :
    (convert src dst v).run P w = .ok (.string ⟨l.toArray⟩) w := by
  obtain ⟨_, h⟩ := h
  rcases h with ⟨rfl, hl⟩ | ⟨g, cap, cur, rfl, _, hg, _, _, hcs, htk⟩
  · obtain rfl : l = [] := List.length_eq_zero_iff.1 hl
    exact run_convert_bytes_nil w src e hs he 0 0 dst hd
  · refine run_convert_bytes_back w src dst e ⟨g, 0, none⟩ cap l hs he hd ?_
    intro j hj
    have hplain : (⟨g, 0, none⟩ : Addr).add j = ⟨g, j, none⟩ := by unfold Addr.add; split <;> simp_all
    rw [hplain]
    have hjc : (cur.toList.take (l.length * 1))[j]? = (Lib.byteCells l)[j]? := by rw [htk]
    rw [List.getElem?_take_of_lt (by omega)] at hjc
    simp only [Lib.byteCells, List.getElem?_map, List.getElem?_eq_getElem hj, Option.map_some] at hjc
    simp only [World.cell?, hg]
    simpa using hjc

/-- The length is in the value. -/
theorem Buf.run_len {e : TypeId} {B : Nat} {w : World} {v : Value} {l : List UInt8} (h : Buf e B w v l) : ∃ ad cap, v = .slice ad l.length cap := by
  obtain ⟨_, h⟩ := h
  rcases h with ⟨rfl, hl⟩ | ⟨g, cap, cur, rfl, _⟩
  · exact ⟨none, 0, by rw [hl]⟩
  · exact ⟨_, cap, rfl⟩
end Go.Proofs.Qxb6609326a
