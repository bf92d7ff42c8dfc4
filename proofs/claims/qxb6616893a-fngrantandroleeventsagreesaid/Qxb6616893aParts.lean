/-
  WHAT THE WALKS OF THIS SEAT SAY OF MEMORY: a slice of strings ('SRow'); a row that was made and filled.
-/
import Derived.WalkKit
import Derived.ProofKit
import Derived.Below
import Derived.Lib.SliceRun
import Derived.Lib.Strings
import Derived.Laws.CopyOwn
namespace Go.Proofs.Qxb6616893a.Parts
open Go Go.RowKit

/-- The slice value '.slice ao n c' reads as the strings ss. -/
structure SRow (w : World) (ao : Option Addr) (n c : Nat) (ss : List ByteArray) : Prop where
  len : ss.length = n
  cap : n ≤ c
  big : c ≤ maxLen
  nil : ao = none → n = 0 ∧ c = 0
  cell : n = 0 ∨ ∃ b o, ao = some ⟨b, o, none⟩ ∧ ∀ i, i < n → w.cell? ⟨b, o + i, none⟩ = some (.string (ss.getD i ByteArray.empty))
  str : ∀ s ∈ ss, s.size ≤ maxLen

theorem SRow.pos {w : World} {ao : Option Addr} {n c : Nat} {ss : List ByteArray} (h : SRow w ao n c ss) (hn : 0 < n) :
    ∃ b o, ao = some ⟨b, o, none⟩ ∧ ∀ i, i < n → w.cell? ⟨b, o + i, none⟩ = some (.string (ss.getD i ByteArray.empty)) := by
  rcases h.cell with h0 | h1
  · omega
  · exact h1

theorem SRow.nilRow (w : World) : SRow w none 0 0 [] :=
  ⟨rfl, Nat.le_refl _, Nat.zero_le _, fun _ => ⟨rfl, rfl⟩, .inl rfl, by simp⟩

theorem SRow.below {w w' : World} {ao : Option Addr} {n c : Nat} {ss : List ByteArray} (h : SRow w ao n c ss) (hb : Below w.heap.size w w') : SRow w' ao n c ss := by
  refine ⟨h.len, h.cap, h.big, h.nil, ?_, h.str⟩
  rcases h.cell with h0 | ⟨b, o, hao, hc⟩
  · exact .inl h0
  · refine .inr ⟨b, o, hao, fun i hi => ?_⟩
    have hlt : b < w.heap.size := World.block_lt_of_cell? w ⟨b, o + i, none⟩ (hc i hi)
    rw [hb.cell (p := ⟨b, o + i, none⟩) hlt]
    exact hc i hi

theorem getD_mem (ss : List ByteArray) (i : Nat) (h : i < ss.length) : ss.getD i ByteArray.empty ∈ ss := by
  simp [List.getD, List.getElem?_eq_getElem h]

theorem SRow.size {w : World} {ao : Option Addr} {n c : Nat} {ss : List ByteArray} (h : SRow w ao n c ss) (i : Nat) (hi : i < n) : (ss.getD i ByteArray.empty).size ≤ maxLen :=
  h.str _ (getD_mem ss i (by rw [h.len]; exact hi))

/-- A cell of an old slice, in a later world. -/
theorem old_cell {w wr : World} {b o n : Nat} {ss : List ByteArray} (hc : ∀ i, i < n → w.cell? ⟨b, o + i, none⟩ = some (.string (ss.getD i ByteArray.empty))) (hbr : Below w.heap.size w wr) (k : Nat) (hk : k < n) :
    wr.cell? ⟨b, o + k, none⟩ = some (.string (ss.getD k ByteArray.empty)) := by
  have h1 := hc k hk
  have hbl : b < w.heap.size := World.block_lt_of_cell? w ⟨b, o + k, none⟩ h1
  rw [hbr.cell (p := ⟨b, o + k, none⟩) hbl]
  exact h1

/-- A row that is known whole. -/
theorem SRow.ofBlock {w : World} {g n : Nat} {ss : List ByteArray} {e : TypeId} (hl : ss.length = n) (hm : n ≤ maxLen) (hs : ∀ s ∈ ss, s.size ≤ maxLen)
    (h : w.heap[g]? = some (.cells (ss.map Value.string).toArray e (0, 0))) : SRow w (some ⟨g, 0, none⟩) n n ss := by
  refine ⟨hl, Nat.le_refl _, hm, by simp, .inr ⟨g, 0, rfl, fun i hi => ?_⟩, hs⟩
  rw [cell_of_row _ g (0 + i) _ e (0, 0) h]
  simp [List.getD, show i < ss.length by omega]

/-- Out of an owned row of strings. -/
theorem SRow.ofOwned {w : World} {base g n cap : Nat} {ss : List ByteArray} (h : w.ownsRow base 9 1 (.slice (some ⟨g, 0, none⟩) n cap) n (ss.map Value.string))
    (hb : ∀ s ∈ ss, s.size ≤ maxLen) : SRow w (some ⟨g, 0, none⟩) n cap ss := by
  have hl : ss.length = n := by simpa using h.1
  refine ⟨hl, ?_, ?_, by simp, .inr ⟨g, 0, rfl, fun i hi => ?_⟩, hb⟩
  · rcases h.2 with ⟨h', _⟩ | ⟨g', cap', cur, h', _, _, hn, _, _, _⟩
    · simp at h'
    · simp at h'; omega
  · rcases h.2 with ⟨h', _⟩ | ⟨g', cap', cur, h', _, _, _, hm, _, _⟩
    · simp at h'
    · simp at h'; omega
  · rw [Nat.zero_add, h.cellAt i (by omega)]
    simp [List.getD, show i < ss.length by omega]

/-- A made row, as its block is. -/
theorem made_block {w1 : World} {base g n : Nat} (hown : w1.ownsRow base 9 1 (.slice (some ⟨g, 0, none⟩) n n) n (madeCells #[Value.string ByteArray.empty] n).toList) :
    w1.heap[g]? = some (.cells (List.replicate n (Value.string ByteArray.empty)).toArray 9 (0, 0)) := by
  rw [toList_madeCells_one] at hown
  rcases hown.2 with ⟨h', _⟩ | ⟨g', cap', cur, h', _, hg, _, _, hs, ht⟩
  · simp at h'
  · simp at h'
    obtain ⟨rfl, rfl⟩ := h'
    rw [hg]
    rw [List.take_of_length_le (by simp; omega)] at ht
    have : cur = (List.replicate n (Value.string ByteArray.empty)).toArray := by rw [← ht]
    rw [this]

/-- A copy that fills the whole row. -/
theorem splice_all (cur cs : List Value) (h : cs.length = cur.length) : splice cur 0 cs = cs := by
  simp [splice, h]

/-- The store of the next element. -/
theorem set_next (A : List ByteArray) (k m : Nat) (u : ByteArray) (hA : A.length = k) :
    ((A ++ List.replicate (m + 1) ByteArray.empty).map Value.string).set k (.string u) = ((A ++ [u]) ++ List.replicate m ByteArray.empty).map Value.string := by
  subst hA
  simp [List.replicate_succ]

theorem take_snoc (zs : List ByteArray) (k : Nat) (h : k < zs.length) : zs.take k ++ [zs.getD k ByteArray.empty] = zs.take (k + 1) := by
  rw [List.take_succ_eq_append_getElem h]
  simp [List.getD, List.getElem?_eq_getElem h]

theorem own_next {w wr : World} {g n k m : Nat} {A : List ByteArray} (u : ByteArray) (hA : A.length = k) (hn : k + (m + 1) = n) (hg : w.heap.size ≤ g)
    (hown : wr.ownsRow w.heap.size 9 1 (.slice (some ⟨g, 0, none⟩) n n) n ((A ++ List.replicate (m + 1) ByteArray.empty).map Value.string)) (hbr : Below w.heap.size w wr) :
    (∃ q, wr.cell? ⟨g, k, none⟩ = some (.string q)) ∧ wr.frozen? ⟨g, k, none⟩ = false ∧
    (wr.setCell ⟨g, k, none⟩ (.string u)).ownsRow w.heap.size 9 1 (.slice (some ⟨g, 0, none⟩) n n) n ((A ++ [u] ++ List.replicate m ByteArray.empty).map Value.string) ∧
    Below w.heap.size w (wr.setCell ⟨g, k, none⟩ (.string u)) := by
  refine ⟨⟨ByteArray.empty, ?_⟩, hown.frozenAt k, ?_, hbr.setCell (p := ⟨g, k, none⟩) hg _⟩
  · rw [hown.cellAt k (by omega)]
    subst hA
    simp [List.replicate_succ]
  · have hst := (hown.stored k (.string u)).1
    rw [set_next _ _ _ _ hA] at hst
    exact hst

theorem own_start {w w1 : World} {n : Nat} (hown : w1.ownsRow w.heap.size 9 1 (.slice (some ⟨w.heap.size, 0, none⟩) n n) n (madeCells #[Value.string ByteArray.empty] n).toList) :
    w1.ownsRow w.heap.size 9 1 (.slice (some ⟨w.heap.size, 0, none⟩) n n) n (([] ++ List.replicate n ByteArray.empty).map Value.string) := by
  rw [toList_madeCells_one] at hown
  simpa using hown

/-- Two strings are one if their bytes are: the walk's test. -/
theorem str_eq {a b : ByteArray} (h : a = b) : (a.toList == b.toList) = true := by simp [h]
theorem str_ne {a b : ByteArray} (h : a ≠ b) : (a.toList == b.toList) = false := by
  rw [beq_eq_false_iff_ne]
  intro e
  apply h
  rw [Lib.toList_data, Lib.toList_data] at e
  exact ByteArray.ext (Array.ext' e)
end Go.Proofs.Qxb6616893a.Parts
