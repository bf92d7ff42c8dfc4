/-
  PLAIN LEMMAS OF THIS SEAT: what is said of a slice of bytes ('Row'), how it stays behind later blocks, and the list function of 'lineText'.
-/
import Derived.WalkKit
import Derived.ProofKit
import Derived.Below
import Derived.Lib.SliceRun
namespace Go.Proofs.Qxb6616814a.Parts
open Go Go.RowKit

/-- The slice value '.slice ao n c' reads as the numbers zs, bytes all of them. -/
structure Row (w : World) (ao : Option Addr) (n c : Nat) (zs : List Int) : Prop where
  len : zs.length = n
  cap : n ≤ c
  big : c ≤ maxLen
  nil : ao = none → n = 0 ∧ c = 0
  cell : n = 0 ∨ ∃ b o, ao = some ⟨b, o, none⟩ ∧ ∀ i, i < n → w.cell? ⟨b, o + i, none⟩ = some (.int .u8 (zs.getD i 0))
  byte : ∀ z ∈ zs, 0 ≤ z ∧ z ≤ 255

theorem Row.pos {w : World} {ao : Option Addr} {n c : Nat} {zs : List Int} (h : Row w ao n c zs) (hn : 0 < n) :
    ∃ b o, ao = some ⟨b, o, none⟩ ∧ ∀ i, i < n → w.cell? ⟨b, o + i, none⟩ = some (.int .u8 (zs.getD i 0)) := by
  rcases h.cell with h0 | h1
  · omega
  · exact h1

theorem Row.nilRow (w : World) : Row w none 0 0 [] :=
  ⟨rfl, Nat.le_refl _, Nat.zero_le _, fun _ => ⟨rfl, rfl⟩, .inl rfl, by simp⟩

theorem Row.below {w w' : World} {ao : Option Addr} {n c : Nat} {zs : List Int} (h : Row w ao n c zs) (hb : Below w.heap.size w w') : Row w' ao n c zs := by
  refine ⟨h.len, h.cap, h.big, h.nil, ?_, h.byte⟩
  rcases h.cell with h0 | ⟨b, o, hao, hc⟩
  · exact .inl h0
  · refine .inr ⟨b, o, hao, fun i hi => ?_⟩
    have hlt : b < w.heap.size := World.block_lt_of_cell? w ⟨b, o + i, none⟩ (hc i hi)
    rw [hb.cell (p := ⟨b, o + i, none⟩) hlt]
    exact hc i hi

theorem getD_mem_or (zs : List Int) (i : Nat) (h : i < zs.length) : zs.getD i 0 ∈ zs := by
  simp [List.getD, List.getElem?_eq_getElem h]

theorem Row.bounds {w : World} {ao : Option Addr} {n c : Nat} {zs : List Int} (h : Row w ao n c zs) (i : Nat) (hi : i < n) : 0 ≤ zs.getD i 0 ∧ zs.getD i 0 ≤ 255 :=
  h.byte _ (getD_mem_or zs i (by rw [h.len]; exact hi))

/-- Out of an owned row of bytes. -/
theorem Row.ofOwned {w : World} {base g n cap : Nat} {zs : List Int} (h : w.ownsRow base 5 1 (.slice (some ⟨g, 0, none⟩) n cap) n (zs.map (Value.int .u8)))
    (hb : ∀ z ∈ zs, 0 ≤ z ∧ z ≤ 255) : Row w (some ⟨g, 0, none⟩) n cap zs := by
  have hl : zs.length = n := by simpa using h.1
  refine ⟨hl, ?_, ?_, by simp, .inr ⟨g, 0, rfl, fun i hi => ?_⟩, hb⟩
  · rcases h.2 with ⟨h', _⟩ | ⟨g', cap', cur, h', _, _, hn, _, _, _⟩
    · simp at h'
    · simp at h'; omega
  · rcases h.2 with ⟨h', _⟩ | ⟨g', cap', cur, h', _, _, _, hm, _, _⟩
    · simp at h'
    · simp at h'; omega
  · rw [Nat.zero_add, h.cellAt i (by omega)]
    simp [List.getD, show i < zs.length by omega]

/-- A literal's own new block, marked or not. -/
theorem Row.lit (w : World) (zs : List Int) (fr : Nat × Nat) (n : Nat) (hn : zs.length = n) (hb : ∀ z ∈ zs, 0 ≤ z ∧ z ≤ 255) (hm : n ≤ maxLen) :
    Row (w.alloc (.cells (zs.map (Value.int .u8)).toArray 5 fr)) (some ⟨w.heap.size, 0, none⟩) n n zs := by
  refine ⟨hn, Nat.le_refl _, hm, by simp, .inr ⟨w.heap.size, 0, rfl, fun i hi => ?_⟩, hb⟩
  have e : (w.alloc (.cells (zs.map (Value.int .u8)).toArray 5 fr)).heap[w.heap.size]? = some (.cells (zs.map (Value.int .u8)).toArray 5 fr) := by
    show (w.heap.push _)[w.heap.size]? = _
    simp
  rw [cell_of_row _ w.heap.size (0 + i) _ 5 fr e]
  simp [List.getD, show i < zs.length by omega]

/-- The store of the next element. -/
theorem set_next (A : List Int) (k m : Nat) (u : Int) (hA : A.length = k) :
    ((A ++ List.replicate (m + 1) (0 : Int)).map (Value.int .u8)).set k (.int .u8 u) = ((A ++ [u]) ++ List.replicate m (0 : Int)).map (Value.int .u8) := by
  subst hA
  simp [List.replicate_succ]

theorem take_snoc (zs : List Int) (k : Nat) (h : k < zs.length) : zs.take k ++ [zs.getD k 0] = zs.take (k + 1) := by
  rw [List.take_succ_eq_append_getElem h]
  simp [List.getD, List.getElem?_eq_getElem h]

/-- bytes.TrimSuffix at one byte. -/
def trim (c : Int) (zs : List Int) : List Int := if zs.getLast? = some c then zs.dropLast else zs
/-- lineText on lists. -/
def line (zs : List Int) : List Int := trim 13 (trim 10 zs)

theorem trim_snoc (c : Int) (zs : List Int) : trim c (zs ++ [c]) = zs := by simp [trim]
theorem trim_snoc_ne (c d : Int) (zs : List Int) (h : d ≠ c) : trim c (zs ++ [d]) = zs ++ [d] := by simp [trim, h]

theorem line_crlf (zs : List Int) : line (zs ++ [13, 10]) = zs := by
  have e : zs ++ [13, 10] = (zs ++ [13]) ++ [10] := by simp
  rw [line, e, trim_snoc, trim_snoc]

theorem line_lf (zs : List Int) : line (zs ++ [10]) = trim 13 zs := by rw [line, trim_snoc]

theorem trim_append (c : Int) (a b : List Int) (h : b ≠ []) : trim c (a ++ b) = a ++ trim c b := by
  unfold trim
  have e : (a ++ b).getLast? = b.getLast? := by
    rw [List.getLast?_append]
    cases hb : b.getLast? with
    | none => exact absurd (List.getLast?_eq_none_iff.1 hb) h
    | some x => rfl
  rw [e, List.dropLast_append_of_ne_nil h]
  split <;> rfl

theorem trim_ne_nil (c : Int) (b : List Int) (h : 2 ≤ b.length) : trim c b ≠ [] := by
  unfold trim
  split
  · intro e
    have := congrArg List.length e
    simp at this
    omega
  · intro e
    rw [e] at h
    simp at h

theorem line_append (a b : List Int) (h : 2 ≤ b.length) : line (a ++ b) = a ++ line b := by
  have hb : b ≠ [] := by intro e; rw [e] at h; simp at h
  rw [line, trim_append _ _ _ hb, trim_append _ _ _ (trim_ne_nil _ _ h), ← line]

theorem trim_byte (c : Int) (zs : List Int) (h : ∀ z ∈ zs, 0 ≤ z ∧ z ≤ 255) : ∀ z ∈ trim c zs, 0 ≤ z ∧ z ≤ 255 := by
  unfold trim
  split
  · exact fun z hz => h z (List.dropLast_subset _ hz)
  · exact h

theorem trim_le (c : Int) (zs : List Int) : (trim c zs).length ≤ zs.length := by
  unfold trim
  split <;> simp

/-- 'trim' as the walk sees it: by the last byte. -/
theorem trim_yes (c : Int) (zs : List Int) (n : Nat) (hn : zs.length = n + 1) (h : zs.getD n 0 = c) : trim c zs = zs.take n := by
  have e : zs.getLast? = some c := by
    rw [List.getLast?_eq_getElem?, hn, ← h]
    simp [List.getD, show n < zs.length by omega]
  rw [trim, if_pos e, List.dropLast_eq_take, hn]
  rfl

theorem trim_no (c : Int) (zs : List Int) (n : Nat) (hn : zs.length = n + 1) (h : zs.getD n 0 ≠ c) : trim c zs = zs := by
  have e : zs.getLast? ≠ some c := by
    rw [List.getLast?_eq_getElem?, hn]
    simp [List.getD, show n < zs.length by omega] at h ⊢
    exact h
  rw [trim, if_neg e]

theorem trim_nil (c : Int) : trim c [] = [] := by simp [trim]

/-- The law's last row: without a '\r' at its end 'trim' leaves all. -/
theorem eq_trim (zs : List Int) : (trim 13 zs == zs) = !(zs.getLast? == some 13) := by
  by_cases h : zs.getLast? = some 13
  · rw [trim, if_pos h, h]
    have hne : zs ≠ [] := by intro e; rw [e] at h; simp at h
    have : zs.dropLast ≠ zs := by
      intro e
      have := congrArg List.length e
      have hp := List.length_pos_iff.2 hne
      simp at this
      omega
    simp [this]
  · rw [trim, if_neg h]
    simp [h]
end Go.Proofs.Qxb6616814a.Parts
