/-
  THE HELPERS OF THE LAWS: zzB1Clone, zzB1Cat, zzB1Eq, each by a contract.
-/
import Derived.Test.Qxb6616814aProg
import Derived.Test.Qxb6616814aParts
import Derived.Lib.SliceRun
import Derived.RegionTactic
namespace Go.Proofs.Qxb6616814a.Walk1
open Go Go.RowKit Go.Proofs.Qxb6616814a.Parts

theorem info5 : (Try.prog.info? 5).map (fun i => (i.zero, i.size, i.bytes)) = some (some (.int .u8 0), 1, 1) := by kernel_rfl

/-- A cell of an old slice, in a later world. -/
theorem old_cell {w wr : World} {b o n : Nat} {zs : List Int} (hc : ∀ i, i < n → w.cell? ⟨b, o + i, none⟩ = some (.int .u8 (zs.getD i 0))) (hbr : Below w.heap.size w wr) (k : Nat) (hk : k < n) :
    wr.cell? ⟨b, o + k, none⟩ = some (.int .u8 (zs.getD k 0)) := by
  have h1 := hc k hk
  have hbl : b < w.heap.size := World.block_lt_of_cell? w ⟨b, o + k, none⟩ h1
  rw [hbr.cell (p := ⟨b, o + k, none⟩) hbl]
  exact h1

/-- What the store of the next element needs and leaves: A is there, m + 1 zeros follow. -/
theorem own_next {w wr : World} {g n k m : Nat} {A : List Int} (u : Int) (hA : A.length = k) (hn : k + (m + 1) = n) (hg : w.heap.size ≤ g)
    (hown : wr.ownsRow w.heap.size 5 1 (.slice (some ⟨g, 0, none⟩) n n) n ((A ++ List.replicate (m + 1) (0 : Int)).map (Value.int .u8))) (hbr : Below w.heap.size w wr) :
    (∃ q, wr.cell? ⟨g, k, none⟩ = some (.int .u8 q)) ∧ wr.frozen? ⟨g, k, none⟩ = false ∧
    (wr.setCell ⟨g, k, none⟩ (.int .u8 u)).ownsRow w.heap.size 5 1 (.slice (some ⟨g, 0, none⟩) n n) n ((A ++ [u] ++ List.replicate m (0 : Int)).map (Value.int .u8)) ∧
    Below w.heap.size w (wr.setCell ⟨g, k, none⟩ (.int .u8 u)) := by
  refine ⟨⟨0, ?_⟩, hown.frozenAt k, ?_, hbr.setCell (p := ⟨g, k, none⟩) hg _⟩
  · rw [hown.cellAt k (by omega)]
    subst hA
    simp [List.replicate_succ]
  · have hst := (hown.stored k (.int .u8 u)).1
    rw [set_next _ _ _ _ hA] at hst
    exact hst

/-- A made row is all zeros. -/
theorem own_start {w w1 : World} {n : Nat} (hown : w1.ownsRow w.heap.size 5 1 (.slice (some ⟨w.heap.size, 0, none⟩) n n) n (madeCells #[Value.int .u8 0] n).toList) :
    w1.ownsRow w.heap.size 5 1 (.slice (some ⟨w.heap.size, 0, none⟩) n n) n (([] ++ List.replicate n (0 : Int)).map (Value.int .u8)) := by
  rw [toList_madeCells_one] at hown
  simpa using hown

set_option maxHeartbeats 400000 in
theorem clone_any (ao : Option Addr) (n c : Nat) (zs : List Int) (w : World) (h : Row w ao n c zs) (hn : n ≤ 4194304) :
    Calls Try.prog 6 #[.slice ao n c] w fun e w' => ∃ ao' c', e = .returned (.slice ao' n c') ∧ Row w' ao' n c' zs ∧ Below w.heap.size w w' := by
  have qT : ∀ (w : World) (a : Option Addr) (n c n' c' : Nat), (binOp .eql 22 (.slice a n c) (.slice none n' c')).run Try.prog w = .ok (.bool a.isNone) w := fun w a n c n' c' => Lib.run_eql_slice_nil w _ _ a n c n' c' Try.underlying22
  cases ao with
  | none =>
    obtain ⟨rfl, rfl⟩ := h.nil rfl
    go_enter Try.func6, Try.ntmps6
    go_wp2
    go_ret
    exact ⟨_, _, rfl, h, Below.refl _ _⟩
  | some x =>
    obtain ⟨i0, hi, hz0, hz1, hz2⟩ := info_parts info5
    have hl : Hid (zs.length = n) := h.len
    have hml : n ≤ maxLen := Nat.le_trans h.cap h.big
    go_enter Try.func6, Try.ntmps6
    go_wp2_with (at_make; refine wpList_make_full _ rfl _ _ 22 rfl w.heap.size 5 i0 (.int .u8 0) 1 Try.underlying22 hi hz0 hz1 _ _ _ _ n rfl rfl rfl rfl (by rw [hz2]; omega) hml (Nat.le_refl _) ?_)
    intro w1 hown hgrow
    have hown1 := own_start hown
    have hb1 : Below w.heap.size w w1 := (Below.refl _ _).grown hgrow (Nat.le_refl _) (by simp)
    clear hown hgrow
    go_wp2
    go_loopw [4] (fun i wr => ∃ k : Nat, k ≤ n ∧ i = .int .i64 k ∧ wr.ownsRow w.heap.size 5 1 (.slice (some ⟨w.heap.size, 0, none⟩) n n) n ((zs.take k ++ List.replicate (n - k) (0 : Int)).map (Value.int .u8)) ∧ Below w.heap.size w wr)
      (fun i _ => n - (intOf i).toNat)
    case atStart => exact ⟨0, Nat.zero_le _, rfl, hown1, hb1⟩
    case round =>
      obtain ⟨k, hk, rfl, hown, hbr⟩ := hrel
      clear hown1 hb1
      by_cases hlt : k < n
      · obtain ⟨b, o, hx, hc⟩ := h.pos (by omega)
        obtain rfl := Option.some.inj hx
        have hlt' : (k : Int) < (n : Int) := by omega
        obtain ⟨u, hu⟩ : ∃ u, u = zs.getD k 0 := ⟨_, rfl⟩
        have hck := old_cell hc hbr k hlt
        rw [← hu] at hck
        rw [show n - k = (n - (k + 1)) + 1 by omega] at hown
        obtain ⟨⟨q, hcw⟩, hfw, hst, hb2⟩ := own_next (k := k) u (by rw [List.length_take, hl.out]; omega) (by omega) (Nat.le_refl _) hown hbr
        rw [hu, take_snoc _ _ (by rw [hl.out]; exact hlt), ← hu] at hst
        clear hown hbr hu hc
        go_wp2
        go_roundw
        case rel => exact ⟨k + 1, by omega, by go_num, hst, hb2⟩
        case measure => simp [intOf]; omega
      · have hkn : k = n := by omega
        subst hkn
        go_wp2
        go_ret
        refine ⟨_, _, rfl, ?_, hbr⟩
        refine Row.ofOwned (base := w.heap.size) ?_ h.byte
        simpa [List.take_of_length_le (Nat.le_of_eq hl.out)] using hown

set_option maxHeartbeats 800000 in
theorem cat_any (ax : Option Addr) (n c : Nat) (xs : List Int) (ay : Option Addr) (m d : Nat) (ys : List Int) (w : World) (h : Row w ax n c xs) (g : Row w ay m d ys) (hn : n ≤ 4194304) (hm : m ≤ 4194304) :
    Calls Try.prog 8 #[.slice ax n c, .slice ay m d] w fun e w' => ∃ ao' c', e = .returned (.slice ao' (n + m) c') ∧ Row w' ao' (n + m) c' (xs ++ ys) ∧ Below w.heap.size w w' := by
  obtain ⟨i0, hi, hz0, hz1, hz2⟩ := info_parts info5
  have hl : Hid (xs.length = n) := h.len
  have gl : Hid (ys.length = m) := g.len
  have hml : n + m ≤ maxLen := by unfold maxLen; omega
  go_enter Try.func8, Try.ntmps8
  go_wp2_with (at_make; refine wpList_make_full _ rfl _ _ 22 rfl w.heap.size 5 i0 (.int .u8 0) 1 Try.underlying22 hi hz0 hz1 _ _ _ _ (n + m) rfl rfl (by omega) (by omega) (by rw [hz2]; omega) hml (Nat.le_refl _) ?_)
  intro w1 hown hgrow
  have hown1 := own_start hown
  have hb1 : Below w.heap.size w w1 := (Below.refl _ _).grown hgrow (Nat.le_refl _) (by simp)
  clear hown hgrow
  go_wp2
  go_loopw [6] (fun i wr => ∃ k : Nat, k ≤ n ∧ i = .int .i64 k ∧ wr.ownsRow w.heap.size 5 1 (.slice (some ⟨w.heap.size, 0, none⟩) (n + m) (n + m)) (n + m) ((xs.take k ++ List.replicate (n + m - k) (0 : Int)).map (Value.int .u8)) ∧ Below w.heap.size w wr)
    (fun i _ => n - (intOf i).toNat)
  case atStart => exact ⟨0, Nat.zero_le _, rfl, hown1, hb1⟩
  case round =>
    obtain ⟨k, hk, rfl, hown, hbr⟩ := hrel
    clear hown1 hb1
    by_cases hlt : k < n
    · obtain ⟨b, o, hx, hc⟩ := h.pos (by omega)
      subst hx
      have hlt' : (k : Int) < (n : Int) := by omega
      have hlt2 : (k : Int) < (n : Int) + (m : Int) := by omega
      obtain ⟨u, hu⟩ : ∃ u, u = xs.getD k 0 := ⟨_, rfl⟩
      have hck := old_cell hc hbr k hlt
      rw [← hu] at hck
      rw [show n + m - k = (n + m - (k + 1)) + 1 by omega] at hown
      obtain ⟨⟨q, hcw⟩, hfw, hst, hb2⟩ := own_next (k := k) u (by rw [List.length_take, hl.out]; omega) (by omega) (Nat.le_refl _) hown hbr
      rw [hu, take_snoc _ _ (by rw [hl.out]; exact hlt), ← hu] at hst
      clear hown hbr hu hc
      go_wp2
      go_roundw
      case rel => exact ⟨k + 1, by omega, by go_num, hst, hb2⟩
      case measure => simp [intOf]; omega
    · have hkn : k = n := by omega
      subst hkn
      have hown2 : wr.ownsRow w.heap.size 5 1 (.slice (some ⟨w.heap.size, 0, none⟩) (k + m) (k + m)) (k + m) ((xs ++ ys.take 0 ++ List.replicate (m - 0) (0 : Int)).map (Value.int .u8)) := by
        rw [show k + m - k = m by omega, List.take_of_length_le (Nat.le_of_eq hl.out)] at hown
        simpa using hown
      clear hown
      go_wp2
      obtain ⟨wo, rfl⟩ : ∃ wo : World, wo = wr := ⟨_, rfl⟩
      go_loopw [7] (fun i wr => ∃ j : Nat, j ≤ m ∧ i = .int .i64 j ∧ wr.ownsRow w.heap.size 5 1 (.slice (some ⟨w.heap.size, 0, none⟩) (k + m) (k + m)) (k + m) ((xs ++ ys.take j ++ List.replicate (m - j) (0 : Int)).map (Value.int .u8)) ∧ Below w.heap.size w wr)
        (fun i _ => m - (intOf i).toNat)
      case atStart => exact ⟨0, Nat.zero_le _, rfl, hown2, hbr⟩
      case round =>
        clear hown2 hbr
        obtain ⟨j, hj, rfl, hown, hbr⟩ := hrel
        by_cases hlt : j < m
        · obtain ⟨b, o, hx, hc⟩ := g.pos (by omega)
          subst hx
          have hlt' : (j : Int) < (m : Int) := by omega
          have hlt2 : (k : Int) + (j : Int) < (k : Int) + (m : Int) := by omega
          obtain ⟨u, hu⟩ : ∃ u, u = ys.getD j 0 := ⟨_, rfl⟩
          have hck := old_cell hc hbr j hlt
          rw [← hu] at hck
          rw [show m - j = (m - (j + 1)) + 1 by omega] at hown
          obtain ⟨⟨q, hcw⟩, hfw, hst, hb2⟩ := own_next (k := k + j) u (by rw [List.length_append, List.length_take, gl.out, hl.out]; omega) (by omega) (Nat.le_refl _) hown hbr
          rw [List.append_assoc xs, hu, take_snoc _ _ (by rw [gl.out]; exact hlt), ← hu] at hst
          clear hown hbr hu hc
          go_wp2
          go_roundw
          case rel => exact ⟨j + 1, by omega, by go_num, hst, hb2⟩
          case measure => simp [intOf]; omega
        · have hkn : j = m := by omega
          subst hkn
          go_wp2
          go_ret
          refine ⟨_, _, rfl, ?_, hbr⟩
          refine Row.ofOwned (base := w.heap.size) ?_ (fun z hz => (List.mem_append.1 hz).elim (h.byte z) (g.byte z))
          simpa [List.take_of_length_le (Nat.le_of_eq gl.out)] using hown

theorem take_eq_succ {xs ys : List Int} {k : Nat} (h : xs.take k = ys.take k) (hx : k < xs.length) (hy : k < ys.length) (e : xs.getD k 0 = ys.getD k 0) : xs.take (k + 1) = ys.take (k + 1) := by
  rw [← take_snoc xs k hx, ← take_snoc ys k hy, h, e]

theorem ne_of_getD {xs ys : List Int} {k : Nat} (e : xs.getD k 0 ≠ ys.getD k 0) : (xs == ys) = false := by
  rw [beq_eq_false_iff_ne]
  intro h
  rw [h] at e
  exact e rfl

set_option maxHeartbeats 400000 in
theorem eq_any (ax : Option Addr) (n c : Nat) (xs : List Int) (ay : Option Addr) (m d : Nat) (ys : List Int) (w : World) (h : Row w ax n c xs) (g : Row w ay m d ys) :
    Calls Try.prog 9 #[.slice ax n c, .slice ay m d] w fun e w' => e = .returned (.bool (xs == ys)) ∧ Below w.heap.size w w' := by
  have hb := h.big
  have hcp := h.cap
  unfold maxLen at hb
  have hl : Hid (xs.length = n) := h.len
  have gl : Hid (ys.length = m) := g.len
  by_cases hnm : n = m
  · subst hnm
    go_enter Try.func9, Try.ntmps9
    go_wp2
    go_loopw [5] (fun i wr => ∃ k : Nat, k ≤ n ∧ i = .int .i64 k ∧ Hid (xs.take k = ys.take k) ∧ Below w.heap.size w wr) (fun i _ => n - (intOf i).toNat)
    case atStart => exact ⟨0, Nat.zero_le _, rfl, rfl, Below.refl _ _⟩
    case round =>
      obtain ⟨k, hk, rfl, htk, hbr⟩ := hrel
      by_cases hlt : k < n
      · obtain ⟨b, o, hx, hc⟩ := h.pos (by omega)
        subst hx
        obtain ⟨b', o', hx, hc'⟩ := g.pos (by omega)
        subst hx
        have hlt' : (k : Int) < (n : Int) := by omega
        have hck := old_cell hc hbr k hlt
        have hck' := old_cell hc' hbr k hlt
        obtain ⟨u, hu⟩ : ∃ u, u = xs.getD k 0 := ⟨_, rfl⟩
        obtain ⟨v, hv⟩ : ∃ v, v = ys.getD k 0 := ⟨_, rfl⟩
        rw [← hu] at hck
        rw [← hv] at hck'
        have HU : Hid (u = xs.getD k 0) := hu
        have HV : Hid (v = ys.getD k 0) := hv
        clear hu hv hc hc'
        by_cases huv : u = v
        · have HE := take_eq_succ htk.out (by rw [hl.out]; exact hlt) (by rw [gl.out]; exact hlt) (by rw [← HU.out, ← HV.out, huv])
          have HE' : Hid (xs.take (k + 1) = ys.take (k + 1)) := HE
          clear HE
          have hne : (u != v) = false := by simp [huv]
          subst huv
          go_wp2
          go_region
          all_goals
            go_wp2
            go_roundw
            case rel => exact ⟨k + 1, by omega, by go_num, HE', hbr.drew⟩
            case measure => simp [intOf]; omega
        · have HE := ne_of_getD (xs := xs) (ys := ys) (k := k) (by rw [← HU.out, ← HV.out]; exact huv)
          have HE' : Hid ((xs == ys) = false) := HE
          clear HE
          have hne : (u != v) = true := by simp [huv]
          go_wp2
          go_region
          all_goals
            go_wp2
            go_ret
            exact ⟨by rw [HE'.out]; rfl, hbr.drew⟩
      · have hkn : k = n := by omega
        subst hkn
        go_wp2
        go_ret
        have e : xs = ys := by
          have := htk.out
          rwa [List.take_of_length_le (Nat.le_of_eq hl.out), List.take_of_length_le (Nat.le_of_eq gl.out)] at this
        exact ⟨by rw [e]; simp, hbr⟩
  · have hne : ((n : Int) != (m : Int)) = true := by simp; omega
    have HE : Hid ((xs == ys) = false) := by
      rw [Hid, beq_eq_false_iff_ne]
      intro e
      apply hnm
      rw [← hl.out, ← gl.out, e]
    go_enter Try.func9, Try.ntmps9
    go_wp2
    go_ret
    exact ⟨by rw [HE.out]; rfl, Below.refl _ _⟩
end Go.Proofs.Qxb6616814a.Walk1
