/-
  THE LAWS' OWN WALKS.
-/
import Derived.Test.Qxb6616814aProg
import Derived.Test.Qxb6616814aParts
import Derived.Test.Qxb6616814aWalk1
import Derived.Test.Qxb6616814aWalk2
namespace Go.Proofs.Qxb6616814a.Walk3
open Go Go.RowKit Go.Proofs.Qxb6616814a.Parts Go.Proofs.Qxb6616814a.Walk1 Go.Proofs.Qxb6616814a.Walk2

theorem bytes1_yes (ao : Option Addr) (n c : Nat) (w : World) (h : n ≤ 1048576) :
    Calls Try.prog 5 #[.slice ao n c] w fun e w' => e = .returned (.bool true) ∧ w' = w := by
  have h1 : ¬ (1048576 : Int) < (n : Int) := by omega
  go_enter Try.func5, Try.ntmps5
  go_wp2
  go_ret
  exact ⟨rfl, rfl⟩

theorem bytes1_no (ao : Option Addr) (n c : Nat) (w : World) (h : 1048576 < n) :
    Calls Try.prog 5 #[.slice ao n c] w fun e w' => e = .returned (.bool false) ∧ w' = w := by
  have h1 : (1048576 : Int) < (n : Int) := by omega
  go_enter Try.func5, Try.ntmps5
  go_wp2
  go_ret
  exact ⟨rfl, rfl⟩

theorem line_le (zs : List Int) : (line zs).length ≤ zs.length := Nat.le_trans (trim_le _ _) (trim_le _ _)

theorem last_getD (zs : List Int) (k : Nat) (h : zs.length = k + 1) : (zs.getLast? == some 13) = (zs.getD k 0 == 13) := by
  rw [List.getLast?_eq_getElem?, h]
  have hk : k < zs.length := by omega
  simp [List.getD, hk]

set_option maxHeartbeats 1000000 in
theorem strips (ao : Option Addr) (n c : Nat) (zs : List Int) (w : World) (h : Row w ao n c zs) :
    Calls Try.prog 3 #[.slice ao n c] w fun e w' => e = .returned (.bool true) ∧ Below w.heap.size w w' := by
  by_cases hn : n ≤ 1048576
  · have hn' : ¬ (1048576 : Int) < (n : Int) := by omega
    go_enter Try.func3, Try.ntmps3
    go_wp2_with fail
    refine (bytes1_yes ao n c w hn).mono ?_
    rintro e w' ⟨rfl, rfl⟩
    go_wp2_with fail
    refine (clone_any ao n c zs _ h (by omega)).mono ?_
    rintro e w1 ⟨a1, c1, rfl, r1, b1⟩
    go_wp2_with fail
    have L2 := Row.lit w1 [13, 10] (0, 0) 2 rfl (by simp) (by simp [maxLen])
    have B2 : Below w1.heap.size w1 (w1.alloc (.cells #[.int .u8 13, .int .u8 10] 5)) := (Below.refl _ _).alloc (Nat.le_refl _) _
    refine (cat_any a1 n c1 zs _ 2 2 [13, 10] _ (r1.below B2) L2 (by omega) (by omega)).mono ?_
    rintro e w2 ⟨a2, c2, rfl, r2, b2⟩
    have b2 := B2.trans (b2.mono B2.size)
    have r1 := r1.below b2
    have b1 := b1.trans (b2.mono b1.size)
    clear L2 B2 b2
    go_wp2_with fail
    refine (zzline_any a2 _ c2 _ _ r2).mono ?_
    rintro e w3 ⟨n3, rfl, r3, b3⟩
    rw [line_crlf] at r3
    have r1 := r1.below b3
    have b1 := b1.trans (b3.mono b1.size)
    clear r2 b3
    go_wp2_with fail
    have L4 := Row.lit w3 [10] (0, 0) 1 rfl (by simp) (by simp [maxLen])
    have B4 : Below w3.heap.size w3 (w3.alloc (.cells #[.int .u8 10] 5)) := (Below.refl _ _).alloc (Nat.le_refl _) _
    refine (cat_any a1 n c1 zs _ 1 1 [10] _ (r1.below B4) L4 (by omega) (by omega)).mono ?_
    rintro e w4 ⟨a4, c4, rfl, r4, b4⟩
    have b4 := B4.trans (b4.mono B4.size)
    have r1 := r1.below b4
    have r3 := r3.below b4
    have b1 := b1.trans (b4.mono b1.size)
    clear L4 B4 b4
    go_wp2_with fail
    refine (zzline_any a4 _ c4 _ _ r4).mono ?_
    rintro e w5 ⟨n5, rfl, r5, b5⟩
    rw [line_lf] at r5
    have r1 := r1.below b5
    have r3 := r3.below b5
    have b1 := b1.trans (b5.mono b1.size)
    clear r4 b5
    go_wp2_with fail
    refine (eq_any a2 n3 c2 zs a1 n c1 zs _ r3 r1).mono ?_
    rintro e w6 ⟨rfl, b6⟩
    have r1 := r1.below b6
    have r3 := r3.below b6
    have r5 := r5.below b6
    have b1 := b1.trans (b6.mono b1.size)
    clear b6
    cases n with
    | zero =>
      have hz : zs = [] := List.eq_nil_of_length_eq_zero r1.len
      subst hz
      go_wp2_with fail
      refine (eq_any _ _ _ _ _ _ _ _ _ r5 r3).mono ?_
      rintro e w7 ⟨rfl, b7⟩
      have b1 := b1.trans (b7.mono b1.size)
      go_wp2_with fail
      go_ret
      exact ⟨by rw [trim_nil]; rfl, b1⟩
    | succ k =>
      obtain ⟨b, o, hx, hc⟩ := r1.pos (by omega)
      subst hx
      have hck := hc k (by omega)
      have hlast := last_getD zs k r1.len
      have heq := eq_trim zs
      rw [hlast] at heq
      obtain ⟨u, hu⟩ : ∃ u, u = zs.getD k 0 := ⟨_, rfl⟩
      rw [← hu] at hck heq
      have HEQ : Hid ((trim 13 zs == zs) = !(u == 13)) := heq
      clear heq hlast hu hc
      have hk0 : (0 : Int) < (k : Int) + 1 := by omega
      go_wp2_with fail
      refine (eq_any _ _ _ _ _ _ _ _ _ r5 r3).mono ?_
      rintro e w7 ⟨rfl, b7⟩
      have b1 := b1.trans (b7.mono b1.size)
      rw [HEQ.out]
      go_wp2_with fail
      go_ret
      exact ⟨by simp, b1⟩
  · go_enter Try.func3, Try.ntmps3
    go_wp2_with fail
    refine (bytes1_no ao n c w (by omega)).mono ?_
    rintro e w' ⟨rfl, rfl⟩
    go_wp2_with fail
    go_ret
    exact ⟨rfl, Below.refl _ _⟩

theorem bytes2_yes (ao : Option Addr) (n c : Nat) (bo : Option Addr) (m d : Nat) (w : World) (h : n + m ≤ 1048576) :
    Calls Try.prog 10 #[.slice ao n c, .slice bo m d] w fun e w' => e = .returned (.bool true) ∧ w' = w := by
  have h1 : ¬ (1048576 : Int) < (n : Int) := by omega
  have h2 : ¬ (1048576 : Int) < (m : Int) := by omega
  have h3 : ¬ (1048576 : Int) < (n : Int) + (m : Int) := by omega
  go_enter Try.func10, Try.ntmps10
  go_wp2
  go_ret
  exact ⟨rfl, rfl⟩

theorem bytes2_no (ao : Option Addr) (n c : Nat) (bo : Option Addr) (m d : Nat) (w : World) (h : 1048576 < n + m) :
    Calls Try.prog 10 #[.slice ao n c, .slice bo m d] w fun e w' => e = .returned (.bool false) ∧ w' = w := by
  by_cases h1 : (1048576 : Int) < (n : Int)
  · go_enter Try.func10, Try.ntmps10
    go_wp2
    go_ret
    exact ⟨rfl, rfl⟩
  by_cases h2 : (1048576 : Int) < (m : Int)
  · go_enter Try.func10, Try.ntmps10
    go_wp2
    go_ret
    exact ⟨rfl, rfl⟩
  have h3 : (1048576 : Int) < (n : Int) + (m : Int) := by omega
  go_enter Try.func10, Try.ntmps10
  go_wp2
  go_ret
  exact ⟨rfl, rfl⟩

set_option maxHeartbeats 1000000 in
theorem looks (ao : Option Addr) (n c : Nat) (xs : List Int) (bo : Option Addr) (m d : Nat) (ys : List Int) (w : World) (h : Row w ao n c xs) (g : Row w bo m d ys) :
    Calls Try.prog 4 #[.slice ao n c, .slice bo m d] w fun e w' => e = .returned (.bool true) ∧ Below w.heap.size w w' := by
  by_cases hn : n + m ≤ 1048576
  · have hn' : ¬ (1048576 : Int) < (n : Int) := by omega
    have hm' : ¬ (1048576 : Int) - (n : Int) < (m : Int) := by omega
    go_enter Try.func4, Try.ntmps4
    go_wp2_with fail
    refine (bytes2_yes ao n c bo m d w hn).mono ?_
    rintro e w' ⟨rfl, rfl⟩
    go_wp2_with fail
    refine (clone_any ao n c xs _ h (by omega)).mono ?_
    rintro e w1 ⟨a1, c1, rfl, r1, b1⟩
    have g1 := g.below b1
    go_wp2_with fail
    refine (clone_any bo m d ys _ g1 (by omega)).mono ?_
    rintro e w2 ⟨a2, c2, rfl, r2, b2⟩
    have r1 := r1.below b2
    have b1 := b1.trans (b2.mono b1.size)
    clear b2 g1
    go_wp2_with fail
    refine (cat_any a1 n c1 xs a2 m c2 ys _ r1 r2 (by omega) (by omega)).mono ?_
    rintro e w3 ⟨a3, c3, rfl, r3, b3⟩
    have r1 := r1.below b3
    have r2 := r2.below b3
    have b1 := b1.trans (b3.mono b1.size)
    clear b3
    by_cases hm2 : 2 ≤ m
    · have hm2' : (2 : Int) ≤ (m : Int) := by omega
      go_wp2_with fail
      refine (cat_any a1 n c1 xs a2 m c2 ys _ r1 r2 (by omega) (by omega)).mono ?_
      rintro e w4 ⟨a4, c4, rfl, r4, b4⟩
      have r1 := r1.below b4
      have r2 := r2.below b4
      have r3 := r3.below b4
      have b1 := b1.trans (b4.mono b1.size)
      clear b4
      go_wp2_with fail
      refine (zzline_any a4 _ c4 _ _ r4).mono ?_
      rintro e w5 ⟨n5, rfl, r5, b5⟩
      rw [line_append _ _ (by rw [r2.len]; exact hm2)] at r5
      have r1 := r1.below b5
      have r2 := r2.below b5
      have r3 := r3.below b5
      have b1 := b1.trans (b5.mono b1.size)
      clear b5 r4
      go_wp2_with fail
      refine (clone_any a2 m c2 ys _ r2 (by omega)).mono ?_
      rintro e w6 ⟨a6, c6, rfl, r6, b6⟩
      have r1 := r1.below b6
      have r3 := r3.below b6
      have r5 := r5.below b6
      have b1 := b1.trans (b6.mono b1.size)
      clear b6 r2
      go_wp2_with fail
      refine (zzline_any a6 _ c6 _ _ r6).mono ?_
      rintro e w7 ⟨n7, rfl, r7, b7⟩
      have hn7 : n7 ≤ m := by
        rw [← r7.len, ← r6.len]
        exact line_le ys
      have r1 := r1.below b7
      have r3 := r3.below b7
      have r5 := r5.below b7
      have b1 := b1.trans (b7.mono b1.size)
      clear b7 r6
      go_wp2_with fail
      refine (cat_any a1 n c1 xs a6 n7 c6 _ _ r1 r7 (by omega) (by omega)).mono ?_
      rintro e w8 ⟨a8, c8, rfl, r8, b8⟩
      have r3 := r3.below b8
      have r5 := r5.below b8
      have b1 := b1.trans (b8.mono b1.size)
      clear b8 r7 r1
      go_wp2_with fail
      refine (eq_any _ _ _ _ _ _ _ _ _ r5 r8).mono ?_
      rintro e w9 ⟨rfl, b9⟩
      have r3 := r3.below b9
      have b1 := b1.trans (b9.mono b1.size)
      clear b9 r5 r8
      go_wp2_with fail
      have L2 := Row.lit w9 [13, 10] (0, 0) 2 rfl (by simp) (by simp [maxLen])
      have B2 : Below w9.heap.size w9 (w9.alloc (.cells #[.int .u8 13, .int .u8 10] 5)) := (Below.refl _ _).alloc (Nat.le_refl _) _
      refine (cat_any a3 _ c3 (xs ++ ys) _ 2 2 [13, 10] _ (r3.below B2) L2 (by omega) (by omega)).mono ?_
      rintro e wa ⟨aa, ca, rfl, ra, ba⟩
      have ba := B2.trans (ba.mono B2.size)
      have r3 := r3.below ba
      have b1 := b1.trans (ba.mono b1.size)
      clear L2 B2 ba
      go_wp2_with fail
      refine (zzline_any aa _ ca _ _ ra).mono ?_
      rintro e wb ⟨nb, rfl, rb, bb⟩
      rw [line_crlf] at rb
      have r3 := r3.below bb
      have b1 := b1.trans (bb.mono b1.size)
      clear ra bb
      go_wp2_with fail
      refine (eq_any _ _ _ _ _ _ _ _ _ rb r3).mono ?_
      rintro e wc ⟨rfl, bc⟩
      have b1 := b1.trans (bc.mono b1.size)
      go_wp2_with fail
      go_ret
      exact ⟨by simp, b1⟩
    · have hm2' : ¬ (2 : Int) ≤ (m : Int) := by omega
      go_wp2_with fail
      have L2 := Row.lit w3 [13, 10] (0, 0) 2 rfl (by simp) (by simp [maxLen])
      have B2 : Below w3.heap.size w3 (w3.alloc (.cells #[.int .u8 13, .int .u8 10] 5)) := (Below.refl _ _).alloc (Nat.le_refl _) _
      refine (cat_any a3 _ c3 (xs ++ ys) _ 2 2 [13, 10] _ (r3.below B2) L2 (by omega) (by omega)).mono ?_
      rintro e wa ⟨aa, ca, rfl, ra, ba⟩
      have ba := B2.trans (ba.mono B2.size)
      have r3 := r3.below ba
      have b1 := b1.trans (ba.mono b1.size)
      clear L2 B2 ba
      go_wp2_with fail
      refine (zzline_any aa _ ca _ _ ra).mono ?_
      rintro e wb ⟨nb, rfl, rb, bb⟩
      rw [line_crlf] at rb
      have r3 := r3.below bb
      have b1 := b1.trans (bb.mono b1.size)
      clear ra bb
      go_wp2_with fail
      refine (eq_any _ _ _ _ _ _ _ _ _ rb r3).mono ?_
      rintro e wc ⟨rfl, bc⟩
      have b1 := b1.trans (bc.mono b1.size)
      go_wp2_with fail
      go_ret
      exact ⟨by simp, b1⟩
  · go_enter Try.func4, Try.ntmps4
    go_wp2_with fail
    refine (bytes2_no ao n c bo m d w (by omega)).mono ?_
    rintro e w' ⟨rfl, rfl⟩
    go_wp2_with fail
    go_ret
    exact ⟨rfl, Below.refl _ _⟩
end Go.Proofs.Qxb6616814a.Walk3
