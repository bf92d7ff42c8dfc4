/-
  THE ROAD OF lineText: bytes.Equal, bytes.HasSuffix, bytes.TrimSuffix at a suffix of one byte; lineText; ZZlineText.
-/
import Derived.Test.Qxb6616814aProg
import Derived.Test.Qxb6616814aParts
import Derived.Lib.SlBytesConst
import Derived.Laws.BytesArg
import Derived.Lib.Bytes
namespace Go.Proofs.Qxb6616814a.Walk2
open Go Go.RowKit Go.Proofs.Qxb6616814a.Parts

theorem strOf_one (u q : Int) (hu : 0 ≤ u ∧ u ≤ 255) (hq : 0 ≤ q ∧ q ≤ 255) : ((strOfNums [u]).toList == (strOfNums [q]).toList) = (u == q) := by
  rw [Lib.strOfNums_toList, Lib.strOfNums_toList, Bool.eq_iff_iff, beq_iff_eq, beq_iff_eq]
  constructor
  · intro h1
    simp only [Lib.bytesOf, List.map_cons, List.map_nil, List.cons.injEq, and_true] at h1
    have h2 := congrArg UInt8.toNat h1
    simp at h2
    omega
  · intro h
    rw [h]

set_option maxHeartbeats 400000 in
theorem equal_one (b o c : Nat) (u : Int) (b2 o2 d : Nat) (q : Int) (w : World) (h1 : w.cell? ⟨b, o, none⟩ = some (.int .u8 u)) (h2 : w.cell? ⟨b2, o2, none⟩ = some (.int .u8 q)) (hu : 0 ≤ u ∧ u ≤ 255) (hq : 0 ≤ q ∧ q ≤ 255) :
    Calls Try.prog 14 #[.slice (some ⟨b, o, none⟩) 1 c, .slice (some ⟨b2, o2, none⟩) 1 d] w fun e w' => e = .returned (.bool (u == q)) ∧ w' = w := by
  have g1 := run_convert_bytes_arg (P := Try.prog) w 22 5 Try.underlying22 Try.underlying5 b o 1 c [u] rfl (fun i hi => by have hi0 : i = 0 := (by omega); subst hi0; exact h1) 9 Try.underlying9
  have g2 := run_convert_bytes_arg (P := Try.prog) w 22 5 Try.underlying22 Try.underlying5 b2 o2 1 d [q] rfl (fun i hi => by have hi0 : i = 0 := (by omega); subst hi0; exact h2) 9 Try.underlying9
  rw [← strOf_one u q hu hq]
  obtain ⟨s1, hs1⟩ : ∃ s, s = strOfNums [u] := ⟨_, rfl⟩
  obtain ⟨s2, hs2⟩ : ∃ s, s = strOfNums [q] := ⟨_, rfl⟩
  rw [← hs1] at g1 ⊢
  rw [← hs2] at g2 ⊢
  clear hs1 hs2
  go_enter Try.func14, Try.ntmps14
  go_wp2
  go_ret
  exact ⟨rfl, rfl⟩

set_option maxHeartbeats 400000 in
theorem suffix_no (ao : Option Addr) (c : Nat) (b2 d : Nat) (w : World) :
    Calls Try.prog 13 #[.slice ao 0 c, .slice (some ⟨b2, 0, none⟩) 1 d] w fun e w' => e = .returned (.bool false) ∧ w' = w := by
  go_enter Try.func13, Try.ntmps13
  go_wp2
  go_ret
  exact ⟨rfl, rfl⟩

set_option maxHeartbeats 400000 in
theorem suffix_one (b o k c : Nat) (u : Int) (b2 d : Nat) (q : Int) (w : World) (hk : k < c) (hc : c ≤ maxLen) (h1 : w.cell? ⟨b, o + k, none⟩ = some (.int .u8 u)) (h2 : w.cell? ⟨b2, 0, none⟩ = some (.int .u8 q)) (hu : 0 ≤ u ∧ u ≤ 255) (hq : 0 ≤ q ∧ q ≤ 255) :
    Calls Try.prog 13 #[.slice (some ⟨b, o, none⟩) (k + 1) c, .slice (some ⟨b2, 0, none⟩) 1 d] w fun e w' => e = .returned (.bool (u == q)) ∧ w' = w := by
  unfold maxLen at hc
  have hck : ¬ c = k := by omega
  have hk1 : (1 : Int) ≤ (k : Int) + 1 := by omega
  go_enter Try.func13, Try.ntmps13
  go_wp2_with fail
  refine (equal_one _ _ _ u _ _ _ q _ h1 h2 hu hq).mono ?_
  rintro e w' ⟨rfl, rfl⟩
  go_wp2_with fail
  go_ret
  exact ⟨rfl, rfl⟩

set_option maxHeartbeats 400000 in
theorem trim_any (ao : Option Addr) (n c : Nat) (zs : List Int) (b2 d : Nat) (q : Int) (w : World) (h : Row w ao n c zs) (h2 : w.cell? ⟨b2, 0, none⟩ = some (.int .u8 q)) (hq : 0 ≤ q ∧ q ≤ 255) :
    Calls Try.prog 12 #[.slice ao n c, .slice (some ⟨b2, 0, none⟩) 1 d] w fun e w' => (∃ n', e = .returned (.slice ao n' c) ∧ Row w ao n' c (trim q zs)) ∧ w' = w := by
  cases n with
  | zero =>
    have hz : zs = [] := List.eq_nil_of_length_eq_zero h.len
    go_enter Try.func12, Try.ntmps12
    go_wp2_with fail
    refine (suffix_no ao c b2 d w).mono ?_
    rintro e w' ⟨rfl, rfl⟩
    go_wp2_with fail
    go_ret
    exact ⟨⟨0, rfl, by rw [hz, trim_nil, ← hz]; exact h⟩, rfl⟩
  | succ k =>
    obtain ⟨b, o, hx, hc⟩ := h.pos (by omega)
    subst hx
    have hcap := h.cap
    have hbig := h.big
    have hu := h.bounds k (by omega)
    have h1 := hc k (by omega)
    obtain ⟨u, eu⟩ : ∃ u, u = zs.getD k 0 := ⟨_, rfl⟩
    rw [← eu] at h1 hu
    by_cases huq : u = q
    · have ht : Row w (some ⟨b, o, none⟩) k c (trim q zs) := by
        rw [trim_yes q zs k h.len (by rw [← eu]; exact huq)]
        refine ⟨by rw [List.length_take, h.len]; omega, by omega, hbig, by simp, .inr ⟨b, o, rfl, fun i hi => ?_⟩, fun z hz => h.byte z (List.mem_of_mem_take hz)⟩
        rw [hc i (by omega)]
        simp [List.getD, hi]
      have hb : (u == q) = true := by simp [huq]
      have hs := suffix_one b o k c u b2 d q w (by omega) hbig h1 h2 hu hq
      rw [hb] at hs
      have HS : Hid _ := hs
      unfold maxLen at hbig
      have hkc : (k : Int) ≤ (c : Int) := by omega
      clear hs huq hb eu hc
      go_enter Try.func12, Try.ntmps12
      go_wp2_with fail
      refine Calls.mono HS.out ?_
      rintro e w' ⟨rfl, rfl⟩
      go_wp2_with fail
      go_ret
      exact ⟨⟨k, rfl, ht⟩, rfl⟩
    · have ht : Row w (some ⟨b, o, none⟩) (k + 1) c (trim q zs) := by
        rw [trim_no q zs k h.len (by rw [← eu]; exact huq)]
        exact h
      have hb : (u == q) = false := by simp [huq]
      have hs := suffix_one b o k c u b2 d q w (by omega) hbig h1 h2 hu hq
      rw [hb] at hs
      have HS : Hid _ := hs
      clear hs huq hb eu hc
      go_enter Try.func12, Try.ntmps12
      go_wp2_with fail
      refine Calls.mono HS.out ?_
      rintro e w' ⟨rfl, rfl⟩
      go_wp2_with fail
      go_ret
      exact ⟨⟨k + 1, rfl, ht⟩, rfl⟩

/-- The same at a suffix that was laid just now, of any mark; the world behind it is any world. -/
theorem trim_lit (ao : Option Addr) (n c : Nat) (zs : List Int) (q : Int) (w : World) (h : Row w ao n c zs) (hq : 0 ≤ q ∧ q ≤ 255) :
    Calls Try.prog 12 #[.slice ao n c, .slice (some ⟨w.heap.size, 0, none⟩) 1 1] (w.alloc (.cells #[.int .u8 q] 5 (1, 2))) fun e w' => ∃ n', e = .returned (.slice ao n' c) ∧ Row w' ao n' c (trim q zs) ∧ Below w.heap.size w w' := by
  have hb0 : Below w.heap.size w (w.alloc (.cells #[.int .u8 q] 5 (1, 2))) := (Below.refl _ _).alloc (Nat.le_refl _) _
  refine (trim_any ao n c zs w.heap.size 1 q (w.alloc (.cells #[.int .u8 q] 5 (1, 2))) (h.below hb0) (World.cell?_alloc_mark _ _ _ _ _) hq).mono ?_
  rintro e w1 ⟨⟨n1, rfl, h1⟩, rfl⟩
  exact ⟨n1, rfl, h1, hb0⟩

set_option maxHeartbeats 400000 in
theorem line_any (ao : Option Addr) (n c : Nat) (zs : List Int) (w : World) (h : Row w ao n c zs) :
    Calls Try.prog 11 #[.slice ao n c] w fun e w' => ∃ n', e = .returned (.slice ao n' c) ∧ Row w' ao n' c (line zs) ∧ Below w.heap.size w w' := by
  have kc := fun (w : World) (C : Array Value) (n c : Nat) => Lib.run_convert_bytes_const (P := Try.prog) w 22 5 C n c Try.underlying22 Try.underlying5
  go_enter Try.func11, Try.ntmps11
  go_wp2_with fail
  refine (trim_lit ao n c zs 10 w h (by omega)).mono ?_
  rintro e w1 ⟨n1, rfl, h1, hb1⟩
  go_wp2_with fail
  refine (trim_lit ao n1 c _ 13 w1 h1 (by omega)).mono ?_
  rintro e w2 ⟨n2, rfl, h2, hb2⟩
  go_wp2_with fail
  go_ret
  exact ⟨n2, rfl, h2, hb1.trans (hb2.mono hb1.size)⟩

theorem zzline_any (ao : Option Addr) (n c : Nat) (zs : List Int) (w : World) (h : Row w ao n c zs) :
    Calls Try.prog 7 #[.slice ao n c] w fun e w' => ∃ n', e = .returned (.slice ao n' c) ∧ Row w' ao n' c (line zs) ∧ Below w.heap.size w w' := by
  go_enter Try.func7, Try.ntmps7
  go_wp2_with fail
  refine (line_any ao n c zs w h).mono ?_
  rintro e w1 ⟨n1, rfl, h1, hb⟩
  go_wp2_with fail
  go_ret
  exact ⟨n1, rfl, h1, hb⟩
end Go.Proofs.Qxb6616814a.Walk2
