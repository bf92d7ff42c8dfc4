/-
  THE HELPERS THAT COUNT: zzAdd, zzStrsBytes: whatever they answer.
-/
import Derived.Test.Qxb6616893aProg
import Derived.Test.Qxb6616893aParts
import Derived.RegionTactic
namespace Go.Proofs.Qxb6616893a.Walk1
open Go Go.RowKit Go.Proofs.Qxb6616893a.Parts

set_option maxHeartbeats 400000 in
theorem add_any (a n : Int) (w : World) :
    Calls Try.prog 7 #[.int .i64 a, .int .i64 n] w fun e w' => (∃ z, e = .returned (.int .i64 z)) ∧ w' = w := by
  go_enter Try.func7, Try.ntmps7
  go_wp2
  all_goals
    go_ret
    exact ⟨⟨_, rfl⟩, rfl⟩

set_option maxHeartbeats 400000 in
theorem strs_any (a : Int) (ao : Option Addr) (n c : Nat) (ss : List ByteArray) (w : World) (h : SRow w ao n c ss) :
    Calls Try.prog 8 #[.int .i64 a, .slice ao n c] w fun e w' => (∃ z, e = .returned (.int .i64 z)) ∧ w' = w := by
  by_cases hn : (1048576 : Int) < (n : Int)
  · go_enter Try.func8, Try.ntmps8
    go_wp2
    go_ret
    exact ⟨⟨_, rfl⟩, rfl⟩
  · go_enter Try.func8, Try.ntmps8
    go_wp2_with fail
    refine (add_any _ _ _).mono ?_
    rintro e w' ⟨⟨z0, rfl⟩, rfl⟩
    go_wp2_with fail
    go_loop [0, 5] (fun a i => ∃ (z : Int) (k : Nat), k ≤ n ∧ a = .int .i64 z ∧ i = .int .i64 k) (fun _ i => n - (intOf i).toNat)
    case atStart => exact ⟨_, 0, Nat.zero_le _, rfl, rfl⟩
    case round =>
      obtain ⟨z, k, hk, rfl, rfl⟩ := hrel
      by_cases hlt : k < n
      · have hlt' : (k : Int) < (n : Int) := by omega
        by_cases hz : z ≤ 1048576
        · obtain ⟨b, o, hx, hc⟩ := h.pos (by omega)
          subst hx
          have hck := hc k hlt
          obtain ⟨u, hu⟩ : ∃ u, u = ss.getD k ByteArray.empty := ⟨_, rfl⟩
          rw [← hu] at hck
          clear hu hc
          go_wp2_with fail
          refine (add_any _ _ _).mono ?_
          rintro e w' ⟨⟨z1, rfl⟩, rfl⟩
          go_wp2_with fail
          go_round
          case rel => exact ⟨z1, k + 1, by omega, rfl, by go_num⟩
          case measure => simp [intOf]; omega
        · have hz' : decide (z ≤ 1048576) = false := by simpa using hz
          go_wp2_with fail
          go_ret
          exact ⟨⟨_, rfl⟩, rfl⟩
      · go_wp2_with fail
        go_ret
        exact ⟨⟨_, rfl⟩, rfl⟩
end Go.Proofs.Qxb6616893a.Walk1
