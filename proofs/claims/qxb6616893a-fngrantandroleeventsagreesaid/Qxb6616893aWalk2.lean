/-
  THE BOUNDS LAID BY PROGRAM (zzBytes_..): whatever they answer. (Written by a small program of the prover's.)
-/
import Derived.Test.Qxb6616893aProg
import Derived.Test.Qxb6616893aParts
namespace Go.Proofs.Qxb6616893a.Walk2
open Go Go.RowKit Go.Proofs.Qxb6616893a.Parts

/-- It answers a bool, whichever. -/
def SomeBool (e : Ending) : Prop := ∃ b, e = .returned (.bool b)
theorem someBool (b : Bool) : SomeBool (.returned (.bool b)) := ⟨b, rfl⟩

set_option maxHeartbeats 2000000 in
theorem bytes6 (s0 : ByteArray) (s1 : ByteArray) (s2 : ByteArray) (s3 : ByteArray) (s4 : ByteArray) (a0 : Option Addr) (n0 c0 : Nat) (l0 : List ByteArray) (a1 : Option Addr) (n1 c1 : Nat) (l1 : List ByteArray) (w : World) (h0 : SRow w a0 n0 c0 l0) (h1 : SRow w a1 n1 c1 l1) :
    Calls Try.prog 6 #[.string s0, .string s1, .string s2, .string s3, .string s4, .slice a0 n0 c0, .slice a1 n1 c1] w fun e w' => SomeBool e ∧ w' = w := by
  have hb0 : n0 ≤ 9223372036854775807 := Nat.le_trans h0.cap (by have := h0.big; unfold maxLen at this; exact this)
  have hb1 : n1 ≤ 9223372036854775807 := Nat.le_trans h1.cap (by have := h1.big; unfold maxLen at this; exact this)
  go_enter Try.func6, Try.ntmps6
  go_wp2
  any_goals (go_ret; exact ⟨someBool _, rfl⟩)
  go_loop [15, 16] (fun a i => ∃ (z : Int) (k : Nat), k ≤ n0 ∧ a = .int .i64 z ∧ i = .int .i64 k) (fun _ i => n0 - (intOf i).toNat)
  case atStart => exact ⟨_, 0, Nat.zero_le _, rfl, rfl⟩
  case round =>
    obtain ⟨z, k, hk, rfl, rfl⟩ := hrel
    by_cases hlt : k < n0
    · obtain ⟨b, o, hx, hc⟩ := h0.pos (by omega)
      subst hx
      have hlt' : (k : Int) < (n0 : Int) := by omega
      have hck := hc k hlt
      obtain ⟨u, hu⟩ : ∃ u, u = l0.getD k ByteArray.empty := ⟨_, rfl⟩
      rw [← hu] at hck
      clear hu hc
      go_wp2
      any_goals (go_ret; exact ⟨someBool _, rfl⟩)
      go_round
      case rel => exact ⟨wrap64 (z + (u.size : Int)), k + 1, by omega, rfl, by go_num⟩
      case measure => simp [intOf]; omega
    · have hlt' : ¬ (k : Int) < (n0 : Int) := by omega
      clear hk hlt
      go_wp2
      any_goals (go_ret; exact ⟨someBool _, rfl⟩)
      go_loop [15, 17] (fun a i => ∃ (z : Int) (k : Nat), k ≤ n1 ∧ a = .int .i64 z ∧ i = .int .i64 k) (fun _ i => n1 - (intOf i).toNat)
      case atStart => exact ⟨_, 0, Nat.zero_le _, rfl, rfl⟩
      case round =>
        obtain ⟨z, k, hk, rfl, rfl⟩ := hrel
        by_cases hlt : k < n1
        · obtain ⟨b, o, hx, hc⟩ := h1.pos (by omega)
          subst hx
          have hlt' : (k : Int) < (n1 : Int) := by omega
          have hck := hc k hlt
          obtain ⟨u, hu⟩ : ∃ u, u = l1.getD k ByteArray.empty := ⟨_, rfl⟩
          rw [← hu] at hck
          clear hu hc
          go_wp2
          any_goals (go_ret; exact ⟨someBool _, rfl⟩)
          go_round
          case rel => exact ⟨wrap64 (z + (u.size : Int)), k + 1, by omega, rfl, by go_num⟩
          case measure => simp [intOf]; omega
        · have hlt' : ¬ (k : Int) < (n1 : Int) := by omega
          clear hk hlt
          go_wp2
          all_goals (go_ret; exact ⟨someBool _, rfl⟩)

set_option maxHeartbeats 2000000 in
theorem bytes21 (s0 : ByteArray) (s1 : ByteArray) (s2 : ByteArray) (s3 : ByteArray) (a0 : Option Addr) (n0 c0 : Nat) (l0 : List ByteArray) (a1 : Option Addr) (n1 c1 : Nat) (l1 : List ByteArray) (a2 : Option Addr) (n2 c2 : Nat) (l2 : List ByteArray) (w : World) (h0 : SRow w a0 n0 c0 l0) (h1 : SRow w a1 n1 c1 l1) (h2 : SRow w a2 n2 c2 l2) :
    Calls Try.prog 21 #[.string s0, .string s1, .string s2, .string s3, .slice a0 n0 c0, .slice a1 n1 c1, .slice a2 n2 c2] w fun e w' => SomeBool e ∧ w' = w := by
  have hb0 : n0 ≤ 9223372036854775807 := Nat.le_trans h0.cap (by have := h0.big; unfold maxLen at this; exact this)
  have hb1 : n1 ≤ 9223372036854775807 := Nat.le_trans h1.cap (by have := h1.big; unfold maxLen at this; exact this)
  have hb2 : n2 ≤ 9223372036854775807 := Nat.le_trans h2.cap (by have := h2.big; unfold maxLen at this; exact this)
  go_enter Try.func21, Try.ntmps21
  go_wp2
  any_goals (go_ret; exact ⟨someBool _, rfl⟩)
  go_loop [15, 16] (fun a i => ∃ (z : Int) (k : Nat), k ≤ n0 ∧ a = .int .i64 z ∧ i = .int .i64 k) (fun _ i => n0 - (intOf i).toNat)
  case atStart => exact ⟨_, 0, Nat.zero_le _, rfl, rfl⟩
  case round =>
    obtain ⟨z, k, hk, rfl, rfl⟩ := hrel
    by_cases hlt : k < n0
    · obtain ⟨b, o, hx, hc⟩ := h0.pos (by omega)
      subst hx
      have hlt' : (k : Int) < (n0 : Int) := by omega
      have hck := hc k hlt
      obtain ⟨u, hu⟩ : ∃ u, u = l0.getD k ByteArray.empty := ⟨_, rfl⟩
      rw [← hu] at hck
      clear hu hc
      go_wp2
      any_goals (go_ret; exact ⟨someBool _, rfl⟩)
      go_round
      case rel => exact ⟨wrap64 (z + (u.size : Int)), k + 1, by omega, rfl, by go_num⟩
      case measure => simp [intOf]; omega
    · have hlt' : ¬ (k : Int) < (n0 : Int) := by omega
      clear hk hlt
      go_wp2
      any_goals (go_ret; exact ⟨someBool _, rfl⟩)
      go_loop [15, 17] (fun a i => ∃ (z : Int) (k : Nat), k ≤ n1 ∧ a = .int .i64 z ∧ i = .int .i64 k) (fun _ i => n1 - (intOf i).toNat)
      case atStart => exact ⟨_, 0, Nat.zero_le _, rfl, rfl⟩
      case round =>
        obtain ⟨z, k, hk, rfl, rfl⟩ := hrel
        by_cases hlt : k < n1
        · obtain ⟨b, o, hx, hc⟩ := h1.pos (by omega)
          subst hx
          have hlt' : (k : Int) < (n1 : Int) := by omega
          have hck := hc k hlt
          obtain ⟨u, hu⟩ : ∃ u, u = l1.getD k ByteArray.empty := ⟨_, rfl⟩
          rw [← hu] at hck
          clear hu hc
          go_wp2
          any_goals (go_ret; exact ⟨someBool _, rfl⟩)
          go_round
          case rel => exact ⟨wrap64 (z + (u.size : Int)), k + 1, by omega, rfl, by go_num⟩
          case measure => simp [intOf]; omega
        · have hlt' : ¬ (k : Int) < (n1 : Int) := by omega
          clear hk hlt
          go_wp2
          any_goals (go_ret; exact ⟨someBool _, rfl⟩)
          go_loop [15, 18] (fun a i => ∃ (z : Int) (k : Nat), k ≤ n2 ∧ a = .int .i64 z ∧ i = .int .i64 k) (fun _ i => n2 - (intOf i).toNat)
          case atStart => exact ⟨_, 0, Nat.zero_le _, rfl, rfl⟩
          case round =>
            obtain ⟨z, k, hk, rfl, rfl⟩ := hrel
            by_cases hlt : k < n2
            · obtain ⟨b, o, hx, hc⟩ := h2.pos (by omega)
              subst hx
              have hlt' : (k : Int) < (n2 : Int) := by omega
              have hck := hc k hlt
              obtain ⟨u, hu⟩ : ∃ u, u = l2.getD k ByteArray.empty := ⟨_, rfl⟩
              rw [← hu] at hck
              clear hu hc
              go_wp2
              any_goals (go_ret; exact ⟨someBool _, rfl⟩)
              go_round
              case rel => exact ⟨wrap64 (z + (u.size : Int)), k + 1, by omega, rfl, by go_num⟩
              case measure => simp [intOf]; omega
            · have hlt' : ¬ (k : Int) < (n2 : Int) := by omega
              clear hk hlt
              go_wp2
              all_goals (go_ret; exact ⟨someBool _, rfl⟩)

set_option maxHeartbeats 2000000 in
theorem bytes15 (s0 : ByteArray) (s1 : ByteArray) (s2 : ByteArray) (a0 : Option Addr) (n0 c0 : Nat) (l0 : List ByteArray) (a1 : Option Addr) (n1 c1 : Nat) (l1 : List ByteArray) (a2 : Option Addr) (n2 c2 : Nat) (l2 : List ByteArray) (a3 : Option Addr) (n3 c3 : Nat) (l3 : List ByteArray) (w : World) (h0 : SRow w a0 n0 c0 l0) (h1 : SRow w a1 n1 c1 l1) (h2 : SRow w a2 n2 c2 l2) (h3 : SRow w a3 n3 c3 l3) :
    Calls Try.prog 15 #[.string s0, .string s1, .string s2, .slice a0 n0 c0, .slice a1 n1 c1, .slice a2 n2 c2, .slice a3 n3 c3] w fun e w' => SomeBool e ∧ w' = w := by
  have hb0 : n0 ≤ 9223372036854775807 := Nat.le_trans h0.cap (by have := h0.big; unfold maxLen at this; exact this)
  have hb1 : n1 ≤ 9223372036854775807 := Nat.le_trans h1.cap (by have := h1.big; unfold maxLen at this; exact this)
  have hb2 : n2 ≤ 9223372036854775807 := Nat.le_trans h2.cap (by have := h2.big; unfold maxLen at this; exact this)
  have hb3 : n3 ≤ 9223372036854775807 := Nat.le_trans h3.cap (by have := h3.big; unfold maxLen at this; exact this)
  go_enter Try.func15, Try.ntmps15
  go_wp2
  any_goals (go_ret; exact ⟨someBool _, rfl⟩)
  go_loop [15, 16] (fun a i => ∃ (z : Int) (k : Nat), k ≤ n0 ∧ a = .int .i64 z ∧ i = .int .i64 k) (fun _ i => n0 - (intOf i).toNat)
  case atStart => exact ⟨_, 0, Nat.zero_le _, rfl, rfl⟩
  case round =>
    obtain ⟨z, k, hk, rfl, rfl⟩ := hrel
    by_cases hlt : k < n0
    · obtain ⟨b, o, hx, hc⟩ := h0.pos (by omega)
      subst hx
      have hlt' : (k : Int) < (n0 : Int) := by omega
      have hck := hc k hlt
      obtain ⟨u, hu⟩ : ∃ u, u = l0.getD k ByteArray.empty := ⟨_, rfl⟩
      rw [← hu] at hck
      clear hu hc
      go_wp2
      any_goals (go_ret; exact ⟨someBool _, rfl⟩)
      go_round
      case rel => exact ⟨wrap64 (z + (u.size : Int)), k + 1, by omega, rfl, by go_num⟩
      case measure => simp [intOf]; omega
    · have hlt' : ¬ (k : Int) < (n0 : Int) := by omega
      clear hk hlt
      go_wp2
      any_goals (go_ret; exact ⟨someBool _, rfl⟩)
      go_loop [15, 17] (fun a i => ∃ (z : Int) (k : Nat), k ≤ n1 ∧ a = .int .i64 z ∧ i = .int .i64 k) (fun _ i => n1 - (intOf i).toNat)
      case atStart => exact ⟨_, 0, Nat.zero_le _, rfl, rfl⟩
      case round =>
        obtain ⟨z, k, hk, rfl, rfl⟩ := hrel
        by_cases hlt : k < n1
        · obtain ⟨b, o, hx, hc⟩ := h1.pos (by omega)
          subst hx
          have hlt' : (k : Int) < (n1 : Int) := by omega
          have hck := hc k hlt
          obtain ⟨u, hu⟩ : ∃ u, u = l1.getD k ByteArray.empty := ⟨_, rfl⟩
          rw [← hu] at hck
          clear hu hc
          go_wp2
          any_goals (go_ret; exact ⟨someBool _, rfl⟩)
          go_round
          case rel => exact ⟨wrap64 (z + (u.size : Int)), k + 1, by omega, rfl, by go_num⟩
          case measure => simp [intOf]; omega
        · have hlt' : ¬ (k : Int) < (n1 : Int) := by omega
          clear hk hlt
          go_wp2
          any_goals (go_ret; exact ⟨someBool _, rfl⟩)
          go_loop [15, 18] (fun a i => ∃ (z : Int) (k : Nat), k ≤ n2 ∧ a = .int .i64 z ∧ i = .int .i64 k) (fun _ i => n2 - (intOf i).toNat)
          case atStart => exact ⟨_, 0, Nat.zero_le _, rfl, rfl⟩
          case round =>
            obtain ⟨z, k, hk, rfl, rfl⟩ := hrel
            by_cases hlt : k < n2
            · obtain ⟨b, o, hx, hc⟩ := h2.pos (by omega)
              subst hx
              have hlt' : (k : Int) < (n2 : Int) := by omega
              have hck := hc k hlt
              obtain ⟨u, hu⟩ : ∃ u, u = l2.getD k ByteArray.empty := ⟨_, rfl⟩
              rw [← hu] at hck
              clear hu hc
              go_wp2
              any_goals (go_ret; exact ⟨someBool _, rfl⟩)
              go_round
              case rel => exact ⟨wrap64 (z + (u.size : Int)), k + 1, by omega, rfl, by go_num⟩
              case measure => simp [intOf]; omega
            · have hlt' : ¬ (k : Int) < (n2 : Int) := by omega
              clear hk hlt
              go_wp2
              any_goals (go_ret; exact ⟨someBool _, rfl⟩)
              go_loop [15, 19] (fun a i => ∃ (z : Int) (k : Nat), k ≤ n3 ∧ a = .int .i64 z ∧ i = .int .i64 k) (fun _ i => n3 - (intOf i).toNat)
              case atStart => exact ⟨_, 0, Nat.zero_le _, rfl, rfl⟩
              case round =>
                obtain ⟨z, k, hk, rfl, rfl⟩ := hrel
                by_cases hlt : k < n3
                · obtain ⟨b, o, hx, hc⟩ := h3.pos (by omega)
                  subst hx
                  have hlt' : (k : Int) < (n3 : Int) := by omega
                  have hck := hc k hlt
                  obtain ⟨u, hu⟩ : ∃ u, u = l3.getD k ByteArray.empty := ⟨_, rfl⟩
                  rw [← hu] at hck
                  clear hu hc
                  go_wp2
                  any_goals (go_ret; exact ⟨someBool _, rfl⟩)
                  go_round
                  case rel => exact ⟨wrap64 (z + (u.size : Int)), k + 1, by omega, rfl, by go_num⟩
                  case measure => simp [intOf]; omega
                · have hlt' : ¬ (k : Int) < (n3 : Int) := by omega
                  clear hk hlt
                  go_wp2
                  all_goals (go_ret; exact ⟨someBool _, rfl⟩)
end Go.Proofs.Qxb6616893a.Walk2
