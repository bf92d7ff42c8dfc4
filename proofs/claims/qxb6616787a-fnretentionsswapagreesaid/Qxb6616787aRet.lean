import Derived.Test.Qxb6616787aProg
import Derived.WalkKit
import Derived.ProofKit
namespace Go.Proofs.Qxb6616787a.Ret
open Go Go.Proofs.Qxb6616787a

/-- '(*Config).Retention' reads field 6 alone, times a thousand million. -/
theorem ret_any (b : Nat) (n : Int) (w : World) (hc : w.cell? ⟨b, 6, none⟩ = some (.int .i64 n)) (h1 : -9223372036 ≤ n) (h2 : n ≤ 9223372036) :
    Calls Try.prog 20 #[.pointer (some ⟨b, 0, none⟩)] w fun e w' => e = .returned (.int .i64 (n * 1000000000)) ∧ w' = w := by
  go_enter Try.func20, Try.ntmps20
  go_wp2
  go_ret
  exact ⟨rfl, rfl⟩

/-- '(*Config).AuditRetention' reads field 7 alone, times a thousand million. -/
theorem aud_any (b : Nat) (n : Int) (w : World) (hc : w.cell? ⟨b, 7, none⟩ = some (.int .i64 n)) (h1 : -9223372036 ≤ n) (h2 : n ≤ 9223372036) :
    Calls Try.prog 21 #[.pointer (some ⟨b, 0, none⟩)] w fun e w' => e = .returned (.int .i64 (n * 1000000000)) ∧ w' = w := by
  go_enter Try.func21, Try.ntmps21
  go_wp2
  go_ret
  exact ⟨rfl, rfl⟩
end Go.Proofs.Qxb6616787a.Ret
