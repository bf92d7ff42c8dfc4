/-
  WHAT IS ASKED OF AN EVENT: ZZDetailString, ZZDetailStrings, ZZDetailsLen, ZZDetailsNil, ZZTimeIsZero, zzShape, zzOtherKeysAgree.
-/
import Derived.Test.Qxb6616893aProg
import Derived.Test.Qxb6616893aParts
import Derived.Test.Qxb6616893aPlain
import Derived.Test.Qxb6616893aWalk3
import Derived.Test.Qxb6616893aWalk5
import Derived.WalkSpells
namespace Go.Proofs.Qxb6616893a.Walk6
open Go Go.RowKit Go.Maps Go.Proofs.Qxb6616893a.Parts Go.Proofs.Qxb6616893a.Walk4 Go.Proofs.Qxb6616893a.Walk5
open Go.Proofs.Qxb6616893a.Plain (kl F mem dist)

theorem zero20 (w : World) : (zeroValue 20).run Try.prog w = .ok .nilIface w := by kernel_rfl

theorem assert_str (w : World) (s : ByteArray) : (Instr.typeAssert (.iface 9 (.string s)) 20 9 true).run Try.prog w = .ok (.tuple #[.string s, .bool true]) w := by kernel_rfl
theorem assert_str_row (w : World) (s : ByteArray) : (Instr.typeAssert (.iface 9 (.string s)) 20 22 true).run Try.prog w = .ok (.tuple #[.slice none 0 0, .bool false]) w := by kernel_rfl
theorem assert_row (w : World) (v : Value) : (Instr.typeAssert (.iface 22 v) 20 22 true).run Try.prog w = .ok (.tuple #[v, .bool true]) w := by kernel_rfl

theorem look_some {w : World} {b n : Nat} {qs : List (ByteArray × Value)} (hm : w.ownsMap Try.prog 9 RD b n (F qs)) {k : ByteArray} (hk : k.size ≤ maxLen) {v : Value} (hl : Plain.look qs k = some v) :
    (Instr.lookup 32 (.map (some b)) (.string k) true).run Try.prog w = .ok (.tuple #[v, .bool true]) w := by
  obtain ⟨v', ps', hrun, hv⟩ := hm.look_ok law9 Try.underlying32 (zero20 w) (show RD .nilIface = some (.held .nilIface, []) from rfl) (key9 hk)
  rw [Plain.F_at, hl] at hv
  rw [Plain.F_has, hl] at hrun
  simp only [RD, Option.some.injEq, Prod.mk.injEq, DataW.held.injEq] at hv
  rw [← hv.1]
  exact hrun

theorem look_none {w : World} {b n : Nat} {qs : List (ByteArray × Value)} (hm : w.ownsMap Try.prog 9 RD b n (F qs)) {k : ByteArray} (hk : k.size ≤ maxLen) (hl : Plain.look qs k = none) :
    (Instr.lookup 32 (.map (some b)) (.string k) true).run Try.prog w = .ok (.tuple #[.nilIface, .bool false]) w := by
  obtain ⟨v', ps', hrun, hv⟩ := hm.look_ok law9 Try.underlying32 (zero20 w) (show RD .nilIface = some (.held .nilIface, []) from rfl) (key9 hk)
  rw [Plain.F_at, hl] at hv
  rw [Plain.F_has, hl] at hrun
  simp only [RD, Option.some.injEq, Prod.mk.injEq, DataW.held.injEq] at hv
  rw [← hv.1]
  exact hrun

set_option maxHeartbeats 400000 in
theorem detail_str (by_ action typ id k s : ByteArray) (b n : Nat) (qs : List (ByteArray × Value)) (w : World) (hm : w.ownsMap Try.prog 9 RD b n (F qs)) (hk : k.size ≤ maxLen) (hl : Plain.look qs k = some (sv s)) :
    Calls Try.prog 14 #[ev by_ action typ id b, .string k] w fun e w' => e = .returned (.tuple #[.string s, .bool true]) ∧ Below w.heap.size w w' := by
  have hrun := look_some (hm.alloc (.cells (evc by_ action typ id b) 34)) hk hl
  unfold sv at hrun
  clear hm hl
  have x1 := assert_str
  have x2 := assert_str_row
  have x3 := assert_row
  go_enter Try.func14, Try.ntmps14
  go_wp2
  go_ret2
  exact ⟨rfl, (Below.refl _ _).alloc (Nat.le_refl _) _⟩

set_option maxHeartbeats 400000 in
theorem detail_none (by_ action typ id k : ByteArray) (b n : Nat) (qs : List (ByteArray × Value)) (w : World) (hm : w.ownsMap Try.prog 9 RD b n (F qs)) (hk : k.size ≤ maxLen) (hl : Plain.look qs k = none) :
    Calls Try.prog 14 #[ev by_ action typ id b, .string k] w fun e w' => e = .returned (.tuple #[.string ByteArray.empty, .bool false]) ∧ Below w.heap.size w w' := by
  have hrun := look_none (hm.alloc (.cells (evc by_ action typ id b) 34)) hk hl
  clear hm hl
  have x1 := assert_str
  have x2 := assert_str_row
  have x3 := assert_row
  go_enter Try.func14, Try.ntmps14
  go_wp2
  go_ret2
  exact ⟨rfl, (Below.refl _ _).alloc (Nat.le_refl _) _⟩

set_option maxHeartbeats 400000 in
theorem details_row (by_ action typ id k : ByteArray) (ap : Option Addr) (np cp : Nat) (b n : Nat) (qs : List (ByteArray × Value)) (w : World) (hm : w.ownsMap Try.prog 9 RD b n (F qs)) (hk : k.size ≤ maxLen) (hl : Plain.look qs k = some (.iface 22 (.slice ap np cp))) :
    Calls Try.prog 19 #[ev by_ action typ id b, .string k] w fun e w' => e = .returned (.tuple #[.slice ap np cp, .bool true]) ∧ Below w.heap.size w w' := by
  have hrun := look_some (hm.alloc (.cells (evc by_ action typ id b) 34)) hk hl
  clear hm hl
  have x1 := assert_str
  have x2 := assert_str_row
  have x3 := assert_row
  go_enter Try.func19, Try.ntmps19
  go_wp2
  go_ret2
  exact ⟨rfl, (Below.refl _ _).alloc (Nat.le_refl _) _⟩

set_option maxHeartbeats 400000 in
theorem details_str (by_ action typ id k s : ByteArray) (b n : Nat) (qs : List (ByteArray × Value)) (w : World) (hm : w.ownsMap Try.prog 9 RD b n (F qs)) (hk : k.size ≤ maxLen) (hl : Plain.look qs k = some (sv s)) :
    Calls Try.prog 19 #[ev by_ action typ id b, .string k] w fun e w' => e = .returned (.tuple #[.slice none 0 0, .bool false]) ∧ Below w.heap.size w w' := by
  have hrun := look_some (hm.alloc (.cells (evc by_ action typ id b) 34)) hk hl
  unfold sv at hrun
  clear hm hl
  have x1 := assert_str
  have x2 := assert_str_row
  have x3 := assert_row
  go_enter Try.func19, Try.ntmps19
  go_wp2
  go_ret2
  exact ⟨rfl, (Below.refl _ _).alloc (Nat.le_refl _) _⟩

set_option maxHeartbeats 400000 in
theorem details_none (by_ action typ id k : ByteArray) (b n : Nat) (qs : List (ByteArray × Value)) (w : World) (hm : w.ownsMap Try.prog 9 RD b n (F qs)) (hk : k.size ≤ maxLen) (hl : Plain.look qs k = none) :
    Calls Try.prog 19 #[ev by_ action typ id b, .string k] w fun e w' => e = .returned (.tuple #[.slice none 0 0, .bool false]) ∧ Below w.heap.size w w' := by
  have hrun := look_none (hm.alloc (.cells (evc by_ action typ id b) 34)) hk hl
  clear hm hl
  have x1 := assert_str
  have x2 := assert_str_row
  have x3 := assert_row
  go_enter Try.func19, Try.ntmps19
  go_wp2
  go_ret2
  exact ⟨rfl, (Below.refl _ _).alloc (Nat.le_refl _) _⟩

set_option maxHeartbeats 400000 in
theorem len_any (by_ action typ id : ByteArray) (b n : Nat) (qs : List (ByteArray × Value)) (w : World) (hm : w.ownsMap Try.prog 9 RD b n (F qs)) :
    Calls Try.prog 26 #[ev by_ action typ id b] w fun e w' => e = .returned (.int .i64 (dist (qs.map (·.1)))) ∧ Below w.heap.size w w' := by
  have hrun := (hm.alloc (.cells (evc by_ action typ id b) 34)).len Try.underlying32
  rw [Plain.F_size] at hrun
  clear hm
  go_enter Try.func26, Try.ntmps26
  go_wp2
  go_ret
  exact ⟨rfl, (Below.refl _ _).alloc (Nat.le_refl _) _⟩

set_option maxHeartbeats 400000 in
theorem nil_any (by_ action typ id : ByteArray) (b : Nat) (w : World) :
    Calls Try.prog 25 #[ev by_ action typ id b] w fun e w' => e = .returned (.bool false) ∧ Below w.heap.size w w' := by
  have qT : ∀ (w : World) (r : Option Nat), (binOp .eql 32 (.map r) (.map none)).run Try.prog w = .ok (.bool r.isNone) w := fun w r => run_eql_map_nil w _ _ _ r Try.underlying32
  go_enter Try.func25, Try.ntmps25
  go_wp2
  go_ret
  exact ⟨rfl, (Below.refl _ _).alloc (Nat.le_refl _) _⟩

set_option maxHeartbeats 400000 in
theorem iszero_any (w : World) :
    Calls Try.prog 30 #[.agg #[.int .u64 0, .int .i64 0, .pointer none]] w fun e w' => e = .returned (.bool true) ∧ Below w.heap.size w w' := by
  go_enter Try.func30, Try.ntmps30
  go_wp2
  go_ret
  exact ⟨rfl, (Below.refl _ _).alloc (Nat.le_refl _) _⟩

set_option maxHeartbeats 400000 in
theorem time_any (by_ action typ id : ByteArray) (b : Nat) (w : World) :
    Calls Try.prog 24 #[ev by_ action typ id b] w fun e w' => e = .returned (.bool true) ∧ Below w.heap.size w w' := by
  go_enter Try.func24, Try.ntmps24
  go_wp2_with fail
  refine (iszero_any _).mono ?_
  rintro e w1 ⟨rfl, hb⟩
  go_wp2_with fail
  go_ret
  exact ⟨rfl, ((Below.refl _ _).alloc (Nat.le_refl _) _).trans (hb.mono (by simp))⟩

/-- Two new blocks of one's own, in a later world. -/
theorem two_blocks {w w1 : World} {cs ds : Array Value} {t u : TypeId} (hb : Below ((w.alloc (.cells cs t)).alloc (.cells ds u)).heap.size ((w.alloc (.cells cs t)).alloc (.cells ds u)) w1) :
    w1.heap[w.heap.size]? = some (.cells cs t (0, 0)) ∧ w1.heap[w.heap.size + 1]? = some (.cells ds u (0, 0)) ∧ Below w.heap.size w w1 := by
  refine ⟨?_, ?_, ?_⟩
  · rw [hb.block _ (by simp; omega), Below.heap_alloc _ _ _ (by simp)]
    exact heap_alloc_new w _
  · rw [hb.block _ (by simp)]
    have := heap_alloc_new (w.alloc (.cells cs t)) (.cells ds u)
    rw [World.size_alloc] at this
    exact this
  · exact (((Below.refl _ _).alloc (Nat.le_refl _) _).alloc (by simp) _).trans (hb.mono (by simp; omega))

set_option maxHeartbeats 1000000 in
theorem shape_any (by_ action typ id : ByteArray) (b n : Nat) (qs : List (ByteArray × Value)) (L : Int) (w : World) (hm : w.ownsMap Try.prog 9 RD b n (F qs)) (hL : L = (dist (qs.map (·.1)) : Nat)) :
    Calls Try.prog 12 #[ev by_ action typ id b, .string by_, .string action, .agg #[.string typ, .string id], .int .i64 L] w fun e w' => e = .returned (.bool true) ∧ Below w.heap.size w w' := by
  subst hL
  go_enter Try.func12, Try.ntmps12
  go_wp2_with fail
  refine (time_any by_ action typ id b _).mono ?_
  rintro e w1 ⟨rfl, hb1⟩
  obtain ⟨k1, k2, k3⟩ := two_blocks hb1
  have c1 := block_cell k1
  have c2 := block_cell k2
  have hm1 := owns_below hm k3
  clear hb1 hm
  go_wp2_with fail
  refine (nil_any by_ action typ id b _).mono ?_
  rintro e w2 ⟨rfl, hb2⟩
  have l1 := (hb2.block _ (Array.getElem?_eq_some_iff.1 k1).1).trans k1
  have l2 := (hb2.block _ (Array.getElem?_eq_some_iff.1 k2).1).trans k2
  have d1 := block_cell l1
  have d2 := block_cell l2
  have hm2 := owns_below hm1 hb2
  have k4 := k3.trans (hb2.mono k3.size)
  clear hb2 hm1 k1 k2 k3 c1 c2
  go_wp2_with fail
  refine (len_any by_ action typ id b n qs _ hm2).mono ?_
  rintro e w3 ⟨rfl, hb3⟩
  have k5 := k4.trans (hb3.mono k4.size)
  clear hb3 l1 l2 d1 d2 k4 hm2
  go_wp2_with fail
  go_ret
  exact ⟨rfl, k5⟩
end Go.Proofs.Qxb6616893a.Walk6
