/-
  zzOtherKeysAgree.
-/
import Derived.Test.Qxb6616893aProg
import Derived.Test.Qxb6616893aParts
import Derived.Test.Qxb6616893aPlain
import Derived.Test.Qxb6616893aWalk3
import Derived.Test.Qxb6616893aWalk5
import Derived.Test.Qxb6616893aWalk6
import Derived.Deep.RegionWith
namespace Go.Proofs.Qxb6616893a.Walk7
open Go Go.RowKit Go.Maps Go.Proofs.Qxb6616893a.Parts Go.Proofs.Qxb6616893a.Walk4 Go.Proofs.Qxb6616893a.Walk5
open Go.Proofs.Qxb6616893a.Plain (kl F mem dist)

/-- At every key of ks the map holds what its last pair carries. -/
def Agrees (qs : List (ByteArray × Value)) (ks vs : List ByteArray) : Prop := ∀ k, mem k ks = true → ∃ v, Plain.look (ks.zip vs) k = some v ∧ Plain.look qs k = some (sv v)

set_option maxHeartbeats 1000000 in
theorem agree_any (by_ action typ id : ByteArray) (b m : Nat) (qs : List (ByteArray × Value)) (ak : Option Addr) (n ck : Nat) (ks : List ByteArray) (av : Option Addr) (cv : Nat) (vs : List ByteArray) (w : World)
    (hm : w.ownsMap Try.prog 9 RD b m (F qs)) (h : SRow w ak n ck ks) (g : SRow w av n cv vs) (ha : Agrees qs ks vs) :
    Calls Try.prog 13 #[ev by_ action typ id b, .slice ak n ck, .slice av n cv] w fun e w' => e = .returned (.bool true) ∧ Below w.heap.size w w' := by
  have hb : n ≤ 9223372036854775807 := Nat.le_trans h.cap (by have := h.big; unfold maxLen at this; exact this)
  have hl : Hid (ks.length = n) := h.len
  have hb0 : Below w.heap.size w (w.alloc (.cells (evc by_ action typ id b) 34)) := (Below.refl _ _).alloc (Nat.le_refl _) _
  have hbl0 : (w.alloc (.cells (evc by_ action typ id b) 34)).heap[w.heap.size]? = some (.cells (evc by_ action typ id b) 34 (0, 0)) := heap_alloc_new w _
  have HBL0 : Hid _ := hbl0
  clear hbl0
  go_enter Try.func13, Try.ntmps13
  go_wp2
  go_loopw [7] (fun i wr => ∃ k : Nat, k ≤ n ∧ i = .int .i64 k ∧ Below w.heap.size w wr ∧ wr.heap[w.heap.size]? = some (.cells (evc by_ action typ id b) 34 (0, 0))) (fun i _ => n - (intOf i).toNat)
  case atStart => exact ⟨0, Nat.zero_le _, rfl, hb0, HBL0.out⟩
  case round =>
    clear hb0
    obtain ⟨k, hk, rfl, hbr, hbl⟩ := hrel
    by_cases hlt : k < n
    · have hmr := owns_below hm hbr
      have hr := h.below hbr
      have gr := g.below hbr
      have hc1 := block_cell hbl
      have hsz := h.size k hlt
      obtain ⟨bk, ok, hx, hc⟩ := hr.pos (by omega)
      subst hx
      have hlt' : (k : Int) < (n : Int) := by omega
      have hck := hc k hlt
      obtain ⟨v, hz, hq⟩ := ha (ks.getD k ByteArray.empty) (Walk3.mem_of_getD _ ks k (by rw [hl.out]; exact hlt) rfl)
      obtain ⟨u, hu⟩ : ∃ u, u = ks.getD k ByteArray.empty := ⟨_, rfl⟩
      rw [← hu] at hck hsz hz hq
      have HC : Hid _ := Walk3.last_any _ n ck ks av cv vs u wr hr gr
      rw [hz] at HC
      have hmd : wr.drew.ownsMap Try.prog 9 RD b m (F qs) := hmr
      have HQ : Hid (Plain.look qs u = some (sv v)) := hq
      clear hu hc hz hq hr gr hmr
      have hbd : Below w.heap.size w wr.drew := hbr.drew
      have hsw : w.heap.size < wr.heap.size := (Array.getElem?_eq_some_iff.1 hbl).1
      go_wp2_with fail
      refine Calls.mono HC.out ?_
      rintro e w1 ⟨rfl, rfl⟩
      unfold Walk3.lastV
      clear HC
      go_wp2_with fail
      go_region_with (go_at_call 14; refine (Walk6.detail_str by_ action typ id u v b m qs _ hmd hsz HQ.out).mono ?_; rintro e w2 ⟨rfl, hb2⟩)
      all_goals
        have hbl2 : w2.heap[w.heap.size]? = some (.cells (evc by_ action typ id b) 34 (0, 0)) := (hb2.block _ hsw).trans hbl
        have hbe := hbd.trans (hb2.mono hbd.size)
        go_wp2_with fail
        go_roundw
        case rel => exact ⟨k + 1, by omega, by go_num, hbe, hbl2⟩
        case measure => simp [intOf]; omega
    · go_wp2
      go_ret
      exact ⟨rfl, hbr⟩
end Go.Proofs.Qxb6616893a.Walk7
