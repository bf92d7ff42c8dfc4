/-
  MAPS: zzOther, maps.Copy.
-/
import Derived.Test.Qxb6616893aProg
import Derived.Test.Qxb6616893aParts
import Derived.Test.Qxb6616893aPlain
import Derived.RegionTactic
import Derived.Maps.RangeWalk
import Derived.Maps.OwnSet
import Derived.Laws.IdiomRangeMap
namespace Go.Proofs.Qxb6616893a.Walk4
open Go Go.RowKit Go.Maps Go.Proofs.Qxb6616893a.Parts
open Go.Proofs.Qxb6616893a.Plain (kl F mem dist)

theorem law9 : Keyed Try.prog 9 := string_keyed Try.underlying9

/-- How an element reads in these proofs: as itself. -/
def RD (v : Value) : Option (DataW Value × List MemPlace) := some (.held v, [])

set_option maxHeartbeats 1000000 in
/-- maps.Copy(dst, src), two maps in two blocks. -/
theorem copy_any (bd bs nd ns : Nat) (Dd Ds : DataW Value) (w : World) (hd : w.ownsMap Try.prog 9 RD bd nd Dd) (hs : w.ownsMap Try.prog 9 RD bs ns Ds) (hne : bd ≠ bs) (hroom : nd + Maps.size Ds ≤ maxLen) :
    Calls Try.prog 28 #[.map (some bd), .map (some bs)] w fun e w' => e = .returned (.tuple #[]) ∧ w'.ownsMap Try.prog 9 RD bd (nd + Maps.size Ds) (Lib.mergeD Dd Ds) ∧ w.grownBy w' (some bd) := by
  have hbd := hd.lt
  have hbs := hs.lt
  go_enter Try.func28, Try.ntmps28
  go_wp2_with (first
    | (at_range; refine wpList_range_own _ rfl _ 32 rfl 9 20 law9 Try.underlying32 RD bs ns _ rfl hs ?_; intro w0 hrg0 hg0 hs0)
    | go_in)
  go_frame
  go_loopw [4] (fun _ wr => ∃ (left : Lit → Bool) (cnt : Nat) (Dout : DataW Value), wr.ranges Try.prog 9 RD bs w.heap.size ns Ds left cnt ∧ cnt ≤ Maps.size Ds ∧
      wr.ownsMap Try.prog 9 RD bd (nd + (Maps.size Ds - cnt)) Dout ∧ Merged Dout Dd Ds left ∧ w.grownBy wr (some bd))
    (fun _ wr => wr.rangeLeft bs w.heap.size)
  case atStart =>
    exact ⟨_, _, Dd, hrg0, Nat.le_refl _, (hd.kept hg0 (by simp)).mono (by omega), merged_start Dd Ds, hg0.but _⟩
  case round =>
    obtain ⟨left, cnt, Dout, hrg, hcs, hout, hM, hgw⟩ := hrel
    go_wp2_with (first
      | (at_next; refine wpList_next_ranges _ rfl _ rfl 9 law9 RD id id (fun key _ _ => ⟨key, rfl⟩) (fun v _ _ => ⟨v, rfl⟩) bs w.heap.size ns _ _ _ rfl hrg ?_ ?_)
      | go_in)
    · intro hc0 hl0
      go_wp2
      go_end0
      subst hc0
      have e := merged_eq law9.one hM hl0 (hout.canon law9) (hd.canonK law9) (hs.canonK law9)
      subst e
      exact ⟨rfl, by simpa using hout, hgw⟩
    · intro x c kl yd yp w1 cnt1 hkey hlx hv hat hrg1 hlt hg1 hs1 hen
      have hout1 := hout.kept hg1 (fun e => by have := Option.some.inj e; omega)
      go_wp2_with (first
        | (at_mapUpdate; refine wpList_mapUpdate_own _ rfl _ _ _ 32 rfl 9 20 law9 Try.underlying32 RD bd _ _ rfl hout1 (by omega) _ _ _ rfl rfl hkey yd yp hv ?_; intro w2 hout2 hg2; go_frame)
        | go_in)
      have hrg2 := hrg1.kept hg2 (fun e => hne (Option.some.inj e).symm) (fun e => by have := Option.some.inj e; omega)
      go_roundw
      case rel =>
        exact ⟨_, cnt1, _, hrg2, by omega, hout2.mono (by omega), merged_step hM hout.isMap (law9.key hkey) hat, (hgw.andThen hg1 (fun j hj => .inl (by cases hj; exact Nat.le_refl _))).andThen hg2 (fun j hj => .inr hj)⟩
      case measure => rw [hrg2.left_eq, hrg.left_eq]; exact hlt

theorem run_makeMap_hint (w : World) (n : Int) : (Instr.makeMap 32 (some (.int .i64 n))).run Try.prog w = .ok (.map (some w.heap.size)) (w.alloc (.map #[] 0)) := by
  simp [Instr.makeMap, run_underlying Try.underlying32, asInt, newObj]
  rfl

theorem key9 {s : ByteArray} (hs : s.size ≤ maxLen) : keyOf Try.prog 9 (.string s) = some (kl s) := _root_.Go.WideMaps.keyOf_string_mk Try.underlying9 hs

/-- zzOther's value at place i. -/
def sv (v : ByteArray) : Value := .iface 9 (.string v)
def ps (ks vs : List ByteArray) : List (ByteArray × Value) := ks.zip (vs.map sv)

theorem ps_take_succ (ks vs : List ByteArray) (k : Nat) (hl : ks.length = vs.length) (hk : k < ks.length) :
    ps (ks.take (k + 1)) (vs.take (k + 1)) = ps (ks.take k) (vs.take k) ++ [(ks.getD k ByteArray.empty, sv (vs.getD k ByteArray.empty))] := by
  have hv : k < vs.length := by omega
  rw [ps, ps, ← take_snoc ks k hk, ← take_snoc vs k hv, List.map_append, List.zip_append (by simp; omega)]
  rfl

set_option maxHeartbeats 400000 in
theorem other_any (ak : Option Addr) (n ck : Nat) (ks : List ByteArray) (av : Option Addr) (cv : Nat) (vs : List ByteArray) (w : World) (h : SRow w ak n ck ks) (g : SRow w av n cv vs) (hn : n ≤ 4194304) :
    Calls Try.prog 23 #[.slice ak n ck, .slice av n cv] w fun e w' => e = .returned (.map (some w.heap.size)) ∧ w'.ownsMap Try.prog 9 RD w.heap.size n (F (ps ks vs)) ∧ Below w.heap.size w w' := by
  have hl : Hid (ks.length = n) := h.len
  have gl : Hid (vs.length = n) := g.len
  have hmm := run_makeMap_hint
  have hown0 := World.ownsMap_made w Try.prog 9 RD
  have hb0 : Below w.heap.size w (w.alloc (.map #[] 0)) := (Below.refl _ _).alloc (Nat.le_refl _) _
  go_enter Try.func23, Try.ntmps23
  go_wp2
  go_loopw [6] (fun i wr => ∃ k : Nat, k ≤ n ∧ i = .int .i64 k ∧ wr.ownsMap Try.prog 9 RD w.heap.size k (F (ps (ks.take k) (vs.take k))) ∧ Below w.heap.size w wr) (fun i _ => n - (intOf i).toNat)
  case atStart => exact ⟨0, Nat.zero_le _, rfl, hown0, hb0⟩
  case round =>
    clear hown0 hb0
    obtain ⟨k, hk, rfl, hown, hbr⟩ := hrel
    by_cases hlt : k < n
    · obtain ⟨b, o, hx, hc⟩ := h.pos (by omega)
      subst hx
      obtain ⟨b', o', hx, hc'⟩ := g.pos (by omega)
      subst hx
      have hlt' : (k : Int) < (n : Int) := by omega
      have hck := old_cell hc hbr k hlt
      have hcv := old_cell hc' hbr k hlt
      have hsz := h.size k hlt
      have hps := ps_take_succ ks vs k (by rw [hl.out, gl.out]) (by rw [hl.out]; exact hlt)
      obtain ⟨u, hu⟩ : ∃ u, u = ks.getD k ByteArray.empty := ⟨_, rfl⟩
      obtain ⟨v, hv⟩ : ∃ v, v = vs.getD k ByteArray.empty := ⟨_, rfl⟩
      rw [← hu] at hck hsz hps
      rw [← hv] at hcv hps
      obtain ⟨w2, hrun, hown2, hg2⟩ := World.ownsMap.update (key := .string u) (val := .iface 9 (.string v)) hown.drew law9 Try.underlying32 (by unfold maxLen; omega) (key9 hsz) (show RD (.iface 9 (.string v)) = some (.held (.iface 9 (.string v)), []) from rfl)
      have hown3 : w2.ownsMap Try.prog 9 RD w.heap.size (k + 1) (F (ps (ks.take (k + 1)) (vs.take (k + 1)))) := by
        rw [hps, Plain.F_snoc]
        exact hown2
      have hb2 : Below w.heap.size w w2 := hbr.drew.grown hg2 hbr.size (fun j hj => by cases hj; exact Nat.le_refl _)
      clear hown hbr hu hv hc hc' hps hown2 hg2
      go_wp2
      go_region
      all_goals
        go_wp2
        go_roundw
        case rel => exact ⟨k + 1, by omega, by go_num, hown3, hb2⟩
        case measure => simp [intOf]; omega
    · have hkn : k = n := by omega
      subst hkn
      go_wp2
      go_ret
      refine ⟨rfl, ?_, hbr⟩
      simpa [List.take_of_length_le (Nat.le_of_eq hl.out), List.take_of_length_le (Nat.le_of_eq gl.out)] using hown
end Go.Proofs.Qxb6616893a.Walk4
