/-
  THE EVENTS: authEvent, grantEvent, roleEvent, ZZGrantEvent, ZZRoleEvent.
-/
import Derived.Test.Qxb6616893aProg
import Derived.Test.Qxb6616893aParts
import Derived.Test.Qxb6616893aPlain
import Derived.Test.Qxb6616893aWalk4
namespace Go.Proofs.Qxb6616893a.Walk5
open Go Go.RowKit Go.Maps Go.Proofs.Qxb6616893a.Parts Go.Proofs.Qxb6616893a.Walk4
open Go.Proofs.Qxb6616893a.Plain (kl F mem dist)

/-- An event's cells: no ID, no time, the author, the action, 'auth', the resource's type and id, the details. -/
abbrev evc (by_ action typ id : ByteArray) (b : Nat) : Array Value :=
  #[.int .i64 0, .int .u64 0, .int .i64 0, .pointer none, .string by_, .string action, .string ⟨#[97, 117, 116, 104]⟩, .string typ, .string id, .map (some b)]
abbrev ev (by_ action typ id : ByteArray) (b : Nat) : Value := .agg (evc by_ action typ id b)
/-- A fresh event's cells. -/
abbrev ev0 : Array Value :=
  #[.int .i64 0, .int .u64 0, .int .i64 0, .pointer none, .string ⟨#[]⟩, .string ⟨#[]⟩, .string ⟨#[]⟩, .string ⟨#[]⟩, .string ⟨#[]⟩, .map none]
abbrev roleKey : ByteArray := ⟨#[114, 111, 108, 101, 95, 105, 100]⟩
abbrev permKey : ByteArray := ⟨#[112, 101, 114, 109, 105, 115, 115, 105, 111, 110, 115]⟩
abbrev actorS : ByteArray := ⟨#[97, 99, 116, 111, 114]⟩
abbrev roleS : ByteArray := ⟨#[114, 111, 108, 101]⟩

set_option maxHeartbeats 400000 in
theorem auth_any (by_ action typ id : ByteArray) (b : Nat) (w : World) :
    Calls Try.prog 29 #[.string by_, .string action, .agg #[.string typ, .string id], .map (some b)] w fun e w' => e = .returned (ev by_ action typ id b) ∧ Below w.heap.size w w' := by
  go_enter Try.func29, Try.ntmps29
  go_wp2
  exact bodyPost_ret (v := ev by_ action typ id b) (by simp [results, Try.results29, go_sem]) rfl ⟨rfl, ((Below.refl _ _).alloc (Nat.le_refl _) _).alloc (by simp) _⟩

theorem one9 (s : ByteArray) (v : Value) : (DataW.map []).put (kl s) (.held v) = F [(s, v)] := rfl

theorem strKind : OneKind (fun l => ∃ s, l = Lit.string s) := ⟨fun ⟨s, e⟩ => by subst e; trivial, fun ha hb hne => ChangeMaps.before_total ha hb hne⟩
theorem merge_one (q : ByteArray × Value) (qs : List (ByteArray × Value)) : Lib.mergeD (F [q]) (F qs) = F (q :: qs) := Plain.F_merge strKind (fun _ => ⟨_, rfl⟩) q qs

theorem block_cell {w' : World} {g : Nat} {cs : Array Value} {t : TypeId} (h : w'.heap[g]? = some (.cells cs t (0, 0))) : ∀ o, w'.cell? ⟨g, o, none⟩ = cs[o]? := fun o => cell_of_row w' g o cs t (0, 0) h
theorem block_free {w' : World} {g : Nat} {cs : Array Value} {t : TypeId} (h : w'.heap[g]? = some (.cells cs t (0, 0))) : ∀ o, w'.frozen? ⟨g, o, none⟩ = false := fun o => frozen_of_row w' g o cs t h

/-- The fresh map of one pair, behind the result's own block. -/
theorem fresh_one (s : ByteArray) (v : Value) (hs : s.size ≤ maxLen) (w : World) : ∃ w2, (Instr.mapUpdate 32 (.map (some (w.heap.size + 1))) (.string s) v).run Try.prog ((w.alloc (.cells ev0 34)).alloc (.map #[] 0)) = .ok () w2 ∧
    w2.ownsMap Try.prog 9 RD (w.heap.size + 1) 1 (F [(s, v)]) ∧ ((w.alloc (.cells ev0 34)).alloc (.map #[] 0)).grownBy w2 (some (w.heap.size + 1)) := by
  have hown0 := World.ownsMap_made (w.alloc (.cells ev0 34)) Try.prog 9 RD
  rw [World.size_alloc] at hown0
  obtain ⟨w2, hrun, hown2, hg2⟩ := World.ownsMap.update (key := .string s) (val := v) hown0 law9 Try.underlying32 (by unfold maxLen; omega) (key9 hs) (show RD v = some (.held v, []) from rfl)
  exact ⟨w2, hrun, hown2, hg2⟩

theorem owns_below {w w' : World} {b n : Nat} {D : DataW Value} (h : w.ownsMap Try.prog 9 RD b n D) (hb : Below w.heap.size w w') : w'.ownsMap Try.prog 9 RD b n D := by
  have hlt := h.lt
  obtain ⟨es, clock, hh, r⟩ := h
  exact ⟨es, clock, (hb.block b hlt).trans hh, r⟩

/-- What the copy needs and leaves. -/
theorem copied {w w2 w3 : World} {bs n : Nat} {q : ByteArray × Value} {qs : List (ByteArray × Value)} (hs : w.ownsMap Try.prog 9 RD bs n (F qs)) (hg2 : ((w.alloc (.cells ev0 34)).alloc (.map #[] 0)).grownBy w2 (some (w.heap.size + 1)))
    (hm : w3.ownsMap Try.prog 9 RD (w.heap.size + 1) (1 + Maps.size (F qs)) (Lib.mergeD (F [q]) (F qs))) (hg3 : w2.grownBy w3 (some (w.heap.size + 1))) :
    w3.ownsMap Try.prog 9 RD (w.heap.size + 1) (n + 1) (F (q :: qs)) ∧ Below w.heap.size w w3 ∧ w3.heap[w.heap.size]? = some (.cells ev0 34 (0, 0)) := by
  have hsz := hs.size_le
  have h2 : w2.heap.size ≥ w.heap.size + 2 := by have := hg2.size; simp at this; omega
  have hb2 : Below w.heap.size w w2 := ((((Below.refl _ _).alloc (Nat.le_refl _) (.cells ev0 34)).alloc (by simp) (.map #[] 0))).grown hg2 (by simp; omega) (fun j hj => by cases hj; omega)
  refine ⟨?_, hb2.grown hg3 (by omega) (fun j hj => by cases hj; omega), ?_⟩
  · rw [merge_one] at hm
    exact hm.mono (by omega)
  · rw [hg3.block _ (by omega) (by simp), hg2.block _ (by simp; omega) (by simp)]
    rw [Below.heap_alloc _ _ _ (by simp)]
    exact heap_alloc_new w _

set_option maxHeartbeats 1000000 in
theorem grant_any (by_ action actor role : ByteArray) (bs n : Nat) (qs : List (ByteArray × Value)) (w : World) (hs : w.ownsMap Try.prog 9 RD bs n (F qs)) (hn : n ≤ 4194304) :
    Calls Try.prog 22 #[.string by_, .string action, .string actor, .string role, .map (some bs)] w fun e w' =>
      e = .returned (ev by_ action actorS actor (w.heap.size + 1)) ∧ w'.ownsMap Try.prog 9 RD (w.heap.size + 1) (n + 1) (F ((roleKey, sv role) :: qs)) ∧ Below w.heap.size w w' := by
  have hmm := @run_makeMap Try.prog
  obtain ⟨w2, hrun, hown2, hg2⟩ := fresh_one roleKey (sv role) (by show (7 : Nat) ≤ maxLen; unfold maxLen; omega) w
  have hbs := hs.lt
  have hs2 : w2.ownsMap Try.prog 9 RD bs n (F qs) := ((hs.alloc _).alloc _).kept hg2 (by simp; omega)
  have hsz := hs.size_le
  have hc := copy_any (w.heap.size + 1) bs 1 n _ _ w2 hown2 hs2 (by omega) (by unfold maxLen; omega)
  have HC : Hid _ := hc
  have HS : Hid (w.ownsMap Try.prog 9 RD bs n (F qs)) := hs
  unfold sv at hrun
  clear hc hs hs2 hown2
  go_enter Try.func22, Try.ntmps22
  go_wp2_with fail
  refine Calls.mono HC.out ?_
  rintro e w3 ⟨rfl, hm, hg3⟩
  obtain ⟨hm3, hb3, hbl⟩ := copied HS.out hg2 hm hg3
  clear hm hg3 hg2 HC hrun
  go_wp2_with fail
  refine (auth_any _ _ _ _ _ _).mono ?_
  rintro e w4 ⟨rfl, hb4⟩
  have hbl4 : w4.heap[w.heap.size]? = some (.cells ev0 34 (0, 0)) := by
    rw [hb4.block _ (by have := hm3.lt; omega)]; exact hbl
  have hc4 := block_cell hbl4
  have hf4 := block_free hbl4
  have hm4 := owns_below hm3 hb4
  have hb5 := hb3.trans (hb4.mono hb3.size)
  clear hb3 hb4 hbl hm3 HS
  go_wp2_with fail
  refine bodyPost_ret (v := ev by_ action actorS actor (w.heap.size + 1)) (by simp [results, Try.results22, go_sem, hc4]) rfl ⟨rfl, ?_, ?_⟩
  · iterate 10 (refine World.ownsMap.setCell ?_ (by simp) _)
    exact hm4
  · iterate 10 (refine Below.setCell ?_ (by simp) _)
    exact hb5

set_option maxHeartbeats 1000000 in
theorem role_any (by_ action role : ByteArray) (ap : Option Addr) (np cp : Nat) (bs n : Nat) (qs : List (ByteArray × Value)) (w : World) (hs : w.ownsMap Try.prog 9 RD bs n (F qs)) (hn : n ≤ 4194304) :
    Calls Try.prog 27 #[.string by_, .string action, .string role, .slice ap np cp, .map (some bs)] w fun e w' =>
      e = .returned (ev by_ action roleS role (w.heap.size + 1)) ∧ w'.ownsMap Try.prog 9 RD (w.heap.size + 1) (n + 1) (F ((permKey, .iface 22 (.slice ap np cp)) :: qs)) ∧ Below w.heap.size w w' := by
  have hmm := @run_makeMap Try.prog
  obtain ⟨w2, hrun, hown2, hg2⟩ := fresh_one permKey (.iface 22 (.slice ap np cp)) (by show (11 : Nat) ≤ maxLen; unfold maxLen; omega) w
  have hbs := hs.lt
  have hs2 : w2.ownsMap Try.prog 9 RD bs n (F qs) := ((hs.alloc _).alloc _).kept hg2 (by simp; omega)
  have hsz := hs.size_le
  have hc := copy_any (w.heap.size + 1) bs 1 n _ _ w2 hown2 hs2 (by omega) (by unfold maxLen; omega)
  have HC : Hid _ := hc
  have HS : Hid (w.ownsMap Try.prog 9 RD bs n (F qs)) := hs
  clear hc hs hs2 hown2
  go_enter Try.func27, Try.ntmps27
  go_wp2_with fail
  refine Calls.mono HC.out ?_
  rintro e w3 ⟨rfl, hm, hg3⟩
  obtain ⟨hm3, hb3, hbl⟩ := copied HS.out hg2 hm hg3
  clear hm hg3 hg2 HC hrun
  go_wp2_with fail
  refine (auth_any _ _ _ _ _ _).mono ?_
  rintro e w4 ⟨rfl, hb4⟩
  have hbl4 : w4.heap[w.heap.size]? = some (.cells ev0 34 (0, 0)) := by
    rw [hb4.block _ (by have := hm3.lt; omega)]; exact hbl
  have hc4 := block_cell hbl4
  have hf4 := block_free hbl4
  have hm4 := owns_below hm3 hb4
  have hb5 := hb3.trans (hb4.mono hb3.size)
  clear hb3 hb4 hbl hm3 HS
  go_wp2_with fail
  refine bodyPost_ret (v := ev by_ action roleS role (w.heap.size + 1)) (by simp [results, Try.results27, go_sem, hc4]) rfl ⟨rfl, ?_, ?_⟩
  · iterate 10 (refine World.ownsMap.setCell ?_ (by simp) _)
    exact hm4
  · iterate 10 (refine Below.setCell ?_ (by simp) _)
    exact hb5

set_option maxHeartbeats 1000000 in
theorem zzgrant_any (by_ action actor role : ByteArray) (ak : Option Addr) (n ck : Nat) (ks : List ByteArray) (av : Option Addr) (cv : Nat) (vs : List ByteArray) (w : World) (h : SRow w ak n ck ks) (g : SRow w av n cv vs) (hn : n ≤ 4194304) :
    Calls Try.prog 9 #[.string by_, .string action, .string actor, .string role, .slice ak n ck, .slice av n cv] w fun e w' =>
      ∃ b, e = .returned (ev by_ action actorS actor b) ∧ w'.ownsMap Try.prog 9 RD b (n + 1) (F ((roleKey, sv role) :: ps ks vs)) ∧ Below w.heap.size w w' := by
  have hb0 : Below w.heap.size w (w.alloc (.cells ev0 34)) := (Below.refl _ _).alloc (Nat.le_refl _) _
  have HC : Hid _ := other_any ak n ck ks av cv vs (w.alloc (.cells ev0 34)) (h.below hb0) (g.below hb0) hn
  have hbl0 : (w.alloc (.cells ev0 34)).heap[w.heap.size]? = some (.cells ev0 34 (0, 0)) := heap_alloc_new w _
  have HBL0 : Hid _ := hbl0
  clear h g hbl0
  go_enter Try.func9, Try.ntmps9
  go_wp2_with fail
  refine Calls.mono HC.out ?_
  rintro e w1 ⟨rfl, hm1, hb1⟩
  clear HC
  go_wp2_with fail
  refine (grant_any _ _ _ _ _ n (ps ks vs) w1 (by simpa using hm1) hn).mono ?_
  rintro e w4 ⟨rfl, hm4, hb4⟩
  have hs1 : w.heap.size + 1 ≤ w1.heap.size := by have := hb1.size; simpa using this
  have hbl4 : w4.heap[w.heap.size]? = some (.cells ev0 34 (0, 0)) := by
    rw [hb4.block _ (by omega), hb1.block _ (by simp)]; exact HBL0.out
  have hc4 := block_cell hbl4
  have hf4 := block_free hbl4
  have hb5 := hb0.trans ((hb1.mono (by simp)).trans (hb4.mono (by omega)))
  have hnb : w1.heap.size + 1 ≠ w.heap.size := by omega
  clear hb1 hb4 hm1 HBL0 hb0
  go_wp2_with fail
  refine bodyPost_ret (v := ev by_ action actorS actor (w1.heap.size + 1)) (by simp [results, Try.results9, go_sem, hc4]) rfl ⟨_, rfl, ?_, ?_⟩
  · iterate 10 (refine World.ownsMap.setCell ?_ hnb _)
    exact hm4
  · iterate 10 (refine Below.setCell ?_ (by simp) _)
    exact hb5

set_option maxHeartbeats 1000000 in
theorem zzrole_any (by_ action role : ByteArray) (ap : Option Addr) (np cp : Nat) (ak : Option Addr) (n ck : Nat) (ks : List ByteArray) (av : Option Addr) (cv : Nat) (vs : List ByteArray) (w : World) (h : SRow w ak n ck ks) (g : SRow w av n cv vs) (hn : n ≤ 4194304) :
    Calls Try.prog 17 #[.string by_, .string action, .string role, .slice ap np cp, .slice ak n ck, .slice av n cv] w fun e w' =>
      ∃ b, e = .returned (ev by_ action roleS role b) ∧ w'.ownsMap Try.prog 9 RD b (n + 1) (F ((permKey, .iface 22 (.slice ap np cp)) :: ps ks vs)) ∧ Below w.heap.size w w' := by
  have hb0 : Below w.heap.size w (w.alloc (.cells ev0 34)) := (Below.refl _ _).alloc (Nat.le_refl _) _
  have HC : Hid _ := other_any ak n ck ks av cv vs (w.alloc (.cells ev0 34)) (h.below hb0) (g.below hb0) hn
  have hbl0 : (w.alloc (.cells ev0 34)).heap[w.heap.size]? = some (.cells ev0 34 (0, 0)) := heap_alloc_new w _
  have HBL0 : Hid _ := hbl0
  clear h g hbl0
  go_enter Try.func17, Try.ntmps17
  go_wp2_with fail
  refine Calls.mono HC.out ?_
  rintro e w1 ⟨rfl, hm1, hb1⟩
  clear HC
  go_wp2_with fail
  refine (role_any _ _ _ _ _ _ _ n (ps ks vs) w1 (by simpa using hm1) hn).mono ?_
  rintro e w4 ⟨rfl, hm4, hb4⟩
  have hs1 : w.heap.size + 1 ≤ w1.heap.size := by have := hb1.size; simpa using this
  have hbl4 : w4.heap[w.heap.size]? = some (.cells ev0 34 (0, 0)) := by
    rw [hb4.block _ (by omega), hb1.block _ (by simp)]; exact HBL0.out
  have hc4 := block_cell hbl4
  have hf4 := block_free hbl4
  have hb5 := hb0.trans ((hb1.mono (by simp)).trans (hb4.mono (by omega)))
  have hnb : w1.heap.size + 1 ≠ w.heap.size := by omega
  clear hb1 hb4 hm1 HBL0 hb0
  go_wp2_with fail
  refine bodyPost_ret (v := ev by_ action roleS role (w1.heap.size + 1)) (by simp [results, Try.results17, go_sem, hc4]) rfl ⟨_, rfl, ?_, ?_⟩
  · iterate 10 (refine World.ownsMap.setCell ?_ hnb _)
    exact hm4
  · iterate 10 (refine Below.setCell ?_ (by simp) _)
    exact hb5
end Go.Proofs.Qxb6616893a.Walk5
