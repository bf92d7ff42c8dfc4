/-
  THE WALK OF FnGrantEventRoleIDYieldsToOther.
-/
import Derived.Test.Qxb6616893aShared
namespace Go.Proofs.Qxb6616893a.Law1
open Go Go.RowKit Go.Maps Go.Proofs.Qxb6616893a.Parts Go.Proofs.Qxb6616893a.Walk4 Go.Proofs.Qxb6616893a.Walk5 Go.Proofs.Qxb6616893a.Shared
open Go.Proofs.Qxb6616893a.Plain (kl F mem dist)

theorem roleKey_le : roleKey.size ≤ maxLen := by show (7 : Nat) ≤ maxLen; unfold maxLen; omega

set_option maxRecDepth 100000 in
set_option maxHeartbeats 8000000 in
theorem law1 (s0 s1 s2 s3 s4 : ByteArray) (a0 : Option Addr) (n0 c0 : Nat) (l0 : List ByteArray) (a1 : Option Addr) (n1 c1 : Nat) (l1 : List ByteArray) (w : World) (h0 : SRow w a0 n0 c0 l0) (h1 : SRow w a1 n1 c1 l1) :
    Calls Try.prog 3 #[.string s0, .string s1, .string s2, .string s3, .string s4, .slice a0 n0 c0, .slice a1 n1 c1] w fun e w' => e = .returned (.bool true) ∧ Below w.heap.size w w' := by
  have qT : ∀ (w : World) (a : Option Addr) (n c n' c' : Nat), (binOp .neq 22 (.slice a n c) (.slice none n' c')).run Try.prog w = .ok (.bool (!a.isNone)) w := fun w a n c n' c' => run_neq_slice_nil_any w _ _ a n c n' c' Try.underlying22
  obtain ⟨i0, hi, hz0, hz1, hz2⟩ := info_parts Walk3.info9
  have HB : Hid _ := Walk2.bytes6 s0 s1 s2 s3 s4 a0 n0 c0 l0 a1 n1 c1 l1 w h0 h1
  go_enter Try.func3, Try.ntmps3
  go_wp2_with fail
  refine Calls.mono HB.out ?_
  rintro e w' ⟨⟨bb, rfl⟩, rfl⟩
  clear HB
  cases bb with
  | false =>
    go_wp2_with fail
    go_ret
    exact ⟨rfl, Below.refl _ _⟩
  | true =>
    by_cases hk0 : (4096 : Int) < (n0 : Int)
    · go_wp2_with fail
      go_ret
      exact ⟨rfl, Below.refl _ _⟩
    by_cases hk1 : (4096 : Int) < (n1 : Int)
    · go_wp2_with fail
      go_ret
      exact ⟨rfl, Below.refl _ _⟩
    go_upto_if 48 with fail
    go_cut [5] (fun v wc => ∃ a c, v = .slice a n0 c ∧ SRow wc a n0 c l0 ∧ Below w'.heap.size w' wc)
    case first =>
      cases a0 with
      | none =>
        go_wp2
        go_meet
        case rel => exact ⟨none, c0, rfl, h0, Below.refl _ _⟩
      | some x =>
        have hml : n0 ≤ maxLen := Nat.le_trans h0.cap h0.big
        go_wp2_with (at_make; refine wpList_make_full _ rfl _ _ 22 rfl w'.heap.size 9 i0 (.string ByteArray.empty) 1 Try.underlying22 hi hz0 hz1 _ _ _ _ n0 rfl rfl rfl rfl (by rw [hz2]; omega) hml (Nat.le_refl _) ?_)
        intro w1 hown hgrow
        have hblk := made_block hown
        have hb1 : Below w'.heap.size w' w1 := (Below.refl _ _).grown hgrow (Nat.le_refl _) (by simp)
        obtain ⟨v2, w2, hrun2, hr, hb2⟩ := copy_run hb1 (Nat.le_refl _) hblk (h0.below hb1)
        clear hown hgrow hblk hb1
        go_wp2
        go_meet
        case rel => exact ⟨_, _, rfl, hr, hb2⟩
    case rest =>
      obtain ⟨a0', c0', rfl, h0', hb0⟩ := hcut
      have h1' := h1.below hb0
      clear h0 h1
      go_upto_if 57 with fail
      go_cut [6] (fun v wd => ∃ a c, v = .slice a n1 c ∧ SRow wd a n1 c l1 ∧ Below wc.heap.size wc wd)
      case first =>
        cases a1 with
        | none =>
          go_wp2
          go_meet
          case rel => exact ⟨none, c1, rfl, h1', Below.refl _ _⟩
        | some x =>
          have hml : n1 ≤ maxLen := Nat.le_trans h1'.cap h1'.big
          go_wp2_with (at_make; refine wpList_make_full _ rfl _ _ 22 rfl wc.heap.size 9 i0 (.string ByteArray.empty) 1 Try.underlying22 hi hz0 hz1 _ _ _ _ n1 rfl rfl rfl rfl (by rw [hz2]; omega) hml (Nat.le_refl _) ?_)
          intro w1 hown hgrow
          have hblk := made_block hown
          have hb1 : Below wc.heap.size wc w1 := (Below.refl _ _).grown hgrow (Nat.le_refl _) (by simp)
          obtain ⟨v2, w2, hrun2, hr, hb2⟩ := copy_run hb1 (Nat.le_refl _) hblk (h1'.below hb1)
          clear hown hgrow hblk hb1
          go_wp2
          go_meet
          case rel => exact ⟨_, _, rfl, hr, hb2⟩
      case rest =>
        obtain ⟨a1', c1', rfl, h1'', hb1⟩ := hcut
        have h0 := h0'.below hb1
        have hb := hb0.trans (hb1.mono hb0.size)
        clear h0' h1' hb0 hb1 qT hi hz0 hz1 hz2
        go_wp2_with fail
        refine (Walk1.add_any _ _ _).mono ?_
        rintro e w1 ⟨⟨z1, rfl⟩, rfl⟩
        go_wp2_with fail
        refine (Walk1.add_any _ _ _).mono ?_
        rintro e w1 ⟨⟨z2, rfl⟩, rfl⟩
        go_wp2_with fail
        refine (Walk1.add_any _ _ _).mono ?_
        rintro e w1 ⟨⟨z3, rfl⟩, rfl⟩
        go_wp2_with fail
        refine (Walk1.add_any _ _ _).mono ?_
        rintro e w1 ⟨⟨z4, rfl⟩, rfl⟩
        go_wp2_with fail
        refine (Walk1.add_any _ _ _).mono ?_
        rintro e w1 ⟨⟨z5, rfl⟩, rfl⟩
        go_wp2_with fail
        refine (Walk1.strs_any _ _ _ _ l0 _ h0).mono ?_
        rintro e w1 ⟨⟨z6, rfl⟩, rfl⟩
        go_wp2_with fail
        refine (Walk1.strs_any _ _ _ _ l1 _ h1'').mono ?_
        rintro e w1 ⟨⟨z7, rfl⟩, rfl⟩
        by_cases hz : (1048576 : Int) < z7
        · go_wp2_with fail
          go_ret
          exact ⟨rfl, hb⟩
        by_cases hnm : n0 = n1
        · subst hnm
          have hlen : l0.length = l1.length := by rw [h0.len, h1''.len]
          have HLEN : Hid (l0.length = l1.length) := hlen
          clear hlen
          go_wp2_with fail
          refine (zzgrant_any s0 s1 s2 s3 a0' n0 c0' l0 a1' c1' l1 _ h0 h1'' (by omega)).mono ?_
          rintro e w2 ⟨b1, rfl, m1, hb2⟩
          have h0 := h0.below hb2
          have h1 := h1''.below hb2
          have hb := hb.trans (hb2.mono hb.size)
          clear h1'' hb2
          go_wp2_with fail
          have E1b : Below w2.heap.size w2 (w2.alloc (.cells (evc s0 s1 actorS s2 b1) 34)) := (Below.refl _ _).alloc (Nat.le_refl _) _
          refine (zzgrant_any s0 s1 s2 s4 a0' n0 c0' l0 a1' c1' l1 _ (h0.below E1b) (h1.below E1b) (by omega)).mono ?_
          rintro e w3 ⟨b2, rfl, m2, hb3⟩
          have hbc := E1b.trans (hb3.mono E1b.size)
          have F3 : Below w3.heap.size w3 (w3.alloc (.cells (evc s0 s1 actorS s2 b2) 34)) := (Below.refl _ _).alloc (Nat.le_refl _) _
          have hbd := hbc.trans (F3.mono hbc.size)
          have E : Env w'.heap.size w' w2.heap.size w3.heap.size (evc s0 s1 actorS s2 b1) (evc s0 s1 actorS s2 b2) b1 b2 (n0 + 1) ((roleKey, sv s3) :: ps l0 l1) ((roleKey, sv s4) :: ps l0 l1) a0' n0 c0' l0 a1' c1' l1 (w3.alloc (.cells (evc s0 s1 actorS s2 b2) 34)) :=
            ⟨block_below (block_below (heap_alloc_new w2 _) hb3) F3, heap_alloc_new w3 _, owns_below m1 hbd, owns_below m2 F3, h0.below hbd, h1.below hbd, hb.trans (hbd.mono hb.size), Nat.le_trans hb.size (Nat.le_trans hbc.size F3.size)⟩
          clear m1 m2 hb3 hbc F3 hbd h0 h1 hb E1b
          cases hlk : Plain.look (l0.zip l1) roleKey with
          | none =>
            have HM : Hid (mem roleKey l0 = false) := by rw [Hid, ← Plain.look_zip_isSome l0 l1 roleKey HLEN.out, hlk]; rfl
            have HV1 : Hid (Plain.look ((roleKey, sv s3) :: ps l0 l1) roleKey = some (sv s3)) := by rw [look_own roleKey _ l0 l1 none hlk]; rfl
            have HV2 : Hid (Plain.look ((roleKey, sv s4) :: ps l0 l1) roleKey = some (sv s4)) := by rw [look_own roleKey _ l0 l1 none hlk]; rfl
            have HL1 : Hid (((dist l0 : Nat) : Int) + 1 = (dist (((roleKey, sv s3) :: ps l0 l1).map (·.1)) : Nat)) := by rw [Hid, dist_cons _ _ _ HLEN.out, HM.out]; simp; omega
            have HL2 : Hid (((dist l0 : Nat) : Int) + 1 = (dist (((roleKey, sv s4) :: ps l0 l1).map (·.1)) : Nat)) := by rw [Hid, dist_cons _ _ _ HLEN.out, HM.out]; simp; omega
            have HLA : Hid _ := Walk3.last_any a0' n0 c0' l0 a1' c1' l1 roleKey _ E.k E.v
            rw [hlk] at HLA
            clear hlk HM
            go_wp2_with fail
            refine Calls.mono HLA.out ?_
            rintro e wl ⟨rfl, rfl⟩
            unfold Walk3.lastV
            clear HLA
            go_wp2_with fail
            refine (Walk3.dist_any a0' n0 c0' l0 _ E.k).mono ?_
            rintro e w4 ⟨rfl, hb4⟩
            have E := E.below hb4
            clear hb4
            have hdl := Plain.dist_le l0
            have hl0 : l0.length ≤ 4096 := by have := E.k.len; omega
            have p1 : w2.heap.size < w4.heap.size := (Array.getElem?_eq_some_iff.1 E.e1).1
            have p2 : w3.heap.size < w4.heap.size := (Array.getElem?_eq_some_iff.1 E.e2).1
            have d1 := block_cell E.e1
            have d2 := block_cell E.e2
            go_wp2_with fail
            have E5 := E.below ((Below.refl _ _).alloc (Nat.le_refl _) (.cells #[.string actorS, .string s2] 31))
            refine (Walk6.shape_any s0 s1 actorS s2 b1 (n0 + 1) _ _ _ E5.m1 HL1.out).mono ?_
            rintro e w5 ⟨rfl, hb5⟩
            have q5 : w5.heap[w4.heap.size]? = some (.cells #[.string actorS, .string s2] 31 (0, 0)) := block_below (heap_alloc_new w4 _) hb5
            have E := E5.below hb5
            clear hb5 E5 d1 d2 p1 p2
            have d2 := block_cell E.e2
            have d3 := block_cell q5
            go_wp2_with fail
            refine (Walk6.shape_any s0 s1 actorS s2 b2 (n0 + 1) _ _ _ E.m2 HL2.out).mono ?_
            rintro e w6 ⟨rfl, hb6⟩
            have E := E.below hb6
            clear hb6 d2 d3 q5
            have d1 := block_cell E.e1
            go_wp2_with fail
            refine (Walk7.agree_any s0 s1 actorS s2 b1 (n0 + 1) _ a0' n0 c0' l0 a1' c1' l1 _ E.m1 E.k E.v (agrees_cons _ _ _ HLEN.out)).mono ?_
            rintro e w7 ⟨rfl, hb7⟩
            have E := E.below hb7
            clear hb7 d1
            have d2 := block_cell E.e2
            go_wp2_with fail
            refine (Walk7.agree_any s0 s1 actorS s2 b2 (n0 + 1) _ a0' n0 c0' l0 a1' c1' l1 _ E.m2 E.k E.v (agrees_cons _ _ _ HLEN.out)).mono ?_
            rintro e w8 ⟨rfl, hb8⟩
            have E := E.below hb8
            clear hb8 d2
            have d1 := block_cell E.e1
            go_wp2_with fail
            refine (Walk6.detail_str s0 s1 actorS s2 roleKey s3 b1 (n0 + 1) _ _ E.m1 roleKey_le HV1.out).mono ?_
            rintro e w9 ⟨rfl, hb9⟩
            have E := E.below hb9
            clear hb9 d1
            have d2 := block_cell E.e2
            go_wp2_with fail
            refine (Walk6.detail_str s0 s1 actorS s2 roleKey s4 b2 (n0 + 1) _ _ E.m2 roleKey_le HV2.out).mono ?_
            rintro e wz ⟨rfl, hbz⟩
            have E := E.below hbz
            clear hbz d2
            go_wp2_with fail
            go_ret
            exact ⟨rfl, E.old⟩
          | some v =>
            have HM : Hid (mem roleKey l0 = true) := by rw [Hid, ← Plain.look_zip_isSome l0 l1 roleKey HLEN.out, hlk]; rfl
            have HV1 : Hid (Plain.look ((roleKey, sv s3) :: ps l0 l1) roleKey = some (sv v)) := by rw [look_own roleKey _ l0 l1 (some v) hlk]; rfl
            have HV2 : Hid (Plain.look ((roleKey, sv s4) :: ps l0 l1) roleKey = some (sv v)) := by rw [look_own roleKey _ l0 l1 (some v) hlk]; rfl
            have HL1 : Hid (((dist l0 : Nat) : Int) = (dist (((roleKey, sv s3) :: ps l0 l1).map (·.1)) : Nat)) := by rw [Hid, dist_cons _ _ _ HLEN.out, HM.out]; simp
            have HL2 : Hid (((dist l0 : Nat) : Int) = (dist (((roleKey, sv s4) :: ps l0 l1).map (·.1)) : Nat)) := by rw [Hid, dist_cons _ _ _ HLEN.out, HM.out]; simp
            have HLA : Hid _ := Walk3.last_any a0' n0 c0' l0 a1' c1' l1 roleKey _ E.k E.v
            rw [hlk] at HLA
            clear hlk HM
            go_wp2_with fail
            refine Calls.mono HLA.out ?_
            rintro e wl ⟨rfl, rfl⟩
            unfold Walk3.lastV
            clear HLA
            go_wp2_with fail
            refine (Walk3.dist_any a0' n0 c0' l0 _ E.k).mono ?_
            rintro e w4 ⟨rfl, hb4⟩
            have E := E.below hb4
            clear hb4
            have hdl := Plain.dist_le l0
            have hl0 : l0.length ≤ 4096 := by have := E.k.len; omega
            have p1 : w2.heap.size < w4.heap.size := (Array.getElem?_eq_some_iff.1 E.e1).1
            have p2 : w3.heap.size < w4.heap.size := (Array.getElem?_eq_some_iff.1 E.e2).1
            have d1 := block_cell E.e1
            have d2 := block_cell E.e2
            go_wp2_with fail
            have E5 := E.below ((Below.refl _ _).alloc (Nat.le_refl _) (.cells #[.string actorS, .string s2] 31))
            refine (Walk6.shape_any s0 s1 actorS s2 b1 (n0 + 1) _ _ _ E5.m1 HL1.out).mono ?_
            rintro e w5 ⟨rfl, hb5⟩
            have q5 : w5.heap[w4.heap.size]? = some (.cells #[.string actorS, .string s2] 31 (0, 0)) := block_below (heap_alloc_new w4 _) hb5
            have E := E5.below hb5
            clear hb5 E5 d1 d2 p1 p2
            have d2 := block_cell E.e2
            have d3 := block_cell q5
            go_wp2_with fail
            refine (Walk6.shape_any s0 s1 actorS s2 b2 (n0 + 1) _ _ _ E.m2 HL2.out).mono ?_
            rintro e w6 ⟨rfl, hb6⟩
            have E := E.below hb6
            clear hb6 d2 d3 q5
            have d1 := block_cell E.e1
            go_wp2_with fail
            refine (Walk7.agree_any s0 s1 actorS s2 b1 (n0 + 1) _ a0' n0 c0' l0 a1' c1' l1 _ E.m1 E.k E.v (agrees_cons _ _ _ HLEN.out)).mono ?_
            rintro e w7 ⟨rfl, hb7⟩
            have E := E.below hb7
            clear hb7 d1
            have d2 := block_cell E.e2
            go_wp2_with fail
            refine (Walk7.agree_any s0 s1 actorS s2 b2 (n0 + 1) _ a0' n0 c0' l0 a1' c1' l1 _ E.m2 E.k E.v (agrees_cons _ _ _ HLEN.out)).mono ?_
            rintro e w8 ⟨rfl, hb8⟩
            have E := E.below hb8
            clear hb8 d2
            have d1 := block_cell E.e1
            go_wp2_with fail
            refine (Walk6.detail_str s0 s1 actorS s2 roleKey v b1 (n0 + 1) _ _ E.m1 roleKey_le HV1.out).mono ?_
            rintro e w9 ⟨rfl, hb9⟩
            have E := E.below hb9
            clear hb9 d1
            have d2 := block_cell E.e2
            go_wp2_with fail
            refine (Walk6.detail_str s0 s1 actorS s2 roleKey v b2 (n0 + 1) _ _ E.m2 roleKey_le HV2.out).mono ?_
            rintro e wz ⟨rfl, hbz⟩
            have E := E.below hbz
            clear hbz d2
            go_wp2_with fail
            go_ret
            exact ⟨rfl, E.old⟩
        · have hne : ((n0 : Int) != (n1 : Int)) = true := by simp; omega
          go_wp2_with fail
          go_ret
          exact ⟨rfl, hb⟩
end Go.Proofs.Qxb6616893a.Law1
