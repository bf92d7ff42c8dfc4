/-
  THE WALK OF FnGrantAndRoleEventsAgree.
-/
import Derived.Test.Qxb6616893aShared
namespace Go.Proofs.Qxb6616893a.Law3
open Go Go.RowKit Go.Maps Go.Proofs.Qxb6616893a.Parts Go.Proofs.Qxb6616893a.Walk4 Go.Proofs.Qxb6616893a.Walk5 Go.Proofs.Qxb6616893a.Shared
open Go.Proofs.Qxb6616893a.Plain (kl F mem dist)

theorem permKey_le : permKey.size ≤ maxLen := by show (11 : Nat) ≤ maxLen; unfold maxLen; omega
theorem roleKey_le : roleKey.size ≤ maxLen := by show (7 : Nat) ≤ maxLen; unfold maxLen; omega
theorem keys_ne : roleKey ≠ permKey := fun h => by
  have h1 : (7 : Nat) = 11 := congrArg ByteArray.size h
  omega

set_option maxRecDepth 100000 in
set_option maxHeartbeats 16000000 in
theorem law3 (s0 s1 s2 s3 : ByteArray) (a0 : Option Addr) (n0 c0 : Nat) (l0 : List ByteArray) (a1 : Option Addr) (n1 c1 : Nat) (l1 : List ByteArray) (a2 : Option Addr) (n2 c2 : Nat) (l2 : List ByteArray) (w : World)
    (h0 : SRow w a0 n0 c0 l0) (h1 : SRow w a1 n1 c1 l1) (h2 : SRow w a2 n2 c2 l2) :
    Calls Try.prog 5 #[.string s0, .string s1, .string s2, .string s3, .slice a0 n0 c0, .slice a1 n1 c1, .slice a2 n2 c2] w fun e w' => e = .returned (.bool true) ∧ Below w.heap.size w w' := by
  have qT : ∀ (w : World) (a : Option Addr) (n c n' c' : Nat), (binOp .neq 22 (.slice a n c) (.slice none n' c')).run Try.prog w = .ok (.bool (!a.isNone)) w := fun w a n c n' c' => run_neq_slice_nil_any w _ _ a n c n' c' Try.underlying22
  obtain ⟨i0, hi, hz0, hz1, hz2⟩ := info_parts Walk3.info9
  have HB : Hid _ := Walk2.bytes21 s0 s1 s2 s3 a0 n0 c0 l0 a1 n1 c1 l1 a2 n2 c2 l2 w h0 h1 h2
  go_enter Try.func5, Try.ntmps5
  go_wp2_with fail
  refine Calls.mono HB.out ?_
  rintro e w' ⟨⟨bb, rfl⟩, rfl⟩
  clear HB
  cases bb with
  | false =>
    go_wp2_with fail
    go_ret
    exact ⟨rfl, Below.refl _ _⟩
  | true =>
    by_cases hk0 : (65536 : Int) < (n0 : Int)
    · go_wp2_with fail
      go_ret
      exact ⟨rfl, Below.refl _ _⟩
    by_cases hk1 : (4096 : Int) < (n1 : Int)
    · go_wp2_with fail
      go_ret
      exact ⟨rfl, Below.refl _ _⟩
    by_cases hk2 : (4096 : Int) < (n2 : Int)
    · go_wp2_with fail
      go_ret
      exact ⟨rfl, Below.refl _ _⟩
    go_upto_if 57 with fail
    go_cut [5] (fun v wc => ∃ a c, v = .slice a n1 c ∧ SRow wc a n1 c l1 ∧ Below w'.heap.size w' wc)
    case first =>
      cases a1 with
      | none =>
        go_wp2
        go_meet
        case rel => exact ⟨none, c1, rfl, h1, Below.refl _ _⟩
      | some x =>
        have hml : n1 ≤ maxLen := Nat.le_trans h1.cap h1.big
        go_wp2_with (at_make; refine wpList_make_full _ rfl _ _ 22 rfl w'.heap.size 9 i0 (.string ByteArray.empty) 1 Try.underlying22 hi hz0 hz1 _ _ _ _ n1 rfl rfl rfl rfl (by rw [hz2]; omega) hml (Nat.le_refl _) ?_)
        intro w1 hown hgrow
        have hblk := made_block hown
        have hb1 : Below w'.heap.size w' w1 := (Below.refl _ _).grown hgrow (Nat.le_refl _) (by simp)
        obtain ⟨v2, w2, hrun2, hr, hb2⟩ := copy_run hb1 (Nat.le_refl _) hblk (h1.below hb1)
        clear hown hgrow hblk hb1
        go_wp2
        go_meet
        case rel => exact ⟨_, _, rfl, hr, hb2⟩
    case rest =>
      obtain ⟨a1', c1', rfl, h1', hb0⟩ := hcut
      have h0 := h0.below hb0
      have h2' := h2.below hb0
      clear h1 h2
      go_upto_if 66 with fail
      go_cut [6] (fun v wd => ∃ a c, v = .slice a n2 c ∧ SRow wd a n2 c l2 ∧ Below wc.heap.size wc wd)
      case first =>
        cases a2 with
        | none =>
          go_wp2
          go_meet
          case rel => exact ⟨none, c2, rfl, h2', Below.refl _ _⟩
        | some x =>
          have hml : n2 ≤ maxLen := Nat.le_trans h2'.cap h2'.big
          go_wp2_with (at_make; refine wpList_make_full _ rfl _ _ 22 rfl wc.heap.size 9 i0 (.string ByteArray.empty) 1 Try.underlying22 hi hz0 hz1 _ _ _ _ n2 rfl rfl rfl rfl (by rw [hz2]; omega) hml (Nat.le_refl _) ?_)
          intro w1 hown hgrow
          have hblk := made_block hown
          have hb1 : Below wc.heap.size wc w1 := (Below.refl _ _).grown hgrow (Nat.le_refl _) (by simp)
          obtain ⟨v2, w2, hrun2, hr, hb2⟩ := copy_run hb1 (Nat.le_refl _) hblk (h2'.below hb1)
          clear hown hgrow hblk hb1
          go_wp2
          go_meet
          case rel => exact ⟨_, _, rfl, hr, hb2⟩
      case rest =>
        obtain ⟨a2', c2', rfl, h2, hb1⟩ := hcut
        have h1 := h1'.below hb1
        have h0 := h0.below hb1
        have hb := hb0.trans (hb1.mono hb0.size)
        clear h1' h2' hb0 hb1 qT hi hz0 hz1 hz2
        go_wp2_with fail
        refine (Walk1.add_any _ _ _).mono ?_
        rintro e w1 ⟨⟨z1, rfl⟩, rfl⟩
        go_wp2_with fail
        refine (Walk1.add_any _ _ _).mono ?_
        rintro e w1 ⟨⟨z2, rfl⟩, rfl⟩
        go_wp2_with fail
        refine (Walk1.add_any _ _ _).mono ?_
        rintro e w1 ⟨⟨z3, rfl⟩, rfl⟩
        go_wp2_with fail
        refine (Walk1.add_any _ _ _).mono ?_
        rintro e w1 ⟨⟨z4, rfl⟩, rfl⟩
        go_wp2_with fail
        refine (Walk1.strs_any _ _ _ _ l0 _ h0).mono ?_
        rintro e w1 ⟨⟨z5, rfl⟩, rfl⟩
        go_wp2_with fail
        refine (Walk1.strs_any _ _ _ _ l1 _ h1).mono ?_
        rintro e w1 ⟨⟨z6, rfl⟩, rfl⟩
        go_wp2_with fail
        refine (Walk1.strs_any _ _ _ _ l2 _ h2).mono ?_
        rintro e w1 ⟨⟨z7, rfl⟩, rfl⟩
        by_cases hz : (1048576 : Int) < z7
        · go_wp2_with fail
          go_ret
          exact ⟨rfl, hb⟩
        by_cases hnm : n1 = n2
        · subst hnm
          have hlen : l1.length = l2.length := by rw [h1.len, h2.len]
          have HLEN : Hid (l1.length = l2.length) := hlen
          clear hlen
          go_wp2_with fail
          refine (Walk3.clone_any a0 n0 c0 l0 _ h0 (by omega)).mono ?_
          rintro e wp ⟨ap, cp, rfl, P1, N1, hbx⟩
          have N1 : Hid _ := N1
          have h1 := h1.below hbx
          have h2 := h2.below hbx
          have hb := hb.trans (hbx.mono hb.size)
          clear hbx
          go_wp2_with fail
          refine (Walk3.clone_any ap n0 cp l0 _ P1 (by omega)).mono ?_
          rintro e wr ⟨ar, cr, rfl, P3, N3, hbx⟩
          have N3 : Hid _ := N3
          have h1 := h1.below hbx
          have h2 := h2.below hbx
          have P1 := P1.below hbx
          have hb := hb.trans (hbx.mono hb.size)
          clear hbx
          clear h0
          go_wp2_with fail
          refine (zzgrant_any s0 s1 s2 s3 a1' n1 c1' l1 a2' c2' l2 _ h1 h2 (by omega)).mono ?_
          rintro e wa ⟨b1, rfl, m1, hba⟩
          have h1 := h1.below hba
          have h2 := h2.below hba
          have P1 := P1.below hba
          have P3 := P3.below hba
          have hb := hb.trans (hba.mono hb.size)
          clear hba
          go_wp2_with fail
          have E1b : Below wa.heap.size wa (wa.alloc (.cells (evc s0 s1 actorS s2 b1) 34)) := (Below.refl _ _).alloc (Nat.le_refl _) _
          refine (zzrole_any s0 s1 s3 ap n0 cp a1' n1 c1' l1 a2' c2' l2 _ (h1.below E1b) (h2.below E1b) (by omega)).mono ?_
          rintro e wb ⟨b2, rfl, m2, hbb⟩
          have hbc := E1b.trans (hbb.mono E1b.size)
          have F3 : Below wb.heap.size wb (wb.alloc (.cells (evc s0 s1 roleS s3 b2) 34)) := (Below.refl _ _).alloc (Nat.le_refl _) _
          have hbd := hbc.trans (F3.mono hbc.size)
          have E : Env w'.heap.size w' wa.heap.size wb.heap.size (evc s0 s1 actorS s2 b1) (evc s0 s1 roleS s3 b2) b1 b2 (n1 + 1) ((roleKey, sv s3) :: ps l1 l2) ((permKey, .iface 22 (.slice ap n0 cp)) :: ps l1 l2) a1' n1 c1' l1 a2' c2' l2 (wb.alloc (.cells (evc s0 s1 roleS s3 b2) 34)) :=
            ⟨block_below (block_below (heap_alloc_new wa _) hbb) F3, heap_alloc_new wb _, owns_below m1 hbd, owns_below m2 F3, h1.below hbd, h2.below hbd, hb.trans (hbd.mono hb.size), Nat.le_trans hb.size (Nat.le_trans hbc.size F3.size)⟩
          have P1 := P1.below hbd
          have P3 := P3.below hbd
          clear m1 m2 hbb hbc F3 hbd h1 h2 hb E1b
          cases hmr : mem roleKey l1 with
          | false =>
            cases hmp : mem permKey l1 with
            | false =>
              have HL1 : Hid (((dist l1 : Nat) : Int) + 1 = (dist (((roleKey, sv s3) :: ps l1 l2).map (·.1)) : Nat)) := by rw [Hid, dist_cons _ _ _ HLEN.out, hmr]; simp; omega
              have HL2 : Hid (((dist l1 : Nat) : Int) + 1 = (dist (((permKey, .iface 22 (.slice ap n0 cp)) :: ps l1 l2).map (·.1)) : Nat)) := by rw [Hid, dist_cons _ _ _ HLEN.out, hmp]; simp; omega
              have hlr := Plain.look_zip_none l1 l2 roleKey HLEN.out hmr
              have HVg : Hid (Plain.look ((roleKey, sv s3) :: ps l1 l2) roleKey = some (sv s3)) := by rw [look_own roleKey _ l1 l2 none hlr]; rfl
              have HVr : Hid (Plain.look ((permKey, .iface 22 (.slice ap n0 cp)) :: ps l1 l2) roleKey = none) := look_other roleKey permKey _ l1 l2 keys_ne.symm hlr
              clear hlr
              have hlp := Plain.look_zip_none l1 l2 permKey HLEN.out hmp
              have HWr : Hid (Plain.look ((permKey, .iface 22 (.slice ap n0 cp)) :: ps l1 l2) permKey = some (.iface 22 (.slice ap n0 cp))) := by rw [look_own permKey _ l1 l2 none hlp]; rfl
              have HWg : Hid (Plain.look ((roleKey, sv s3) :: ps l1 l2) permKey = none) := look_other permKey roleKey _ l1 l2 keys_ne hlp
              clear hlp
              have HLA : Hid _ := Walk3.has_any a1' n1 c1' l1 roleKey _ E.k
              rw [hmr] at HLA
              have HLB : Hid _ := Walk3.has_any a1' n1 c1' l1 permKey _ E.k
              rw [hmp] at HLB
              clear hmr hmp
              go_wp2_with fail
              refine Calls.mono HLA.out ?_
              rintro e wl ⟨rfl, rfl⟩
              clear HLA
              go_wp2_with fail
              refine Calls.mono HLB.out ?_
              rintro e wl ⟨rfl, rfl⟩
              clear HLB
              go_wp2_with fail
              refine (Walk3.dist_any a1' n1 c1' l1 _ E.k).mono ?_
              rintro e w4 ⟨rfl, hb4⟩
              have E := E.below hb4
              have P1 := P1.below hb4
              have P3 := P3.below hb4
              clear hb4
              have hdl := Plain.dist_le l1
              have hl0 : l1.length ≤ 4096 := by have := E.k.len; omega
              have d1 := block_cell E.e1
              go_wp2_with fail
              refine (Walk6.shape_any s0 s1 actorS s2 b1 (n1 + 1) _ _ _ E.m1 HL1.out).mono ?_
              rintro e w5 ⟨rfl, hb5⟩
              have E := E.below hb5
              have P1 := P1.below hb5
              have P3 := P3.below hb5
              clear hb5 d1
              have d2 := block_cell E.e2
              go_wp2_with fail
              refine (Walk6.shape_any s0 s1 roleS s3 b2 (n1 + 1) _ _ _ E.m2 HL2.out).mono ?_
              rintro e w6 ⟨rfl, hb6⟩
              have E := E.below hb6
              have P1 := P1.below hb6
              have P3 := P3.below hb6
              clear hb6 d2
              have d1 := block_cell E.e1
              go_wp2_with fail
              refine (Walk7.agree_any s0 s1 actorS s2 b1 (n1 + 1) _ a1' n1 c1' l1 a2' c2' l2 _ E.m1 E.k E.v (agrees_cons _ _ _ HLEN.out)).mono ?_
              rintro e w7 ⟨rfl, hb7⟩
              have E := E.below hb7
              have P1 := P1.below hb7
              have P3 := P3.below hb7
              clear hb7 d1
              have d2 := block_cell E.e2
              go_wp2_with fail
              refine (Walk7.agree_any s0 s1 roleS s3 b2 (n1 + 1) _ a1' n1 c1' l1 a2' c2' l2 _ E.m2 E.k E.v (agrees_cons _ _ _ HLEN.out)).mono ?_
              rintro e w8 ⟨rfl, hb8⟩
              have E := E.below hb8
              have P1 := P1.below hb8
              have P3 := P3.below hb8
              clear hb8 d2
              have d1 := block_cell E.e1
              have d2 := block_cell E.e2
              go_wp2_with fail
              refine (Walk6.detail_str s0 s1 actorS s2 roleKey s3 b1 (n1 + 1) _ _ E.m1 roleKey_le HVg.out).mono ?_
              rintro e w9 ⟨rfl, hb9⟩
              have E := E.below hb9
              have P1 := P1.below hb9
              have P3 := P3.below hb9
              clear hb9 d1 d2
              have d2 := block_cell E.e2
              go_wp2_with fail
              refine (Walk6.detail_none s0 s1 roleS s3 roleKey b2 (n1 + 1) _ _ E.m2 roleKey_le HVr.out).mono ?_
              rintro e wA ⟨rfl, hbA⟩
              have E := E.below hbA
              have P1 := P1.below hbA
              have P3 := P3.below hbA
              clear hbA d2
              have d1 := block_cell E.e1
              have d2 := block_cell E.e2
              go_wp2_with fail
              refine (Walk6.details_row s0 s1 roleS s3 permKey _ _ _ b2 (n1 + 1) _ _ E.m2 permKey_le HWr.out).mono ?_
              rintro e wB ⟨rfl, hbB⟩
              have E := E.below hbB
              have P1 := P1.below hbB
              have P3 := P3.below hbB
              clear hbB d1 d2
              go_wp2_with fail
              refine (Walk3.eq_same ap n0 cp ar cr l0 _ P1 P3 N3.out.symm).mono ?_
              rintro e wy ⟨rfl, hby⟩
              have E := E.below hby
              clear hby
              have d1 := block_cell E.e1
              go_wp2_with fail
              refine (Walk6.details_none s0 s1 actorS s2 permKey b1 (n1 + 1) _ _ E.m1 permKey_le HWg.out).mono ?_
              rintro e wC ⟨rfl, hbC⟩
              have E := E.below hbC
              clear hbC d1
              go_wp2_with fail
              go_ret
              exact ⟨rfl, E.old⟩
            | true =>
              have HL1 : Hid (((dist l1 : Nat) : Int) + 1 = (dist (((roleKey, sv s3) :: ps l1 l2).map (·.1)) : Nat)) := by rw [Hid, dist_cons _ _ _ HLEN.out, hmr]; simp; omega
              have HL2 : Hid (((dist l1 : Nat) : Int) = (dist (((permKey, .iface 22 (.slice ap n0 cp)) :: ps l1 l2).map (·.1)) : Nat)) := by rw [Hid, dist_cons _ _ _ HLEN.out, hmp]; simp
              have hlr := Plain.look_zip_none l1 l2 roleKey HLEN.out hmr
              have HVg : Hid (Plain.look ((roleKey, sv s3) :: ps l1 l2) roleKey = some (sv s3)) := by rw [look_own roleKey _ l1 l2 none hlr]; rfl
              have HVr : Hid (Plain.look ((permKey, .iface 22 (.slice ap n0 cp)) :: ps l1 l2) roleKey = none) := look_other roleKey permKey _ l1 l2 keys_ne.symm hlr
              clear hlr
              have HLA : Hid _ := Walk3.has_any a1' n1 c1' l1 roleKey _ E.k
              rw [hmr] at HLA
              have HLB : Hid _ := Walk3.has_any a1' n1 c1' l1 permKey _ E.k
              rw [hmp] at HLB
              clear hmr hmp
              go_wp2_with fail
              refine Calls.mono HLA.out ?_
              rintro e wl ⟨rfl, rfl⟩
              clear HLA
              go_wp2_with fail
              refine Calls.mono HLB.out ?_
              rintro e wl ⟨rfl, rfl⟩
              clear HLB
              go_wp2_with fail
              refine (Walk3.dist_any a1' n1 c1' l1 _ E.k).mono ?_
              rintro e w4 ⟨rfl, hb4⟩
              have E := E.below hb4
              have P1 := P1.below hb4
              have P3 := P3.below hb4
              clear hb4
              have hdl := Plain.dist_le l1
              have hl0 : l1.length ≤ 4096 := by have := E.k.len; omega
              have d1 := block_cell E.e1
              go_wp2_with fail
              refine (Walk6.shape_any s0 s1 actorS s2 b1 (n1 + 1) _ _ _ E.m1 HL1.out).mono ?_
              rintro e w5 ⟨rfl, hb5⟩
              have E := E.below hb5
              have P1 := P1.below hb5
              have P3 := P3.below hb5
              clear hb5 d1
              have d2 := block_cell E.e2
              go_wp2_with fail
              refine (Walk6.shape_any s0 s1 roleS s3 b2 (n1 + 1) _ _ _ E.m2 HL2.out).mono ?_
              rintro e w6 ⟨rfl, hb6⟩
              have E := E.below hb6
              have P1 := P1.below hb6
              have P3 := P3.below hb6
              clear hb6 d2
              have d1 := block_cell E.e1
              go_wp2_with fail
              refine (Walk7.agree_any s0 s1 actorS s2 b1 (n1 + 1) _ a1' n1 c1' l1 a2' c2' l2 _ E.m1 E.k E.v (agrees_cons _ _ _ HLEN.out)).mono ?_
              rintro e w7 ⟨rfl, hb7⟩
              have E := E.below hb7
              have P1 := P1.below hb7
              have P3 := P3.below hb7
              clear hb7 d1
              have d2 := block_cell E.e2
              go_wp2_with fail
              refine (Walk7.agree_any s0 s1 roleS s3 b2 (n1 + 1) _ a1' n1 c1' l1 a2' c2' l2 _ E.m2 E.k E.v (agrees_cons _ _ _ HLEN.out)).mono ?_
              rintro e w8 ⟨rfl, hb8⟩
              have E := E.below hb8
              have P1 := P1.below hb8
              have P3 := P3.below hb8
              clear hb8 d2
              have d1 := block_cell E.e1
              have d2 := block_cell E.e2
              go_wp2_with fail
              refine (Walk6.detail_str s0 s1 actorS s2 roleKey s3 b1 (n1 + 1) _ _ E.m1 roleKey_le HVg.out).mono ?_
              rintro e w9 ⟨rfl, hb9⟩
              have E := E.below hb9
              have P1 := P1.below hb9
              have P3 := P3.below hb9
              clear hb9 d1 d2
              have d2 := block_cell E.e2
              go_wp2_with fail
              refine (Walk6.detail_none s0 s1 roleS s3 roleKey b2 (n1 + 1) _ _ E.m2 roleKey_le HVr.out).mono ?_
              rintro e wA ⟨rfl, hbA⟩
              have E := E.below hbA
              have P1 := P1.below hbA
              have P3 := P3.below hbA
              clear hbA d2
              have d1 := block_cell E.e1
              have d2 := block_cell E.e2
              go_wp2_with fail
              go_ret
              exact ⟨rfl, E.old⟩
          | true =>
            cases hmp : mem permKey l1 with
            | false =>
              have HL1 : Hid (((dist l1 : Nat) : Int) = (dist (((roleKey, sv s3) :: ps l1 l2).map (·.1)) : Nat)) := by rw [Hid, dist_cons _ _ _ HLEN.out, hmr]; simp
              have HL2 : Hid (((dist l1 : Nat) : Int) + 1 = (dist (((permKey, .iface 22 (.slice ap n0 cp)) :: ps l1 l2).map (·.1)) : Nat)) := by rw [Hid, dist_cons _ _ _ HLEN.out, hmp]; simp; omega
              have hlp := Plain.look_zip_none l1 l2 permKey HLEN.out hmp
              have HWr : Hid (Plain.look ((permKey, .iface 22 (.slice ap n0 cp)) :: ps l1 l2) permKey = some (.iface 22 (.slice ap n0 cp))) := by rw [look_own permKey _ l1 l2 none hlp]; rfl
              have HWg : Hid (Plain.look ((roleKey, sv s3) :: ps l1 l2) permKey = none) := look_other permKey roleKey _ l1 l2 keys_ne hlp
              clear hlp
              have HLA : Hid _ := Walk3.has_any a1' n1 c1' l1 roleKey _ E.k
              rw [hmr] at HLA
              have HLB : Hid _ := Walk3.has_any a1' n1 c1' l1 permKey _ E.k
              rw [hmp] at HLB
              clear hmr hmp
              go_wp2_with fail
              refine Calls.mono HLA.out ?_
              rintro e wl ⟨rfl, rfl⟩
              clear HLA
              go_wp2_with fail
              refine Calls.mono HLB.out ?_
              rintro e wl ⟨rfl, rfl⟩
              clear HLB
              go_wp2_with fail
              refine (Walk3.dist_any a1' n1 c1' l1 _ E.k).mono ?_
              rintro e w4 ⟨rfl, hb4⟩
              have E := E.below hb4
              have P1 := P1.below hb4
              have P3 := P3.below hb4
              clear hb4
              have hdl := Plain.dist_le l1
              have hl0 : l1.length ≤ 4096 := by have := E.k.len; omega
              have d1 := block_cell E.e1
              go_wp2_with fail
              refine (Walk6.shape_any s0 s1 actorS s2 b1 (n1 + 1) _ _ _ E.m1 HL1.out).mono ?_
              rintro e w5 ⟨rfl, hb5⟩
              have E := E.below hb5
              have P1 := P1.below hb5
              have P3 := P3.below hb5
              clear hb5 d1
              have d2 := block_cell E.e2
              go_wp2_with fail
              refine (Walk6.shape_any s0 s1 roleS s3 b2 (n1 + 1) _ _ _ E.m2 HL2.out).mono ?_
              rintro e w6 ⟨rfl, hb6⟩
              have E := E.below hb6
              have P1 := P1.below hb6
              have P3 := P3.below hb6
              clear hb6 d2
              have d1 := block_cell E.e1
              go_wp2_with fail
              refine (Walk7.agree_any s0 s1 actorS s2 b1 (n1 + 1) _ a1' n1 c1' l1 a2' c2' l2 _ E.m1 E.k E.v (agrees_cons _ _ _ HLEN.out)).mono ?_
              rintro e w7 ⟨rfl, hb7⟩
              have E := E.below hb7
              have P1 := P1.below hb7
              have P3 := P3.below hb7
              clear hb7 d1
              have d2 := block_cell E.e2
              go_wp2_with fail
              refine (Walk7.agree_any s0 s1 roleS s3 b2 (n1 + 1) _ a1' n1 c1' l1 a2' c2' l2 _ E.m2 E.k E.v (agrees_cons _ _ _ HLEN.out)).mono ?_
              rintro e w8 ⟨rfl, hb8⟩
              have E := E.below hb8
              have P1 := P1.below hb8
              have P3 := P3.below hb8
              clear hb8 d2
              have d1 := block_cell E.e1
              have d2 := block_cell E.e2
              go_wp2_with fail
              refine (Walk6.details_row s0 s1 roleS s3 permKey _ _ _ b2 (n1 + 1) _ _ E.m2 permKey_le HWr.out).mono ?_
              rintro e wB ⟨rfl, hbB⟩
              have E := E.below hbB
              have P1 := P1.below hbB
              have P3 := P3.below hbB
              clear hbB d1 d2
              go_wp2_with fail
              refine (Walk3.eq_same ap n0 cp ar cr l0 _ P1 P3 N3.out.symm).mono ?_
              rintro e wy ⟨rfl, hby⟩
              have E := E.below hby
              clear hby
              have d1 := block_cell E.e1
              go_wp2_with fail
              refine (Walk6.details_none s0 s1 actorS s2 permKey b1 (n1 + 1) _ _ E.m1 permKey_le HWg.out).mono ?_
              rintro e wC ⟨rfl, hbC⟩
              have E := E.below hbC
              clear hbC d1
              go_wp2_with fail
              go_ret
              exact ⟨rfl, E.old⟩
            | true =>
              have HL1 : Hid (((dist l1 : Nat) : Int) = (dist (((roleKey, sv s3) :: ps l1 l2).map (·.1)) : Nat)) := by rw [Hid, dist_cons _ _ _ HLEN.out, hmr]; simp
              have HL2 : Hid (((dist l1 : Nat) : Int) = (dist (((permKey, .iface 22 (.slice ap n0 cp)) :: ps l1 l2).map (·.1)) : Nat)) := by rw [Hid, dist_cons _ _ _ HLEN.out, hmp]; simp
              have HLA : Hid _ := Walk3.has_any a1' n1 c1' l1 roleKey _ E.k
              rw [hmr] at HLA
              have HLB : Hid _ := Walk3.has_any a1' n1 c1' l1 permKey _ E.k
              rw [hmp] at HLB
              clear hmr hmp
              go_wp2_with fail
              refine Calls.mono HLA.out ?_
              rintro e wl ⟨rfl, rfl⟩
              clear HLA
              go_wp2_with fail
              refine Calls.mono HLB.out ?_
              rintro e wl ⟨rfl, rfl⟩
              clear HLB
              go_wp2_with fail
              refine (Walk3.dist_any a1' n1 c1' l1 _ E.k).mono ?_
              rintro e w4 ⟨rfl, hb4⟩
              have E := E.below hb4
              have P1 := P1.below hb4
              have P3 := P3.below hb4
              clear hb4
              have hdl := Plain.dist_le l1
              have hl0 : l1.length ≤ 4096 := by have := E.k.len; omega
              have d1 := block_cell E.e1
              go_wp2_with fail
              refine (Walk6.shape_any s0 s1 actorS s2 b1 (n1 + 1) _ _ _ E.m1 HL1.out).mono ?_
              rintro e w5 ⟨rfl, hb5⟩
              have E := E.below hb5
              have P1 := P1.below hb5
              have P3 := P3.below hb5
              clear hb5 d1
              have d2 := block_cell E.e2
              go_wp2_with fail
              refine (Walk6.shape_any s0 s1 roleS s3 b2 (n1 + 1) _ _ _ E.m2 HL2.out).mono ?_
              rintro e w6 ⟨rfl, hb6⟩
              have E := E.below hb6
              have P1 := P1.below hb6
              have P3 := P3.below hb6
              clear hb6 d2
              have d1 := block_cell E.e1
              go_wp2_with fail
              refine (Walk7.agree_any s0 s1 actorS s2 b1 (n1 + 1) _ a1' n1 c1' l1 a2' c2' l2 _ E.m1 E.k E.v (agrees_cons _ _ _ HLEN.out)).mono ?_
              rintro e w7 ⟨rfl, hb7⟩
              have E := E.below hb7
              have P1 := P1.below hb7
              have P3 := P3.below hb7
              clear hb7 d1
              have d2 := block_cell E.e2
              go_wp2_with fail
              refine (Walk7.agree_any s0 s1 roleS s3 b2 (n1 + 1) _ a1' n1 c1' l1 a2' c2' l2 _ E.m2 E.k E.v (agrees_cons _ _ _ HLEN.out)).mono ?_
              rintro e w8 ⟨rfl, hb8⟩
              have E := E.below hb8
              have P1 := P1.below hb8
              have P3 := P3.below hb8
              clear hb8 d2
              have d1 := block_cell E.e1
              have d2 := block_cell E.e2
              go_wp2_with fail
              go_ret
              exact ⟨rfl, E.old⟩
        · have hne : ((n1 : Int) != (n2 : Int)) = true := by simp; omega
          go_wp2_with fail
          go_ret
          exact ⟨rfl, hb⟩
end Go.Proofs.Qxb6616893a.Law3
