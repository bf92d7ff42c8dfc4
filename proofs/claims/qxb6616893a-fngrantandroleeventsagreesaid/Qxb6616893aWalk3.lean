/-
  THE HELPERS OVER KEYS: zzHas, zzLastVal, zzClone, zzEqStrs.
-/
import Derived.Test.Qxb6616893aProg
import Derived.Test.Qxb6616893aParts
import Derived.Test.Qxb6616893aPlain
import Derived.RegionTactic
namespace Go.Proofs.Qxb6616893a.Walk3
open Go Go.RowKit Go.Proofs.Qxb6616893a.Parts
open Go.Proofs.Qxb6616893a.Plain (mem dist)

theorem info9 : (Try.prog.info? 9).map (fun i => (i.zero, i.size, i.bytes)) = some (some (.string ByteArray.empty), 1, 16) := by kernel_rfl

theorem mem_take_succ (k : ByteArray) (ks : List ByteArray) (i : Nat) (h : i < ks.length) : mem k (ks.take (i + 1)) = (mem k (ks.take i) || decide (ks.getD i ByteArray.empty = k)) := by
  rw [← take_snoc ks i h, Plain.mem_snoc]

theorem mem_of_getD (k : ByteArray) (ks : List ByteArray) (i : Nat) (h : i < ks.length) (e : ks.getD i ByteArray.empty = k) : mem k ks = true := by
  rw [mem, List.any_eq_true]
  exact ⟨_, getD_mem ks i h, by rw [e]; simp⟩

set_option maxHeartbeats 400000 in
theorem has_any (ao : Option Addr) (n c : Nat) (ks : List ByteArray) (k : ByteArray) (w : World) (h : SRow w ao n c ks) :
    Calls Try.prog 18 #[.slice ao n c, .string k] w fun e w' => e = .returned (.bool (mem k ks)) ∧ w' = w := by
  have hb : n ≤ 9223372036854775807 := Nat.le_trans h.cap (by have := h.big; unfold maxLen at this; exact this)
  have hl : Hid (ks.length = n) := h.len
  go_enter Try.func18, Try.ntmps18
  go_wp2
  go_loop [5] (fun i => ∃ j : Nat, j ≤ n ∧ i = .int .i64 j ∧ Hid (mem k (ks.take j) = false)) (fun i => n - (intOf i).toNat)
  case atStart => exact ⟨0, Nat.zero_le _, rfl, rfl⟩
  case round =>
    obtain ⟨j, hj, rfl, hm⟩ := hrel
    by_cases hlt : j < n
    · obtain ⟨b, o, hx, hc⟩ := h.pos (by omega)
      subst hx
      have hlt' : (j : Int) < (n : Int) := by omega
      have hck := hc j hlt
      have hms := mem_take_succ k ks j (by rw [hl.out]; exact hlt)
      have hmg := mem_of_getD k ks j (by rw [hl.out]; exact hlt)
      rw [hm.out] at hms
      obtain ⟨u, hu⟩ : ∃ u, u = ks.getD j ByteArray.empty := ⟨_, rfl⟩
      rw [← hu] at hck hms hmg
      clear hu hc
      by_cases e : u = k
      · have hM : Hid (mem k ks = true) := hmg e
        have hne := str_eq e
        clear hmg hms e
        go_wp2
        go_ret
        exact ⟨by rw [hM.out]; rfl, rfl⟩
      · have hM : Hid (mem k (ks.take (j + 1)) = false) := by rw [Hid]; simpa [e] using hms
        have hne := str_ne e
        clear hmg hms e
        go_wp2
        go_round
        case rel => exact ⟨j + 1, by omega, by go_num, hM⟩
        case measure => simp [intOf]; omega
    · have hjn : j = n := by omega
      subst hjn
      go_wp2
      go_ret
      have := hm.out
      rw [List.take_of_length_le (Nat.le_of_eq hl.out)] at this
      exact ⟨by rw [this]; rfl, rfl⟩

/-- What zzLastVal hands back. -/
def lastV (r : Option ByteArray) : Value := .tuple #[.string (r.getD ByteArray.empty), .bool r.isSome]

set_option maxHeartbeats 400000 in
theorem last_any (ak : Option Addr) (n ck : Nat) (ks : List ByteArray) (av : Option Addr) (cv : Nat) (vs : List ByteArray) (k : ByteArray) (w : World) (h : SRow w ak n ck ks) (g : SRow w av n cv vs) :
    Calls Try.prog 10 #[.slice ak n ck, .slice av n cv, .string k] w fun e w' => e = .returned (lastV (Plain.look (ks.zip vs) k)) ∧ w' = w := by
  have hb : n ≤ 9223372036854775807 := Nat.le_trans h.cap (by have := h.big; unfold maxLen at this; exact this)
  have hl : Hid (ks.length = n) := h.len
  have gl : Hid (vs.length = n) := g.len
  go_enter Try.func10, Try.ntmps10
  go_wp2
  go_loop [8] (fun i => ∃ j : Nat, j ≤ n ∧ i = .int .i64 ((j : Int) - 1) ∧ Hid (mem k (ks.drop j) = false)) (fun i => (intOf i + 1).toNat)
  case atStart => exact ⟨n, Nat.le_refl _, rfl, by rw [Hid, List.drop_of_length_le (Nat.le_of_eq hl.out)]; rfl⟩
  case round =>
    obtain ⟨j, hj, rfl, hm⟩ := hrel
    cases j with
    | zero =>
      have hE : Hid (Plain.look (ks.zip vs) k = none) := Plain.look_zip_none ks vs k (by rw [hl.out, gl.out]) (by have := hm.out; rwa [List.drop_zero] at this)
      go_wp2
      go_ret2
      exact ⟨by rw [hE.out]; rfl, rfl⟩
    | succ t =>
      obtain ⟨b, o, hx, hc⟩ := h.pos (by omega)
      subst hx
      obtain ⟨b', o', hx, hc'⟩ := g.pos (by omega)
      subst hx
      have hlt' : (t : Int) < (n : Int) := by omega
      have hck := hc t (by omega)
      have hcv := hc' t (by omega)
      have hat := Plain.look_at ks vs k t (by rw [hl.out, gl.out]) (by rw [hl.out]; omega)
      have hmd := Plain.mem_drop_cons k ks t (by rw [hl.out]; omega)
      rw [hm.out] at hmd
      obtain ⟨u, hu⟩ : ∃ u, u = ks.getD t ByteArray.empty := ⟨_, rfl⟩
      obtain ⟨v, hv⟩ : ∃ v, v = vs.getD t ByteArray.empty := ⟨_, rfl⟩
      rw [← hu] at hck hat hmd
      rw [← hv] at hcv hat
      have e1 : ((t + 1 : Nat) : Int) - 1 = (t : Int) := by omega
      rw [e1]
      clear hu hv hc hc' e1
      by_cases e : u = k
      · have hE : Hid (Plain.look (ks.zip vs) k = some v) := hat e hm.out
        have hne := str_eq e
        clear hat hmd e
        go_wp2
        go_ret2
        exact ⟨by rw [hE.out]; rfl, rfl⟩
      · have hM : Hid (mem k (ks.drop t) = false) := by rw [Hid]; simpa [e] using hmd
        have hne := str_ne e
        clear hat hmd e
        go_wp2
        go_round
        case rel => exact ⟨t, by omega, by go_num, hM⟩
        case measure => simp [intOf]

set_option maxHeartbeats 1000000 in
theorem dist_any (ak : Option Addr) (n ck : Nat) (ks : List ByteArray) (w : World) (h : SRow w ak n ck ks) :
    Calls Try.prog 11 #[.slice ak n ck] w fun e w' => e = .returned (.int .i64 (dist ks)) ∧ Below w.heap.size w w' := by
  have hb : n ≤ 9223372036854775807 := Nat.le_trans h.cap (by have := h.big; unfold maxLen at this; exact this)
  have hl : Hid (ks.length = n) := h.len
  go_enter Try.func11, Try.ntmps11
  go_wp2
  go_loopw [3, 4] (fun c i wr => ∃ (d t : Nat), t ≤ n ∧ d ≤ t ∧ c = .int .i64 d ∧ i = .int .i64 t ∧ Hid (d + dist (ks.drop t) = dist ks) ∧ Below w.heap.size w wr) (fun _ i _ => n - (intOf i).toNat)
  case atStart => exact ⟨0, 0, Nat.zero_le _, Nat.le_refl _, rfl, rfl, by rw [Hid]; simp, Below.refl _ _⟩
  case round =>
    obtain ⟨d, t, ht, hd, rfl, rfl, hD, hbr⟩ := hrel
    by_cases hlt : t < n
    · obtain ⟨b, o, hx, hc⟩ := h.pos (by omega)
      subst hx
      have hlt' : (t : Int) < (n : Int) := by omega
      have hdd := Plain.dist_drop ks t (by rw [hl.out]; exact hlt)
      obtain ⟨u, hu⟩ : ∃ u, u = ks.getD t ByteArray.empty := ⟨_, rfl⟩
      rw [← hu] at hdd
      have HU : Hid (u = ks.getD t ByteArray.empty) := hu
      have HDD : Hid (dist (ks.drop t) = (if mem u (ks.drop (t + 1)) then 0 else 1) + dist (ks.drop (t + 1))) := hdd
      clear hu hdd
      go_wp2
      obtain ⟨wo, rfl⟩ : ∃ wo : World, wo = wr := ⟨_, rfl⟩
      go_loopw [5, 6] (fun l i wr => ∃ j : Nat, t + 1 ≤ j ∧ j ≤ n ∧ l = .bool true ∧ i = .int .i64 j ∧ Hid (Plain.noneIn u ks (t + 1) j) ∧ Below w.heap.size w wr) (fun _ i _ => n - (intOf i).toNat)
      case atStart => exact ⟨t + 1, Nat.le_refl _, by omega, rfl, by go_num, Plain.noneIn_start _ _ _, hbr⟩
      case round =>
        clear hbr
        obtain ⟨j, hj1, hj2, rfl, rfl, hno, hbr⟩ := hrel
        by_cases hjn : j < n
        · have hjn' : (j : Int) < (n : Int) := by omega
          have hct := old_cell hc hbr t hlt
          have hcj := old_cell hc hbr j hjn
          obtain ⟨v, hv⟩ : ∃ v, v = ks.getD j ByteArray.empty := ⟨_, rfl⟩
          rw [← HU.out] at hct
          rw [← hv] at hcj
          have HV : Hid (v = ks.getD j ByteArray.empty) := hv
          clear hv
          by_cases e : v = u
          · have hM : Hid (mem u (ks.drop (t + 1)) = true) := Plain.mem_between u ks (t + 1) j hj1 (by rw [hl.out]; exact hjn) (by rw [← HV.out]; exact e)
            have hD' : Hid (d + dist (ks.drop (t + 1)) = dist ks) := by
              have h1 := HDD.out
              rw [hM.out] at h1
              have h2 := hD.out
              rw [Hid]
              rw [h1] at h2
              simpa using h2
            have hne := str_eq e
            clear e
            go_wp2
            go_region
            all_goals
              go_wp2
              go_roundw
              case rel => exact ⟨d, t + 1, by omega, by omega, rfl, by go_num, hD', hbr.drew⟩
              case measure => simp [intOf]; omega
          · have hN : Hid (Plain.noneIn u ks (t + 1) (j + 1)) := Plain.noneIn_step hno.out (by rw [← HV.out]; exact e)
            have hne := str_ne e
            clear e
            go_wp2
            go_region
            all_goals
              go_wp2
              go_roundw
              case rel => exact ⟨j + 1, by omega, by omega, rfl, by go_num, hN, hbr.drew⟩
              case measure => simp [intOf]; omega
        · have hjn0 : j = n := by omega
          subst hjn0
          have hM : Hid (mem u (ks.drop (t + 1)) = false) := Plain.noneIn_end (by rw [hl.out]; exact hno.out)
          have hD' : Hid (d + 1 + dist (ks.drop (t + 1)) = dist ks) := by
            have h1 := HDD.out
            rw [hM.out] at h1
            have h2 := hD.out
            rw [Hid]
            rw [h1] at h2
            simp at h2
            omega
          go_wp2
          go_roundw
          case rel => exact ⟨d + 1, t + 1, by omega, by omega, by go_num, by go_num, hD', hbr⟩
          case measure => simp [intOf]; omega
    · have htn : t = n := by omega
      subst htn
      have hE : dist ks = d := by
        have := hD.out
        rw [List.drop_of_length_le (Nat.le_of_eq hl.out)] at this
        simpa [dist] using this.symm
      have HE : Hid (dist ks = d) := hE
      clear hE
      go_wp2
      go_ret
      exact ⟨by rw [HE.out]; rfl, hbr⟩

set_option maxHeartbeats 400000 in
theorem clone_any (ao : Option Addr) (n c : Nat) (ss : List ByteArray) (w : World) (h : SRow w ao n c ss) (hn : n ≤ 4194304) :
    Calls Try.prog 16 #[.slice ao n c] w fun e w' => ∃ ao' c', e = .returned (.slice ao' n c') ∧ SRow w' ao' n c' ss ∧ (ao'.isNone = ao.isNone) ∧ Below w.heap.size w w' := by
  have qT : ∀ (w : World) (a : Option Addr) (n c n' c' : Nat), (binOp .eql 22 (.slice a n c) (.slice none n' c')).run Try.prog w = .ok (.bool a.isNone) w := fun w a n c n' c' => Lib.run_eql_slice_nil w _ _ a n c n' c' Try.underlying22
  cases ao with
  | none =>
    obtain ⟨rfl, rfl⟩ := h.nil rfl
    go_enter Try.func16, Try.ntmps16
    go_wp2
    go_ret
    exact ⟨_, _, rfl, h, rfl, Below.refl _ _⟩
  | some x =>
    obtain ⟨i0, hi, hz0, hz1, hz2⟩ := info_parts info9
    have hl : Hid (ss.length = n) := h.len
    have hml : n ≤ maxLen := Nat.le_trans h.cap h.big
    go_enter Try.func16, Try.ntmps16
    go_wp2_with (at_make; refine wpList_make_full _ rfl _ _ 22 rfl w.heap.size 9 i0 (.string ByteArray.empty) 1 Try.underlying22 hi hz0 hz1 _ _ _ _ n rfl rfl rfl rfl (by rw [hz2]; omega) hml (Nat.le_refl _) ?_)
    intro w1 hown hgrow
    have hown1 := own_start hown
    have hb1 : Below w.heap.size w w1 := (Below.refl _ _).grown hgrow (Nat.le_refl _) (by simp)
    clear hown hgrow
    go_wp2
    go_loopw [4] (fun i wr => ∃ k : Nat, k ≤ n ∧ i = .int .i64 k ∧ wr.ownsRow w.heap.size 9 1 (.slice (some ⟨w.heap.size, 0, none⟩) n n) n ((ss.take k ++ List.replicate (n - k) ByteArray.empty).map Value.string) ∧ Below w.heap.size w wr)
      (fun i _ => n - (intOf i).toNat)
    case atStart => exact ⟨0, Nat.zero_le _, rfl, hown1, hb1⟩
    case round =>
      obtain ⟨k, hk, rfl, hown, hbr⟩ := hrel
      clear hown1 hb1
      by_cases hlt : k < n
      · obtain ⟨b, o, hx, hc⟩ := h.pos (by omega)
        obtain rfl := Option.some.inj hx
        have hlt' : (k : Int) < (n : Int) := by omega
        obtain ⟨u, hu⟩ : ∃ u, u = ss.getD k ByteArray.empty := ⟨_, rfl⟩
        have hck := old_cell hc hbr k hlt
        rw [← hu] at hck
        rw [show n - k = (n - (k + 1)) + 1 by omega] at hown
        obtain ⟨⟨q, hcw⟩, hfw, hst, hb2⟩ := own_next (k := k) u (by rw [List.length_take, hl.out]; omega) (by omega) (Nat.le_refl _) hown hbr
        rw [hu, take_snoc _ _ (by rw [hl.out]; exact hlt), ← hu] at hst
        clear hown hbr hu hc
        go_wp2
        go_roundw
        case rel => exact ⟨k + 1, by omega, by go_num, hst, hb2⟩
        case measure => simp [intOf]; omega
      · have hkn : k = n := by omega
        subst hkn
        go_wp2
        go_ret
        refine ⟨_, _, rfl, ?_, rfl, hbr⟩
        refine SRow.ofOwned (base := w.heap.size) ?_ h.str
        simpa [List.take_of_length_le (Nat.le_of_eq hl.out)] using hown

set_option maxHeartbeats 400000 in
/-- zzEqStrs at two slices of the same strings, both nil or neither. -/
theorem eq_same (ax : Option Addr) (n c : Nat) (ay : Option Addr) (d : Nat) (ss : List ByteArray) (w : World) (h : SRow w ax n c ss) (g : SRow w ay n d ss) (hnil : ax.isNone = ay.isNone) :
    Calls Try.prog 20 #[.slice ax n c, .slice ay n d] w fun e w' => e = .returned (.bool true) ∧ Below w.heap.size w w' := by
  have qT : ∀ (w : World) (a : Option Addr) (n c n' c' : Nat), (binOp .eql 22 (.slice a n c) (.slice none n' c')).run Try.prog w = .ok (.bool a.isNone) w := fun w a n c n' c' => Lib.run_eql_slice_nil w _ _ a n c n' c' Try.underlying22
  have hb : n ≤ 9223372036854775807 := Nat.le_trans h.cap (by have := h.big; unfold maxLen at this; exact this)
  go_enter Try.func20, Try.ntmps20
  go_wp2
  go_loopw [5] (fun i wr => ∃ k : Nat, k ≤ n ∧ i = .int .i64 k ∧ Below w.heap.size w wr) (fun i _ => n - (intOf i).toNat)
  case atStart => exact ⟨0, Nat.zero_le _, rfl, Below.refl _ _⟩
  case round =>
    obtain ⟨k, hk, rfl, hbr⟩ := hrel
    by_cases hlt : k < n
    · obtain ⟨b, o, hx, hc⟩ := h.pos (by omega)
      subst hx
      obtain ⟨b', o', hx, hc'⟩ := g.pos (by omega)
      subst hx
      have hlt' : (k : Int) < (n : Int) := by omega
      have hck := old_cell hc hbr k hlt
      have hck' := old_cell hc' hbr k hlt
      obtain ⟨u, hu⟩ : ∃ u, u = ss.getD k ByteArray.empty := ⟨_, rfl⟩
      rw [← hu] at hck hck'
      clear hu hc hc'
      go_wp2
      go_region
      all_goals
        go_wp2
        go_roundw
        case rel => exact ⟨k + 1, by omega, by go_num, hbr.drew⟩
        case measure => simp [intOf]; omega
    · go_wp2
      go_ret
      exact ⟨rfl, hbr⟩
end Go.Proofs.Qxb6616893a.Walk3
