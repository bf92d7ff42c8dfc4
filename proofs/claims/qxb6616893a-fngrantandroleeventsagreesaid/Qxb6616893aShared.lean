/-
  WHAT THE THREE LAWS SHARE: the copy of a slice of strings; the events' details in plain words; what is kept of two events.
-/
import Derived.Test.Qxb6616893aProg
import Derived.Test.Qxb6616893aParts
import Derived.Test.Qxb6616893aPlain
import Derived.Test.Qxb6616893aWalk1
import Derived.Test.Qxb6616893aWalk2
import Derived.Test.Qxb6616893aWalk3
import Derived.Test.Qxb6616893aWalk5
import Derived.Test.Qxb6616893aWalk6
import Derived.Test.Qxb6616893aWalk7
import Derived.Deep.DeepCutAuto
namespace Go.Proofs.Qxb6616893a.Shared
open Go Go.RowKit Go.Maps Go.Proofs.Qxb6616893a.Parts Go.Proofs.Qxb6616893a.Walk4 Go.Proofs.Qxb6616893a.Walk5
open Go.Proofs.Qxb6616893a.Plain (kl F mem dist)

theorem cells9 : (Try.prog.info? 9).map (·.size) = some 1 := by kernel_rfl

theorem string_oneCell (ss : List ByteArray) : ∀ u ∈ ss.map Value.string, u.oneCell' = true := by
  intro u hu
  obtain ⟨s, _, rfl⟩ := List.mem_map.1 hu
  rfl

/-- 'zzc := make([]string, len(xs)); copy(zzc, xs)': the copy. -/
theorem copy_run {w0 w1 : World} {g n c : Nat} {x : Addr} {ss : List ByteArray} (hb1 : Below w0.heap.size w0 w1) (hg : w0.heap.size ≤ g) (hblk : w1.heap[g]? = some (.cells (List.replicate n (Value.string ByteArray.empty)).toArray 9 (0, 0)))
    (h : SRow w1 (some x) n c ss) : ∃ v w2, (Builtin.copy_ #[22, 22] 3 #[.slice (some ⟨g, 0, none⟩) n n, .slice (some x) n c]).run Try.prog w1 = .ok (.int .i64 v) w2 ∧ SRow w2 (some ⟨g, 0, none⟩) n n ss ∧ Below w0.heap.size w0 w2 := by
  have hml : n ≤ maxLen := Nat.le_trans h.cap h.big
  have hl := h.len
  by_cases h0 : n = 0
  · subst h0
    refine ⟨_, w1, run_copy_none (P := Try.prog) w1 22 22 3 9 _ _ 0 0 0 c Try.underlying22 cells9 rfl, ?_, hb1⟩
    exact ⟨h.len, Nat.le_refl _, hml, by simp, .inl rfl, h.str⟩
  · obtain ⟨b, o, hx, hc⟩ := h.pos (by omega)
    obtain rfl := Option.some.inj hx
    have hrun := run_copy_row (P := Try.prog) w1 22 22 3 9 g 0 n n ⟨b, o, none⟩ n c _ 9 (ss.map Value.string) Try.underlying22 cells9 hblk (by rw [List.length_map, hl]; exact (Nat.min_self n).symm)
      (fun j v hj => by
        have hj' : j < ss.length := by
          have := (List.getElem?_eq_some_iff.1 hj).1
          simpa using this
        rw [Addr.add_lit, hc j (by omega)]
        simp [List.getElem?_eq_getElem hj'] at hj
        rw [← hj]
        simp [List.getD, List.getElem?_eq_getElem hj'])
      (by simp [hl]) (string_oneCell ss)
    refine ⟨_, _, hrun, ?_, below_setRow hb1 hg _⟩
    refine SRow.ofBlock hl hml h.str (e := 9) ?_
    rw [setRow_heap w1 g _ _ 9 _ hblk]
    have e : (List.replicate n (Value.string ByteArray.empty)).toArray.toList.take 0 ++ ss.map Value.string ++ (List.replicate n (Value.string ByteArray.empty)).toArray.toList.drop (0 + (ss.map Value.string).length) = ss.map Value.string := by
      simp [hl]
    rw [e]


theorem look_ps (k : ByteArray) : ∀ (ks vs : List ByteArray), Plain.look (ps ks vs) k = (Plain.look (ks.zip vs) k).map sv
  | [], vs => by simp [ps, Plain.look]
  | _ :: _, [] => by simp [ps, Plain.look]
  | a :: ks, v :: vs => by
    have ih := look_ps k ks vs
    show Plain.look ((a, sv v) :: ps ks vs) k = (Plain.look ((a, v) :: ks.zip vs) k).map sv
    rw [Plain.look_cons, Plain.look_cons, ih]
    cases h : Plain.look (ks.zip vs) k with
    | some x => rfl
    | none =>
      by_cases e : a = k
      · simp [e]
      · simp [e]

theorem map_fst_ps (ks vs : List ByteArray) (hl : ks.length = vs.length) : (ps ks vs).map (·.1) = ks := Plain.map_fst_zip ks (vs.map sv) (by simpa using hl)

theorem agrees_cons (q : ByteArray × Value) (ks vs : List ByteArray) (hl : ks.length = vs.length) : Walk7.Agrees (q :: ps ks vs) ks vs := by
  intro k hk
  have h1 : (Plain.look (ks.zip vs) k).isSome = true := by rw [Plain.look_zip_isSome ks vs k hl]; exact hk
  obtain ⟨v, hv⟩ := Option.isSome_iff_exists.1 h1
  refine ⟨v, hv, ?_⟩
  rw [Plain.look_cons, look_ps, hv]
  rfl

theorem dist_cons (q : ByteArray × Value) (ks vs : List ByteArray) (hl : ks.length = vs.length) : dist ((q :: ps ks vs).map (·.1)) = (if mem q.1 ks then 0 else 1) + dist ks := by
  rw [List.map_cons, map_fst_ps ks vs hl]
  rfl

/-- At the first pair's own key. -/
theorem look_own (k : ByteArray) (x : Value) (ks vs : List ByteArray) (v : Option ByteArray) (h : Plain.look (ks.zip vs) k = v) : Plain.look ((k, x) :: ps ks vs) k = some ((v.map sv).getD x) := by
  rw [Plain.look_cons, look_ps, h]
  cases v <;> simp

/-- At another key. -/
theorem look_other (k q : ByteArray) (x : Value) (ks vs : List ByteArray) (hq : q ≠ k) (h : Plain.look (ks.zip vs) k = none) : Plain.look ((q, x) :: ps ks vs) k = none := by
  rw [Plain.look_cons, look_ps, h]
  simp [hq]

/-- Two events and what they hold, beside the keys and the values. -/
structure Env (B : Nat) (w0 : World) (g1 g2 : Nat) (cs1 cs2 : Array Value) (b1 b2 m : Nat) (q1 q2 : List (ByteArray × Value)) (ak : Option Addr) (n ck : Nat) (ks : List ByteArray) (av : Option Addr) (cv : Nat) (vs : List ByteArray) (w : World) : Prop where
  e1 : w.heap[g1]? = some (.cells cs1 34 (0, 0))
  e2 : w.heap[g2]? = some (.cells cs2 34 (0, 0))
  m1 : w.ownsMap Try.prog 9 RD b1 m (F q1)
  m2 : w.ownsMap Try.prog 9 RD b2 m (F q2)
  k : SRow w ak n ck ks
  v : SRow w av n cv vs
  old : Below B w0 w
  le : B ≤ w.heap.size

theorem block_below {w w' : World} {g : Nat} {o : Obj} (h : w.heap[g]? = some o) (hb : Below w.heap.size w w') : w'.heap[g]? = some o :=
  (hb.block _ (Array.getElem?_eq_some_iff.1 h).1).trans h

theorem Env.below {B : Nat} {w0 : World} {g1 g2 : Nat} {cs1 cs2 : Array Value} {b1 b2 m : Nat} {q1 q2 : List (ByteArray × Value)} {ak : Option Addr} {n ck : Nat} {ks : List ByteArray} {av : Option Addr} {cv : Nat} {vs : List ByteArray} {w w' : World}
    (h : Env B w0 g1 g2 cs1 cs2 b1 b2 m q1 q2 ak n ck ks av cv vs w) (hb : Below w.heap.size w w') : Env B w0 g1 g2 cs1 cs2 b1 b2 m q1 q2 ak n ck ks av cv vs w' :=
  ⟨block_below h.e1 hb, block_below h.e2 hb, owns_below h.m1 hb, owns_below h.m2 hb, h.k.below hb, h.v.below hb, h.old.trans (hb.mono h.le), Nat.le_trans h.le hb.size⟩
end Go.Proofs.Qxb6616893a.Shared
