/-
  PLAIN LAWS OF THIS SEAT: no program. A map that is filled from a list of pairs ('F ps'), what it has, what it holds at a key, how long it is; the Go helpers' answers as functions on lists.
-/
import Derived.Maps.Ext
import Derived.Lib.SlMapMerge
import Derived.Lib.Strings
namespace Go.Proofs.Qxb6616893a.Plain
open Go Go.Maps

/-- A string's key. -/
def kl (s : ByteArray) : Lit := .string s.data.toList

theorem kl_inj {a b : ByteArray} (h : kl a = kl b) : a = b := by
  simp only [kl, Lit.string.injEq] at h
  exact ByteArray.ext (Array.ext' h)

theorem kl_key (s : ByteArray) : WideAt.IsKeyLit (kl s) := trivial

/-- A map filled from a list of pairs, one by one. -/
def F (ps : List (ByteArray × Value)) : DataW Value := ps.foldl (fun D p => D.put (kl p.1) (.held p.2)) (.map [])

theorem F_snoc (ps : List (ByteArray × Value)) (p : ByteArray × Value) : F (ps ++ [p]) = (F ps).put (kl p.1) (.held p.2) := by simp [F, List.foldl_append]

theorem snoc_ind {α : Type} {C : List α → Prop} (h0 : C []) (h1 : ∀ l a, C l → C (l ++ [a])) : ∀ l, C l := by
  intro l
  have : ∀ r : List α, C r.reverse := by
    intro r
    induction r with
    | nil => exact h0
    | cons a r ih => rw [List.reverse_cons]; exact h1 _ _ ih
  have h := this l.reverse
  rwa [List.reverse_reverse] at h

theorem F_tidy : ∀ ps, Tidy (F ps) :=
  snoc_ind tidy_empty (fun l a ih => by rw [F_snoc]; exact ih.put (kl_key _) _)

/-- What the last pair with key k carries. -/
def look {V : Type} (ps : List (ByteArray × V)) (k : ByteArray) : Option V := ps.foldl (fun r p => if p.1 = k then some p.2 else r) none

theorem look_snoc {V : Type} (ps : List (ByteArray × V)) (p : ByteArray × V) (k : ByteArray) : look (ps ++ [p]) k = if p.1 = k then some p.2 else look ps k := by simp [look, List.foldl_append]

/-- .. over any key's datum. -/
def lookL (ps : List (ByteArray × Value)) (l : Lit) : Option Value := ps.foldl (fun r p => if (kl p.1).sameKey l then some p.2 else r) none

theorem lookL_snoc (ps : List (ByteArray × Value)) (p : ByteArray × Value) (l : Lit) : lookL (ps ++ [p]) l = if (kl p.1).sameKey l then some p.2 else lookL ps l := by simp [lookL, List.foldl_append]

theorem lookL_kl (ps : List (ByteArray × Value)) (k : ByteArray) : lookL ps (kl k) = look ps k := by
  unfold lookL look
  congr 1
  funext r p
  by_cases h : p.1 = k
  · rw [h, WideAt.sameKey_self (kl_key k)]
    simp
  · rw [if_neg h, sameKey_ne (fun e => h (kl_inj e))]
    simp

theorem F_hasL (l : Lit) : ∀ ps, has (F ps) l = (lookL ps l).isSome := by
  refine snoc_ind rfl (fun ps p ih => ?_)
  rw [F_snoc, lookL_snoc]
  by_cases h : kl p.1 = l
  · subst h
    rw [WideAt.sameKey_self (kl_key _), has_put_same (F_tidy ps).isMap (kl_key _)]
    rfl
  · rw [sameKey_ne h, has_put_other (fun e => h e.symm), ih]
    rfl

theorem F_atL (l : Lit) (z : DataW Value) : ∀ ps, (F ps).atKey l z = (match lookL ps l with | some v => .held v | none => z) := by
  refine snoc_ind rfl (fun ps p ih => ?_)
  rw [F_snoc, lookL_snoc]
  by_cases h : kl p.1 = l
  · subst h
    rw [WideAt.sameKey_self (kl_key _), atKey_put_same (F_tidy ps).isMap (kl_key _)]
    rfl
  · rw [sameKey_ne h, atKey_put_other (fun e => h e.symm), ih]
    rfl

theorem F_has (ps : List (ByteArray × Value)) (k : ByteArray) : has (F ps) (kl k) = (look ps k).isSome := by rw [F_hasL, lookL_kl]

theorem F_at (ps : List (ByteArray × Value)) (k : ByteArray) (z : DataW Value) : (F ps).atKey (kl k) z = (match look ps k with | some v => .held v | none => z) := by rw [F_atL, lookL_kl]

/-- Is k among the keys? -/
def mem (k : ByteArray) (ks : List ByteArray) : Bool := ks.any (fun x => decide (x = k))

theorem mem_cons (k x : ByteArray) (ks : List ByteArray) : mem k (x :: ks) = (decide (x = k) || mem k ks) := rfl
theorem mem_snoc (k x : ByteArray) (ks : List ByteArray) : mem k (ks ++ [x]) = (mem k ks || decide (x = k)) := by simp [mem]

/-- How many keys no later key repeats. -/
def dist : List ByteArray → Nat
  | [] => 0
  | k :: r => (if mem k r then 0 else 1) + dist r

theorem dist_snoc (x : ByteArray) : ∀ ks, dist (ks ++ [x]) = dist ks + (if mem x ks then 0 else 1)
  | [] => rfl
  | k :: r => by
    have ih := dist_snoc x r
    show (if mem k (r ++ [x]) then 0 else 1) + dist (r ++ [x]) = (if mem k r then 0 else 1) + dist r + (if mem x (k :: r) then 0 else 1)
    rw [ih, mem_snoc, mem_cons]
    by_cases e : k = x
    · subst e
      simp
      omega
    · have e' : ¬ x = k := fun h => e h.symm
      simp [e, e']
      omega

theorem dist_le : ∀ ks, dist ks ≤ ks.length
  | [] => Nat.le_refl _
  | k :: r => by
    have ih := dist_le r
    show (if mem k r then 0 else 1) + dist r ≤ r.length + 1
    split <;> omega

theorem look_isSome {V : Type} (k : ByteArray) : ∀ (ps : List (ByteArray × V)), (look ps k).isSome = mem k (ps.map (·.1)) := by
  refine snoc_ind rfl (fun ps p ih => ?_)
  rw [look_snoc, List.map_append, List.map_singleton, mem_snoc, ← ih]
  by_cases h : p.1 = k
  · simp [h]
  · simp [h]

theorem F_size : ∀ ps, size (F ps) = dist (ps.map (·.1)) := by
  refine snoc_ind rfl (fun ps p ih => ?_)
  rw [F_snoc, size_put (F_tidy ps), F_has, look_isSome, ih, List.map_append, List.map_singleton, dist_snoc]
  cases mem p.1 (ps.map (·.1)) <;> simp

theorem F_canonK {Kd : Lit → Prop} (O : OneKind Kd) (hk : ∀ s, Kd (kl s)) : ∀ ps, CanonK Kd (F ps) :=
  snoc_ind ⟨[], rfl, List.Pairwise.nil, by intro p hp; cases hp⟩ (fun l a ih => by rw [F_snoc]; exact canonK_put O (hk _) _ ih)

theorem look_cons {V : Type} (k : ByteArray) (q : ByteArray × V) : ∀ (ps : List (ByteArray × V)), look (q :: ps) k = (match look ps k with | some v => some v | none => if q.1 = k then some q.2 else none) := by
  refine snoc_ind rfl (fun ps p ih => ?_)
  rw [← List.cons_append, look_snoc, look_snoc, ih]
  by_cases h : p.1 = k
  · simp [h]
  · simp [h]

theorem lookL_cons (l : Lit) (q : ByteArray × Value) : ∀ (ps : List (ByteArray × Value)), lookL (q :: ps) l = (match lookL ps l with | some v => some v | none => if (kl q.1).sameKey l then some q.2 else none) := by
  refine snoc_ind rfl (fun ps p ih => ?_)
  rw [← List.cons_append, lookL_snoc, lookL_snoc, ih]
  cases (kl p.1).sameKey l <;> simp

/-- maps.Copy of 'F ps' into a map of one pair. -/
theorem F_merge {Kd : Lit → Prop} (O : OneKind Kd) (hk : ∀ s, Kd (kl s)) (q : ByteArray × Value) (ps : List (ByteArray × Value)) : Lib.mergeD (F [q]) (F ps) = F (q :: ps) := by
  have hM : Merged (F (q :: ps)) (F [q]) (F ps) (fun _ => false) := by
    refine ⟨fun k => ?_, fun k z => ?_⟩
    · rw [F_hasL, F_hasL, F_hasL, lookL_cons]
      cases h : lookL ps k <;> simp [lookL]
    · rw [F_atL, F_atL, F_atL, F_hasL, lookL_cons]
      cases h : lookL ps k <;> simp [lookL]
  exact (merged_eq O hM (fun _ => rfl) ((F_canonK O hk _).canon O) (F_canonK O hk _) (F_canonK O hk _)).symm

theorem look_append {V : Type} (k : ByteArray) (A : List (ByteArray × V)) : ∀ (B : List (ByteArray × V)), look (A ++ B) k = (match look B k with | some v => some v | none => look A k) := by
  refine snoc_ind (by simp [look]) (fun B p ih => ?_)
  rw [← List.append_assoc, look_snoc, look_snoc, ih]
  by_cases h : p.1 = k
  · simp [h]
  · simp [h]

theorem look_none {V : Type} {k : ByteArray} {ps : List (ByteArray × V)} (h : mem k (ps.map (·.1)) = false) : look ps k = none := by
  rw [← look_isSome] at h
  cases hl : look ps k with
  | none => rfl
  | some v => rw [hl] at h; cases h

theorem map_fst_zip {V : Type} (ks : List ByteArray) (vs : List V) (h : ks.length = vs.length) : (ks.zip vs).map (·.1) = ks := by
  rw [← List.unzip_fst, List.unzip_zip h]

/-- The last pair with key k stands at place t. -/
theorem look_at (ks vs : List ByteArray) (k : ByteArray) (t : Nat) (hl : ks.length = vs.length) (ht : t < ks.length) (hk : ks.getD t ByteArray.empty = k) (hno : mem k (ks.drop (t + 1)) = false) :
    look (ks.zip vs) k = some (vs.getD t ByteArray.empty) := by
  have hv : t < vs.length := by omega
  have e : ks.zip vs = (ks.zip vs).take t ++ ((ks.getD t ByteArray.empty, vs.getD t ByteArray.empty) :: (ks.drop (t + 1)).zip (vs.drop (t + 1))) := by
    have e1 : ks.zip vs = (ks.zip vs).take t ++ (ks.zip vs).drop t := (List.take_append_drop _ _).symm
    have e2 : (ks.zip vs).drop t = (ks.getD t ByteArray.empty, vs.getD t ByteArray.empty) :: (ks.drop (t + 1)).zip (vs.drop (t + 1)) := by
      rw [List.drop_eq_getElem_cons (by simp; omega)]
      simp [List.getD, ht, hv, List.zip_eq_zipWith, List.drop_zipWith]
    rw [← e2]
    exact e1
  rw [e, look_append, look_cons, look_none (by rw [map_fst_zip _ _ (by simp; omega)]; exact hno), hk]
  simp

theorem look_zip_none (ks vs : List ByteArray) (k : ByteArray) (hl : ks.length = vs.length) (hno : mem k ks = false) : look (ks.zip vs) k = none :=
  look_none (by rw [map_fst_zip _ _ hl]; exact hno)

theorem look_zip_isSome (ks vs : List ByteArray) (k : ByteArray) (hl : ks.length = vs.length) : (look (ks.zip vs) k).isSome = mem k ks := by
  rw [look_isSome, map_fst_zip _ _ hl]

theorem drop_cons (ks : List ByteArray) (t : Nat) (h : t < ks.length) : ks.drop t = ks.getD t ByteArray.empty :: ks.drop (t + 1) := by
  rw [List.drop_eq_getElem_cons h]
  simp [List.getD, h]

theorem dist_drop (ks : List ByteArray) (t : Nat) (h : t < ks.length) : dist (ks.drop t) = (if mem (ks.getD t ByteArray.empty) (ks.drop (t + 1)) then 0 else 1) + dist (ks.drop (t + 1)) := by
  rw [drop_cons ks t h]
  rfl

theorem mem_drop_cons (k : ByteArray) (ks : List ByteArray) (t : Nat) (h : t < ks.length) : mem k (ks.drop t) = (decide (ks.getD t ByteArray.empty = k) || mem k (ks.drop (t + 1))) := by
  rw [drop_cons ks t h, mem_cons]

/-- A key that stands between t and u. -/
theorem mem_between (k : ByteArray) (ks : List ByteArray) (t u : Nat) (htu : t ≤ u) (h : u < ks.length) (e : ks.getD u ByteArray.empty = k) : mem k (ks.drop t) = true := by
  rw [mem, List.any_eq_true]
  refine ⟨ks.getD u ByteArray.empty, ?_, by rw [e]; simp⟩
  rw [List.mem_drop_iff_getElem]
  exact ⟨u - t, by omega, by simp [List.getD, h, show t + (u - t) = u by omega]⟩

/-- None of the keys from t up to u is k. -/
def noneIn (k : ByteArray) (ks : List ByteArray) (t u : Nat) : Prop := ∀ i, t ≤ i → i < u → ks.getD i ByteArray.empty ≠ k

theorem noneIn_start (k : ByteArray) (ks : List ByteArray) (t : Nat) : noneIn k ks t t := fun i h1 h2 => by omega

theorem noneIn_step {k : ByteArray} {ks : List ByteArray} {t u : Nat} (h : noneIn k ks t u) (e : ks.getD u ByteArray.empty ≠ k) : noneIn k ks t (u + 1) := fun i h1 h2 => by
  by_cases hi : i = u
  · subst hi; exact e
  · exact h i h1 (by omega)

theorem noneIn_end {k : ByteArray} {ks : List ByteArray} {t : Nat} (h : noneIn k ks t ks.length) : mem k (ks.drop t) = false := by
  rw [mem, List.any_eq_false]
  intro x hx
  rw [List.mem_drop_iff_getElem] at hx
  obtain ⟨i, hi, rfl⟩ := hx
  have := h (t + i) (by omega) (by omega)
  simp [List.getD, show t + i < ks.length by omega] at this
  simpa using this

end Go.Proofs.Qxb6616893a.Plain
