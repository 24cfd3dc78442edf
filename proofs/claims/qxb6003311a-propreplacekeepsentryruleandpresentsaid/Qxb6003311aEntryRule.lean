/- The plain law of the entry rule: no Go in sight. -/
import Derived.Test.Qxb6003311aReplWords
namespace Go.Proofs.Qxb6003311a
open Go.RowKit
set_option linter.unusedVariables false

theorem mem_ix {zs : List Int} {x : Int} : x ∈ zs ↔ ∃ i, i < zs.length ∧ ix zs i = x := by
  constructor
  · intro h
    obtain ⟨i, hi, e⟩ := List.getElem_of_mem h
    exact ⟨i, hi, by rw [ix_get hi]; exact e⟩
  · rintro ⟨i, hi, rfl⟩; exact ix_mem hi
theorem nodup_ix {zs : List Int} : zs.Nodup ↔ ∀ i j, i < zs.length → j < zs.length → ix zs i = ix zs j → i = j := by
  constructor
  · intro h i j hi hj e
    rw [ix_get hi, ix_get hj] at e
    have := List.pairwise_iff_getElem.1 h
    rcases Nat.lt_trichotomy i j with h1 | h1 | h1
    · exact absurd e (this i j hi hj h1)
    · exact h1
    · exact absurd e.symm (this j i hj hi h1)
  · intro h
    refine List.pairwise_iff_getElem.2 fun i j hi hj hij e => ?_
    have := h i j hi hj (by rw [ix_get hi, ix_get hj]; exact e)
    omega

/-- two places changed -/
def swp (ps : List Int) (p q : Nat) : List Int := (ps.set p (ix ps q)).set q (ix ps p)
theorem swp_len (ps : List Int) (p q : Nat) : (swp ps p q).length = ps.length := by simp [swp]
theorem swp_ix (ps : List Int) (p q : Nat) (hp : p < ps.length) (hq : q < ps.length) (i : Nat) : ix (swp ps p q) i = if q = i then ix ps p else if p = i then ix ps q else ix ps i := by
  unfold swp
  rw [ix_set _ _ _ _ (by simpa using hq), ix_set _ _ _ _ hp]
/-- where a place's value came from -/
def src (p q i : Nat) : Nat := if q = i then p else if p = i then q else i
theorem swp_src (ps : List Int) (p q : Nat) (hp : p < ps.length) (hq : q < ps.length) (i : Nat) : ix (swp ps p q) i = ix ps (src p q i) := by
  rw [swp_ix ps p q hp hq]; unfold src; split
  · rfl
  · split <;> rfl
theorem src_lt {p q i n : Nat} (hp : p < n) (hq : q < n) (hi : i < n) : src p q i < n := by unfold src; split; exact hp; split; exact hq; exact hi
theorem src_src (p q i : Nat) : src p q (src p q i) = i := by unfold src; split <;> (try split) <;> (try split) <;> omega
theorem swp_nodup {ps : List Int} {p q : Nat} (hp : p < ps.length) (hq : q < ps.length) (h : ps.Nodup) : (swp ps p q).Nodup := by
  rw [nodup_ix] at h ⊢
  intro i j hi hj e
  rw [swp_len] at hi hj
  rw [swp_src ps p q hp hq, swp_src ps p q hp hq] at e
  have := h _ _ (src_lt hp hq hi) (src_lt hp hq hj) e
  have h2 := congrArg (src p q) this
  rwa [src_src, src_src] at h2
theorem swp_perm {ps : List Int} {p q : Nat} (hp : p < ps.length) (hq : q < ps.length) (h : ps.Nodup) : (swp ps p q).Perm ps := by
  refine (List.perm_ext_iff_of_nodup (swp_nodup hp hq h) h).2 fun x => ?_
  rw [mem_ix, mem_ix]
  constructor
  · rintro ⟨i, hi, e⟩
    rw [swp_len] at hi
    exact ⟨src p q i, src_lt hp hq hi, by rw [← swp_src ps p q hp hq]; exact e⟩
  · rintro ⟨i, hi, e⟩
    refine ⟨src p q i, by rw [swp_len]; exact src_lt hp hq hi, ?_⟩
    rw [swp_src ps p q hp hq, src_src]; exact e
theorem take_eq_of_ix {a b : List Int} {c : Nat} (hl : a.length = b.length) (h : ∀ i, i < c → i < a.length → ix a i = ix b i) : a.take c = b.take c := by
  apply List.ext_getElem?
  intro i
  by_cases hi : i < c
  · rw [List.getElem?_take_of_lt hi, List.getElem?_take_of_lt hi]
    by_cases ha : i < a.length
    · have := h i hi ha
      rw [ix_get ha, ix_get (show i < b.length by omega)] at this
      rw [List.getElem?_eq_getElem ha, List.getElem?_eq_getElem (by omega), this]
    · rw [List.getElem?_eq_none (by omega), List.getElem?_eq_none (by omega)]
  · rw [List.getElem?_take_eq_none (by omega), List.getElem?_take_eq_none (by omega)]

theorem cnt_snoc (js : List (Int × Int)) (q : Int × Int) (v : Int) : cnt (js ++ [q]) v = cnt js v + if q.2 = v then 1 else 0 := by
  unfold cnt
  rw [List.countP_append]
  by_cases h : q.2 = v <;> simp [h]
theorem sum_ind (l : List Int) (h : l.Nodup) (x : Int) (f : Int → Nat) : (l.map fun v => f v + if x = v then 1 else 0).sum ≤ (l.map f).sum + 1 := by
  induction l with
  | nil => simp
  | cons a l ih =>
    have hn := List.nodup_cons.1 h
    simp only [List.map_cons, List.sum_cons]
    by_cases e : x = a
    · subst e
      have : (l.map fun v => f v + if x = v then 1 else 0) = l.map f := by
        apply List.map_congr_left
        intro v hv
        have : x ≠ v := fun e => hn.1 (e ▸ hv)
        simp [this]
      rw [this, if_pos rfl]; omega
    · have := ih hn.2
      rw [if_neg e]; omega
theorem cnt_cons (js : List (Int × Int)) (q : Int × Int) (v : Int) : cnt (q :: js) v = cnt js v + if q.2 = v then 1 else 0 := by
  unfold cnt
  rw [List.countP_cons]
  by_cases h : q.2 = v <;> simp [h]
theorem sum_cnt (l : List Int) (h : l.Nodup) (js : List (Int × Int)) : (l.map (cnt js)).sum ≤ js.length := by
  induction js with
  | nil =>
    have : l.map (cnt []) = l.map (fun _ => 0) := List.map_congr_left fun v _ => rfl
    rw [this]
    have : ∀ l : List Int, (l.map fun _ => 0).sum = 0 := fun l => by induction l <;> simp_all
    rw [this]; exact Nat.zero_le _
  | cons q js ih =>
    have : l.map (cnt (q :: js)) = l.map (fun v => cnt js v + if q.2 = v then 1 else 0) := List.map_congr_left fun v _ => cnt_cons js q v
    rw [this, List.length_cons]
    have := sum_ind l h q.2 (cnt js)
    omega
theorem sum_const (l : List Int) (f : Int → Nat) (a : Nat) (h : ∀ v ∈ l, f v = a) : (l.map f).sum = l.length * a := by
  induction l with
  | nil => simp
  | cons x l ih =>
    rw [List.map_cons, List.sum_cons, ih (fun v hv => h v (List.mem_cons_of_mem _ hv)), h x (by simp), List.length_cons, Nat.succ_mul]
    omega

/-- what the first loop of replace keeps: k joins made, the candidates at places c .. e - 1 -/
structure PI (zs : List Int) (A nx : Int) (c n k e : Nat) (ps : List Int) (js : List (Int × Int)) : Prop where
  nodup : zs.Nodup
  zl : zs.length = n
  cn : c < n
  len : js.length = k
  kc : k ≤ c
  pl : ps.length = n
  ce : c ≤ e
  en : e ≤ n
  perm : ps.Perm zs
  front : ps.take c = zs.take c
  lo : ∀ p, c ≤ p → p < e → (cnt js (ix ps p) : Int) < A
  hi : ∀ p, e ≤ p → p < n → (cnt js (ix ps p) : Int) = A
  node : ∀ i (h : i < js.length), js[i].1 = wrap64 (nx + i)
  entry : ∀ p ∈ js, p.2 ∈ zs.drop c

theorem ix_drop (zs : List Int) (c i : Nat) : ix (zs.drop c) i = ix zs (c + i) := by
  unfold ix; rw [List.getD_eq_getElem?_getD, List.getD_eq_getElem?_getD, List.getElem?_drop]
theorem PI.rest {zs : List Int} {A nx : Int} {c n k e : Nat} {ps : List Int} {js : List (Int × Int)} (h : PI zs A nx c n k e ps js) : (ps.drop c).Perm (zs.drop c) := by
  have h1 : (ps.take c ++ ps.drop c).Perm (zs.take c ++ zs.drop c) := by rw [List.take_append_drop, List.take_append_drop]; exact h.perm
  rw [h.front] at h1
  exact (List.perm_append_left_iff _).1 h1
theorem PI.pnodup {zs : List Int} {A nx : Int} {c n k e : Nat} {ps : List Int} {js : List (Int × Int)} (h : PI zs A nx c n k e ps js) : ps.Nodup := h.perm.nodup_iff.2 h.nodup
theorem PI.start {zs : List Int} {A nx : Int} {c n : Nat} (hnd : zs.Nodup) (hz : zs.length = n) (hcn : c < n) (hA : 0 < A) : PI zs A nx c n 0 n zs [] :=
  ⟨hnd, hz, hcn, rfl, Nat.zero_le _, hz, by omega, Nat.le_refl _, List.Perm.refl _, rfl, fun p _ _ => by simpa [cnt] using hA, fun p h1 h2 => by omega, fun i h => absurd h (by simp), fun p h => absurd h (by simp)⟩
/-- some candidate is left -/
theorem PI.room {zs : List Int} {A nx : Int} {c n k e : Nat} {ps : List Int} {js : List (Int × Int)} (h : PI zs A nx c n k e ps js) (hk : k < c) (hA : (c : Int) ≤ A * ((n : Int) - c)) (hA0 : 0 ≤ A) : c < e := by
  rcases Nat.lt_or_ge c e with h1 | h1
  · exact h1
  · exfalso
    have hce : e = c := by have := h.ce; omega
    have hnd : (ps.drop c).Nodup := h.pnodup.sublist (List.drop_sublist _ _)
    have h2 := sum_cnt _ hnd js
    have h3 : ((ps.drop c).map (cnt js)).sum = (ps.drop c).length * A.toNat := by
      apply sum_const
      intro v hv
      obtain ⟨i, hi, rfl⟩ := mem_ix.1 hv
      rw [List.length_drop, h.pl] at hi
      have := h.hi (c + i) (by omega) (by omega)
      rw [ix_drop]
      omega
    rw [h3, List.length_drop, h.pl, h.len] at h2
    have h4 : ((n - c : Nat) : Int) * A = A * ((n : Int) - c) := by
      rw [Int.mul_comm]; congr 1; have := h.cn; omega
    have h5 : (((n - c) * A.toNat : Nat) : Int) = ((n - c : Nat) : Int) * A := by
      rw [Int.natCast_mul]; congr 1; omega
    omega
theorem PI.node_snoc {zs : List Int} {A nx : Int} {c n k e : Nat} {ps : List Int} {js : List (Int × Int)} (h : PI zs A nx c n k e ps js) (v : Int) :
    ∀ i (hi : i < (js ++ [(wrap64 (nx + k), v)]).length), (js ++ [(wrap64 (nx + k), v)])[i].1 = wrap64 (nx + i) := by
  intro i hi
  by_cases hl : i < js.length
  · rw [List.getElem_append_left hl]; exact h.node i hl
  · have : i = js.length := by simp at hi; omega
    subst this
    rw [List.getElem_append_right (Nat.le_refl _)]
    simp [h.len]
theorem PI.entry_snoc {zs : List Int} {A nx : Int} {c n k e : Nat} {ps : List Int} {js : List (Int × Int)} (h : PI zs A nx c n k e ps js) {p : Nat} (h1 : c ≤ p) (h2 : p < n) (x : Int) :
    ∀ q ∈ js ++ [(x, ix ps p)], q.2 ∈ zs.drop c := by
  intro q hq
  rcases List.mem_append.1 hq with h3 | h3
  · exact h.entry q h3
  · obtain rfl := List.mem_singleton.1 h3
    refine h.rest.mem_iff.1 (mem_ix.2 ⟨p - c, by rw [List.length_drop, h.pl]; omega, ?_⟩)
    rw [ix_drop]; congr 1; omega
/-- a join through place p whose count stays below the cap -/
theorem PI.step_lo {zs : List Int} {A nx : Int} {c n k e : Nat} {ps : List Int} {js : List (Int × Int)} (h : PI zs A nx c n k e ps js) (hk : k < c) {p : Nat} (h1 : c ≤ p) (h2 : p < e) (hA : ¬ ((cnt js (ix ps p) : Int) + 1 = A)) :
    PI zs A nx c n (k + 1) e ps (js ++ [(wrap64 (nx + k), ix ps p)]) := by
  have hen := h.en
  refine ⟨h.nodup, h.zl, h.cn, by simp [h.len], by omega, h.pl, h.ce, h.en, h.perm, h.front, fun q q1 q2 => ?_, fun q q1 q2 => ?_, h.node_snoc _, h.entry_snoc h1 (by omega) _⟩
  · rw [cnt_snoc]
    have := h.lo q q1 q2
    by_cases e1 : ix ps p = ix ps q
    · rw [← e1, if_pos rfl]
      have := h.lo p h1 h2
      omega
    · rw [if_neg e1]; simpa using this
  · rw [cnt_snoc]
    have hne : ix ps p ≠ ix ps q := fun e1 => by
      have := nodup_ix.1 h.pnodup p q (by rw [h.pl]; omega) (by rw [h.pl]; omega) e1
      omega
    rw [if_neg hne]; simpa using h.hi q q1 q2
/-- a join through place p that fills it: it changes places with the last candidate -/
theorem PI.step_hi {zs : List Int} {A nx : Int} {c n k e : Nat} {ps : List Int} {js : List (Int × Int)} (h : PI zs A nx c n k e ps js) (hk : k < c) {p : Nat} (h1 : c ≤ p) (h2 : p < e) (hA : (cnt js (ix ps p) : Int) + 1 = A) :
    PI zs A nx c n (k + 1) (e - 1) (swp ps p (e - 1)) (js ++ [(wrap64 (nx + k), ix ps p)]) := by
  have hen := h.en
  have hp : p < ps.length := by rw [h.pl]; omega
  have hq : e - 1 < ps.length := by rw [h.pl]; omega
  refine ⟨h.nodup, h.zl, h.cn, by simp [h.len], by omega, by rw [swp_len]; exact h.pl, by omega, by omega, (swp_perm hp hq h.pnodup).trans h.perm, ?_, fun q q1 q2 => ?_, fun q q1 q2 => ?_, h.node_snoc _, h.entry_snoc h1 (by omega) _⟩
  · rw [← h.front]
    refine take_eq_of_ix (swp_len _ _ _) fun i hi hl => ?_
    rw [swp_ix ps p (e - 1) hp hq, if_neg (by omega), if_neg (by omega)]
  · rw [cnt_snoc, swp_ix ps p (e - 1) hp hq, if_neg (by omega)]
    by_cases e1 : p = q
    · subst e1
      rw [if_pos rfl]
      have hne : ix ps p ≠ ix ps (e - 1) := fun e2 => by
        have := nodup_ix.1 h.pnodup p (e - 1) hp hq e2
        omega
      rw [if_neg hne]
      simpa using h.lo (e - 1) (by omega) (by omega)
    · rw [if_neg e1]
      have hne : ix ps p ≠ ix ps q := fun e2 => e1 (nodup_ix.1 h.pnodup p q hp (by rw [h.pl]; omega) e2)
      rw [if_neg hne]
      simpa using h.lo q q1 (by omega)
  · rw [cnt_snoc, swp_ix ps p (e - 1) hp hq]
    by_cases e1 : e - 1 = q
    · rw [if_pos e1, if_pos rfl]; omega
    · rw [if_neg e1, if_neg (by omega)]
      have hne : ix ps p ≠ ix ps q := fun e2 => by
        have := nodup_ix.1 h.pnodup p q hp (by rw [h.pl]; omega) e2
        omega
      rw [if_neg hne]
      simpa using h.hi q (by omega) q2
theorem PI.cap {zs : List Int} {A nx : Int} {c n k e : Nat} {ps : List Int} {js : List (Int × Int)} (h : PI zs A nx c n k e ps js) (hA : 0 ≤ A) (v : Int) : (cnt js v : Int) ≤ A := by
  by_cases hv : v ∈ ps.drop c
  · obtain ⟨i, hi, rfl⟩ := mem_ix.1 hv
    rw [List.length_drop, h.pl] at hi
    rw [ix_drop]
    by_cases h1 : c + i < e
    · have := h.lo (c + i) (by omega) h1; omega
    · have := h.hi (c + i) (by omega) (by omega); omega
  · have : cnt js v = 0 := by
      unfold cnt
      rw [List.countP_eq_zero]
      intro p hp e
      have e' : p.2 = v := by simpa using e
      exact hv (e' ▸ (h.rest.mem_iff.2 (h.entry p hp)))
    rw [this]; exact hA
theorem PI.plain {zs : List Int} {A nx : Int} {c n e : Nat} {ps : List Int} {js : List (Int × Int)} (h : PI zs A nx c n c e ps js) (hA : 0 ≤ A) : PlainOK zs A nx c js ps :=
  ⟨h.len, by rw [h.pl, h.zl], h.rest, h.node, h.entry, h.cap hA⟩
end Go.Proofs.Qxb6003311a
