/- replace: the words in which its walk speaks; where nobody leaves. -/
import Derived.Test.Qxb6003311aNet
import Derived.Maps.OwnSet
import Derived.RegionTactic
import Derived.BigRegion
namespace Go.Proofs.Qxb6003311a
open Go.ChangeShapes Go.WideShapes Go.ChangeAt Go.RowKit Go.Maps
set_option linter.unusedVariables false

/-- new blocks; of the old ones only those of S may have turned -/
structure Keeps (S : Nat → Prop) (w w' : World) : Prop where
  os : w'.os = w.os
  tape : w'.tape = w.tape
  output : w'.output = w.output
  size : w.heap.size ≤ w'.heap.size
  block : ∀ k, k < w.heap.size → ¬ S k → w'.heap[k]? = w.heap[k]?
theorem Keeps.refl (S : Nat → Prop) (w : World) : Keeps S w w := ⟨rfl, rfl, rfl, Nat.le_refl _, fun _ _ _ => rfl⟩
theorem Keeps.grown {S : Nat → Prop} {w w1 w2 : World} {r : Option Nat} (h : Keeps S w w1) (g : w1.grownBy w2 r) (hr : ∀ k, r = some k → k < w.heap.size → S k) : Keeps S w w2 :=
  ⟨g.os.trans h.os, g.tape.trans h.tape, g.output.trans h.output, Nat.le_trans h.size g.size, fun k hk hS => (g.block k (Nat.lt_of_lt_of_le hk h.size) (fun e => hS (hr k e.symm hk))).trans (h.block k hk hS)⟩
theorem Keeps.alloc {S : Nat → Prop} {w w1 : World} (h : Keeps S w w1) (o : Obj) : Keeps S w (w1.alloc o) := h.grown (World.grownBy_alloc w1 o none) (fun _ e => by cases e)
theorem Keeps.set {S : Nat → Prop} {w w1 : World} (h : Keeps S w w1) (b i : Nat) (v : Value) (hb : b < w.heap.size → S b) : Keeps S w (w1.setCell ⟨b, i, none⟩ v) :=
  h.grown (grown_set w1 b i v) (fun k e => by cases e; exact hb)
theorem Keeps.draws {S : Nat → Prop} {w w1 : World} (h : Keeps S w w1) (q : Nat) : Keeps S w (w1.drewN q) := ⟨h.os, h.tape, h.output, h.size, h.block⟩
theorem Keeps.below {S : Nat → Prop} {w w1 w2 : World} (h : Keeps S w w1) (b : Below w1.heap.size w1 w2) : Keeps S w w2 :=
  ⟨b.os.trans h.os, b.tape.trans h.tape, b.output.trans h.output, Nat.le_trans h.size b.size, fun k hk hS => (b.block k (Nat.lt_of_lt_of_le hk h.size)).trans (h.block k hk hS)⟩

/-- the cells of a list of joins -/
def flat (js : List (Int × Int)) : List Value := js.flatMap fun p => [.int .i64 p.1, .int .i64 p.2]
theorem flat_len (js : List (Int × Int)) : (flat js).length = js.length * 2 := by
  induction js with
  | nil => rfl
  | cons p js ih => simp [flat] at ih ⊢; omega
theorem flat_snoc (js : List (Int × Int)) (p : Int × Int) : flat (js ++ [p]) = flat js ++ [.int .i64 p.1, .int .i64 p.2] := by simp [flat]

/-- how often v is an entry -/
def cnt (js : List (Int × Int)) (v : Int) : Nat := js.countP fun p => p.2 == v

/-- the numbers zs lie at the head of row g -/
def RowAt (w : World) (g : Nat) (zs : List Int) : Prop := ∃ cur, w.heap[g]? = some (.cells cur 2 (0, 0)) ∧ ∀ i, i < zs.length → cur[i]? = some (.int .i64 (ix zs i))
theorem RowAt.cell {w : World} {g : Nat} {zs : List Int} (h : RowAt w g zs) {i : Nat} (hi : i < zs.length) : w.cell? ⟨g, i, none⟩ = some (.int .i64 (ix zs i)) := by
  obtain ⟨cur, h1, h2⟩ := h
  exact cell_of h1 (h2 i hi)
theorem RowAt.free {w : World} {g : Nat} {zs : List Int} (h : RowAt w g zs) (i : Nat) : w.frozen? ⟨g, i, none⟩ = false := by
  obtain ⟨cur, h1, h2⟩ := h
  exact free_of h1
theorem RowAt.heap {w w' : World} {g : Nat} {zs : List Int} (h : RowAt w g zs) (e : w'.heap[g]? = w.heap[g]?) : RowAt w' g zs := by
  obtain ⟨cur, h1, h2⟩ := h
  exact ⟨cur, e.trans h1, h2⟩
theorem RowAt.alloc {w : World} {g : Nat} {zs : List Int} (h : RowAt w g zs) (o : Obj) : RowAt (w.alloc o) g zs := by
  obtain ⟨cur, h1, h2⟩ := h
  exact ⟨cur, heap_old _ _ h1, h2⟩
theorem ix_set (zs : List Int) (i j : Nat) (x : Int) (hi : i < zs.length) : ix (zs.set i x) j = if i = j then x else ix zs j := by
  unfold ix
  rw [List.getD_eq_getElem?_getD, List.getElem?_set]
  split
  · rename_i e; subst e; rfl
  · simp [List.getD_eq_getElem?_getD]
theorem RowAt.set {w : World} {g : Nat} {zs : List Int} (h : RowAt w g zs) (i : Nat) (x : Int) (hi : i < zs.length) : RowAt (w.setCell ⟨g, i, none⟩ (.int .i64 x)) g (zs.set i x) := by
  obtain ⟨cur, h1, h2⟩ := h
  refine ⟨cur.setIfInBounds i (.int .i64 x), heap_set h1, fun j hj => ?_⟩
  rw [List.length_set] at hj
  have hc : j < cur.size := (Array.getElem?_eq_some_iff.1 (h2 j hj)).1
  rw [ix_set _ _ _ _ hi, Array.getElem?_setIfInBounds]
  by_cases e : i = j
  · subst e; rw [if_pos rfl, if_pos rfl]; simp [hc]
  · rw [if_neg e, if_neg e]; exact h2 j hj

/-- what replace owes, no Go in sight -/
structure PlainOK (zs : List Int) (A nx : Int) (c : Nat) (js : List (Int × Int)) (ps : List Int) : Prop where
  len : js.length = c
  pl : ps.length = zs.length
  perm : (ps.drop c).Perm (zs.drop c)
  node : ∀ i (h : i < js.length), js[i].1 = wrap64 (nx + i)
  entry : ∀ p ∈ js, p.2 ∈ zs.drop c
  cap : ∀ v, (cnt js v : Int) ≤ A

/-- how replace ends -/
def ReplPost (w : World) (S : Nat → Prop) (wb pb pc : Nat) (r A nx : Int) (c : Nat) (zs : List Int) (e : Ending) (w' : World) : Prop :=
  ∃ lv jv js ps, e = .returned (.agg #[.int .i64 r, lv, jv]) ∧ w'.ownsRow w.heap.size 2 1 lv c ((srt (zs.take c)).map (Value.int .i64)) ∧ w'.ownsRow w.heap.size 43 2 jv c (flat js) ∧ PlainOK zs A nx c js ps ∧
    (∃ x0 x1 x3 x4, w'.heap[wb]? = some (.cells #[x0, x1, .slice (some ⟨pb, 0, none⟩) zs.length pc, x3, x4] 53 (0, 0))) ∧ RowAt w' pb (js.map (fun p => p.1) ++ ps.drop c) ∧ Keeps S w w'

theorem owns_empty {w : World} {base g : Nat} {t size : Nat} (hb : base ≤ g) (hg : w.heap[g]? = some (.cells #[] t (0, 0))) : w.ownsRow base t size (.slice (some ⟨g, 0, none⟩) 0 0) 0 [] :=
  ⟨by simp, .inr ⟨g, 0, #[], rfl, hb, hg, Nat.le_refl _, Nat.zero_le _, by simp, by simp⟩⟩

set_option maxHeartbeats 800000 in
theorem replace_zero (S : Nat → Prop) (wb pb pc : Nat) (r A nx : Int) (zs : List Int) (hA : 0 ≤ A) (w : World) (hw : ∃ x0 x1 x3 x4, w.heap[wb]? = some (.cells #[x0, x1, .slice (some ⟨pb, 0, none⟩) zs.length pc, x3, x4] 53 (0, 0))) (hp : RowAt w pb zs) :
    Calls Try.prog 20 #[.pointer (some ⟨wb, 0, none⟩), .int .i64 r, .int .i64 0] w fun e w' => ReplPost w S wb pb pc r A nx 0 zs e w' := by
  have HW : Hid (_) := And.intro hw hp
  clear hw hp
  go_enter Try.func20, Try.ntmps20
  go_wp2_with (go_at_call 25; refine (silent_any _ _).mono ?_; rintro e w' ⟨rfl, rfl⟩)
  refine bodyPost_ret (v := .agg #[.int .i64 r, .slice (some ⟨w.heap.size + 1 + 1, 0, none⟩) 0 0, .slice (some ⟨w.heap.size + 1 + 1 + 1, 0, none⟩) 0 0]) (by simp [results, Try.results20, go_sem]) rfl ?_
  obtain ⟨⟨x0, x1, x3, x4, hw⟩, hp⟩ := HW.out
  refine ⟨_, _, [], zs, rfl, ?_, ?_, ⟨rfl, rfl, List.Perm.refl _, fun i h => absurd h (by simp), fun p h => absurd h (by simp), fun v => by simpa [cnt] using hA⟩, ⟨x0, x1, x3, x4, heap_old _ _ (heap_old _ _ (heap_old _ _ (heap_old _ _ (heap_old _ _ hw))))⟩, ?_, (((((Keeps.refl S w).alloc _).alloc _).alloc _).alloc _).alloc _⟩
  · have e0 : srt (zs.take 0) = [] := List.eq_nil_of_length_eq_zero (by rw [srt_len]; rfl)
    rw [e0]
    refine owns_empty (by omega) (heap_old _ _ (heap_old _ _ ?_))
    have := heap_new ((w.alloc (.cells #[.int .i64 r, .slice (some ⟨w.heap.size + 1 + 1, 0, none⟩) 0 0, .slice (some ⟨w.heap.size + 1 + 1 + 1, 0, none⟩) 0 0] 37)).alloc (.cells #[.int .i64 r, .slice (some ⟨w.heap.size + 1 + 1, 0, none⟩) 0 0, .slice (some ⟨w.heap.size + 1 + 1 + 1, 0, none⟩) 0 0] 37)) (.cells #[] 2)
    simpa using this
  · refine owns_empty (by omega) (heap_old _ _ ?_)
    have := heap_new (((w.alloc (.cells #[.int .i64 r, .slice (some ⟨w.heap.size + 1 + 1, 0, none⟩) 0 0, .slice (some ⟨w.heap.size + 1 + 1 + 1, 0, none⟩) 0 0] 37)).alloc (.cells #[.int .i64 r, .slice (some ⟨w.heap.size + 1 + 1, 0, none⟩) 0 0, .slice (some ⟨w.heap.size + 1 + 1 + 1, 0, none⟩) 0 0] 37)).alloc (.cells #[] 2)) (.cells #[] 43)
    simpa using this
  · rw [List.map_nil, List.nil_append, List.drop_zero]
    exact ((((hp.alloc _).alloc _).alloc _).alloc _).alloc _
end Go.Proofs.Qxb6003311a
