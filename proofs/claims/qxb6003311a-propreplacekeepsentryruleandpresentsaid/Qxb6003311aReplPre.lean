/- replace: what stands at the head of its first loop. -/
import Derived.Test.Qxb6003311aReplWords
namespace Go.Proofs.Qxb6003311a
open Go.ChangeShapes Go.WideShapes Go.ChangeAt Go.RowKit Go.Maps
set_option linter.unusedVariables false

theorem run_clear_empty {w : World} {mb clk : Nat} (h : w.heap[mb]? = some (.map #[] clk)) (ty : TypeId) : (Builtin.clear_ #[41] ty #[.map (some mb)]).run Try.prog w = .ok (.tuple #[]) w := by
  have e : w.heap.setIfInBounds mb (.map #[] clk) = w.heap := by
    apply Array.ext_getElem?
    intro i
    rw [Array.getElem?_setIfInBounds]
    split
    · rename_i e; subst e; split
      · exact h.symm
      · rename_i h'; exact absurd (lt_of_heap h) h'
    · rfl
  simp [Builtin.clear_, run_underlying Try.underlying41, MapKept.run_getObj_map h, MapKept.run_setObj_map _ h, Result.andThen, e]

theorem sorted_len (Bs b cap len : Nat) (zs : List Int) (hl : zs.length = len) (hreach : len ≤ 4194304) (w : World) (hBs : w.heap[Bs]? = some (.cells #[.slice (some ⟨b, 0, none⟩) len cap] 27 (0, 0))) (hr : RowAt w b zs) :
    Calls Try.prog 26 #[.func (.func 41) #[] #[.pointer (some ⟨Bs, 0, none⟩)]] w fun e W' => ∃ v, e = .returned v ∧ W'.ownsRow w.heap.size 2 1 v len ((srt zs).map (Value.int .i64)) ∧ Below w.heap.size w W' := by
  subst hl
  refine sorted_any Bs b 0 cap zs hreach w (lt_of_heap hBs) ?_ (cell_of hBs rfl) (fun j hj => by rw [Nat.zero_add]; exact hr.cell hj)
  obtain ⟨cur, h1, _⟩ := hr
  exact lt_of_heap h1
theorem RowAt.take {w : World} {g : Nat} {zs : List Int} (h : RowAt w g zs) (c : Nat) : RowAt w g (zs.take c) := by
  obtain ⟨cur, h1, h2⟩ := h
  refine ⟨cur, h1, fun i hi => ?_⟩
  rw [List.length_take] at hi
  rw [h2 i (by omega)]
  have : ix (zs.take c) i = ix zs i := by unfold ix; rw [List.getD_eq_getElem?_getD, List.getD_eq_getElem?_getD, List.getElem?_take_of_lt (by omega)]
  rw [this]
theorem heap_at (w : World) (o : Obj) (k : Nat) (h : k = w.heap.size) : (w.alloc o).heap[k]? = some o := by subst h; exact heap_new w o

/-- what stands when the leaving nodes have been told: at the head of the first loop -/
structure Pre (w W : World) (S : Nat → Prop) (B rb sb wb pb mb pc : Nat) (r A nx : Int) (c n : Nat) (zs script : List Int) (lv : Value) : Prop where
  net : W.heap[wb]? = some (.cells #[.pointer (some ⟨rb, 0, none⟩), .int .i64 A, .slice (some ⟨pb, 0, none⟩) n pc, .int .i64 nx, .map (some mb)] 53 (0, 0))
  row : RowAt W pb zs
  map : W.ownsMap (H := Unit) Try.prog 2 (plainElem Try.prog 3) mb 0 (.map [])
  round : W.heap[w.heap.size + 1 + 1 + 1 + 1]? = some (.cells #[.int .i64 r, lv, .slice (some ⟨w.heap.size + 1 + 1 + 1, 0, none⟩) 0 0] 37 (0, 0))
  res : ∃ x0 x1 x2, W.heap[w.heap.size]? = some (.cells #[x0, x1, x2] 37 (0, 0))
  joins : W.heap[w.heap.size + 1 + 1 + 1]? = some (.cells #[] 43 (0, 0))
  rng : Rng W B rb sb script
  leave : W.ownsRow w.heap.size 2 1 lv c ((srt (zs.take c)).map (Value.int .i64))
  keeps : Keeps S w W

theorem Rng.heap {w w' : World} {B rb sb : Nat} {zs : List Int} (h : Rng w B rb sb zs) (e : ∀ k, k < B → w'.heap[k]? = w.heap[k]?) : Rng w' B rb sb zs := by
  obtain ⟨h1, h2, j, hsb, a, c, hb, hj, hl, hz, hrow⟩ := h
  refine ⟨(e rb h2).trans h1, h2, j, hsb, a, c, (e sb hsb).trans hb, hj, hl, hz, ?_⟩
  rcases hrow with h | ⟨g, cur, h3, h4, h5, h6⟩
  · exact .inl h
  · exact .inr ⟨g, cur, h3, h4, (e g h4).trans h5, h6⟩
theorem owns_heap {w w' : World} {base : Nat} {t size : Nat} {v : Value} {n : Nat} {xs : List Value} (h : w.ownsRow base t size v n xs) (e : ∀ k, v.ownBlock = some k → w'.heap[k]? = w.heap[k]?) : w'.ownsRow base t size v n xs := by
  refine ⟨h.1, ?_⟩
  rcases h.2 with h0 | ⟨g, cap, cur, rfl, h1, h2, h3⟩
  · exact .inl h0
  · exact .inr ⟨g, cap, cur, rfl, h1, (e g rfl).trans h2, h3⟩
theorem map_heap {w w' : World} {mb n : Nat} {D : DataW Unit} (h : w.ownsMap Try.prog 2 (plainElem Try.prog 3) mb n D) (e : w'.heap[mb]? = w.heap[mb]?) : w'.ownsMap Try.prog 2 (plainElem Try.prog 3) mb n D := by
  obtain ⟨es, clock, h1, h2⟩ := h
  exact ⟨es, clock, e.trans h1, h2⟩
theorem owns_base {w : World} {base base' : Nat} {t size : Nat} {v : Value} {n : Nat} {xs : List Value} (h : w.ownsRow base t size v n xs) (hb : base' ≤ base) : w.ownsRow base' t size v n xs := by
  refine ⟨h.1, ?_⟩
  rcases h.2 with h0 | ⟨g, cap, cur, e, h1, h2⟩
  · exact .inl h0
  · exact .inr ⟨g, cap, cur, e, by omega, h2⟩

theorem pre_made {w w3 : World} {S : Nat → Prop} {B rb sb wb pb mb pc clk : Nat} {r A nx : Int} {c n : Nat} {zs script : List Int} {lv : Value} {o1 o2 o3 o6 : Obj}
    (ho1 : ∃ x0 x1 x2, o1 = .cells #[x0, x1, x2] 37 (0, 0))
    (hw : w.heap[wb]? = some (.cells #[.pointer (some ⟨rb, 0, none⟩), .int .i64 A, .slice (some ⟨pb, 0, none⟩) n pc, .int .i64 nx, .map (some mb)] 53 (0, 0))) (hp : RowAt w pb zs) (hm : w.ownsMap (H := Unit) Try.prog 2 (plainElem Try.prog 3) mb 0 (.map []))
    (hr : Rng w B rb sb script) (hB : B ≤ w.heap.size)
    (hlv : w3.ownsRow ((((((w.alloc o1).alloc o2).alloc o3).alloc (.cells #[] 43)).alloc (.cells #[.int .i64 r, .slice (some ⟨w.heap.size + 1 + 1, 0, none⟩) 0 0, .slice (some ⟨w.heap.size + 1 + 1 + 1, 0, none⟩) 0 0] 37)).alloc o6).heap.size 2 1 lv c ((srt (zs.take c)).map (Value.int .i64)))
    (hb : Below ((((((w.alloc o1).alloc o2).alloc o3).alloc (.cells #[] 43)).alloc (.cells #[.int .i64 r, .slice (some ⟨w.heap.size + 1 + 1, 0, none⟩) 0 0, .slice (some ⟨w.heap.size + 1 + 1 + 1, 0, none⟩) 0 0] 37)).alloc o6).heap.size
      ((((((w.alloc o1).alloc o2).alloc o3).alloc (.cells #[] 43)).alloc (.cells #[.int .i64 r, .slice (some ⟨w.heap.size + 1 + 1, 0, none⟩) 0 0, .slice (some ⟨w.heap.size + 1 + 1 + 1, 0, none⟩) 0 0] 37)).alloc o6) w3) :
    w3.heap[w.heap.size + 1 + 1 + 1 + 1]? = some (.cells #[.int .i64 r, .slice (some ⟨w.heap.size + 1 + 1, 0, none⟩) 0 0, .slice (some ⟨w.heap.size + 1 + 1 + 1, 0, none⟩) 0 0] 37 (0, 0)) ∧
    Pre w (w3.setCell ⟨w.heap.size + 1 + 1 + 1 + 1, 1, none⟩ lv) S B rb sb wb pb mb pc r A nx c n zs script lv := by
  have old : ∀ k, k < w.heap.size → w3.heap[k]? = w.heap[k]? := fun k hk => by
    rw [hb.block k (by simp; omega)]
    rw [Below.heap_alloc _ _ _ (by simp; omega), Below.heap_alloc _ _ _ (by simp; omega), Below.heap_alloc _ _ _ (by simp; omega), Below.heap_alloc _ _ _ (by simp; omega), Below.heap_alloc _ _ _ (by simp; omega), Below.heap_alloc _ _ _ hk]
  have h4 : w3.heap[w.heap.size + 1 + 1 + 1 + 1]? = some (.cells #[.int .i64 r, .slice (some ⟨w.heap.size + 1 + 1, 0, none⟩) 0 0, .slice (some ⟨w.heap.size + 1 + 1 + 1, 0, none⟩) 0 0] 37 (0, 0)) := by
    rw [hb.block _ (by simp)]
    exact heap_old _ _ (heap_at _ _ _ (by simp))
  have ne : ∀ k, k < w.heap.size → k ≠ w.heap.size + 1 + 1 + 1 + 1 := fun k hk => by omega
  have old' : ∀ k, k < w.heap.size → (w3.setCell ⟨w.heap.size + 1 + 1 + 1 + 1, 1, none⟩ lv).heap[k]? = w.heap[k]? := fun k hk => (heap_other (ne k hk)).trans (old k hk)
  refine ⟨h4, ⟨(old' wb (lt_of_heap hw)).trans hw, ?_, ?_, ?_, ?_, ?_, hr.heap (fun k hk => old' k (by omega)), ?_, ?_⟩⟩
  · obtain ⟨cur, h1, h2⟩ := hp
    exact ⟨cur, (old' pb (lt_of_heap h1)).trans h1, h2⟩
  · have hmb : mb < w.heap.size := by obtain ⟨es, cl, h1, _⟩ := hm; exact lt_of_heap h1
    exact map_heap hm (old' mb hmb)
  · have := heap_set (i := 1) (v := lv) h4
    simpa using this
  · obtain ⟨x0, x1, x2, rfl⟩ := ho1
    refine ⟨x0, x1, x2, (heap_other (by omega)).trans ?_⟩
    rw [hb.block _ (by simp; omega)]
    exact heap_old _ _ (heap_old _ _ (heap_old _ _ (heap_old _ _ (heap_old _ _ (heap_new _ _)))))
  · refine (heap_other (by omega)).trans ?_
    rw [hb.block _ (by simp)]
    exact heap_old _ _ (heap_old _ _ (heap_at _ _ _ (by simp)))
  · refine owns_base (owns_heap hlv (fun k hk => heap_other ?_)) (by simp; omega)
    have := (hlv.lt k hk).1
    simp at this
    omega
  · exact ((((((((Keeps.refl S w).alloc _).alloc _).alloc _).alloc _).alloc _).alloc _).below hb).set _ _ _ (fun h => absurd h (by omega))

end Go.Proofs.Qxb6003311a
