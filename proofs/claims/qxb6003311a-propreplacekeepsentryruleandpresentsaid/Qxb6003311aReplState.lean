/- replace: the state that its first loop carries, and what each step does to it. -/
import Derived.Test.Qxb6003311aReplPre
namespace Go.Proofs.Qxb6003311a
open Go.ChangeShapes Go.WideShapes Go.ChangeAt Go.RowKit Go.Maps
set_option linter.unusedVariables false

/-- where everything lies while replace runs: w: the world at its call; W: now -/
structure St (w W : World) (S : Nat → Prop) (B rb sb wb pb mb pc : Nat) (r A nxv : Int) (c n : Nat) (zs script ps : List Int) (lv jv : Value) (js : List (Int × Int)) (mk : Nat) (D : DataW Unit) : Prop where
  net : W.heap[wb]? = some (.cells #[.pointer (some ⟨rb, 0, none⟩), .int .i64 A, .slice (some ⟨pb, 0, none⟩) n pc, .int .i64 nxv, .map (some mb)] 53 (0, 0))
  row : RowAt W pb ps
  map : W.ownsMap (H := Unit) Try.prog 2 (plainElem Try.prog 3) mb mk D
  round : W.heap[w.heap.size + 1 + 1 + 1 + 1]? = some (.cells #[.int .i64 r, lv, jv] 37 (0, 0))
  res : ∃ x0 x1 x2, W.heap[w.heap.size]? = some (.cells #[x0, x1, x2] 37 (0, 0))
  joins : W.ownsRow w.heap.size 43 2 jv js.length (flat js)
  rng : Rng W B rb sb script
  leave : W.ownsRow w.heap.size 2 1 lv c ((srt (zs.take c)).map (Value.int .i64))
  keeps : Keeps S w W
  lwb : wb < w.heap.size
  lpb : pb < w.heap.size
  lmb : mb < w.heap.size
  bwb : B ≤ wb
  bpb : B ≤ pb
  bmb : B ≤ mb
  bsb : sb < B
  hS : ∀ k, k = sb ∨ k = wb ∨ k = pb ∨ k = mb → S k

section
variable {w W W' : World} {S : Nat → Prop} {B rb sb wb pb mb pc : Nat} {r A nxv : Int} {c n : Nat} {zs script ps : List Int} {lv jv : Value} {js : List (Int × Int)} {mk : Nat} {D : DataW Unit}

theorem own_block {V : World} {base t size : Nat} {v : Value} {m : Nat} {xs : List Value} (h : V.ownsRow base t size v m xs) {k : Nat} (hk : v.ownBlock = some k) : base ≤ k ∧ ∃ cur, V.heap[k]? = some (.cells cur t (0, 0)) := by
  rcases h.2 with ⟨rfl, _⟩ | ⟨g, cap, cur, rfl, h1, h2, _⟩
  · simp [Value.ownBlock] at hk
  · simp [Value.ownBlock] at hk; subst hk; exact ⟨h1, cur, h2⟩

/-- whatever leaves these blocks as they are keeps the state -/
theorem St.heap (h : St w W S B rb sb wb pb mb pc r A nxv c n zs script ps lv jv js mk D) (hk : Keeps S w W') (e : ∀ k, B ≤ k → k < W.heap.size → W'.heap[k]? = W.heap[k]?) (hr : Rng W' B rb sb script) (hsz : w.heap.size ≤ W.heap.size) :
    St w W' S B rb sb wb pb mb pc r A nxv c n zs script ps lv jv js mk D := by
  have hB : B ≤ w.heap.size := by have := h.bwb; have := h.lwb; omega
  refine ⟨(e wb h.bwb (lt_of_heap h.net)).trans h.net, ?_, ?_, (e _ (by omega) (lt_of_heap h.round)).trans h.round, ?_, ?_, hr, ?_, hk, h.lwb, h.lpb, h.lmb, h.bwb, h.bpb, h.bmb, h.bsb, h.hS⟩
  · obtain ⟨cur, h1, h2⟩ := h.row
    exact ⟨cur, (e pb h.bpb (lt_of_heap h1)).trans h1, h2⟩
  · exact map_heap h.map (e mb h.bmb (by have := h.lmb; omega))
  · obtain ⟨x0, x1, x2, h1⟩ := h.res
    exact ⟨x0, x1, x2, (e _ hB (lt_of_heap h1)).trans h1⟩
  · refine owns_heap h.joins (fun k hk => ?_)
    obtain ⟨h1, cur, h2⟩ := own_block h.joins hk
    exact e k (by omega) (lt_of_heap h2)
  · refine owns_heap h.leave (fun k hk => ?_)
    obtain ⟨h1, cur, h2⟩ := own_block h.leave hk
    exact e k (by omega) (lt_of_heap h2)

theorem St.draws (h : St w W S B rb sb wb pb mb pc r A nxv c n zs script ps lv jv js mk D) (q : Nat) : St w (W.drewN q) S B rb sb wb pb mb pc r A nxv c n zs script ps lv jv js mk D :=
  h.heap (h.keeps.draws q) (fun _ _ _ => rfl) (h.rng.heap fun _ _ => rfl) h.keeps.size
theorem St.alloc (h : St w W S B rb sb wb pb mb pc r A nxv c n zs script ps lv jv js mk D) (o : Obj) : St w (W.alloc o) S B rb sb wb pb mb pc r A nxv c n zs script ps lv jv js mk D :=
  h.heap (h.keeps.alloc o) (fun k _ hk => Below.heap_alloc W o k hk) (h.rng.heap fun k hk => Below.heap_alloc W o k (by have := h.keeps.size; have := h.bwb; have := h.lwb; omega)) h.keeps.size
/-- a number has been drawn -/
theorem St.drawn (h : St w W S B rb sb wb pb mb pc r A nxv c n zs script ps lv jv js mk D) {j : Nat} (hs : SrcOK W' B sb j script) (hg : W.grownBy W' (some sb)) : St w W' S B rb sb wb pb mb pc r A nxv c n zs script ps lv jv js mk D := by
  have hsb := h.bsb
  have hB : B ≤ W.heap.size := by have := h.bwb; have := h.lwb; have := h.keeps.size; omega
  refine h.heap (h.keeps.grown hg (fun k e _ => by cases e; exact h.hS _ (.inl rfl))) (fun k h1 h2 => hg.block k h2 (by intro e; cases e; omega)) ⟨?_, h.rng.low, j, hs⟩ h.keeps.size
  refine (hg.block rb (by have := h.rng.low; omega) ?_).trans h.rng.rand
  intro e; cases e
  obtain ⟨j', _, a, cc, hb, _⟩ := h.rng.src
  rw [h.rng.rand] at hb; simp at hb
/-- w.next++ -/
theorem St.next (h : St w W S B rb sb wb pb mb pc r A nxv c n zs script ps lv jv js mk D) (x : Int) : St w (W.setCell ⟨wb, 3, none⟩ (.int .i64 x)) S B rb sb wb pb mb pc r A x c n zs script ps lv jv js mk D := by
  have hwb := h.bwb
  have hlw := h.lwb
  have ne : ∀ {k : Nat} {cur : Array Value} {t : TypeId}, W.heap[k]? = some (.cells cur t (0, 0)) → t ≠ 53 → k ≠ wb := fun {k cur t} h1 h2 e => by
    subst e; rw [h.net] at h1; simp at h1; exact h2 h1.2.symm
  refine ⟨?_, ?_, map_heap h.map (heap_other ?_), (heap_other (by omega)).trans h.round, ?_, owns_heap h.joins (fun k hk => heap_other ?_), h.rng.heap (fun k hk => heap_other (by omega)), owns_heap h.leave (fun k hk => heap_other ?_),
    h.keeps.set _ _ _ (fun _ => h.hS _ (.inr (.inl rfl))), h.lwb, h.lpb, h.lmb, h.bwb, h.bpb, h.bmb, h.bsb, h.hS⟩
  · have := heap_set (i := 3) (v := .int .i64 x) h.net
    simpa using this
  · obtain ⟨cur, h1, h2⟩ := h.row
    exact ⟨cur, (heap_other (ne h1 (by decide))).trans h1, h2⟩
  · intro e; obtain ⟨es, clk, h1, _⟩ := h.map; rw [e, h.net] at h1; simp at h1
  · obtain ⟨x0, x1, x2, h1⟩ := h.res
    exact ⟨x0, x1, x2, (heap_other (by omega)).trans h1⟩
  · obtain ⟨h1, cur, h2⟩ := own_block h.joins hk; omega
  · obtain ⟨h1, cur, h2⟩ := own_block h.leave hk; omega
/-- the count of an entry has been raised -/
theorem St.mapped (h : St w W S B rb sb wb pb mb pc r A nxv c n zs script ps lv jv js mk D) {mk' : Nat} {D' : DataW Unit} (ho : W'.ownsMap (H := Unit) Try.prog 2 (plainElem Try.prog 3) mb mk' D') (hg : W.grownBy W' (some mb)) :
    St w W' S B rb sb wb pb mb pc r A nxv c n zs script ps lv jv js mk' D' := by
  have hmb := h.bmb
  have hlm := h.lmb
  have hsz := h.keeps.size
  have ne : ∀ {k : Nat} {cur : Array Value} {t : TypeId}, W.heap[k]? = some (.cells cur t (0, 0)) → some k ≠ some mb := fun {k cur t} h1 e => by
    cases e; obtain ⟨es, clk, h2, _⟩ := h.map; rw [h1] at h2; simp at h2
  have eq : ∀ {k : Nat} {cur : Array Value} {t : TypeId}, W.heap[k]? = some (.cells cur t (0, 0)) → W'.heap[k]? = W.heap[k]? := fun h1 => hg.block _ (lt_of_heap h1) (ne h1)
  refine ⟨(eq h.net).trans h.net, ?_, ho, (eq h.round).trans h.round, ?_, owns_heap h.joins (fun k hk => ?_), h.rng.heap (fun k hk => hg.block k (by omega) (by intro e; cases e; omega)), owns_heap h.leave (fun k hk => ?_),
    h.keeps.grown hg (fun k e _ => by cases e; exact h.hS _ (.inr (.inr (.inr rfl)))), h.lwb, h.lpb, h.lmb, h.bwb, h.bpb, h.bmb, h.bsb, h.hS⟩
  · obtain ⟨cur, h1, h2⟩ := h.row
    exact ⟨cur, (eq h1).trans h1, h2⟩
  · obtain ⟨x0, x1, x2, h1⟩ := h.res
    exact ⟨x0, x1, x2, (eq h1).trans h1⟩
  · obtain ⟨h1, cur, h2⟩ := own_block h.joins hk; exact eq h2
  · obtain ⟨h1, cur, h2⟩ := own_block h.leave hk; exact eq h2
/-- a cell of the row of the present has been written -/
theorem St.put (h : St w W S B rb sb wb pb mb pc r A nxv c n zs script ps lv jv js mk D) (i : Nat) (x : Int) (hi : i < ps.length) : St w (W.setCell ⟨pb, i, none⟩ (.int .i64 x)) S B rb sb wb pb mb pc r A nxv c n zs script (ps.set i x) lv jv js mk D := by
  have hpb := h.bpb
  have hlp := h.lpb
  obtain ⟨cur0, hrow, _⟩ := h.row
  have ne : ∀ {k : Nat} {cur : Array Value} {t : TypeId}, W.heap[k]? = some (.cells cur t (0, 0)) → t ≠ 2 → k ≠ pb := fun {k cur t} h1 h2 e => by
    subst e; rw [hrow] at h1; simp at h1; exact h2 h1.2.symm
  refine ⟨(heap_other (ne h.net (by decide))).trans h.net, h.row.set i x hi, map_heap h.map (heap_other ?_), (heap_other (by omega)).trans h.round, ?_, owns_heap h.joins (fun k hk => heap_other ?_), h.rng.heap (fun k hk => heap_other (by omega)), owns_heap h.leave (fun k hk => heap_other ?_),
    h.keeps.set _ _ _ (fun _ => h.hS _ (.inr (.inr (.inl rfl)))), h.lwb, h.lpb, h.lmb, h.bwb, h.bpb, h.bmb, h.bsb, h.hS⟩
  · intro e; obtain ⟨es, clk, h1, _⟩ := h.map; rw [e, hrow] at h1; simp at h1
  · obtain ⟨x0, x1, x2, h1⟩ := h.res
    exact ⟨x0, x1, x2, (heap_other (by omega)).trans h1⟩
  · obtain ⟨h1, cur, h2⟩ := own_block h.joins hk; omega
  · obtain ⟨h1, cur, h2⟩ := own_block h.leave hk; omega
/-- a join has been appended and stored -/
theorem St.joined (h : St w W S B rb sb wb pb mb pc r A nxv c n zs script ps lv jv js mk D) {jv' : Value} {p : Int × Int} (ho : W'.ownsRow w.heap.size 43 2 jv' (js.length + 1) (flat js ++ [.int .i64 p.1, .int .i64 p.2])) (hg : W.grownBy W' jv.ownBlock) :
    St w (W'.setCell ⟨w.heap.size + 1 + 1 + 1 + 1, 2, none⟩ jv') S B rb sb wb pb mb pc r A nxv c n zs script ps lv jv' (js ++ [p]) mk D := by
  have hsz := h.keeps.size
  have hB : B ≤ w.heap.size := by have := h.bwb; have := h.lwb; omega
  have hjb : ∀ k, jv.ownBlock = some k → w.heap.size ≤ k ∧ ∃ cur, W.heap[k]? = some (.cells cur 43 (0, 0)) := fun k hk => own_block h.joins hk
  have old : ∀ k, k < w.heap.size → W'.heap[k]? = W.heap[k]? := fun k hk => hg.block k (by omega) (by intro e; have := (hjb k e.symm).1; omega)
  have eqc : ∀ {k : Nat} {cur : Array Value} {t : TypeId}, W.heap[k]? = some (.cells cur t (0, 0)) → t ≠ 43 → W'.heap[k]? = some (.cells cur t (0, 0)) := fun {k cur t} h1 h2 =>
    (hg.block k (lt_of_heap h1) (by intro e; obtain ⟨_, cur', h3⟩ := hjb k e.symm; rw [h1] at h3; simp at h3; exact h2 h3.2)).trans h1
  have hrd := eqc h.round (by decide)
  have old' : ∀ k, k < w.heap.size → (W'.setCell ⟨w.heap.size + 1 + 1 + 1 + 1, 2, none⟩ jv').heap[k]? = W.heap[k]? := fun k hk => (heap_other (by omega)).trans (old k hk)
  refine ⟨(old' wb h.lwb).trans h.net, ?_, map_heap h.map (old' mb h.lmb), ?_, ?_, ?_, h.rng.heap (fun k hk => old' k (by omega)), owns_heap h.leave (fun k hk => ?_), ?_, h.lwb, h.lpb, h.lmb, h.bwb, h.bpb, h.bmb, h.bsb, h.hS⟩
  · exact h.row.heap (old' pb h.lpb)
  · have := heap_set (i := 2) (v := jv') hrd
    simpa using this
  · obtain ⟨x0, x1, x2, h1⟩ := h.res
    exact ⟨x0, x1, x2, (heap_other (by omega)).trans (eqc h1 (by decide))⟩
  · rw [List.length_append, flat_snoc]
    refine owns_heap ho (fun k hk => heap_other ?_)
    intro e
    obtain ⟨_, cur, h2⟩ := own_block ho hk
    rw [e, hrd] at h2
    simp at h2
  · obtain ⟨h1, cur, h2⟩ := own_block h.leave hk
    refine (heap_other ?_).trans ((eqc h2 (by decide)).trans h2.symm)
    intro e
    rw [e, h.round] at h2
    simp at h2
  · exact (h.keeps.grown hg (fun k e hk => absurd hk (by have := (hjb k e).1; omega))).set _ _ _ (fun hk => absurd hk (by omega))
end
end Go.Proofs.Qxb6003311a
