/- The law of replace: the words in which its walk speaks. -/
import Derived.Test.Qxb6003311aReplace
import Derived.Test.Qxb6003311aZZ
import Derived.Test.Qxb6003311aHolds
namespace Go.Proofs.Qxb6003311a
open Go.ChangeShapes Go.WideShapes Go.ChangeAt Go.RowKit Go.Maps
set_option linter.unusedVariables false

theorem replace_any (B rb sb wb pb mb pc : Nat) (r A nx : Int) (c n : Nat) (zs script : List Int) (hz : zs.length = n) (hcn : c < n) (hn : n ≤ 1048576) (hpc : n ≤ pc) (w : World)
    (hw : w.heap[wb]? = some (.cells #[.pointer (some ⟨rb, 0, none⟩), .int .i64 A, .slice (some ⟨pb, 0, none⟩) n pc, .int .i64 nx, .map (some mb)] 53 (0, 0))) (hp : RowAt w pb zs) (hm : w.ownsMap (H := Unit) Try.prog 2 (plainElem Try.prog 3) mb 0 (.map [])) (hr : Rng w B rb sb script) (hB : B ≤ w.heap.size)
    (hL : pb < w.heap.size ∧ mb < w.heap.size ∧ B ≤ wb ∧ B ≤ pb ∧ B ≤ mb) (hA : (c : Int) ≤ A * ((n : Int) - c) ∧ 0 ≤ A ∧ A ≤ 9223372036854775807) (hnd : zs.Nodup) (hnx : (Lit.int .i64 nx).wf = true) (hwf : ∀ z ∈ zs, (Lit.int .i64 z).wf = true) :
    Calls Try.prog 20 #[.pointer (some ⟨wb, 0, none⟩), .int .i64 r, .int .i64 c] w fun e w' => ReplPost w (fun k => k = sb ∨ k = wb ∨ k = pb ∨ k = mb) wb pb pc r A nx c zs e w' := by
  rcases Nat.eq_zero_or_pos c with h | h
  · subst h
    exact replace_zero _ wb pb pc r A nx zs hA.2.1 w ⟨_, _, _, _, by rw [hz]; exact hw⟩ hp
  · exact replace_pos B rb sb wb pb mb pc 0 r A nx c n zs script hz h hcn hn hpc w hw hp hm hr hB hL hA hnd hnx hwf

theorem holds_parts {A n c : Int} (h : holdsB A n c = true) (h2 : A ≤ 9223372036854775807) : c ≤ A * (n - c) ∧ 0 ≤ A ∧ A ≤ 9223372036854775807 := by
  unfold holdsB at h
  split at h
  · cases h
  · split at h
    · rename_i e
      have := of_decide_eq_true h
      subst e
      exact ⟨by omega, by omega, h2⟩
    · exact ⟨of_decide_eq_true h, by omega, h2⟩

theorem ints_grown {k : IntKind} {w w1 : World} {a : Option Addr} {zs : List Int} (h : IntsAt k w a zs) (g : w.grownBy w1 none) : IntsAt k w1 a zs := by
  rcases h with h | ⟨b, off, e, hb, hc⟩
  · exact .inl h
  · exact .inr ⟨b, off, e, Nat.lt_of_lt_of_le hb g.size, fun i hi => g.cell (hc i hi) (fun e => by cases e)⟩
theorem row_of_own {w : World} {base n : Nat} {v : Value} {zs : List Int} (h : w.ownsRow base 2 1 v n (zs.map (Value.int .i64))) (hz : zs.length = n) (hn : 0 < n) : ∃ g cap, v = .slice (some ⟨g, 0, none⟩) n cap ∧ RowAt w g zs ∧ base ≤ g ∧ n ≤ cap := by
  subst hz
  rcases owns_at h with ⟨_, e⟩ | ⟨g, cap, cur, e, h1, h2, h3, h4, h5, h6, h7⟩
  · rw [e] at hn; simp at hn
  · exact ⟨g, cap, e, ⟨cur, h2, h7⟩, h1, h3⟩
theorem ints_of_row {w : World} {g : Nat} {zs : List Int} (h : RowAt w g zs) : IntsAt .i64 w (some ⟨g, 0, none⟩) zs := by
  have h' := h
  obtain ⟨cur, h1, _⟩ := h
  exact .inr ⟨g, 0, rfl, lt_of_heap h1, fun i hi => by rw [Nat.zero_add]; exact h'.cell hi⟩
theorem ints_drop {w : World} {g : Nat} {zs : List Int} (h : RowAt w g zs) (c : Nat) : IntsAt .i64 w (some ⟨g, c, none⟩) (zs.drop c) := by
  have h' := h
  obtain ⟨cur, h1, _⟩ := h
  exact .inr ⟨g, c, rfl, lt_of_heap h1, fun i hi => by rw [ix_drop]; exact h'.cell (by rw [List.length_drop] at hi; omega)⟩
theorem own_ints {w : World} {base n : Nat} {v : Value} {zs : List Int} (h : w.ownsRow base 2 1 v n (zs.map (Value.int .i64))) (hz : zs.length = n) : ∃ a c, v = .slice a n c ∧ IntsAt .i64 w a zs ∧ (a = none → c = 0) := by
  subst hz; exact ints_of_own h
theorem sort_len (base n : Nat) (v : Value) (zs : List Int) (hz : zs.length = n) (w : World) (hn : n ≤ 4194304) (h : w.ownsRow base 2 1 v n (zs.map (Value.int .i64))) :
    Calls Try.prog 12 #[v] w fun e w' => e = .returned (.tuple #[]) ∧ w'.ownsRow base 2 1 v n ((srt zs).map (Value.int .i64)) ∧ w.grownBy w' v.ownBlock := by
  subst hz; exact sort_any base v zs w hn h

/-- the two that go from the network's making to the call of replace -/
theorem made_zz {w2 w3 w4 : World} {rb sb pb pc n c : Nat} {r A nx : Int} {zs script : List Int} (hz : zs.length = n) (hcn : c < n) (hn : n ≤ 1048576) (hpc : n ≤ pc)
    (hr : Rng w3 w3.heap.size rb sb script) (g34 : w3.grownBy w4 none) (hp : RowAt w4 pb zs) (hb : w3.heap.size ≤ pb)
    (hA : (c : Int) ≤ A * ((n : Int) - c) ∧ 0 ≤ A ∧ A ≤ 9223372036854775807) (hnd : zs.Nodup) (hnx : (Lit.int .i64 nx).wf = true) (hwf : ∀ z ∈ zs, (Lit.int .i64 z).wf = true) :
    Calls Try.prog 11 #[.pointer (some ⟨w4.heap.size + 1, 0, none⟩), .int .i64 r, .int .i64 c] ((w4.alloc (.map #[] 0)).alloc (.cells #[.pointer (some ⟨rb, 0, none⟩), .int .i64 A, .slice (some ⟨pb, 0, none⟩) n pc, .int .i64 nx, .map (some w4.heap.size)] 53))
      fun e w' => ReplPost ((w4.alloc (.map #[] 0)).alloc (.cells #[.pointer (some ⟨rb, 0, none⟩), .int .i64 A, .slice (some ⟨pb, 0, none⟩) n pc, .int .i64 nx, .map (some w4.heap.size)] 53)) (fun k => k = sb ∨ k = w4.heap.size + 1 ∨ k = pb ∨ k = w4.heap.size) (w4.heap.size + 1) pb pc r A nx c zs e w' := by
  have hsz := g34.size
  obtain ⟨j, hj⟩ := hr.src
  have hlow := hr.low
  have hsb : sb < w3.heap.size := hj.1
  have hpl : pb < w4.heap.size := by obtain ⟨cur, h1, _⟩ := hp; exact lt_of_heap h1
  refine zz_any _ _ _ pc r A nx c zs _ (by simp) (by simp; omega) (by simp; omega) fun o => ?_
  refine replace_any w3.heap.size rb sb (w4.heap.size + 1) pb w4.heap.size pc r A nx c n zs script hz hcn hn hpc _ (heap_old _ _ (heap_new1 _ _ _)) (((hp.alloc _).alloc _).alloc _) ?_ ?_ (by simp; omega) (by simp; omega) hA hnd hnx hwf
  · refine map_heap (World.ownsMap_made w4 _ _ _) ?_
    exact (Below.heap_alloc _ _ _ (by simp; omega)).trans (Below.heap_alloc _ _ _ (by simp))
  · refine hr.heap fun k hk => ?_
    exact (Below.heap_alloc _ _ _ (by simp; omega)).trans ((Below.heap_alloc _ _ _ (by simp; omega)).trans ((Below.heap_alloc _ _ _ (by omega)).trans (g34.block k hk (fun e => by cases e))))

/-- what stands behind the call of replace: w: the law's own first world; W: now -/
structure Done (w W : World) (rdb ob oc wb pb pc base : Nat) (r A nx : Int) (c n : Nat) (zs : List Int) (lv jv : Value) (js : List (Int × Int)) (ps : List Int) : Prop where
  old : RowAt W ob zs
  leave : W.ownsRow base 2 1 lv c ((srt (zs.take c)).map (Value.int .i64))
  joins : W.ownsRow base 43 2 jv c (flat js)
  plain : PlainOK zs A nx c js ps
  net : ∃ x0 x1 x3 x4, W.heap[wb]? = some (.cells #[x0, x1, .slice (some ⟨pb, 0, none⟩) n pc, x3, x4] 53 (0, 0))
  row : RowAt W pb (js.map (fun p => p.1) ++ ps.drop c)
  round : W.heap[rdb]? = some (.cells #[.int .i64 r, lv, jv] 37 (0, 0))
  low : Below w.heap.size w W
  zl : zs.length = n
theorem Done.over {w W W' : World} {rdb ob oc wb pb pc base : Nat} {r A nx : Int} {c n : Nat} {zs : List Int} {lv jv : Value} {js : List (Int × Int)} {ps : List Int} (h : Done w W rdb ob oc wb pb pc base r A nx c n zs lv jv js ps) (b : Below W.heap.size W W') :
    Done w W' rdb ob oc wb pb pc base r A nx c n zs lv jv js ps := by
  have e : ∀ {k : Nat} {o : Obj}, W.heap[k]? = some o → W'.heap[k]? = W.heap[k]? := fun h1 => b.block _ (lt_of_heap h1)
  obtain ⟨cur, h1, _⟩ := id h.old
  obtain ⟨cur2, h2, _⟩ := id h.row
  obtain ⟨x0, x1, x3, x4, h3⟩ := h.net
  refine ⟨h.old.heap (e h1), owns_heap h.leave (fun k hk => ?_), owns_heap h.joins (fun k hk => ?_), h.plain, ⟨x0, x1, x3, x4, (e h3).trans h3⟩, h.row.heap (e h2), (e h.round).trans h.round, ?_, h.zl⟩
  · obtain ⟨_, cur, h4⟩ := own_block h.leave hk; exact e h4
  · obtain ⟨_, cur, h4⟩ := own_block h.joins hk; exact e h4
  · exact ⟨b.os.trans h.low.os, b.tape.trans h.low.tape, b.output.trans h.low.output, Nat.le_trans h.low.size b.size, fun k hk => (b.block k (Nat.lt_of_lt_of_le hk h.low.size)).trans (h.low.block k hk)⟩
/-- the call of replace has come back, and its round has been laid down -/
theorem Done.made {w w0 w1 w2 w3 w4 w5 w6 : World} {S : Nat → Prop} {ob oc wb pb pc : Nat} {r A nx : Int} {c n : Nat} {zs : List Int} {lv jv : Value} (hz : zs.length = n)
    (h : ReplPost w5 S wb pb pc r A nx c zs (.returned (.agg #[.int .i64 r, lv, jv])) w6) (ho : RowAt w5 ob zs) (hS : ∀ k, S k → w.heap.size ≤ k ∧ k ≠ ob) (g : w.grownBy w5 none) :
    ∃ js ps, Done w (w6.alloc (.cells #[.int .i64 r, lv, jv] 37)) w6.heap.size ob oc wb pb pc w5.heap.size r A nx c n zs lv jv js ps := by
  obtain ⟨lv', jv', js, ps, e, h1, h2, h3, ⟨x0, x1, x3, x4, h4⟩, h5, h6⟩ := h
  cases e
  obtain ⟨cur, h7, _⟩ := id ho
  refine ⟨js, ps, ?_⟩
  have al : ∀ {k : Nat} {o : Obj}, w6.heap[k]? = some o → (w6.alloc (.cells #[.int .i64 r, lv, jv] 37)).heap[k]? = w6.heap[k]? := fun h8 => Below.heap_alloc _ _ _ (lt_of_heap h8)
  refine ⟨(ho.heap (h6.block ob (lt_of_heap h7) (fun hs => (hS _ hs).2 rfl))).alloc _, owns_heap h1 (fun k hk => ?_), owns_heap h2 (fun k hk => ?_), h3, ⟨x0, x1, x3, x4, (al h4).trans (by rw [← hz]; exact h4)⟩, h5.alloc _, heap_new _ _, ?_, hz⟩
  · obtain ⟨_, cur, h8⟩ := own_block h1 hk; exact al h8
  · obtain ⟨_, cur, h8⟩ := own_block h2 hk; exact al h8
  · refine Below.alloc ⟨h6.os.trans g.os, h6.tape.trans g.tape, h6.output.trans g.output, Nat.le_trans g.size h6.size, fun k hk => ?_⟩ (Nat.le_trans g.size h6.size) _
    exact (h6.block k (Nat.lt_of_lt_of_le hk g.size) (fun hs => by have := (hS k hs).1; omega)).trans (g.block k hk (fun e => by cases e))

/-- the law's loop over the joins -/
structure LI (w W2 W : World) (mb : Nat) (zs : List Int) (js : List (Int × Int)) (c i m : Nat) (av : Value) (D : DataW Unit) : Prop where
  keeps : Keeps (fun k => k = mb) W2 W
  map : W.ownsMap (H := Unit) Try.prog 2 (plainElem Try.prog 3) mb m D
  after : W.ownsRow W2.heap.size 2 1 av (zs.length - c + i) ((zs.drop c ++ (js.take i).map (fun p => p.1)).map (Value.int .i64))
  lmb : mb < W2.heap.size
  map2 : ∃ es clk, W2.heap[mb]? = some (.map es clk)
  bmb : w.heap.size ≤ mb
section
variable {w W2 W W' : World} {mb : Nat} {zs : List Int} {js : List (Int × Int)} {c i m : Nat} {av : Value} {D : DataW Unit}
theorem LI.cells (h : LI w W2 W mb zs js c i m av D) {k : Nat} {cur : Array Value} {t : TypeId} (h1 : W2.heap[k]? = some (.cells cur t (0, 0))) : W.heap[k]? = W2.heap[k]? :=
  h.keeps.block k (lt_of_heap h1) (fun e => by obtain ⟨es, clk, h2⟩ := h.map2; rw [e] at h1; rw [h1] at h2; simp at h2)
theorem LI.own (h : LI w W2 W mb zs js c i m av D) {base t s n : Nat} {v : Value} {xs : List Value} (ho : W2.ownsRow base t s v n xs) : W.ownsRow base t s v n xs :=
  owns_heap ho (fun k hk => by obtain ⟨_, cur, h4⟩ := own_block ho hk; exact h.cells h4)
theorem LI.row (h : LI w W2 W mb zs js c i m av D) {g : Nat} {l : List Int} (ho : RowAt W2 g l) : RowAt W g l := by
  obtain ⟨cur, h1, _⟩ := id ho
  exact ho.heap (h.cells h1)
theorem LI.alloc (h : LI w W2 W mb zs js c i m av D) (o : Obj) : LI w W2 (W.alloc o) mb zs js c i m av D :=
  ⟨h.keeps.alloc o, map_heap h.map (Below.heap_alloc _ _ _ (Nat.lt_of_lt_of_le h.lmb h.keeps.size)), owns_heap h.after (fun k hk => by obtain ⟨_, cur, h4⟩ := own_block h.after hk; exact Below.heap_alloc _ _ _ (lt_of_heap h4)), h.lmb, h.map2, h.bmb⟩
theorem LI.mapped (h : LI w W2 W mb zs js c i m av D) {m' : Nat} {D' : DataW Unit} (ho : W'.ownsMap (H := Unit) Try.prog 2 (plainElem Try.prog 3) mb m' D') (hg : W.grownBy W' (some mb)) : LI w W2 W' mb zs js c i m' av D' :=
  ⟨h.keeps.grown hg (fun k e _ => by cases e; rfl), ho, owns_heap h.after (fun k hk => by
    obtain ⟨h3, cur, h4⟩ := own_block h.after hk
    exact hg.block k (lt_of_heap h4) (fun e => by cases e; have := h.lmb; omega)), h.lmb, h.map2, h.bmb⟩
theorem LI.joined (h : LI w W2 W mb zs js c i m av D) {av' : Value} (hi : i < js.length) (ho : W'.ownsRow W2.heap.size 2 1 av' (zs.length - c + i + 1) ((zs.drop c ++ (js.take i).map (fun p => p.1)).map (Value.int .i64) ++ [.int .i64 js[i].1])) (hg : W.grownBy W' av.ownBlock) : LI w W2 W' mb zs js c (i + 1) m av' D := by
  have hmb := h.lmb
  refine ⟨h.keeps.grown hg (fun k e hk => absurd hk (by have := (own_block h.after e).1; omega)), map_heap h.map (hg.block mb (Nat.lt_of_lt_of_le h.lmb h.keeps.size) (fun e => by have := (own_block h.after e.symm).1; omega)), ?_, h.lmb, h.map2, h.bmb⟩
  have e : (zs.drop c ++ (js.take (i + 1)).map (fun p => p.1)).map (Value.int .i64) = (zs.drop c ++ (js.take i).map (fun p => p.1)).map (Value.int .i64) ++ [.int .i64 js[i].1] := by
    rw [List.take_succ_eq_append_getElem hi, List.map_append, List.map_append, List.map_append, List.map_append, List.append_assoc]; rfl
  rw [e]
  exact ho
theorem LI.low (h : LI w W2 W mb zs js c i m av D) (hl : Below w.heap.size w W2) : Below w.heap.size w W :=
  ⟨h.keeps.os.trans hl.os, h.keeps.tape.trans hl.tape, h.keeps.output.trans hl.output, Nat.le_trans hl.size h.keeps.size, fun k hk => (h.keeps.block k (Nat.lt_of_lt_of_le hk hl.size) (fun e => by have := h.bmb; omega)).trans (hl.block k hk)⟩
end
end Go.Proofs.Qxb6003311a
