/- ZZreplace. -/
import Derived.Test.Qxb6003311aReplWords
import Derived.Test.Qxb6003311aReplState
namespace Go.Proofs.Qxb6003311a
open Go.ChangeShapes Go.WideShapes Go.ChangeAt Go.RowKit Go.Maps
set_option linter.unusedVariables false

/-- one more block below, written to afterwards, changes nothing that is owed -/
theorem ReplPost.up {w w' : World} {o : Obj} {S : Nat → Prop} {wb pb pc : Nat} {r A nx : Int} {c : Nat} {zs : List Int} {e : Ending} (h : ReplPost (w.alloc o) S wb pb pc r A nx c zs e w') (l1 : wb < w.heap.size) (l2 : pb < w.heap.size) (x y z : Value) :
    ReplPost w S wb pb pc r A nx c zs e (((w'.setCell ⟨w.heap.size, 0, none⟩ x).setCell ⟨w.heap.size, 1, none⟩ y).setCell ⟨w.heap.size, 2, none⟩ z) := by
  obtain ⟨lv, jv, js, ps, rfl, h1, h2, h3, ⟨x0, x1, x3, x4, h4⟩, h5, h6⟩ := h
  have hs : (w.alloc o).heap.size = w.heap.size + 1 := by simp
  rw [hs] at h1 h2
  have ot : ∀ k, k ≠ w.heap.size → (((w'.setCell ⟨w.heap.size, 0, none⟩ x).setCell ⟨w.heap.size, 1, none⟩ y).setCell ⟨w.heap.size, 2, none⟩ z).heap[k]? = w'.heap[k]? := fun k hk => (heap_other hk).trans ((heap_other hk).trans (heap_other hk))
  have hk0 : Keeps S w w' := ⟨h6.os, h6.tape, h6.output, by have := h6.size; omega, fun k hk hS => (h6.block k (by omega) hS).trans (Below.heap_alloc w o k hk)⟩
  refine ⟨lv, jv, js, ps, rfl, owns_base (owns_heap h1 (fun k hk => ot k ?_)) (by omega), owns_base (owns_heap h2 (fun k hk => ot k ?_)) (by omega), h3, ⟨x0, x1, x3, x4, (ot _ (by omega)).trans h4⟩, h5.heap (ot _ (by omega)), ?_⟩
  · have := (own_block h1 hk).1; omega
  · have := (own_block h2 hk).1; omega
  · exact ((hk0.set _ _ _ (fun hk => absurd hk (by omega))).set _ _ _ (fun hk => absurd hk (by omega))).set _ _ _ (fun hk => absurd hk (by omega))

theorem zz_any (S : Nat → Prop) (wb pb pc : Nat) (r A nx : Int) (c : Nat) (zs : List Int) (w : World) (l1 : wb < w.heap.size) (l2 : pb < w.heap.size) (hS : ¬ S w.heap.size)
    (hcall : ∀ o, Calls Try.prog 20 #[.pointer (some ⟨wb, 0, none⟩), .int .i64 r, .int .i64 c] (w.alloc o) fun e w' => ReplPost (w.alloc o) S wb pb pc r A nx c zs e w') :
    Calls Try.prog 11 #[.pointer (some ⟨wb, 0, none⟩), .int .i64 r, .int .i64 c] w fun e w' => ReplPost w S wb pb pc r A nx c zs e w' := by
  have HC : Hid (_) := hcall
  have HSS : Hid (_) := hS
  clear hcall hS
  go_enter Try.func11, Try.ntmps11
  go_wp2_with fail
  refine (HC.out _).mono ?_
  intro e w' hpost
  obtain ⟨lv, jv, js, ps, rfl, h⟩ := id hpost
  have HP : Hid (ReplPost _ _ _ _ _ _ _ _ _ _ _ _) := hpost
  have hk := h.2.2.2.2.2
  have hb := (hk.block w.heap.size (by simp) HSS.out).trans (heap_new w _)
  have m0 : w'.cell? ⟨w.heap.size, 0, none⟩ = some _ := cell_of hb rfl
  have m1 : w'.cell? ⟨w.heap.size, 1, none⟩ = some _ := cell_of hb rfl
  have m2 : w'.cell? ⟨w.heap.size, 2, none⟩ = some _ := cell_of hb rfl
  have mf0 : w'.frozen? ⟨w.heap.size, 0, none⟩ = false := free_of hb
  have mf1 : w'.frozen? ⟨w.heap.size, 1, none⟩ = false := free_of hb
  have mf2 : w'.frozen? ⟨w.heap.size, 2, none⟩ = false := free_of hb
  have hl : ∃ a n c, lv = .slice a n c := by
    rcases h.1.2 with ⟨e, _⟩ | ⟨g, cap, cur, e, _⟩
    · exact ⟨_, _, _, e⟩
    · exact ⟨_, _, _, e⟩
  have hj : ∃ a n c, jv = .slice a n c := by
    rcases h.2.1.2 with ⟨e, _⟩ | ⟨g, cap, cur, e, _⟩
    · exact ⟨_, _, _, e⟩
    · exact ⟨_, _, _, e⟩
  obtain ⟨la, ln, lc, rfl⟩ := hl
  obtain ⟨ja, jn, jc, rfl⟩ := hj
  clear h hk hb hpost
  go_wp2_with fail
  refine bodyPost_ret (v := .agg #[.int .i64 r, .slice la ln lc, .slice ja jn jc]) (by simp [results, Try.results11, go_sem, m0, m1, m2]) rfl ?_
  exact HP.out.up l1 l2 _ _ _
end Go.Proofs.Qxb6003311a
