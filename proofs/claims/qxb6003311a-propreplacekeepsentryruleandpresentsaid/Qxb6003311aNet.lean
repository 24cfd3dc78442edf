/- zzRng, ZZnetworkOf, silent, ZZnetworkPresent, each walked once. -/
import Derived.Test.Qxb6003311aIter
namespace Go.Proofs.Qxb6003311a
open Go.ChangeShapes Go.WideShapes Go.ChangeAt Go.RowKit
set_option linter.unusedVariables false

theorem new_any (x : Value) (w : World) : Calls Try.prog 18 #[.iface 55 x] w fun e w' => e = .returned (.pointer (some ⟨w.heap.size, 0, none⟩)) ∧ w' = w.alloc (.cells #[.iface 55 x] 68) := by
  go_enter Try.func18, Try.ntmps18
  go_wp2_with fail
  go_ret
  exact ⟨rfl, rfl⟩

/-- the generator that zzRng makes -/
structure Rng (w : World) (B rb sb : Nat) (zs : List Int) : Prop where
  rand : w.heap[rb]? = some (.cells #[.iface 55 (.pointer (some ⟨sb, 0, none⟩))] 68 (0, 0))
  low : rb < B
  src : ∃ j, SrcOK w B sb j zs

theorem heap_new (w : World) (o : Obj) : (w.alloc o).heap[w.heap.size]? = some o := heap_alloc_new w o
theorem heap_new1 (w : World) (o p : Obj) : ((w.alloc o).alloc p).heap[w.heap.size + 1]? = some p := by
  have := heap_new (w.alloc o) p
  rwa [show (w.alloc o).heap.size = w.heap.size + 1 by simp] at this
theorem heap_old (w : World) (o : Obj) {k : Nat} {q : Obj} (h : w.heap[k]? = some q) : (w.alloc o).heap[k]? = some q := (Below.heap_alloc w o k (lt_of_heap h)).trans h
theorem grown_alloc {w w1 : World} {r : Option Nat} (h : w.grownBy w1 r) (o : Obj) : w.grownBy (w1.alloc o) r :=
  ⟨h.os, h.tape, h.output, Nat.le_trans h.size (by simp), fun k hk hr => (Below.heap_alloc w1 o k (Nat.lt_of_lt_of_le hk h.size)).trans (h.block k hk hr)⟩
theorem rng_made {w1 : World} {a1 : Option Addr} {n c1 : Nat} {zs : List Int} (hz : zs.length = n) (hn : n ≤ 1048576) (hr : ∀ z ∈ zs, 0 ≤ z ∧ z ≤ 18446744073709551615)
    (hrow : zs = [] ∨ ∃ g cur, a1 = some ⟨g, 0, none⟩ ∧ g < w1.heap.size ∧ w1.heap[g]? = some (.cells cur 49 (0, 0)) ∧ ∀ i, i < zs.length → cur[i]? = some (.int .u64 (ix zs i))) :
    Rng ((w1.alloc (.cells #[.slice a1 n c1, .int .i64 0] 58)).alloc (.cells #[.iface 55 (.pointer (some ⟨w1.heap.size, 0, none⟩))] 68))
      ((w1.alloc (.cells #[.slice a1 n c1, .int .i64 0] 58)).alloc (.cells #[.iface 55 (.pointer (some ⟨w1.heap.size, 0, none⟩))] 68)).heap.size (w1.heap.size + 1) w1.heap.size zs := by
  refine ⟨heap_new1 _ _ _, by simp, 0, by simp; omega, a1, c1, ?_, Nat.zero_le _, by omega, hr, ?_⟩
  · rw [hz]; exact heap_old _ _ (heap_new _ _)
  · rcases hrow with h | ⟨g, cur, h1, h2, h3, h4⟩
    · exact .inl h
    · exact .inr ⟨g, cur, h1, by simp; omega, heap_old _ _ (heap_old _ _ h3), h4⟩
set_option maxHeartbeats 800000 in
theorem rng_any (a : Option Addr) (n c : Nat) (zs : List Int) (hz : zs.length = n) (w : World) (hn : n ≤ 1048576) (H : IntsAt .u64 w a zs) (h0 : a = none → c = 0) (hr : ∀ z ∈ zs, 0 ≤ z ∧ z ≤ 18446744073709551615) :
    Calls Try.prog 10 #[.slice a n c] w fun e w' => ∃ rb sb, e = .returned (.pointer (some ⟨rb, 0, none⟩)) ∧ Rng w' w'.heap.size rb sb zs ∧ w.heap.size ≤ sb ∧ w.grownBy w' none := by
  have C : Hid (_) := clone19_any a n c zs hz w (by omega) H h0
  have HZ : Hid (zs.length = n) := hz
  have HR : Hid (_) := hr
  clear H h0 hz hr
  go_enter Try.func10, Try.ntmps10
  go_wp2_with fail
  refine Calls.mono C.out ?_
  rintro e w1 ⟨v, rfl, ho, hg⟩
  rw [← HZ.out] at ho
  have HG : Hid (World.grownBy _ _ _) := hg
  obtain ⟨a1, c1, rfl, hrow⟩ : ∃ a1 c1, v = .slice a1 n c1 ∧ Hid (zs = [] ∨ ∃ g cur, a1 = some ⟨g, 0, none⟩ ∧ g < w1.heap.size ∧ w1.heap[g]? = some (.cells cur 49 (0, 0)) ∧ ∀ i, i < zs.length → cur[i]? = some (.int .u64 (ix zs i))) := by
    rcases owns_at ho with ⟨rfl, e⟩ | ⟨g, cap, cur, rfl, hb, hgg, h1, h2, h3, h4, h5⟩
    · refine ⟨none, 0, ?_, .inl e⟩
      rw [← HZ.out, e]; rfl
    · exact ⟨some ⟨g, 0, none⟩, cap, by rw [HZ.out], .inr ⟨g, cur, rfl, lt_of_heap hgg, hgg, h5⟩⟩
  clear C ho hg
  go_wp2_with fail
  refine (new_any _ _).mono ?_
  rintro e w2 ⟨rfl, rfl⟩
  go_wp2_with fail
  go_ret
  exact ⟨w1.heap.size + 1, w1.heap.size, rfl, rng_made HZ.out hn HR.out hrow.out, HG.out.size, grown_alloc (grown_alloc HG.out _) _⟩

theorem network_any (rp : Option Addr) (A : Int) (v : Value) (nx : Int) (hv : ∃ a n c, v = .slice a n c) (w : World) :
    Calls Try.prog 9 #[.pointer rp, .int .i64 A, v, .int .i64 nx] w fun e w' => e = .returned (.pointer (some ⟨w.heap.size + 1, 0, none⟩)) ∧
      w' = (w.alloc (.map #[] 0)).alloc (.cells #[.pointer rp, .int .i64 A, v, .int .i64 nx, .map (some w.heap.size)] 53) := by
  obtain ⟨a, n, c, rfl⟩ := hv
  have hmm := @run_makeMap Try.prog
  go_enter Try.func9, Try.ntmps9
  go_wp2_with fail
  go_ret
  exact ⟨rfl, rfl⟩
theorem silent_any (r : Int) (w : World) :
    Calls Try.prog 25 #[.int .i64 r] w fun e w' => e = .returned (.agg #[.int .i64 r, .slice (some ⟨w.heap.size + 1, 0, none⟩) 0 0, .slice (some ⟨w.heap.size + 1 + 1, 0, none⟩) 0 0]) ∧
      w' = ((w.alloc (.cells #[.int .i64 r, .slice (some ⟨w.heap.size + 1, 0, none⟩) 0 0, .slice (some ⟨w.heap.size + 1 + 1, 0, none⟩) 0 0] 37)).alloc (.cells #[] 2)).alloc (.cells #[] 43) := by
  go_enter Try.func25, Try.ntmps25
  go_wp2_with fail
  exact bodyPost_ret (v := .agg #[.int .i64 r, .slice (some ⟨w.heap.size + 1, 0, none⟩) 0 0, .slice (some ⟨w.heap.size + 1 + 1, 0, none⟩) 0 0]) (by simp [results, Try.results25, go_sem]) rfl ⟨rfl, rfl⟩
theorem present_any (wb : Nat) (v : Value) (w : World) (h : w.cell? ⟨wb, 2, none⟩ = some v) (hv : ∃ a n c, v = .slice a n c) :
    Calls Try.prog 15 #[.pointer (some ⟨wb, 0, none⟩)] w fun e w' => e = .returned v ∧ w' = w := by
  obtain ⟨a, n, c, rfl⟩ := hv
  go_enter Try.func15, Try.ntmps15
  go_wp2_with fail
  go_ret
  exact ⟨rfl, rfl⟩
end Go.Proofs.Qxb6003311a
