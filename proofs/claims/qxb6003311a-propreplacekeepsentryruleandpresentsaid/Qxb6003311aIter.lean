/- slices.Sorted(slices.Values(s)): the iterator, its collector, the sort. After the kit's worked texts on a range over a function. -/
import Derived.RangeFuncBox
import Derived.RangeFuncLeaves
import Derived.Shelf.Abstract
import Derived.OwnWalkIn
import Derived.TacticsInMore
import Derived.LoopNIn
import Derived.LoopIn
import Derived.Maps.AppendAt
import Derived.Test.Qxb6003311aSorted
namespace Go.Proofs.Qxb6003311a
open Go.ChangeShapes Go.WideShapes Go.ChangeAt Go.RowKit Go.Shelf
set_option linter.unusedVariables false

attribute [local go_sem] Oper.semAt_some

/-- what has come when k rounds are over -/
def upto (zs : List Int) (k : Nat) : List Int := (List.range k).map (ix zs)
theorem upto_succ (zs : List Int) (k : Nat) : upto zs (k + 1) = upto zs k ++ [ix zs k] := by simp [upto, List.range_succ]
theorem upto_length (zs : List Int) (k : Nat) : (upto zs k).length = k := by simp [upto]
theorem upto_all (zs : List Int) : upto zs zs.length = zs := by
  apply List.ext_getElem
  · simp [upto]
  · intro i h1 h2
    simp [upto, ix_get h2]

set_option maxRecDepth 100000 in
set_option maxHeartbeats 2000000 in
/-- slices.Values's closure, for every loop body that keeps what lay below n₀ -/
theorem values1_in (F : Fence) (n : Nat) (h41 : F.fn 41) (hro : F.round = none) (hn : 1 ≤ n) (l Bs n₀ b off len cap : Nat) (zs : List Int) (hreach : len ≤ 4194304) (hb : b < n₀) (J Jx : List Int → World → Prop)
    (hY : ∀ pre x W, J pre W → pre.length < len → YieldAt F (n - 1) Try.prog l #[.int .i64 x] W fun e W' =>
      (e = .returned (.bool true) ∧ J (pre ++ [x]) W' ∧ Below n₀ W W') ∨ (e = .returned (.bool false) ∧ Jx (pre ++ [x]) W'))
    (W : World) (hBs : W.cell? ⟨Bs, 0, none⟩ = some (.slice (some ⟨b, off, none⟩) len cap)) (hc : ∀ j, j < len → W.cell? ⟨b, off + j, none⟩ = some (.int .i64 (ix zs j))) (h0 : J [] W) :
    CallsIn F n Try.prog 41 #[.func (.yield l) #[] #[], .pointer (some ⟨Bs, 0, none⟩)] W fun e W' => (∃ v, e = .returned v) ∧
      ((∃ ys, ys = upto zs len ∧ J ys W') ∨ (∃ pre, (∃ k, k ≤ len ∧ pre = upto zs k) ∧ Jx pre W')) := by
  refine callsIn_of_wp Try.func41 rfl h41 ?_ hro
  simp only [Try.ntmps41, List.size_toArray, List.length_cons, List.length_nil, Nat.reduceAdd, Nat.reduceSub, Array.replicate_succ, Array.replicate_zero, List.push_toArray, List.append_toArray, List.nil_append, List.cons_append]
  gi_wp2
  gi_loopw [7] (fun i wr => ∃ k : Nat, k ≤ len ∧ i = .int .i64 k ∧ J (upto zs k) wr ∧ Below n₀ W wr)
    (fun i _ => len - (intOf i).toNat)
  case atStart => exact ⟨0, Nat.zero_le _, rfl, h0, Below.refl _ _⟩
  case round =>
    obtain ⟨k, hk, rfl, hJs, hnx⟩ := hrel
    have hcx : k < len → wr.cell? ⟨b, off + k, none⟩ = some (.int .i64 (ix zs k)) := fun h => (hnx.cell (p := ⟨b, off + k, none⟩) hb).trans (hc k h)
    by_cases hlt : k < len
    · obtain ⟨fn, tmps, assign, body, hy, hR⟩ := hY _ (ix zs k) wr hJs (by rw [upto_length]; exact hlt)
      have hcx' := hcx hlt
      gi_wp2
      refine hR.mono ?_
      rintro e W3 (⟨rfl, hJ3, hk3⟩ | ⟨rfl, hJx3⟩)
      · gi_wp2
        go_roundw
        case rel => exact ⟨k + 1, by omega, by go_num, by rw [upto_succ]; exact hJ3, hnx.trans hk3⟩
        case measure => simp [intOf]; omega
      · gi_wp2
        refine bodyPost_ret (results_none rfl _ _ _) rfl ?_
        exact ⟨⟨_, rfl⟩, .inr ⟨_, ⟨k + 1, by omega, (upto_succ _ _).symm⟩, hJx3⟩⟩
    · obtain rfl : k = len := by omega
      gi_wp2
      go_end0
      exact ⟨⟨_, rfl⟩, .inl ⟨_, rfl, hJs⟩⟩

set_option maxHeartbeats 1000000 in
/-- slices.Values(s): the slice value is boxed; the function value captures the box -/
theorem values_in (F : Fence) (n : Nat) (h27 : F.fn 27) (hro : F.round = none) (a : Option Addr) (len cap : Nat) (w : World) :
    CallsIn F n Try.prog 27 #[.slice a len cap] w fun e w' => e = .returned (.func (.func 41) #[] #[.pointer (some ⟨w.heap.size, 0, none⟩)]) ∧ w' = w.alloc (.cells #[.slice a len cap] 27) := by
  refine callsIn_of_wp Try.func27 rfl h27 ?_ hro
  simp only [Try.ntmps27, List.size_toArray, List.length_cons, List.length_nil, Nat.reduceAdd, Nat.reduceSub, Array.replicate_succ, Array.replicate_zero, List.push_toArray, List.append_toArray, List.nil_append, List.cons_append]
  gi_wp2
  go_ret
  exact ⟨rfl, rfl⟩

/-- slices.Values(s) hands back an iterator over zs -/
theorem values_stops (F : Fence) (n : Nat) (h41 : F.fn 41) (hro : F.round = none) (hn : 1 ≤ n) (Bs n₀ b off cap : Nat) (zs : List Int) (hreach : zs.length ≤ 4194304) (w : World) (hBs : Bs < w.heap.size) (hn₀ : n₀ ≤ w.heap.size) (hb : b < n₀)
    (hc : w.cell? ⟨Bs, 0, none⟩ = some (.slice (some ⟨b, off, none⟩) zs.length cap)) (hI : ∀ j, j < zs.length → w.cell? ⟨b, off + j, none⟩ = some (.int .i64 (ix zs j))) :
    SeqStopsK F n Try.prog 41 #[.pointer (some ⟨Bs, 0, none⟩)] (fun x : Int => #[Value.int .i64 x]) (Below n₀) (fun ys => ys = zs) (fun pre => True) zs.length w := fun l J Jx W hW _ _ hY h0 => by
  have hc' := (hW.cell (p := ⟨Bs, 0, none⟩) hBs).trans hc
  refine (values1_in F n h41 hro hn l Bs n₀ b off zs.length cap zs hreach hb J Jx hY W hc' (fun j hj => ((hW.mono hn₀).cell (p := ⟨b, off + j, none⟩) hb).trans (hI j hj)) h0).mono ?_
  rintro e W' ⟨he, ⟨ys, rfl, hj⟩ | ⟨pre, ⟨k, hk, rfl⟩, hj⟩⟩
  · exact ⟨he, .inl ⟨_, upto_all zs, hj⟩⟩
  · exact ⟨he, .inr ⟨_, trivial, hj⟩⟩

set_option maxRecDepth 100000 in
set_option maxHeartbeats 2000000 in
/-- slices.AppendSeq(nil, seq): a new slice that owns what came -/
theorem appendSeq_in (F : Fence) (n : Nat) (h48 : F.fn 48) (h41 : F.fn 41) (hro : F.round = none) (hn : 3 ≤ n) (Bs b off cap : Nat) (zs : List Int) (hreach : zs.length ≤ 4194304) (w : World) (hBs : Bs < w.heap.size) (hb : b < w.heap.size)
    (hc : w.cell? ⟨Bs, 0, none⟩ = some (.slice (some ⟨b, off, none⟩) zs.length cap)) (hI : ∀ j, j < zs.length → w.cell? ⟨b, off + j, none⟩ = some (.int .i64 (ix zs j))) :
    CallsIn F n Try.prog 48 #[.slice none 0 0, .func (.func 41) #[] #[.pointer (some ⟨Bs, 0, none⟩)]] w fun e W' => ∃ v, e = .returned v ∧ W'.ownsRow w.heap.size 2 1 v zs.length (zs.map (Value.int .i64)) ∧ Below w.heap.size w W' := by
  have h1 : 1 ≤ n := by omega
  obtain ⟨i0, hi, hz0, hz1, hz2⟩ := info_parts Try.info2
  have hlen : zs.length ≤ maxLen := by unfold maxLen; omega
  have hby : zs.length * 8 ≤ 140737488355328 := by omega
  refine callsIn_of_wp_marks Try.func48 rfl h48 ?_ hro
  simp only [Try.ntmps48, List.size_toArray, List.length_cons, List.length_nil, Nat.reduceAdd, Nat.reduceSub, Array.replicate_succ, Array.replicate_zero, List.push_toArray, List.append_toArray, List.nil_append, List.cons_append]
  gi_wp2
  have bO := Boxed.new w 27 (.slice none 0 0)
  have hB0 : Below w.heap.size w (w.alloc (.cells #[.slice none 0 0] 27)) := (Below.refl _ w).alloc (Nat.le_refl _) _
  have hcW : (w.alloc (.cells #[.slice none 0 0] 27)).cell? ⟨Bs, 0, none⟩ = some (.slice (some ⟨b, off, none⟩) zs.length cap) := (hB0.cell (p := ⟨Bs, 0, none⟩) hBs).trans hc
  have hIW : ∀ j, j < zs.length → (w.alloc (.cells #[.slice none 0 0] 27)).cell? ⟨b, off + j, none⟩ = some (.int .i64 (ix zs j)) := fun j hj => (hB0.cell (p := ⟨b, off + j, none⟩) hb).trans (hI j hj)
  refine wpIn_rangeFunc_ownG hro h1 (gf := 41) (lb := #[.pointer (some ⟨Bs, 0, none⟩)]) rfl h41 (enters_of Try.func41 (by kernel_rfl) rfl)
    (values_stops F (n - 1) h41 hro (by omega) Bs w.heap.size b off cap zs hreach _ (by simp; omega) (by simp) hb hcW hIW) belowK_t (belowK_b (by simp)) (Below.refl _ _) (fun _ => rfl)
    (fun pre W => (∃ v, Boxed W w.heap.size 27 v ∧ W.ownsRow w.heap.size 2 1 v pre.length (pre.map (Value.int .i64)) ∧ (v = .slice none 0 0 ↔ pre = [])) ∧ Below w.heap.size w W)
    (fun _ _ _ => False)
    (OwnFrom.and (Own.from (holdsRow_own w.heap.size w.heap.size 27 2 1 (fun pre => pre.length) (fun pre => pre.map (Value.int .i64)) (fun pre v => v = .slice none 0 0 ↔ pre = [])) _) (ownFrom_below (Nat.le_refl _) (by simp)))
    (fun _ _ _ _ _ hs _ _ => hs)
    ⟨⟨_, bO, World.ownsRow_nil _ _ _ _, by simp⟩, hB0⟩
    (fun x => { tmps := #[.slice none 0 0, .func (.func 41) #[] #[.pointer (some ⟨Bs, 0, none⟩)], .pointer (some ⟨w.heap.size, 0, none⟩), undef, .slice none 0 0, .int .i64 x, .func (.func 41) #[] #[.pointer (some ⟨Bs, 0, none⟩)], .int .i64 x, undef, undef, undef, undef, undef], defers := [] }) ?assign ?body ?done ?stop
  case assign =>
    intro l x W K hK
    gi_wp2
    exact hK
  case body =>
    rintro l pre x W ⟨⟨v, hv, hrow, hnil⟩, hB⟩ hlt
    have hc := hv.cell
    gi_wp2_with (gi_at_builtin; refine wpListIn_append_own _ rfl _ _ 27 rfl w.heap.size 2 i0 (.int .i64 0) 1 8 Try.underlying27 hi hz0 hz1 hz2 rfl (by decide) _ _ _ rfl (hrow.alloc _) ⟨W.heap.size, 0, none⟩ 1 1 [.int .i64 x] rfl rfl (cell_one_new _ _ _) (by simp [Value.oneCell']) (by omega) (by omega) (by have := hB.size; simp; omega) ?_; intro v' w1 hown' hgrow _; obtain ⟨g', cap', rfl⟩ := ownsRow_succ hown'; obtain ⟨hv1, hv2, hr2, hk2, hb2⟩ := hv.appended (by decide) hrow hB.size (Nat.le_refl _) hown' hgrow; have hc1 := hv1.cell; have hf1 := hv1.frozen)
    exact ⟨hk2.from _, hb2, ⟨_, hv2, by simpa using hr2, by simp⟩, hB.trans hb2⟩
  case done =>
    rintro D ys W hD rfl ⟨⟨v, hv, hrow, hnil⟩, hB⟩ hK
    have hc := hv.cell
    gi_wp2
    refine ⟨by simp, .inl ⟨_, _, rfl, run_takeDeferred hK, ?_⟩⟩
    exact ⟨_, results_tmp rfl _ _ _, v, rfl, ownsRow_putObj hrow _ hK rfl, hB.trans (belowK_b (w := w) (Nat.le_refl _) W D _ _ (by simp at hD; omega) hK rfl rfl)⟩
  case stop =>
    rintro D c pre W _ _ h _
    exact h.elim

theorem values_any (a : Option Addr) (len cap : Nat) (w : World) :
    Calls Try.prog 27 #[.slice a len cap] w fun e w' => e = .returned (.func (.func 41) #[] #[.pointer (some ⟨w.heap.size, 0, none⟩)]) ∧ w' = w.alloc (.cells #[.slice a len cap] 27) :=
  (callsIn_wide (n := 6)).1 (values_in Fence.wide 6 trivial rfl a len cap w)

theorem appendSeq_any (Bs b off cap : Nat) (zs : List Int) (hreach : zs.length ≤ 4194304) (w : World) (hBs : Bs < w.heap.size) (hb : b < w.heap.size)
    (hc : w.cell? ⟨Bs, 0, none⟩ = some (.slice (some ⟨b, off, none⟩) zs.length cap)) (hI : ∀ j, j < zs.length → w.cell? ⟨b, off + j, none⟩ = some (.int .i64 (ix zs j))) :
    Calls Try.prog 48 #[.slice none 0 0, .func (.func 41) #[] #[.pointer (some ⟨Bs, 0, none⟩)]] w fun e W' => ∃ v, e = .returned v ∧ W'.ownsRow w.heap.size 2 1 v zs.length (zs.map (Value.int .i64)) ∧ Below w.heap.size w W' :=
  (callsIn_wide (n := 6)).1 (appendSeq_in Fence.wide 6 trivial trivial rfl (by omega) Bs b off cap zs hreach w hBs hb hc hI)

theorem collect_any (Bs b off cap : Nat) (zs : List Int) (hreach : zs.length ≤ 4194304) (w : World) (hBs : Bs < w.heap.size) (hb : b < w.heap.size)
    (hc : w.cell? ⟨Bs, 0, none⟩ = some (.slice (some ⟨b, off, none⟩) zs.length cap)) (hI : ∀ j, j < zs.length → w.cell? ⟨b, off + j, none⟩ = some (.int .i64 (ix zs j))) :
    Calls Try.prog 40 #[.func (.func 41) #[] #[.pointer (some ⟨Bs, 0, none⟩)]] w fun e W' => ∃ v, e = .returned v ∧ W'.ownsRow w.heap.size 2 1 v zs.length (zs.map (Value.int .i64)) ∧ Below w.heap.size w W' := by
  have C : Hid (_) := appendSeq_any Bs b off cap zs hreach w hBs hb hc hI
  clear hc hI hb hBs
  go_enter Try.func40, Try.ntmps40
  go_wp2_with fail
  refine Calls.mono C.out ?_
  rintro e w1 ⟨v, rfl, h1, h2⟩
  have HX : Hid (_) := And.intro h1 h2
  clear h1 h2 C
  go_wp2_with fail
  go_ret
  exact ⟨v, rfl, HX.out.1, HX.out.2⟩

theorem below_own {w w1 w2 : World} {v : Value} {zs : List Int} {xs : List Value} (hb : Below w.heap.size w w1) (ho : w1.ownsRow w.heap.size 2 1 v zs.length xs) (hg : w1.grownBy w2 v.ownBlock) : Below w.heap.size w w2 :=
  hb.grown hg hb.size (fun k hk => (ho.lt k hk).1)

theorem sorted_any (Bs b off cap : Nat) (zs : List Int) (hreach : zs.length ≤ 4194304) (w : World) (hBs : Bs < w.heap.size) (hb : b < w.heap.size)
    (hc : w.cell? ⟨Bs, 0, none⟩ = some (.slice (some ⟨b, off, none⟩) zs.length cap)) (hI : ∀ j, j < zs.length → w.cell? ⟨b, off + j, none⟩ = some (.int .i64 (ix zs j))) :
    Calls Try.prog 26 #[.func (.func 41) #[] #[.pointer (some ⟨Bs, 0, none⟩)]] w fun e W' => ∃ v, e = .returned v ∧ W'.ownsRow w.heap.size 2 1 v zs.length ((srt zs).map (Value.int .i64)) ∧ Below w.heap.size w W' := by
  have C : Hid (_) := collect_any Bs b off cap zs hreach w hBs hb hc hI
  clear hc hI hb hBs
  go_enter Try.func26, Try.ntmps26
  go_wp2_with fail
  refine Calls.mono C.out ?_
  rintro e w1 ⟨v, rfl, h1, h2⟩
  have C2 : Hid (_) := sort_any w.heap.size v zs w1 hreach h1
  have HX : Hid (World.ownsRow _ _ _ _ _ _ _ ∧ Below _ _ _) := And.intro h1 h2
  clear h1 h2 C
  go_wp2_with fail
  refine Calls.mono C2.out ?_
  rintro e w2 ⟨rfl, h1, h2⟩
  have HY : Hid (World.ownsRow _ _ _ _ _ _ _ ∧ Below _ _ _) := And.intro h1 (below_own HX.out.2 HX.out.1 h2)
  clear h1 h2 C2
  go_wp2_with fail
  go_ret
  exact ⟨v, rfl, HY.out.1, HY.out.2⟩
end Go.Proofs.Qxb6003311a
