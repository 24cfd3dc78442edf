/- Leaves over rows of int64: slices.Clone, Equal, BinarySearch, each walked once. -/
import Derived.Test.Qxb6003311aRows
import Derived.WalkKit
import Derived.ProofKit
import Derived.OpenShut
import Derived.WalkSpells
import Derived.Deep.QuietTactic
import Derived.BigQuiet
namespace Go.Proofs.Qxb6003311a
open Go.ChangeShapes Go.WideShapes Go.ChangeAt Go.RowKit
set_option linter.unusedVariables false

/-- the i-th number of a list -/
def ix (zs : List Int) (i : Nat) : Int := zs.getD i 0
theorem ix_get {zs : List Int} {i : Nat} (h : i < zs.length) : ix zs i = zs[i] := by simp [ix, h]
theorem ix_mem {zs : List Int} {i : Nat} (h : i < zs.length) : ix zs i ∈ zs := by rw [ix_get h]; exact List.getElem_mem h

/-- the numbers zs lie behind a slice's address: none, or at a row of cells -/
def IntsAt (k : IntKind) (w : World) (a : Option Addr) (zs : List Int) : Prop :=
  zs = [] ∨ ∃ b off, a = some ⟨b, off, none⟩ ∧ b < w.heap.size ∧ ∀ i, i < zs.length → w.cell? ⟨b, off + i, none⟩ = some (.int k (ix zs i))

theorem Try.info2 : (Try.prog.info? 2).map (fun i => (i.zero, i.size, i.bytes)) = some (some (.int .i64 0), 1, 8) := by kernel_rfl
theorem Try.info49 : (Try.prog.info? 49).map (fun i => (i.zero, i.size, i.bytes)) = some (some (.int .u64 0), 1, 8) := by kernel_rfl

theorem news_at {k : IntKind} {w : World} {x : Addr} {zs : List Int} (h : IntsAt k w (some x) zs) (o : Obj) : ∀ j u, (zs.map (Value.int k))[j]? = some u → (w.alloc o).cell? (x.add j) = some u := by
  intro j u hu
  rcases h with rfl | ⟨b, off, e, hb, hc⟩
  · simp at hu
  · cases e
    rw [List.getElem?_map] at hu
    by_cases hj : j < zs.length
    · rw [List.getElem?_eq_getElem hj] at hu
      simp at hu
      subst hu
      rw [add_plain, World.cell?_alloc_past (hn := hb), hc j hj, ix_get hj]
    · rw [List.getElem?_eq_none (by omega)] at hu
      simp at hu

theorem grown_new {w w1 : World} {o : Obj} {r : Option Nat} (hr : r = some w.heap.size) (h : (w.alloc o).grownBy w1 r) : w.grownBy w1 none :=
  ⟨h.os, h.tape, h.output, Nat.le_trans (by simp) h.size, fun k hk _ => (h.block k (by simp; omega) (by rw [hr]; simp; omega)).trans (Below.heap_alloc w o k hk)⟩

theorem clone8_nil (w : World) :
    Calls Try.prog 8 #[.slice none 0 0] w fun e w' => e = .returned (.slice none 0 0) ∧ w' = w := by
  have hnil := fun (w : World) (a : Option Addr) (n c : Nat) => Lib.run_eql_slice_nil (P := Try.prog) w 27 2 a n c 0 0 Try.underlying27
  go_enter Try.func8, Try.ntmps8
  go_wp2
  go_ret
  exact ⟨rfl, rfl⟩

set_option maxHeartbeats 800000 in
theorem clone8_some (x : Addr) (n c : Nat) (zs : List Int) (hz : zs.length = n) (w : World) (hn : n ≤ 4194304) (H : Hid (IntsAt .i64 w (some x) zs)) :
    Calls Try.prog 8 #[.slice (some x) n c] w fun e w' => ∃ v, e = .returned v ∧ w'.ownsRow w.heap.size 2 1 v n (zs.map (Value.int .i64)) ∧ w.grownBy w' none := by
  have hnil := fun (w : World) (a : Option Addr) (n c : Nat) => Lib.run_eql_slice_nil (P := Try.prog) w 27 2 a n c 0 0 Try.underlying27
  obtain ⟨i0, hi, hz0, hz1, hz2⟩ := info_parts Try.info2
  have HZ : Hid (zs.length = n) := hz
  have h63 : 0 + n ≤ maxLen := by unfold maxLen; omega
  have hby : (0 + n) * 8 ≤ 140737488355328 := by omega
  clear hz
  go_enter Try.func8, Try.ntmps8
  go_wp2_with (at_builtin; refine wpList_append_own _ rfl _ _ 27 rfl w.heap.size 2 i0 (.int .i64 0) 1 8 Try.underlying27 hi hz0 hz1 hz2 rfl (by decide) (.slice (some ⟨w.heap.size, 0, none⟩) 0 0) 0 [] rfl (World.ownsRow_made w #[] 0 (Nat.le_refl _) (Nat.zero_le _) rfl) x n c (zs.map (Value.int .i64)) rfl (by rw [List.length_map, HZ.out, Nat.mul_one]) (news_at H.out _) (ints_oneCell _ _) h63 hby (by simp) ?_; intro v' w1 hown hgr hnl; have HO : Hid (World.ownsRow _ _ _ _ _ _ _) := hown; have HG : Hid (World.grownBy _ _ _) := hgr; clear hown hgr hnl)
  go_ret
  have ho := HO.out
  rw [Nat.zero_add, List.nil_append] at ho
  exact ⟨v', rfl, ho, grown_new rfl HG.out⟩

theorem clone8_any (a : Option Addr) (n c : Nat) (zs : List Int) (hz : zs.length = n) (w : World) (hn : n ≤ 4194304) (H : IntsAt .i64 w a zs) (h0 : a = none → c = 0) :
    Calls Try.prog 8 #[.slice a n c] w fun e w' => ∃ v, e = .returned v ∧ w'.ownsRow w.heap.size 2 1 v n (zs.map (Value.int .i64)) ∧ w.grownBy w' none := by
  cases a with
  | none =>
    obtain rfl := h0 rfl
    have hzs : zs = [] := by
      rcases H with h | ⟨b, off, h, _⟩
      · exact h
      · cases h
    subst hzs
    obtain rfl : n = 0 := hz.symm
    exact (clone8_nil w).mono fun e w' ⟨h1, h2⟩ => ⟨_, h1, World.ownsRow_nil _ _ _ _, by rw [h2]; exact World.grownBy.refl _ _⟩
  | some x => exact clone8_some x n c zs hz w hn H

theorem clone19_nil (w : World) :
    Calls Try.prog 19 #[.slice none 0 0] w fun e w' => e = .returned (.slice none 0 0) ∧ w' = w := by
  have hnil := fun (w : World) (a : Option Addr) (n c : Nat) => Lib.run_eql_slice_nil (P := Try.prog) w 28 49 a n c 0 0 Try.underlying28
  go_enter Try.func19, Try.ntmps19
  go_wp2
  go_ret
  exact ⟨rfl, rfl⟩

set_option maxHeartbeats 800000 in
theorem clone19_some (x : Addr) (n c : Nat) (zs : List Int) (hz : zs.length = n) (w : World) (hn : n ≤ 4194304) (H : Hid (IntsAt .u64 w (some x) zs)) :
    Calls Try.prog 19 #[.slice (some x) n c] w fun e w' => ∃ v, e = .returned v ∧ w'.ownsRow w.heap.size 49 1 v n (zs.map (Value.int .u64)) ∧ w.grownBy w' none := by
  have hnil := fun (w : World) (a : Option Addr) (n c : Nat) => Lib.run_eql_slice_nil (P := Try.prog) w 28 49 a n c 0 0 Try.underlying28
  obtain ⟨i0, hi, hz0, hz1, hz2⟩ := info_parts Try.info49
  have HZ : Hid (zs.length = n) := hz
  have h63 : 0 + n ≤ maxLen := by unfold maxLen; omega
  have hby : (0 + n) * 8 ≤ 140737488355328 := by omega
  clear hz
  go_enter Try.func19, Try.ntmps19
  go_wp2_with (at_builtin; refine wpList_append_own _ rfl _ _ 28 rfl w.heap.size 49 i0 (.int .u64 0) 1 8 Try.underlying28 hi hz0 hz1 hz2 rfl (by decide) (.slice (some ⟨w.heap.size, 0, none⟩) 0 0) 0 [] rfl (World.ownsRow_made w #[] 0 (Nat.le_refl _) (Nat.zero_le _) rfl) x n c (zs.map (Value.int .u64)) rfl (by rw [List.length_map, HZ.out, Nat.mul_one]) (news_at H.out _) (ints_oneCell _ _) h63 hby (by simp) ?_; intro v' w1 hown hgr hnl; have HO : Hid (World.ownsRow _ _ _ _ _ _ _) := hown; have HG : Hid (World.grownBy _ _ _) := hgr; clear hown hgr hnl)
  go_ret
  have ho := HO.out
  rw [Nat.zero_add, List.nil_append] at ho
  exact ⟨v', rfl, ho, grown_new rfl HG.out⟩

theorem clone19_any (a : Option Addr) (n c : Nat) (zs : List Int) (hz : zs.length = n) (w : World) (hn : n ≤ 4194304) (H : IntsAt .u64 w a zs) (h0 : a = none → c = 0) :
    Calls Try.prog 19 #[.slice a n c] w fun e w' => ∃ v, e = .returned v ∧ w'.ownsRow w.heap.size 49 1 v n (zs.map (Value.int .u64)) ∧ w.grownBy w' none := by
  cases a with
  | none =>
    obtain rfl := h0 rfl
    have hzs : zs = [] := by
      rcases H with h | ⟨b, off, h, _⟩
      · exact h
      · cases h
    subst hzs
    obtain rfl : n = 0 := hz.symm
    exact (clone19_nil w).mono fun e w' ⟨h1, h2⟩ => ⟨_, h1, World.ownsRow_nil _ _ _ _, by rw [h2]; exact World.grownBy.refl _ _⟩
  | some x => exact clone19_some x n c zs hz w hn H

theorem IntsAt.at {k : IntKind} {w : World} {a : Option Addr} {zs : List Int} (h : IntsAt k w a zs) {i : Nat} (hi : i < zs.length) : ∃ b off, a = some ⟨b, off, none⟩ ∧ w.cell? ⟨b, off + i, none⟩ = some (.int k (ix zs i)) := by
  rcases h with rfl | ⟨b, off, e, _, hc⟩
  · simp at hi
  · exact ⟨b, off, e, hc i hi⟩

set_option maxHeartbeats 800000 in
/-- slices.Equal where the two hold one and the same -/
theorem equal13_same (a1 a2 : Option Addr) (n c1 c2 : Nat) (zs : List Int) (hz : zs.length = n) (w : World) (hn : n ≤ 4194304) (H1 : Hid (IntsAt .i64 w a1 zs)) (H2 : Hid (IntsAt .i64 w a2 zs)) :
    Calls Try.prog 13 #[.slice a1 n c1, .slice a2 n c2] w fun e w' => e = .returned (.bool true) ∧ ∃ q, w' = w.drewN q := by
  have HZ : Hid (zs.length = n) := hz
  clear hz
  go_enter Try.func13, Try.ntmps13
  go_wp2
  go_loopw [13] (fun i wr => ∃ k q : Nat, k ≤ n ∧ i = .int .i64 k ∧ wr = w.drewN q) (fun i _ => n - (intOf i).toNat)
  case atStart => exact ⟨0, 0, by omega, rfl, rfl⟩
  case round =>
    obtain ⟨k, q, hk, rfl, rfl⟩ := hrel
    by_cases hlt : k < n
    · obtain ⟨b1, o1, e1, g1⟩ := H1.out.at (show k < zs.length by rw [HZ.out]; exact hlt)
      obtain ⟨b2, o2, e2, g2⟩ := H2.out.at (show k < zs.length by rw [HZ.out]; exact hlt)
      subst e1 e2
      have hkI : (k : Int) < (n : Int) := by omega
      go_wp2
      go_quiet (fail)
      go_wp2
      go_roundw
      case rel => exact ⟨k + 1, _, by omega, by go_num, rfl⟩
      case measure => simp [intOf]; omega
    · go_wp2
      go_ret
      exact ⟨rfl, q, rfl⟩

/-- ascending -/
def Asc (zs : List Int) : Prop := ∀ i j, i ≤ j → j < zs.length → ix zs i ≤ ix zs j

theorem bs_end {zs : List Int} {x : Int} {k : Nat} (hs : Asc zs) (hx : x ∈ zs) (hk : k ≤ zs.length) (h1 : ∀ p, p < k → ix zs p < x) (h2 : ∀ p, k ≤ p → p < zs.length → x ≤ ix zs p) : k < zs.length ∧ ix zs k = x := by
  obtain ⟨p, hp, e⟩ := List.getElem_of_mem hx
  rw [← ix_get hp] at e
  have hkp : k ≤ p := by
    rcases Nat.lt_or_ge p k with h | h
    · have := h1 p h; omega
    · exact h
  have h3 := hs k p hkp hp
  have h4 := h2 k (Nat.le_refl _) (by omega)
  exact ⟨by omega, by omega⟩

theorem asc_lo {zs : List Int} {x : Int} {m : Nat} (hs : Asc zs) (hm : m < zs.length) (h : ix zs m < x) : Hid (∀ p, p < m + 1 → ix zs p < x) := fun p hp => by
  have := hs p m (by omega) hm; omega
theorem asc_hi {zs : List Int} {x : Int} {m n : Nat} (hs : Asc zs) (hz : zs.length = n) (h : x ≤ ix zs m) : Hid (∀ p, m ≤ p → p < n → x ≤ ix zs p) := fun p h1 h2 => by
  have := hs m p h1 (by omega); omega
theorem less_any (x y : Int) (w : World) : Calls Try.prog 23 #[.int .i64 x, .int .i64 y] w fun e w' => e = .returned (.bool (decide (x < y))) ∧ w' = w := by
  go_enter Try.func23, Try.ntmps23
  go_wp2
  go_ret
  exact ⟨rfl, rfl⟩
set_option maxHeartbeats 800000 in
theorem bsearch_hit (a : Option Addr) (n c : Nat) (zs : List Int) (hz : zs.length = n) (x : Int) (w : World) (hn : n ≤ 4194304) (H : Hid (IntsAt .i64 w a zs)) (hs : Asc zs) (hx : x ∈ zs) :
    Calls Try.prog 14 #[.slice a n c, .int .i64 x] w fun e w' => (∃ k : Int, e = .returned (.tuple #[.int .i64 k, .bool true])) ∧ w' = w := by
  have HZ : Hid (zs.length = n) := hz
  have HS : Hid (Asc zs) := hs
  have HX : Hid (x ∈ zs) := hx
  clear hz hs hx
  go_enter Try.func14, Try.ntmps14
  go_wp2
  go_loop [7, 8] (fun i j => ∃ k l : Nat, k ≤ l ∧ l ≤ n ∧ i = .int .i64 k ∧ j = .int .i64 l ∧ Hid (∀ p, p < k → ix zs p < x) ∧ Hid (∀ p, l ≤ p → p < n → x ≤ ix zs p)) (fun i j => (intOf j).toNat - (intOf i).toNat)
  case atStart => exact ⟨0, n, by omega, by omega, rfl, rfl, fun p hp => absurd hp (Nat.not_lt_zero _), fun p h1 h2 => absurd h1 (by omega)⟩
  case round =>
    obtain ⟨k, l, hkl, hln, rfl, rfl, K1, K2⟩ := hrel
    by_cases hlt : k < l
    · obtain ⟨b, off, e1, g1⟩ := H.out.at (show (k + l) / 2 < zs.length by rw [HZ.out]; omega)
      subst e1
      have hI : (((k + l) / 2 : Nat) : Int) < (n : Int) := by omega
      by_cases hm : ix zs ((k + l) / 2) < x
      · go_wp2_with (go_at_call 23; refine (less_any _ _ _).mono ?_; rintro e w' ⟨rfl, rfl⟩)
        go_round
        case rel => exact ⟨(k + l) / 2 + 1, l, by omega, by omega, by go_num, rfl, asc_lo HS.out (by rw [HZ.out]; omega) hm, K2⟩
        case measure => simp [intOf]; omega
      · go_wp2_with (go_at_call 23; refine (less_any _ _ _).mono ?_; rintro e w' ⟨rfl, rfl⟩)
        go_round
        case rel => exact ⟨k, (k + l) / 2, by omega, by omega, rfl, by go_num, K1, asc_hi HS.out HZ.out hm⟩
        case measure => simp [intOf]; omega
    · obtain rfl : k = l := by omega
      have F : Hid (k < zs.length ∧ ix zs k = x) := bs_end HS.out HX.out (by rw [HZ.out]; omega) K1.out (by rw [HZ.out]; exact K2.out)
      have hkn : k < n := by rw [← HZ.out]; exact F.out.1
      obtain ⟨b, off, e1, g1⟩ := H.out.at F.out.1
      subst e1
      have hkI : (k : Int) < (n : Int) := by omega
      have hb : (ix zs k == x) = true := by simpa using F.out.2
      go_wp2_with fail
      go_ret2
      exact ⟨⟨_, rfl⟩, rfl⟩
end Go.Proofs.Qxb6003311a
