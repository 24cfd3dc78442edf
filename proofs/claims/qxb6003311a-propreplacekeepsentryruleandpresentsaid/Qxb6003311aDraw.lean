/- The source of draws: zzSrc.Uint64, Rand.Uint64, uint64n, IntN, each walked once. -/
import Derived.Test.Qxb6003311aRowLeaf
import Derived.Test.Qxb6003311aHolds
import Derived.RegionTactic
import Derived.Laws.Bits64
namespace Go.Proofs.Qxb6003311a
open Go.ChangeShapes Go.WideShapes Go.ChangeAt Go.RowKit
set_option linter.unusedVariables false

/-- the generator: a Rand at block rb over a zzSrc at block sb, its script in a row of its own; all below block B -/
def SrcOK (w : World) (B sb j : Nat) (zs : List Int) : Prop :=
  sb < B ∧ (∃ (a : Option Addr) (c : Nat), w.heap[sb]? = some (.cells #[.slice a zs.length c, .int .i64 j] 58 (0, 0)) ∧ j ≤ zs.length ∧ zs.length ≤ 1048576 ∧ (∀ z ∈ zs, 0 ≤ z ∧ z ≤ 18446744073709551615) ∧
    (zs = [] ∨ ∃ g cur, a = some ⟨g, 0, none⟩ ∧ g < B ∧ w.heap[g]? = some (.cells cur 49 (0, 0)) ∧ ∀ i, i < zs.length → cur[i]? = some (.int .u64 (ix zs i))))

set_option maxHeartbeats 800000 in
theorem src_next (sb j n c g : Nat) (zs : List Int) (w : World) (hn : n ≤ 1048576) (hj : j < n)
    (h0 : w.cell? ⟨sb, 0, none⟩ = some (.slice (some ⟨g, 0, none⟩) n c)) (h1 : w.cell? ⟨sb, 1, none⟩ = some (.int .i64 j)) (f1 : w.frozen? ⟨sb, 1, none⟩ = false) (hg : w.cell? ⟨g, j, none⟩ = some (.int .u64 (ix zs j))) :
    Calls Try.prog 72 #[.pointer (some ⟨sb, 0, none⟩)] w fun e w' => e = .returned (.int .u64 (ix zs j)) ∧ ∃ q, w' = (w.setCell ⟨sb, 1, none⟩ (.int .i64 (j + 1))).drewN q := by
  have hjI : (j : Int) < (n : Int) := by omega
  go_enter Try.func72, Try.ntmps72
  go_wp2
  go_quiet (fail)
  go_wp2
  go_quiet (fail)
  go_wp2
  go_ret
  exact ⟨rfl, _, rfl⟩

set_option maxHeartbeats 800000 in
theorem src_spent (sb n c : Nat) (a : Option Addr) (w : World) (hn : n ≤ 1048576)
    (h0 : w.cell? ⟨sb, 0, none⟩ = some (.slice a n c)) (h1 : w.cell? ⟨sb, 1, none⟩ = some (.int .i64 n)) :
    Calls Try.prog 72 #[.pointer (some ⟨sb, 0, none⟩)] w fun e w' => e = .returned (.int .u64 18446744069414584320) ∧ ∃ q, w' = w.drewN q := by
  have hd : ¬ (n : Int) < (n : Int) := by omega
  go_enter Try.func72, Try.ntmps72
  go_wp2
  go_quiet (fail)
  go_wp2
  go_ret
  exact ⟨rfl, _, rfl⟩

theorem cell_of {w : World} {b i : Nat} {cur : Array Value} {t : TypeId} {v : Value} (h : w.heap[b]? = some (.cells cur t (0, 0))) (hv : cur[i]? = some v) : w.cell? ⟨b, i, none⟩ = some v := by
  rw [cell_of_row w b i cur t (0, 0) h]; exact hv
theorem free_of {w : World} {b i : Nat} {cur : Array Value} {t : TypeId} (h : w.heap[b]? = some (.cells cur t (0, 0))) : w.frozen? ⟨b, i, none⟩ = false := by
  simp [World.frozen?, h]
theorem heap_set {w : World} {b i : Nat} {cur : Array Value} {t : TypeId} {v : Value} (h : w.heap[b]? = some (.cells cur t (0, 0))) : (w.setCell ⟨b, i, none⟩ v).heap[b]? = some (.cells (cur.setIfInBounds i v) t (0, 0)) := by
  simp only [World.setCell, Array.getElem?_modify]
  rw [if_pos trivial, h]
  rfl
theorem heap_other {w : World} {b i k : Nat} {v : Value} (h : k ≠ b) : (w.setCell ⟨b, i, none⟩ v).heap[k]? = w.heap[k]? := Below.heap_setCell w ⟨b, i, none⟩ v k h
theorem grown_set (w : World) (b i : Nat) (v : Value) : w.grownBy (w.setCell ⟨b, i, none⟩ v) (some b) :=
  ⟨rfl, rfl, rfl, by simp [World.setCell], fun k _ hne => heap_other (fun e => hne (by rw [e]))⟩
theorem grown_draws {w w' : World} {r : Option Nat} (h : w.grownBy w' r) (q : Nat) : w.grownBy (w'.drewN q) r := ⟨h.os, h.tape, h.output, h.size, h.block⟩
theorem grown_trans {a b c : World} {r : Option Nat} (h : a.grownBy b r) (k : b.grownBy c r) : a.grownBy c r :=
  ⟨k.os.trans h.os, k.tape.trans h.tape, k.output.trans h.output, Nat.le_trans h.size k.size, fun i hi hr => (k.block i (Nat.lt_of_lt_of_le hi h.size) hr).trans (h.block i hi hr)⟩
theorem lt_of_heap {w : World} {b : Nat} {o : Obj} (h : w.heap[b]? = some o) : b < w.heap.size := (Array.getElem?_eq_some_iff.1 h).1

/-- what comes of one draw -/
def Drawn (w : World) (B sb j : Nat) (zs : List Int) (e : Ending) (w' : World) : Prop :=
  ∃ (x : Int) (j' : Nat), e = .returned (.int .u64 x) ∧ 0 ≤ x ∧ x ≤ 18446744073709551615 ∧ SrcOK w' B sb j' zs ∧ w.grownBy w' (some sb) ∧ w'.heap.size = w.heap.size ∧
    ((j < zs.length ∧ j' = j + 1) ∨ (j = zs.length ∧ j' = j ∧ x = 18446744069414584320))

theorem src_any (B sb j : Nat) (zs : List Int) (w : World) (h : SrcOK w B sb j zs) : Calls Try.prog 72 #[.pointer (some ⟨sb, 0, none⟩)] w fun e w' => Drawn w B sb j zs e w' := by
  obtain ⟨hsb, a, c, hb, hj, hlen, hz, hrow⟩ := h
  by_cases hlt : j < zs.length
  · rcases hrow with rfl | ⟨g, cur, rfl, hg, hgb, hcur⟩
    · simp at hlt
    · have hne : g ≠ sb := by intro e; subst e; rw [hb] at hgb; simp at hgb
      refine (src_next sb j zs.length c g zs w hlen hlt (cell_of hb rfl) (cell_of hb rfl) (free_of hb) (cell_of hgb (hcur j hlt))).mono fun e w' ⟨h1, q, h2⟩ => ?_
      refine ⟨ix zs j, j + 1, h1, (hz _ (ix_mem hlt)).1, (hz _ (ix_mem hlt)).2, ?_, by rw [h2]; exact grown_draws (grown_set w sb 1 _) q, by rw [h2]; simp [World.setCell], .inl ⟨hlt, rfl⟩⟩
      rw [h2]
      refine ⟨hsb, some ⟨g, 0, none⟩, c, ?_, by omega, hlen, hz, .inr ⟨g, cur, rfl, hg, ?_, hcur⟩⟩
      · have := heap_set (i := 1) (v := .int .i64 ((j : Int) + 1)) hb
        simpa using this
      · exact (heap_other hne).trans hgb
  · obtain rfl : j = zs.length := by omega
    refine (src_spent sb zs.length c a w hlen (cell_of hb rfl) (cell_of hb rfl)).mono fun e w' ⟨h1, q, h2⟩ => ?_
    refine ⟨_, zs.length, h1, by omega, by omega, ?_, by rw [h2]; exact grown_draws (World.grownBy.refl _ _) q, by rw [h2]; rfl, .inr ⟨rfl, rfl, rfl⟩⟩
    rw [h2]
    exact ⟨hsb, a, c, hb, hj, hlen, hz, hrow⟩

theorem rand_any (B rb sb j : Nat) (zs : List Int) (w : World) (hr : w.heap[rb]? = some (.cells #[.iface 55 (.pointer (some ⟨sb, 0, none⟩))] 68 (0, 0))) (h : SrcOK w B sb j zs) :
    Calls Try.prog 50 #[.pointer (some ⟨rb, 0, none⟩)] w fun e w' => Drawn w B sb j zs e w' := by
  have c0 : w.cell? ⟨rb, 0, none⟩ = some (.iface 55 (.pointer (some ⟨sb, 0, none⟩))) := cell_of hr rfl
  have H : Hid (SrcOK w B sb j zs) := h
  have hm : ∀ w : World, (method 222 55 (.pointer (some ⟨sb, 0, none⟩)) "Uint64").run Try.prog w = .ok (72, .pointer (some ⟨sb, 0, none⟩)) w := fun _ => by kernel_rfl
  clear h hr
  go_enter Try.func50, Try.ntmps50
  go_wp2_with fail
  refine (src_any B sb j zs w H.out).mono ?_
  rintro e w' h
  obtain ⟨x, j', rfl, h1⟩ := h
  go_wp2_with fail
  go_ret
  exact ⟨x, j', rfl, h1⟩

theorem mul64_u (x y : Int) (hx0 : 0 ≤ x) (hx : x ≤ 18446744073709551615) (hy0 : 0 ≤ y) (hy : y ≤ 18446744073709551615) (w : World) :
    Calls Try.prog 17 #[.int .u64 x, .int .u64 y] w fun e w' => ∃ hi lo : Int, e = .returned (.tuple #[.int .u64 hi, .int .u64 lo]) ∧ w' = w ∧ 0 ≤ hi ∧ 0 ≤ lo ∧ lo ≤ 18446744073709551615 ∧ Hid (hi * 18446744073709551616 + lo = x * y) := by
  obtain ⟨a, rfl⟩ := Int.eq_ofNat_of_zero_le hx0
  obtain ⟨b, rfl⟩ := Int.eq_ofNat_of_zero_le hy0
  refine (Try.bits_Mul64 a b (by omega) (by omega) w).mono fun e w' ⟨h1, h2⟩ => ⟨_, _, h1, h2, by omega, by omega, by omega, ?_⟩
  show _ = _
  have := Nat.div_add_mod (a * b) 18446744073709551616
  have e : (a : Int) * (b : Int) = ((a * b : Nat) : Int) := (Int.natCast_mul a b).symm
  rw [e]
  generalize a * b = p at *
  omega

/-- what comes of a bounded draw -/
def Below_n (w : World) (B sb : Nat) (zs : List Int) (k : IntKind) (m : Int) (e : Ending) (w' : World) : Prop :=
  ∃ (r : Int) (j' : Nat), e = .returned (.int k r) ∧ 0 ≤ r ∧ r < m ∧ SrcOK w' B sb j' zs ∧ w.grownBy w' (some sb) ∧ w'.heap.size = w.heap.size
theorem and_lt (x m : Int) (h0 : 0 ≤ x) (h1 : x ≤ 18446744073709551615) (hm : 1 ≤ m) (hm2 : m ≤ 1048576) : 0 ≤ bits .and .u64 x (m - 1) ∧ bits .and .u64 x (m - 1) < m := by
  obtain ⟨a, rfl⟩ := Int.eq_ofNat_of_zero_le h0
  obtain ⟨b, hb⟩ := Int.eq_ofNat_of_zero_le (show 0 ≤ m - 1 by omega)
  rw [hb, bits_and_u64_nat a b (by omega) (by omega)]
  have : a &&& b ≤ b := Nat.and_le_right
  omega
theorem hi_lt {x m hi lo : Int} (h1 : x ≤ 18446744073709551615) (hm : 1 ≤ m) (hlo : 0 ≤ lo) (E : hi * 18446744073709551616 + lo = x * m) : hi < m := by
  have h : x * m ≤ 18446744073709551615 * m := Int.mul_le_mul_of_nonneg_right h1 (by omega)
  omega
/-- how far the script has been read, off the world -/
def idx (w : World) (sb : Nat) : Nat := (intOf ((w.cell? ⟨sb, 1, none⟩).getD (.int .i64 0))).toNat
theorem idx_of {w : World} {B sb j : Nat} {zs : List Int} (h : SrcOK w B sb j zs) : idx w sb = j := by
  obtain ⟨_, a, c, hb, _⟩ := h
  have := cell_of (i := 1) (v := .int .i64 j) hb rfl
  simp [idx, this, intOf]
/-- the rejection loop's measure -/
def meas (sb len : Nat) (T : Int) (lo : Value) (w : World) : Nat := 2 * (len - idx w sb) + if intOf lo < T then 1 else 0
theorem meas_lt {sb len : Nat} {T lo lo' : Int} {w w' : World} {j j' : Nat} (e1 : idx w sb = j) (e2 : idx w' sb = j') (hl : lo < T)
    (h : (j < len ∧ j' = j + 1) ∨ (j = len ∧ j' = j ∧ ¬ lo' < T)) : meas sb len T (.int .u64 lo') w' < meas sb len T (.int .u64 lo) w := by
  unfold meas
  rw [e1, e2]
  rw [if_pos (show intOf (.int .u64 lo) < T from hl)]
  rcases h with ⟨h1, h2⟩ | ⟨h1, h2, h3⟩
  · split <;> omega
  · rw [if_neg (show ¬ intOf (.int .u64 lo') < T from h3)]; omega
theorem fallback_lo {m hi lo T x : Int} (hx : x = 18446744069414584320) (hm : 1 ≤ m) (hm2 : m ≤ 1048576) (hT : T < m) (a2 : 0 ≤ lo) (E : hi * 18446744073709551616 + lo = x * m) : ¬ lo < T := by
  subst hx
  by_cases h : hi < m
  · omega
  · omega
theorem thresh_bd (m : Int) (hm : 1 ≤ m) : 0 ≤ (IntKind.u64.wrap (-m)).tmod m ∧ (IntKind.u64.wrap (-m)).tmod m < m := by
  have h : 0 ≤ IntKind.u64.wrap (-m) := by rw [IntKind.wrap_u64]; omega
  exact ⟨Int.tmod_nonneg _ h, Int.tmod_lt_of_pos _ (by omega)⟩
set_option maxHeartbeats 1600000 in
theorem uint64n_any (B rb sb j : Nat) (zs : List Int) (m : Int) (hm : 1 ≤ m) (hm2 : m ≤ 1048576) (w : World) (hr : w.heap[rb]? = some (.cells #[.iface 55 (.pointer (some ⟨sb, 0, none⟩))] 68 (0, 0))) (h : SrcOK w B sb j zs) :
    Calls Try.prog 42 #[.pointer (some ⟨rb, 0, none⟩), .int .u64 m] w fun e w' => Below_n w B sb zs .u64 m e w' := by
  have HR : Hid (w.heap[rb]? = some (.cells #[.iface 55 (.pointer (some ⟨sb, 0, none⟩))] 68 (0, 0))) := hr
  have H : Hid (SrcOK w B sb j zs) := h
  have Hsrc : Hid (SrcOK w B sb j zs) := h
  clear hr h
  by_cases hp : (bits BinOp.and IntKind.u64 m (m - 1) == 0) = true
  · go_enter Try.func42, Try.ntmps42
    go_wp2_with fail
    refine (rand_any B rb sb j zs w HR.out H.out).mono ?_
    rintro e w' ⟨x, j', rfl, x0, x1, hs, hg, hsz, _⟩
    have HS : Hid (SrcOK w' B sb j' zs ∧ w.grownBy w' (some sb) ∧ w'.heap.size = w.heap.size) := ⟨hs, hg, hsz⟩
    clear hs hg hsz
    go_wp2_with fail
    go_ret
    exact ⟨_, j', rfl, (and_lt x m x0 x1 hm hm2).1, (and_lt x m x0 x1 hm hm2).2, HS.out⟩
  · have hp' : (bits BinOp.and IntKind.u64 m (m - 1) == 0) = false := by simpa using hp
    clear hp
    go_enter Try.func42, Try.ntmps42
    go_wp2_with fail
    refine (rand_any B rb sb j zs w HR.out H.out).mono ?_
    rintro e w' ⟨x, j', rfl, x0, x1, hs, hg, hsz, _⟩
    have HS : Hid (SrcOK w' B sb j' zs ∧ w.grownBy w' (some sb) ∧ w'.heap.size = w.heap.size) := ⟨hs, hg, hsz⟩
    clear hs hg hsz
    have hm3 : m ≤ 18446744073709551615 := by omega
    have hm0 : (m == 0) = false := by simp; omega
    go_wp2_with fail
    refine (mul64_u x m x0 x1 (by omega) hm3 w').mono ?_
    rintro e w'' ⟨hi, lo, rfl, rfl, a1, a2, a3, E⟩
    have b1 : hi < m := hi_lt x1 hm a2 E.out
    by_cases hlm : lo < m
    · go_wp2_with fail
      obtain ⟨t1, t2⟩ := thresh_bd m hm
      generalize (IntKind.u64.wrap (-m)).tmod m = T at t1 t2 ⊢
      clear H hp' E
      go_loopw [5, 6] (fun p q wr => ∃ (hi lo : Int) (j2 : Nat), p = .int .u64 hi ∧ q = .int .u64 lo ∧ 0 ≤ hi ∧ hi < m ∧ Hid (SrcOK wr B sb j2 zs ∧ w.grownBy wr (some sb) ∧ wr.heap.size = w.heap.size)) (fun _ q wr => meas sb zs.length T q wr)
      case atStart => exact ⟨hi, lo, j', rfl, rfl, a1, b1, HS⟩
      case round =>
        clear HS a1 a2 a3 b1 hlm x0 x1
        obtain ⟨hi2, lo2, j2, rfl, rfl, c1, c2, HS2⟩ := hrel
        by_cases hc : lo2 < T
        · have HR2 : Hid (wr.heap[rb]? = some (.cells #[.iface 55 (.pointer (some ⟨sb, 0, none⟩))] 68 (0, 0))) := by
            obtain ⟨⟨_, a, c, hb, _⟩, hg, _⟩ := HS2.out
            have hne : some rb ≠ some sb := by
              intro e; cases e
              have hr := HR.out
              obtain ⟨_, a', c', hb', _⟩ := Hsrc.out
              rw [hr] at hb'; simp at hb'
            exact (hg.block rb (lt_of_heap HR.out) hne).trans HR.out
          go_wp2_with fail
          refine (rand_any B rb sb j2 zs _ HR2.out HS2.out.1).mono ?_
          rintro e w3 ⟨x3, j3, rfl, x30, x31, hs3, hg3, hsz3, hor⟩
          have HS3 : Hid (SrcOK w3 B sb j3 zs ∧ w.grownBy w3 (some sb) ∧ w3.heap.size = w.heap.size) := ⟨hs3, grown_trans HS2.out.2.1 hg3, by rw [hsz3, HS2.out.2.2]⟩
          have HOR : Hid (_) := hor
          clear hs3 hg3 hsz3 hor
          go_wp2_with fail
          refine (mul64_u x3 m x30 x31 (by omega) hm3 w3).mono ?_
          rintro e w4 ⟨hi4, lo4, rfl, rfl, d1, d2, d3, E4⟩
          have d4 : hi4 < m := hi_lt x31 hm d2 E4.out
          have HM : Hid (meas sb zs.length T (.int .u64 lo4) w4 < meas sb zs.length T (.int .u64 lo2) wr) :=
            meas_lt (idx_of HS2.out.1) (idx_of HS3.out.1) hc (by
              rcases HOR.out with ⟨h1, h2⟩ | ⟨h1, h2, h3⟩
              · exact .inl ⟨h1, h2⟩
              · exact .inr ⟨h1, h2, fallback_lo h3 hm hm2 t2 d2 E4.out⟩)
          clear HOR E4
          go_wp2_with fail
          go_roundw
          case rel => exact ⟨hi4, lo4, j3, rfl, rfl, d1, d4, HS3⟩
          case measure => exact HM.out
        · go_wp2_with fail
          go_ret
          exact ⟨hi2, j2, rfl, c1, c2, HS2.out⟩
    · go_wp2_with fail
      go_ret
      exact ⟨_, j', rfl, a1, b1, HS.out⟩

theorem intN_any (B rb sb j : Nat) (zs : List Int) (m : Int) (hm : 1 ≤ m) (hm2 : m ≤ 1048576) (w : World) (hr : w.heap[rb]? = some (.cells #[.iface 55 (.pointer (some ⟨sb, 0, none⟩))] 68 (0, 0))) (h : SrcOK w B sb j zs) :
    Calls Try.prog 28 #[.pointer (some ⟨rb, 0, none⟩), .int .i64 m] w fun e w' => Below_n w B sb zs .i64 m e w' := by
  have C : Hid (Calls Try.prog 42 #[.pointer (some ⟨rb, 0, none⟩), .int .u64 m] w fun e w' => Below_n w B sb zs .u64 m e w') := uint64n_any B rb sb j zs m hm hm2 w hr h
  clear hr h
  go_enter Try.func28, Try.ntmps28
  go_wp2_with fail
  refine Calls.mono C.out ?_
  rintro e w' ⟨r, j', rfl, r0, r1, hs⟩
  have HS : Hid (_) := hs
  clear hs
  go_wp2_with fail
  go_ret
  exact ⟨r, j', rfl, r0, r1, HS.out⟩
end Go.Proofs.Qxb6003311a
