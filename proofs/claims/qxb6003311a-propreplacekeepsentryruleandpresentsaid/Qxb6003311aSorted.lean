/- slices.Sort in the words of owned rows; zzRepeatFree; the plain laws on sorted lists. -/
import Derived.Test.Qxb6003311aDraw
import Derived.Test.Qxb6003311aSort
import Derived.Lib.SlKeysI
namespace Go.Proofs.Qxb6003311a
open Go.ChangeShapes Go.WideShapes Go.ChangeAt Go.RowKit
set_option linter.unusedVariables false

/-- sorted, ascending -/
def srt (zs : List Int) : List Int := zs.mergeSort fun x y => decide (x ≤ y)
theorem srt_perm (zs : List Int) : (srt zs).Perm zs := List.mergeSort_perm _ _
theorem srt_len (zs : List Int) : (srt zs).length = zs.length := (srt_perm zs).length_eq
theorem srt_mem {zs : List Int} {x : Int} : x ∈ srt zs ↔ x ∈ zs := (srt_perm zs).mem_iff
theorem srt_pair (zs : List Int) : (srt zs).Pairwise (fun x y => x ≤ y) := by
  have h := List.pairwise_mergeSort (le := fun x y : Int => decide (x ≤ y)) (fun a b c h1 h2 => by simp at *; omega) (fun a b => by simp; omega) zs
  exact List.pairwise_iff_getElem.2 fun i j hi hj hij => of_decide_eq_true (List.pairwise_iff_getElem.1 h i j hi hj hij)
theorem srt_asc (zs : List Int) : Asc (srt zs) := by
  intro i j hij hj
  rw [ix_get (show i < (srt zs).length by omega), ix_get hj]
  rcases Nat.lt_or_ge i j with h | h
  · exact List.pairwise_iff_getElem.1 (srt_pair zs) i j (by omega) hj h
  · have : i = j := by omega
    subst this; exact Int.le_refl _
theorem srt_of_perm {l l' : List Int} (h : l.Perm l') : srt l = srt l' := by
  have hp : (srt l).Perm (srt l') := ((srt_perm l).trans h).trans (srt_perm l').symm
  exact hp.eq_of_pairwise (le := fun x y => x ≤ y) (fun a b _ _ h1 h2 => by omega) (srt_pair l) (srt_pair l')

theorem owns_at {w : World} {base : Nat} {v : Value} {zs : List Int} {k : IntKind} {t : TypeId} (h : w.ownsRow base t 1 v zs.length (zs.map (Value.int k))) :
    (v = .slice none 0 0 ∧ zs = []) ∨ ∃ g cap cur, v = .slice (some ⟨g, 0, none⟩) zs.length cap ∧ base ≤ g ∧ w.heap[g]? = some (.cells cur t (0, 0)) ∧ zs.length ≤ cap ∧ cap ≤ maxLen ∧ cur.size = cap ∧ cur.toList.take zs.length = zs.map (Value.int k) ∧ ∀ i, i < zs.length → cur[i]? = some (.int k (ix zs i)) := by
  rcases h.2 with ⟨h1, h2⟩ | ⟨g, cap, cur, h1, h2, h3, h4, h5, h6, h7⟩
  · exact .inl ⟨h1, List.eq_nil_of_length_eq_zero h2⟩
  · rw [Nat.mul_one] at h6 h7
    refine .inr ⟨g, cap, cur, h1, h2, h3, h4, h5, h6, h7, fun i hi => ?_⟩
    have : (cur.toList.take zs.length)[i]? = (zs.map (Value.int k))[i]? := by rw [h7]
    rw [List.getElem?_take_of_lt hi, Array.getElem?_toList] at this
    rw [this, ix_get hi]
    simp [hi]

/-- slices.Sort: the same slice owns the sorted list -/
theorem sort_any (base : Nat) (v : Value) (zs : List Int) (w : World) (hn : zs.length ≤ 4194304) (h : w.ownsRow base 2 1 v zs.length (zs.map (Value.int .i64))) :
    Calls Try.prog 12 #[v] w fun e w' => e = .returned (.tuple #[]) ∧ w'.ownsRow base 2 1 v zs.length ((srt zs).map (Value.int .i64)) ∧ w.grownBy w' v.ownBlock := by
  rcases owns_at h with ⟨rfl, rfl⟩ | ⟨g, cap, cur, rfl, hb, hg, h1, h2, h3, h4, _⟩
  · refine (Try.slices_Sort_none none 0 w).mono fun e w' ⟨h1, h2⟩ => ⟨h1, ?_, by rw [h2]; exact World.grownBy.refl _ _⟩
    have e0 : srt [] = [] := List.eq_nil_of_length_eq_zero (srt_len [])
    rw [h2, e0]; exact World.ownsRow_nil _ _ _ _
  · refine (Try.slices_Sort g 0 cap zs w (holds_of_block_i hg h4) (lt_of_heap hg) (by omega)).mono fun e w' ⟨h5, n, os, h6⟩ => ⟨h5, ?_, ?_⟩
    · rw [h6]; exact ownsRow_sorted_i (srt_len zs) hb hg h1 h2 (by rw [h3, Nat.mul_one])
    · rw [h6]; exact grownBy_sorted_i _

theorem ints_of_own {w : World} {base : Nat} {v : Value} {zs : List Int} {k : IntKind} {t : TypeId} (h : w.ownsRow base t 1 v zs.length (zs.map (Value.int k))) :
    ∃ a c, v = .slice a zs.length c ∧ IntsAt k w a zs ∧ (a = none → c = 0) := by
  rcases owns_at h with ⟨rfl, rfl⟩ | ⟨g, cap, cur, rfl, hb, hg, h1, h2, h3, h4, h5⟩
  · exact ⟨none, 0, rfl, .inl rfl, fun _ => rfl⟩
  · exact ⟨_, cap, rfl, .inr ⟨g, 0, rfl, lt_of_heap hg, fun i hi => by rw [Nat.zero_add]; exact cell_of hg (h5 i hi)⟩, fun h => by cases h⟩

theorem nodup_of_srt {zs : List Int} (h : ∀ i, i + 1 < zs.length → ix (srt zs) (i + 1) ≠ ix (srt zs) i) : zs.Nodup := by
  have hl := srt_len zs
  have ha := srt_asc zs
  have step : ∀ j i, i < j → j < zs.length → ix (srt zs) i < ix (srt zs) j := by
    intro j
    induction j with
    | zero => intro i hi; omega
    | succ j ih =>
      intro i hi hj
      have h1 := ha j (j + 1) (by omega) (by omega)
      have h2 := h j hj
      rcases Nat.lt_or_ge i j with h3 | h3
      · have := ih i h3 (by omega); omega
      · have : i = j := by omega
        subst this; omega
  refine (srt_perm zs).nodup_iff.1 ?_
  refine List.pairwise_iff_getElem.2 fun i j hi hj hij => ?_
  have := step j i hij (by omega)
  rw [ix_get hi, ix_get hj] at this
  omega

set_option maxHeartbeats 800000 in
theorem repeat_any (a : Option Addr) (n c : Nat) (zs : List Int) (hz : zs.length = n) (w : World) (hn : n ≤ 4194304) (H : IntsAt .i64 w a zs) (h0 : a = none → c = 0) :
    Calls Try.prog 7 #[.slice a n c] w fun e w' => (∃ r : Bool, e = .returned (.bool r) ∧ Hid (r = true → zs.Nodup)) ∧ w.grownBy w' none := by
  have C : Hid (_) := clone8_any a n c zs hz w hn H h0
  have HZ : Hid (zs.length = n) := hz
  clear H h0 hz
  go_enter Try.func7, Try.ntmps7
  go_wp2_with fail
  refine Calls.mono C.out ?_
  rintro e w1 ⟨v, rfl, ho, hg⟩
  rw [← HZ.out] at ho
  have C2 : Hid (_) := sort_any w.heap.size v zs w1 (by rw [HZ.out]; exact hn) ho
  have HG1 : Hid (World.grownBy _ _ _) := hg
  have HO1 : Hid (World.ownsRow _ _ _ _ _ _ _) := ho
  clear C ho hg
  go_wp2_with fail
  refine Calls.mono C2.out ?_
  rintro e w2 ⟨rfl, ho2, hg2⟩
  have HO2 : Hid (w2.ownsRow w.heap.size 2 1 v (srt zs).length ((srt zs).map (Value.int .i64))) := by rw [srt_len]; exact ho2
  have HG2 : Hid (w.grownBy w2 none) := by
    refine ⟨hg2.os.trans HG1.out.os, hg2.tape.trans HG1.out.tape, hg2.output.trans HG1.out.output, Nat.le_trans HG1.out.size hg2.size, fun k hk _ => ?_⟩
    refine (hg2.block k (Nat.lt_of_lt_of_le hk HG1.out.size) ?_).trans (HG1.out.block k hk (by simp))
    intro e
    have := (HO1.out).lt k e.symm
    omega
  clear C2 ho2 hg2 HG1 HO1
  obtain ⟨a2, c2, hv, hi2, _⟩ := ints_of_own HO2.out
  have hl2 : (srt zs).length = n := by rw [srt_len, HZ.out]
  rw [hl2] at hv
  have HI : Hid (IntsAt .i64 w2 a2 (srt zs)) := hi2
  have HL : Hid ((srt zs).length = n) := hl2
  clear hi2 HO2 hl2
  subst hv
  go_wp2_with fail
  go_loopw [4] (fun i wr => ∃ k q : Nat, 1 ≤ k ∧ (k ≤ n ∨ k = 1) ∧ i = .int .i64 k ∧ wr = w2.drewN q ∧ Hid (∀ p, p + 1 < k → ix (srt zs) (p + 1) ≠ ix (srt zs) p)) (fun i _ => n - (intOf i).toNat)
  case atStart => exact ⟨1, 0, by omega, .inr rfl, rfl, rfl, fun p hp => absurd hp (by omega)⟩
  case round =>
    obtain ⟨k, q, hk1, hk2, rfl, rfl, K⟩ := hrel
    by_cases hlt : k < n
    · obtain ⟨b1, o1, e1, g1⟩ := HI.out.at (show k < (srt zs).length by rw [HL.out]; exact hlt)
      obtain ⟨b2, o2, e2, g2⟩ := HI.out.at (show k - 1 < (srt zs).length by rw [HL.out]; omega)
      subst e1
      cases e2
      have hkI : (k : Int) < (n : Int) := by omega
      obtain ⟨k', rfl⟩ : ∃ k', k = k' + 1 := ⟨k - 1, by omega⟩
      rw [Nat.add_sub_cancel] at g2
      have hkJ : (k' : Int) < (n : Int) := by omega
      go_wp2
      go_quiet (fail)
      by_cases heq : (ix (srt zs) (k' + 1) == ix (srt zs) k') = true
      · go_wp2
        go_ret
        exact ⟨⟨false, rfl, fun h => by cases h⟩, grown_draws (grown_draws HG2.out _) _⟩
      · have heq' : (ix (srt zs) (k' + 1) == ix (srt zs) k') = false := by simpa using heq
        go_wp2
        go_roundw
        case rel => exact ⟨k' + 2, _, by omega, by omega, by go_num, rfl, fun p hp => by
          by_cases e : p = k'
          · subst e; simpa using heq
          · exact K.out p (by omega)⟩
        case measure => simp [intOf]; omega
    · go_wp2
      go_ret
      exact ⟨⟨true, rfl, fun _ => nodup_of_srt fun i hi => K.out i (by rw [HZ.out] at hi; omega)⟩, grown_draws HG2.out _⟩
end Go.Proofs.Qxb6003311a
