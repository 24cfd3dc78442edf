/- FnReachesOwnSubtreeNotAbove: its guard, zzJoin, the plain law, the walk. -/
import Derived.Test.Qxb6602956aDepthWalk
namespace Go.Proofs.Qxb6602956a
open Go.ChangeShapes Go.WideShapes Go.ChangeAt Go.RowKit
set_option linter.unusedVariables false

set_option maxHeartbeats 1600000 in
theorem bytes13_any (s0 : ByteArray) (a1 : Option Addr) (n1 c1 : Nat) (S1 : Nat → ByteArray) (a2 : Option Addr) (n2 c2 : Nat) (S2 : Nat → ByteArray) (w : World)
    (h0 : s0.size ≤ maxLen) (hn1 : n1 ≤ maxLen) (H1 : Hid (StrsAt w a1 n1 S1)) (hs1 : ∀ i, i < n1 → (S1 i).size ≤ maxLen)
    (hn2 : n2 ≤ maxLen) (H2 : Hid (StrsAt w a2 n2 S2)) (hs2 : ∀ i, i < n2 → (S2 i).size ≤ maxLen) :
    Calls Try.prog 13 #[.string s0, .slice a1 n1 c1, .slice a2 n2 c2] w fun e w' => BytesPost w n1 n2 e w' := by
  unfold maxLen at h0 hn1 hn2 hs1 hs2
  go_enter Try.func13, Try.ntmps13
  go_wp2
  · go_ret
    exact bytes_no rfl
  · go_ret
    exact bytes_no rfl
  · go_ret
    exact bytes_no rfl
  have q1 : n1 ≤ 1048576 := by omega
  go_loop [7, 8] (fun t i => ∃ (k : Nat) (m : Int), k ≤ n1 ∧ i = .int .i64 k ∧ t = .int .i64 m ∧ 0 ≤ m ∧ m ≤ 1048576) (fun _ i => n1 - (intOf i).toNat)
  case atStart => exact ⟨0, _, by omega, rfl, rfl, by omega, by omega⟩
  case round =>
    obtain ⟨k, m, hk, rfl, rfl, hm1, hm2⟩ := hrel
    by_cases hlt : k < n1
    · obtain ⟨b, off, hab, hcell⟩ := H1.out.at hlt
      subst hab
      have hsz := hs1 k hlt
      clear hs1 hs2
      go_wp2
      · go_ret
        exact bytes_no rfl
      · go_ret
        exact bytes_no rfl
      · go_round
        case rel => exact ⟨k + 1, _, by omega, by go_num, rfl, by omega, by omega⟩
        case measure => simp [intOf]; omega
    · clear hs1
      go_wp2
      · go_ret
        exact bytes_no rfl
      · go_ret
        exact bytes_no rfl
      have q2 : n2 ≤ 1048576 := by omega
      go_loop [7, 9] (fun t i => ∃ (k : Nat) (m : Int), k ≤ n2 ∧ i = .int .i64 k ∧ t = .int .i64 m ∧ 0 ≤ m ∧ m ≤ 1048576) (fun _ i => n2 - (intOf i).toNat)
      case atStart => exact ⟨0, _, by omega, rfl, rfl, by omega, by omega⟩
      case round =>
        obtain ⟨k2, m2, hk2, rfl, rfl, hm3, hm4⟩ := hrel
        by_cases hlt2 : k2 < n2
        · obtain ⟨b, off, hab, hcell⟩ := H2.out.at hlt2
          subst hab
          have hsz := hs2 k2 hlt2
          clear hs2
          go_wp2
          · go_ret
            exact bytes_no rfl
          · go_ret
            exact bytes_no rfl
          · go_round
            case rel => exact ⟨k2 + 1, _, by omega, by go_num, rfl, by omega, by omega⟩
            case measure => simp [intOf]; omega
        · clear hs2
          go_wp2
          go_ret
          exact bytes_yes _ rfl q1 q2

/-- two lists, one behind the other -/
def joinS (n1 : Nat) (S1 S2 : Nat → ByteArray) : Nat → ByteArray := fun i => if i < n1 then S1 i else S2 (i - n1)
theorem joinS_lo {n1 : Nat} {S1 S2 : Nat → ByteArray} {i : Nat} (h : i < n1) : joinS n1 S1 S2 i = S1 i := by unfold joinS; rw [if_pos h]
theorem joinS_hi {n1 : Nat} {S1 S2 : Nat → ByteArray} {i : Nat} : joinS n1 S1 S2 (n1 + i) = S2 i := by unfold joinS; rw [if_neg (by omega)]; congr 1; omega

set_option maxHeartbeats 1600000 in
theorem join_any (a1 : Option Addr) (n1 c1 : Nat) (S1 : Nat → ByteArray) (a2 : Option Addr) (n2 c2 : Nat) (S2 : Nat → ByteArray) (w : World) (hn1 : n1 ≤ 1048576) (hn2 : n2 ≤ 1048576)
    (H1 : Hid (StrsAt w a1 n1 S1)) (H2 : Hid (StrsAt w a2 n2 S2)) :
    Calls Try.prog 11 #[.slice a1 n1 c1, .slice a2 n2 c2] w fun e w' => e = .returned (.slice (some ⟨w.heap.size, 0, none⟩) (n1 + n2) (n1 + n2)) ∧ OwnStrs w.heap.size w' (some ⟨w.heap.size, 0, none⟩) (n1 + n2) (joinS n1 S1 S2) ∧ Below w.heap.size w w' := by
  obtain ⟨i0, hi, hz0, hz1, hz2⟩ := info_parts Try.info9
  have hb2 : i0.bytes * (n1 + n2) ≤ 281474976710656 := by rw [hz2]; omega
  have hb3 : n1 + n2 ≤ maxLen := by unfold maxLen; omega
  go_enter Try.func11, Try.ntmps11
  go_wp2_with (at_make; refine wpList_make_full _ rfl _ _ 22 rfl w.heap.size 9 i0 _ 1 Try.underlying22 hi hz0 hz1 _ _ _ _ (n1 + n2) rfl rfl (by omega) (by omega) hb2 hb3 (Nat.le_refl _) ?_; intro w1 hown hgr; have HO : Hid (_) := hown; have HG : Hid (_) := hgr; clear hown hgr)
  go_loopw [6] (fun i wr => ∃ k : Nat, k ≤ n1 ∧ i = .int .i64 k ∧ wr.ownsRow w.heap.size 9 1 (.slice (some ⟨w.heap.size, 0, none⟩) (n1 + n2) (n1 + n2)) (n1 + n2) (stage (n1 + n2) (joinS n1 S1 S2) k) ∧ Below w.heap.size w wr) (fun i _ => n1 - (intOf i).toNat)
  case atStart =>
    refine ⟨0, by omega, rfl, ?_, (Below.refl _ _).grown HG.out (Nat.le_refl _) (by intro k hk; cases hk)⟩
    have e : (madeCells (Value.string ByteArray.empty).cells ((n1 + n2) * 1)).toList = stage (n1 + n2) (joinS n1 S1 S2) 0 := by
      rw [Nat.mul_one, stage_zero, ← toList_madeCells_one]; rfl
    rw [← e]
    exact HO.out
  case round =>
    obtain ⟨k, hk, rfl, hown, hbel⟩ := hrel
    clear HO HG hi hz0 hz1 hz2
    by_cases hlt : k < n1
    · obtain ⟨b, off, hab, hcell⟩ : ∃ b off, a1 = some (⟨b, off, none⟩ : Addr) ∧ wr.cell? ⟨b, off + k, none⟩ = some (.string (joinS n1 S1 S2 k)) := by
        rcases H1.out with rfl | ⟨b, off, h1, h2, hc⟩
        · omega
        · exact ⟨b, off, h1, by rw [joinS_lo hlt]; exact (hbel.cell h2).trans (hc k hlt)⟩
      subst hab
      obtain ⟨s0, hold⟩ := stage_some (n1 + n2) (joinS n1 S1 S2) k k (by omega)
      have hold' : wr.cell? ⟨w.heap.size, k, none⟩ = some (.string s0) := by rw [hown.cellAt k (by omega)]; exact hold
      have hfr : wr.frozen? ⟨w.heap.size, k, none⟩ = false := hown.frozenAt k
      have R : Hid (_) := below_loop (by omega) hown hbel
      have hkN : (k : Int) < (n1 : Int) + (n2 : Int) := by omega
      clear hown hbel hold
      go_wp2
      go_roundw
      case rel => exact ⟨k + 1, by omega, by go_num, R.out.1, R.out.2⟩
      case measure => simp [intOf]; omega
    · have hkn : k = n1 := by omega
      have R : Hid (_) := And.intro hown hbel
      clear hown hbel
      go_wp2
      go_loopw [7] (fun i wr => ∃ k : Nat, k ≤ n2 ∧ i = .int .i64 k ∧ wr.ownsRow w.heap.size 9 1 (.slice (some ⟨w.heap.size, 0, none⟩) (n1 + n2) (n1 + n2)) (n1 + n2) (stage (n1 + n2) (joinS n1 S1 S2) (n1 + k)) ∧ Below w.heap.size w wr) (fun i _ => n2 - (intOf i).toNat)
      case atStart =>
        refine ⟨0, by omega, rfl, ?_, R.out.2⟩
        have := R.out.1
        rw [hkn] at this
        exact this
      case round =>
        clear R hkn hlt hk
        obtain ⟨k2, hk2, rfl, hown, hbel⟩ := hrel
        by_cases hlt2 : k2 < n2
        · obtain ⟨b, off, hab, hcell⟩ : ∃ b off, a2 = some (⟨b, off, none⟩ : Addr) ∧ wr.cell? ⟨b, off + k2, none⟩ = some (.string (joinS n1 S1 S2 (n1 + k2))) := by
            rcases H2.out with rfl | ⟨b, off, h1, h2, hc⟩
            · omega
            · exact ⟨b, off, h1, by rw [joinS_hi]; exact (hbel.cell h2).trans (hc k2 hlt2)⟩
          subst hab
          obtain ⟨s0, hold⟩ := stage_some (n1 + n2) (joinS n1 S1 S2) (n1 + k2) (n1 + k2) (by omega)
          have hold' : wr.cell? ⟨w.heap.size, n1 + k2, none⟩ = some (.string s0) := by rw [hown.cellAt (n1 + k2) (by omega)]; exact hold
          have hfr : wr.frozen? ⟨w.heap.size, n1 + k2, none⟩ = false := hown.frozenAt (n1 + k2)
          have R : Hid (_) := below_loop (by omega) hown hbel
          have hkN : (n1 : Int) + (k2 : Int) < (n1 : Int) + (n2 : Int) := by omega
          clear hown hbel hold
          go_wp2
          go_roundw
          case rel => exact ⟨k2 + 1, by omega, by go_num, R.out.1, R.out.2⟩
          case measure => simp [intOf]; omega
        · have hkn : k2 = n2 := by omega
          have R : Hid (_) := And.intro hown hbel
          clear hown hbel
          go_wp2
          go_ret
          refine ⟨by go_num, ?_, R.out.2⟩
          have := R.out.1
          rw [hkn] at this
          exact this

theorem StrsAt.take {w : World} {a : Option Addr} {n k : Nat} {Sx : Nat → ByteArray} (h : StrsAt w a n Sx) (hk : k ≤ n) : StrsAt w a k Sx := by
  rcases h with rfl | ⟨b, off, h1, h2, hc⟩
  · exact .inl (by omega)
  · exact .inr ⟨b, off, h1, h2, fun i hi => hc i (by omega)⟩
theorem StrsAt.drew {w : World} {a : Option Addr} {n : Nat} {Sx : Nat → ByteArray} (h : StrsAt w a n Sx) (q : Nat) : StrsAt (w.drewN q) a n Sx := h
theorem lt_of_cell {w : World} {b o : Nat} {v : Value} (h : w.cell? ⟨b, o, none⟩ = some v) : b < w.heap.size := by
  exact block_lt_of_cell (a := ⟨b, o, none⟩) h
theorem reach_none (org : ByteArray) (d : Nat) (Sx : Nat → ByteArray) : reachB org d 0 Sx = false := by
  unfold reachB
  by_cases h : d = 0
  · rw [if_pos h]; rfl
  · rw [if_neg h, decide_eq_false (by omega), Bool.false_and]
theorem reach_above (org : ByteArray) (d k : Nat) (Sx : Nat → ByteArray) (h : k < d) : reachB org d k Sx = false := by
  unfold reachB
  rw [if_neg (by omega), decide_eq_false (by omega), Bool.false_and]

set_option maxHeartbeats 3200000 in
theorem walk4 (s0 : ByteArray) (a1 : Option Addr) (n1 c1 : Nat) (S1 : Nat → ByteArray) (a2 : Option Addr) (n2 c2 : Nat) (S2 : Nat → ByteArray) (w : World)
    (h0 : s0.size ≤ maxLen) (hn1 : n1 ≤ maxLen) (H1 : Hid (StrsAt w a1 n1 S1)) (hs1 : ∀ i, i < n1 → (S1 i).size ≤ maxLen) (hz1 : a1 = none → n1 = 0)
    (hn2 : n2 ≤ maxLen) (H2 : Hid (StrsAt w a2 n2 S2)) (hs2 : ∀ i, i < n2 → (S2 i).size ≤ maxLen) (hz2 : a2 = none → n2 = 0) :
    Calls Try.prog 4 #[.string s0, .slice a1 n1 c1, .slice a2 n2 c2] w fun e w' => e = .returned (.bool true) ∧ Below w.heap.size w w' := by
  have B13 : Hid (_) := bytes13_any s0 a1 n1 c1 S1 a2 n2 c2 S2 w h0 hn1 H1 hs1 hn2 H2 hs2
  have B9a : Hid (_) := listBytes_any a1 n1 c1 S1 w hn1 H1.out hs1
  have B9b : Hid (_) := listBytes_any a2 n2 c2 S2 w hn2 H2.out hs2
  have B80 : Hid (_) := strBytes_any s0 w h0
  have Z1 : Hid (_) := hz1
  have Z2 : Hid (_) := hz2
  unfold maxLen at h0 hn1 hn2
  clear hs1 hs2 hz1 hz2
  go_enter Try.func4, Try.ntmps4
  go_wp2_with fail
  refine Calls.mono B13.out ?_
  rintro e w' ⟨r, rfl, rfl, hr⟩
  cases r with
  | false =>
    go_wp2_with fail
    go_ret
    exact ⟨rfl, Below.refl _ _⟩
  | true =>
    obtain ⟨m1, m2⟩ := hr rfl
    clear hr
    go_wp2_with fail
    refine Calls.mono B80.out ?_
    rintro e w' ⟨x0, rfl, rfl, p0, p1⟩
    go_wp2_with fail
    refine Calls.mono B9a.out ?_
    rintro e w' ⟨x1, rfl, rfl, p2, p3⟩
    go_wp2_with fail
    refine Calls.mono B9b.out ?_
    rintro e w' ⟨x2, rfl, rfl, p4, p5⟩
    clear B13 B80 B9a B9b
    by_cases hsum : 1048576 < x0 + x1 + x2
    · go_wp2_with fail
      go_ret
      exact ⟨rfl, Below.refl _ _⟩
    go_wp2_with fail
    refine (clone_any a1 n1 c1 S1 _ m1 H1.out Z1.out).mono ?_
    rintro e w1 ⟨b1, rfl, O1, L1⟩
    have HO1 : Hid (OwnStrs _ _ _ _ _) := O1
    have HL1 : Hid (Below _ _ _) := L1
    clear O1 L1
    go_wp2_with fail
    refine (clone_any a2 n2 c2 S2 _ m2 (StrsAt.lay H2.out HL1.out) Z2.out).mono ?_
    rintro e w2 ⟨b2, rfl, O2, L2⟩
    have HO2 : Hid (OwnStrs _ _ _ _ _) := O2
    have HL2 : Hid (Below _ _ _) := L2
    clear O2 L2
    go_wp2_with fail
    have HS1 : Hid (∀ O, StrsAt (w2.alloc O) b1 n1 S1) := fun O => StrsAt.lay (OwnStrs.strs HO1.out) (HL2.out.alloc HL2.out.size O)
    have HS2 : Hid (∀ O, StrsAt (w2.alloc O) b2 n2 S2) := fun O => StrsAt.lay (OwnStrs.strs HO2.out) ((Below.refl _ _).alloc (Nat.le_refl _) O)
    have HE : Hid (∀ O, Below w'.heap.size w' (w2.alloc O)) := fun O => (Below.trans HL1.out ((HL2.out).mono HL1.out.size)).alloc (Nat.le_trans HL1.out.size HL2.out.size) O
    clear HL1 HL2 H1 H2 hsum p0 p1 p2 p3 p4 p5
    refine (reaches_any w2.heap.size s0 b1 n1 n1 none 0 0 S1 _ (by unfold maxLen; omega) (by unfold maxLen; omega) (user_cells _ _ rfl _ _ _ _ _ _ _ _ _ _).1 (user_cells _ _ rfl _ _ _ _ _ _ _ _ _ _).2 (.inl rfl)).mono ?_
    rintro e w5 ⟨rfl, q, rfl⟩
    rw [reach_none]
    go_wp2_with fail
    have c7 := (user_cells w2 w2.heap.size rfl s0 (.slice b1 n1 n1) (.string { data := #[] }) (.string { data := #[] }) (.string { data := #[] }) (.slice none 0 0) (.slice none 0 0) (.string { data := #[] }) (.slice none 0 0) (.string { data := #[] })).1
    have c9 := (user_cells w2 w2.heap.size rfl s0 (.slice b1 n1 n1) (.string { data := #[] }) (.string { data := #[] }) (.string { data := #[] }) (.slice none 0 0) (.slice none 0 0) (.string { data := #[] }) (.slice none 0 0) (.string { data := #[] })).2
    have T1 := HS1.out (Obj.cells #[.string { data := #[] }, .string { data := #[] }, .string { data := #[] }, .slice none 0 0, .slice none 0 0, .string { data := #[] }, .slice none 0 0, .string s0, .string { data := #[] }, .slice b1 n1 n1] 28)
    have T2 := HS2.out (Obj.cells #[.string { data := #[] }, .string { data := #[] }, .string { data := #[] }, .slice none 0 0, .slice none 0 0, .string { data := #[] }, .slice none 0 0, .string s0, .string { data := #[] }, .slice b1 n1 n1] 28)
    have T3 := HE.out (Obj.cells #[.string { data := #[] }, .string { data := #[] }, .string { data := #[] }, .slice none 0 0, .slice none 0 0, .string { data := #[] }, .slice none 0 0, .string s0, .string { data := #[] }, .slice b1 n1 n1] 28)
    clear HS1 HS2 HE
    generalize w2.alloc (Obj.cells #[.string { data := #[] }, .string { data := #[] }, .string { data := #[] }, .slice none 0 0, .slice none 0 0, .string { data := #[] }, .slice none 0 0, .string s0, .string { data := #[] }, .slice b1 n1 n1] 28) = W5 at c7 c9 T1 T2 T3 ⊢
    have HB1 : Hid (b1 = none → n1 = 0) := OwnStrs.nz HO1.out
    have HA1 : Hid (∀ j, j < n1 → ∃ g, b1 = some ⟨g, 0, none⟩) := fun j hj => by obtain ⟨g, hg, _⟩ := OwnStrs.at HO1.out hj; exact ⟨g, hg⟩
    have HT1 : Hid (StrsAt _ _ _ _) := T1
    have HT2 : Hid (StrsAt _ _ _ _) := T2
    have HT3 : Hid (Below _ _ _) := T3
    have HC7 : Hid (_) := c7
    have HC9 : Hid (_) := c9
    clear HO1 HO2 T1 T2 T3 c7 c9
    go_loopw [9] (fun i wr => ∃ (k q : Nat), k ≤ n1 ∧ i = .int .i64 k ∧ wr = W5.drewN q) (fun i _ => n1 - (intOf i).toNat)
    case atStart => exact ⟨0, q, by omega, rfl, rfl⟩
    case round =>
      obtain ⟨k, q, hk, rfl, rfl⟩ := hrel
      by_cases hlt : k < n1
      · obtain ⟨g, hg⟩ := HA1.out k hlt
        subst hg
        have hkI : (k : Int) ≤ (n1 : Int) := by omega
        go_wp2_with fail
        refine (reaches_drew w2.heap.size s0 _ n1 n1 _ k n1 S1 W5 q (by unfold maxLen; omega) (by unfold maxLen; omega) HC7.out HC9.out (StrsAt.take HT1.out hk)).mono ?_
        rintro e w6 ⟨rfl, q', rfl⟩
        rw [reach_above _ _ _ _ hlt]
        go_wp2_with fail
        go_roundw
        case rel => exact ⟨k + 1, q', by omega, by go_num, rfl⟩
        case measure => simp [intOf]; omega
      · clear hk
        by_cases hp : 0 < n1
        · obtain ⟨g, hg⟩ := HA1.out 0 hp
          subst hg
          obtain ⟨d', rfl⟩ : ∃ d', n1 = d' + 1 := ⟨n1 - 1, by omega⟩
          have hcl : W5.cell? ⟨g, d', none⟩ = some (.string (S1 d')) := by
            obtain ⟨b, off, e, h⟩ := StrsAt.at HT1.out (show d' < d' + 1 by omega)
            cases e
            rwa [Nat.zero_add] at h
          have i1 : (d' : Int) < (d' : Int) + 1 := by omega
          by_cases hl : S1 d' = s0
          · have hl' : ((S1 d').toList == s0.toList) = true := (Lib.bytes_beq_iff _ _).2 hl
            have HR : Hid (reachB s0 (d' + 1) (d' + 1) S1 = true) := by
              unfold reachB; rw [if_neg (by omega), decide_eq_true (Nat.le_refl _), Bool.true_and]; exact decide_eq_true hl
            have HR2 : Hid (reachB s0 (d' + 1) (d' + 1 + n2) (joinS (d' + 1) S1 S2) = true) := by
              unfold reachB; rw [if_neg (by omega), decide_eq_true (by omega), Bool.true_and]; exact decide_eq_true (by rw [Nat.add_sub_cancel, joinS_lo (by omega)]; exact hl)
            clear hl
            go_wp2_with fail
            refine (reaches_drew w2.heap.size s0 _ (d' + 1) (d' + 1) _ (d' + 1) (d' + 1) S1 W5 q (by unfold maxLen; omega) (by unfold maxLen; omega) HC7.out HC9.out HT1.out).mono ?_
            rintro e w6 ⟨rfl, q1, rfl⟩
            rw [HR.out]
            go_wp2_with fail
            refine (join_any _ (d' + 1) (d' + 1) S1 b2 n2 n2 S2 _ m1 m2 (StrsAt.drew HT1.out q1) (StrsAt.drew HT2.out q1)).mono ?_
            rintro e w7 ⟨rfl, OJ, LJ⟩
            have hlt7 : w2.heap.size < W5.heap.size := lt_of_cell HC7.out
            have HOJ : Hid (OwnStrs _ _ _ _ _) := OJ
            have HLJ : Hid (Below _ _ _) := LJ
            clear OJ LJ
            go_wp2_with fail
            refine (reaches_any w2.heap.size s0 _ (d' + 1) (d' + 1) _ (d' + 1 + n2) _ (joinS (d' + 1) S1 S2) w7 (by unfold maxLen; omega) (by unfold maxLen; omega) ((HLJ.out.cell hlt7).trans HC7.out) ((HLJ.out.cell hlt7).trans HC9.out) (OwnStrs.strs HOJ.out)).mono ?_
            rintro e w8 ⟨rfl, q2, rfl⟩
            rw [HR2.out]
            go_wp2_with fail
            go_ret
            exact ⟨rfl, below_draws' ((below_draws' HT3.out q1).trans (HLJ.out.mono HT3.out.size)) q2⟩
          · have hl' : ((S1 d').toList == s0.toList) = false := (Lib.bytes_beq_false_iff _ _).2 hl
            clear hl
            go_wp2_with fail
            go_ret
            exact ⟨rfl, below_draws' HT3.out _⟩
        · obtain rfl : n1 = 0 := by omega
          go_wp2_with fail
          have hlt7 : w2.heap.size < W5.heap.size := lt_of_cell HC7.out
          have HW : Hid (∀ q, Below W5.heap.size W5 ((W5.drewN q).alloc (.cells #[.string s0] 9))) := fun q => (below_draws' (Below.refl _ _) q).alloc (Nat.le_refl _) _
          have HR : Hid (reachB s0 0 1 (fun _ => s0) = true) := by
            unfold reachB; rw [if_pos rfl]; exact hasB_true 0 (by omega) rfl
          have HR2 : Hid (reachB s0 0 (1 + n2) (joinS 1 (fun _ => s0) S2) = true) := by
            unfold reachB; rw [if_pos rfl]; exact hasB_true 0 (by omega) (by rw [joinS_lo (by omega)])
          have HN : Hid (StrsAt ((W5.drewN q).alloc (.cells #[.string s0] 9)) (some ⟨W5.heap.size, 0, none⟩) 1 (fun _ => s0)) :=
            .inr ⟨W5.heap.size, 0, rfl, by simp, fun i hi => by
              obtain rfl : i = 0 := by omega
              exact World.cell?_alloc_at (w := W5.drewN q) #[.string s0] 9 _ _ rfl⟩
          have C7 : Hid (((W5.drewN q).alloc (.cells #[.string s0] 9)).cell? ⟨w2.heap.size, 7, none⟩ = some (.string s0)) := ((HW.out q).cell (p := ⟨w2.heap.size, 7, none⟩) hlt7).trans HC7.out
          have C9 : Hid (((W5.drewN q).alloc (.cells #[.string s0] 9)).cell? ⟨w2.heap.size, 9, none⟩ = some (.slice b1 0 0)) := ((HW.out q).cell (p := ⟨w2.heap.size, 9, none⟩) hlt7).trans HC9.out
          refine (reaches_any w2.heap.size s0 b1 0 0 (some ⟨W5.heap.size, 0, none⟩) 1 1 (fun _ => s0) ((W5.drewN q).alloc (.cells #[.string s0] 9)) (by unfold maxLen; omega) (by unfold maxLen; omega) C7.out C9.out HN.out).mono ?_
          rintro e w6 ⟨rfl, q1, rfl⟩
          rw [HR.out]
          go_wp2_with fail
          have J2 : Hid (StrsAt (((W5.drewN q).alloc (.cells #[.string s0] 9)).drewN q1) b2 n2 S2) := StrsAt.drew (StrsAt.lay HT2.out (HW.out q)) q1
          have J1 : Hid (StrsAt (((W5.drewN q).alloc (.cells #[.string s0] 9)).drewN q1) (some ⟨W5.heap.size, 0, none⟩) 1 (fun _ => s0)) := StrsAt.drew HN.out q1
          refine (join_any (some ⟨W5.heap.size, 0, none⟩) 1 1 (fun _ => s0) b2 n2 n2 S2 (((W5.drewN q).alloc (.cells #[.string s0] 9)).drewN q1) (by omega) m2 J1 J2).mono ?_
          rintro e w7 ⟨rfl, OJ, LJ⟩
          have HOJ : Hid (OwnStrs _ _ _ _ _) := OJ
          have HLJ : Hid (Below _ _ _) := LJ
          clear OJ LJ
          have HX : Hid (Below W5.heap.size W5 w7) := (below_draws' (HW.out q) q1).trans (HLJ.out.mono (HW.out q).size)
          go_wp2_with fail
          have K7 : Hid (w7.cell? ⟨w2.heap.size, 7, none⟩ = some (.string s0)) := (HX.out.cell (p := ⟨w2.heap.size, 7, none⟩) hlt7).trans HC7.out
          have K9 : Hid (w7.cell? ⟨w2.heap.size, 9, none⟩ = some (.slice b1 0 0)) := (HX.out.cell (p := ⟨w2.heap.size, 9, none⟩) hlt7).trans HC9.out
          have hsz7 : (((W5.drewN q).alloc (.cells #[.string s0] 9)).drewN q1).heap.size = W5.heap.size + 1 := by simp
          have KJ : Hid (StrsAt w7 (some ⟨W5.heap.size + 1, 0, none⟩) (1 + n2) (joinS 1 (fun _ => s0) S2)) := by
            have h := OwnStrs.strs HOJ.out
            rw [hsz7] at h
            exact h
          refine (reaches_any w2.heap.size s0 b1 0 0 (some ⟨W5.heap.size + 1, 0, none⟩) (1 + n2) (1 + n2) (joinS 1 (fun _ => s0) S2) w7 (by unfold maxLen; omega) (by unfold maxLen; omega) K7.out K9.out KJ.out).mono ?_
          rintro e w8 ⟨rfl, q2, rfl⟩
          rw [HR2.out]
          go_wp2_with fail
          go_ret
          exact ⟨rfl, below_draws' (HT3.out.trans (HX.out.mono HT3.out.size)) q2⟩
end Go.Proofs.Qxb6602956a
