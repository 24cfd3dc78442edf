/- FnReachesComparesOnlyAtDepth: the lists of the call own, the plain law on what Reaches answers, the walk. -/
import Derived.Test.Qxb6602956aLeaf
import Derived.Deep.DeepFit
namespace Go.Proofs.Qxb6602956a
open Go.ChangeShapes Go.WideShapes Go.ChangeAt Go.RowKit
set_option linter.unusedVariables false

theorem OwnStrs.nil (base : Nat) (w : World) (Sx : Nat → ByteArray) : OwnStrs base w none 0 Sx := World.ownsRow_nil _ _ _ _
theorem OwnStrs.strs {base : Nat} {w : World} {a : Option Addr} {n : Nat} {Sx : Nat → ByteArray} (h : OwnStrs base w a n Sx) : StrsAt w a n Sx := by
  have h' : w.ownsRow base 9 1 (.slice a n n) n (stage n Sx n) := h
  rcases h'.2 with ⟨_, h0⟩ | ⟨g, cap, cur, hv, hb, hg, _⟩
  · exact .inl h0
  · have ha : a = some ⟨g, 0, none⟩ := by simpa using (Value.slice.inj hv).1
    subst ha
    refine .inr ⟨g, 0, rfl, (Array.getElem?_eq_some_iff.1 hg).1, fun i hi => ?_⟩
    rw [Nat.zero_add, h'.cellAt i (by omega)]
    exact stage_get n Sx n i hi hi
theorem OwnStrs.lay {base : Nat} {w w' : World} {a : Option Addr} {n : Nat} {Sx : Nat → ByteArray} (h : OwnStrs base w a n Sx) {B : Nat} (hB : w.heap.size ≤ B) (hb : Below B w w') : OwnStrs base w' a n Sx := by
  have h' : w.ownsRow base 9 1 (.slice a n n) n (stage n Sx n) := h
  refine ⟨h'.1, ?_⟩
  rcases h'.2 with h0 | ⟨g, cap, cur, hv, hbb, hg, hr⟩
  · exact .inl h0
  · exact .inr ⟨g, cap, cur, hv, hbb, by rw [hb.block g (by have := (Array.getElem?_eq_some_iff.1 hg).1; omega)]; exact hg, hr⟩
theorem OwnStrs.at {base : Nat} {w : World} {a : Option Addr} {n : Nat} {Sx : Nat → ByteArray} (h : OwnStrs base w a n Sx) {j : Nat} (hj : j < n) :
    ∃ g, a = some ⟨g, 0, none⟩ ∧ base ≤ g ∧ g < w.heap.size ∧ w.cell? ⟨g, j, none⟩ = some (.string (Sx j)) ∧ w.frozen? ⟨g, j, none⟩ = false := by
  have h' : w.ownsRow base 9 1 (.slice a n n) n (stage n Sx n) := h
  rcases h'.2 with ⟨_, h0⟩ | ⟨g, cap, cur, hv, hb, hg, _⟩
  · omega
  · have ha : a = some ⟨g, 0, none⟩ := by simpa using (Value.slice.inj hv).1
    subst ha
    exact ⟨g, rfl, hb, (Array.getElem?_eq_some_iff.1 hg).1, by rw [h'.cellAt j (by omega)]; exact stage_get n Sx n j hj hj, h'.frozenAt j⟩
/-- the row with entry j turned to s -/
def upd (Sx : Nat → ByteArray) (j : Nat) (s : ByteArray) : Nat → ByteArray := fun i => if i = j then s else Sx i
theorem stage_upd (n : Nat) (Sx : Nat → ByteArray) (j : Nat) (s : ByteArray) (hj : j < n) : (stage n Sx n).set j (.string s) = stage n (upd Sx j s) n := by
  unfold stage upd; apply List.ext_getElem?; intro i
  rw [List.getElem?_set]
  simp only [List.length_map, List.length_range, List.getElem?_map]
  by_cases hi : i < n
  · by_cases e : j = i
    · subst e; simp [hj]
    · have e' : ¬ i = j := fun h => e h.symm
      simp [e, hi, e']
  · have : (List.range n)[i]? = none := by simp; omega
    rw [this]; simp; omega
theorem OwnStrs.set {base : Nat} {w : World} {g : Nat} {n : Nat} {Sx : Nat → ByteArray} (h : OwnStrs base w (some ⟨g, 0, none⟩) n Sx) (j : Nat) (hj : j < n) (s : ByteArray) :
    OwnStrs base (w.setCell ⟨g, j, none⟩ (.string s)) (some ⟨g, 0, none⟩) n (upd Sx j s) := by
  have h' : w.ownsRow base 9 1 (.slice (some ⟨g, 0, none⟩) n n) n (stage n Sx n) := h
  have := (h'.stored j (.string s)).1
  rw [stage_upd _ _ _ _ hj] at this
  exact this
theorem StrsAt.lay {w w' : World} {a : Option Addr} {n : Nat} {Sx : Nat → ByteArray} (h : StrsAt w a n Sx) (hb : Below w.heap.size w w') : StrsAt w' a n Sx := by
  rcases h with h | ⟨b, off, h1, h2, hc⟩
  · exact .inl h
  · exact .inr ⟨b, off, h1, by have := hb.size; omega, fun i hi => (hb.cell h2).trans (hc i hi)⟩

theorem clone_any (a : Option Addr) (n c : Nat) (Sx : Nat → ByteArray) (w : World) (hn : n ≤ 1048576) (H : StrsAt w a n Sx) (h0 : a = none → n = 0) :
    Calls Try.prog 10 #[.slice a n c] w fun e w' => ∃ a', e = .returned (.slice a' n n) ∧ OwnStrs w.heap.size w' a' n Sx ∧ Below w.heap.size w w' := by
  cases a with
  | none =>
    obtain rfl := h0 rfl
    exact (clone_nil c w).mono fun e w' ⟨h1, h2⟩ => ⟨none, h1, OwnStrs.nil _ _ _, by rw [h2]; exact Below.refl _ _⟩
  | some x => exact (clone_some x n c Sx w hn H).mono fun e w' ⟨h1, h2, h3⟩ => ⟨_, h1, h2, h3⟩

theorem OwnStrs.nz {base : Nat} {w : World} {a : Option Addr} {n : Nat} {Sx : Nat → ByteArray} (h : OwnStrs base w a n Sx) : a = none → n = 0 := by
  intro ha
  subst ha
  rcases h.2 with ⟨_, h0⟩ | ⟨g, cap, cur, hv, _⟩
  · exact h0
  · simp at hv
theorem reaches_drew (ub : Nat) (org : ByteArray) (ua : Option Addr) (d uc : Nat) (a : Option Addr) (n c : Nat) (Sx : Nat → ByteArray) (w : World) (q : Nat) (hd : d ≤ maxLen) (hn : n ≤ maxLen)
    (h7 : w.cell? ⟨ub, 7, none⟩ = some (.string org)) (h9 : w.cell? ⟨ub, 9, none⟩ = some (.slice ua d uc)) (h : StrsAt w a n Sx) :
    Calls Try.prog 12 #[.pointer (some ⟨ub, 0, none⟩), .slice a n c] (w.drewN q) fun e w' => e = .returned (.bool (reachB org d n Sx)) ∧ ∃ q, w' = w.drewN q :=
  (reaches_any ub org ua d uc a n c Sx (w.drewN q) hd hn h7 h9 h).mono fun e w' ⟨h1, q', h2⟩ => ⟨h1, q + q', by rw [h2]; show World.drewN (World.drewN w q) q' = _; simp [World.drewN, Nat.add_assoc]⟩
theorem user_cells (wx : World) (N : Nat) (hN : N = wx.heap.size) (s0 : ByteArray) (v9 z0 z1 z2 z3 z4 z5 z6 z8 : Value) :
    (wx.alloc (.cells #[z0, z1, z2, z3, z4, z5, z6, .string s0, z8, v9] 28)).cell? ⟨N, 7, none⟩ = some (.string s0) ∧
    (wx.alloc (.cells #[z0, z1, z2, z3, z4, z5, z6, .string s0, z8, v9] 28)).cell? ⟨N, 9, none⟩ = some v9 := by
  subst hN
  constructor <;> simp
theorem below_draws' {B : Nat} {a w : World} (h : Below B a w) (n : Nat) : Below B a (w.drewN n) := h.trans ⟨rfl, rfl, rfl, Nat.le_refl _, fun _ _ => rfl⟩
theorem upd_at (Sx : Nat → ByteArray) (j : Nat) (s : ByteArray) : upd Sx j s j = s := by unfold upd; rw [if_pos rfl]
theorem upd_off (Sx : Nat → ByteArray) (j : Nat) (s : ByteArray) (i : Nat) (h : i ≠ j) : upd Sx j s i = Sx i := by unfold upd; rw [if_neg h]
theorem law_A {s0 s4 : ByteArray} {n1 n2 j : Nat} {S2 : Nat → ByteArray} (h1 : 0 < n1) (h2 : (((j : Int)) == (n1 : Int) - 1) = true) (hj : j < n2) :
    (reachB s0 n1 n2 (upd S2 j s4) == (s4.toList == s0.toList)) = true := by
  have e : j = n1 - 1 := by have := eq_of_beq h2; omega
  unfold reachB
  rw [if_neg (by omega), decide_eq_true (show n1 ≤ n2 by omega), Bool.true_and, ← e, upd_at, dec_bytes]
  simp
theorem law_B {s0 s4 : ByteArray} {n1 n2 j : Nat} {S2 : Nat → ByteArray} (h1 : 0 < n1) (h2 : (((j : Int)) == (n1 : Int) - 1) = false) :
    (reachB s0 n1 n2 (upd S2 j s4) == reachB s0 n1 n2 S2) = true := by
  have e : n1 - 1 ≠ j := by intro h; have : ((j : Int) == (n1 : Int) - 1) = true := by simp; omega
                            rw [h2] at this; cases this
  unfold reachB
  rw [if_neg (by omega), upd_off _ _ _ _ e, if_neg (by omega)]
  simp
theorem law_C {s0 s4 : ByteArray} {n1 n2 j : Nat} {S2 : Nat → ByteArray} (h1 : ¬ 0 < n1) (h2 : (s4.toList == s0.toList) = true) (hj : j < n2) : reachB s0 n1 n2 (upd S2 j s4) = true := by
  unfold reachB
  rw [if_pos (by omega)]
  exact hasB_true j hj (by rw [upd_at]; exact (Lib.bytes_beq_iff _ _).1 h2)
theorem law_D {s0 : ByteArray} {n1 n2 j : Nat} {S2 : Nat → ByteArray} (h1 : ¬ 0 < n1) (h2 : ((S2 j).toList == s0.toList) = true) (hj : j < n2) : reachB s0 n1 n2 S2 = true := by
  unfold reachB
  rw [if_pos (by omega)]
  exact hasB_true j hj ((Lib.bytes_beq_iff _ _).1 h2)
theorem law_E {s0 s4 : ByteArray} {n1 n2 j : Nat} {S2 : Nat → ByteArray} (h1 : ¬ 0 < n1) (h2 : (s4.toList == s0.toList) = false) (h3 : ((S2 j).toList == s0.toList) = false) :
    (reachB s0 n1 n2 (upd S2 j s4) == reachB s0 n1 n2 S2) = true := by
  have e1 := (Lib.bytes_beq_false_iff _ _).1 h2
  have e2 := (Lib.bytes_beq_false_iff _ _).1 h3
  unfold reachB
  rw [if_pos (by omega), if_pos (by omega)]
  have : hasB n2 (upd S2 j s4) s0 = hasB n2 S2 s0 := by
    unfold hasB
    congr 1
    funext i
    by_cases h : i = j
    · subst h; rw [upd_at]; simp [e1, e2]
    · rw [upd_off _ _ _ _ h]
  rw [this]; simp
theorem ret_bool {a b : Bool} (h : a = b) : Ending.returned (.bool a) = .returned (.bool b) := by rw [h]

set_option maxHeartbeats 1600000 in
theorem walk5 (s0 : ByteArray) (a1 : Option Addr) (n1 c1 : Nat) (S1 : Nat → ByteArray) (a2 : Option Addr) (n2 c2 : Nat) (S2 : Nat → ByteArray) (i : Int) (s4 : ByteArray) (w : World)
    (h0 : s0.size ≤ maxLen) (hn1 : n1 ≤ maxLen) (H1 : Hid (StrsAt w a1 n1 S1)) (hs1 : ∀ i, i < n1 → (S1 i).size ≤ maxLen) (hz1 : a1 = none → n1 = 0)
    (hn2 : n2 ≤ maxLen) (H2 : Hid (StrsAt w a2 n2 S2)) (hs2 : ∀ i, i < n2 → (S2 i).size ≤ maxLen) (hz2 : a2 = none → n2 = 0) (h4 : s4.size ≤ maxLen) :
    Calls Try.prog 5 #[.string s0, .slice a1 n1 c1, .slice a2 n2 c2, .int .i64 i, .string s4] w fun e w' => e = .returned (.bool true) ∧ Below w.heap.size w w' := by
  have B14 : Hid (_) := bytes14_any s0 a1 n1 c1 S1 a2 n2 c2 S2 i s4 w h0 hn1 H1 hs1 hn2 H2 hs2 h4
  have B9a : Hid (_) := listBytes_any a1 n1 c1 S1 w hn1 H1.out hs1
  have B9b : Hid (_) := listBytes_any a2 n2 c2 S2 w hn2 H2.out hs2
  have B80 : Hid (_) := strBytes_any s0 w h0
  have B84 : Hid (_) := strBytes_any s4 w h4
  have Z1 : Hid (_) := hz1
  have Z2 : Hid (_) := hz2
  unfold maxLen at h0 hn1 hn2 h4
  clear hs1 hs2 hz1 hz2
  go_enter Try.func5, Try.ntmps5
  go_wp2_with fail
  refine Calls.mono B14.out ?_
  rintro e w' ⟨r, rfl, rfl, hr⟩
  cases r with
  | false =>
    go_wp2_with fail
    go_ret
    exact ⟨rfl, Below.refl _ _⟩
  | true =>
    obtain ⟨m1, m2⟩ := hr rfl
    clear hr
    go_wp2_with fail
    refine Calls.mono B80.out ?_
    rintro e w' ⟨x0, rfl, rfl, p0, p1⟩
    go_wp2_with fail
    refine Calls.mono B9a.out ?_
    rintro e w' ⟨x1, rfl, rfl, p2, p3⟩
    go_wp2_with fail
    refine Calls.mono B9b.out ?_
    rintro e w' ⟨x2, rfl, rfl, p4, p5⟩
    go_wp2_with fail
    refine Calls.mono B84.out ?_
    rintro e w' ⟨x3, rfl, rfl, p6, p7⟩
    clear B14 B80 B9a B9b B84
    by_cases hsum : 1048576 < x0 + x1 + x2 + x3
    · go_wp2_with fail
      go_ret
      exact ⟨rfl, Below.refl _ _⟩
    by_cases hi0 : i < 0
    · go_wp2_with fail
      go_ret
      exact ⟨rfl, Below.refl _ _⟩
    by_cases hin : (n2 : Int) ≤ i
    · go_wp2_with fail
      go_ret
      exact ⟨rfl, Below.refl _ _⟩
    obtain ⟨j, rfl⟩ : ∃ j : Nat, i = j := ⟨i.toNat, by omega⟩
    have hj : j < n2 := by omega
    go_wp2_with fail
    refine (clone_any a1 n1 c1 S1 _ m1 H1.out Z1.out).mono ?_
    rintro e w1 ⟨b1, rfl, O1, L1⟩
    have HO1 : Hid (OwnStrs _ _ _ _ _) := O1
    have HL1 : Hid (Below _ _ _) := L1
    clear O1 L1
    go_wp2_with fail
    refine (clone_any a2 n2 c2 S2 _ m2 (StrsAt.lay H2.out HL1.out) Z2.out).mono ?_
    rintro e w2 ⟨b2, rfl, O2, L2⟩
    obtain ⟨g2, hg2, _, hg2s, hg2c, _⟩ := O2.at hj
    subst hg2
    have HO2 : Hid (OwnStrs _ _ _ _ _) := O2
    have HL2 : Hid (Below _ _ _) := L2
    clear O2 L2
    go_wp2_with fail
    refine (clone_any (some ⟨g2, 0, none⟩) n2 n2 S2 _ m2 (OwnStrs.strs HO2.out) (OwnStrs.nz HO2.out)).mono ?_
    rintro e w3 ⟨b3, rfl, O3, L3⟩
    obtain ⟨g, hg, hg1, hg3, hgc, hgf⟩ := O3.at hj
    subst hg
    have HO3 : Hid (OwnStrs _ _ _ _ _) := O3
    have HL3 : Hid (Below _ _ _) := L3
    clear O3 L3
    go_wp2_with fail
    have hsz : (w3.setCell ⟨g, j, none⟩ (.string s4)).heap.size = w3.heap.size := by simp [World.setCell]
    have HB : Hid (∀ O, Below w2.heap.size w2 ((w3.setCell ⟨g, j, none⟩ (.string s4)).alloc O)) := fun O => ((HL3.out).setCell hg1 _).alloc (by rw [hsz]; exact HL3.out.size) O
    have HS1 : Hid (∀ O, StrsAt ((w3.setCell ⟨g, j, none⟩ (.string s4)).alloc O) (some ⟨g2, 0, none⟩) n2 S2) := fun O => StrsAt.lay (OwnStrs.strs HO2.out) (HB.out O)
    have HS2 : Hid (∀ O, StrsAt ((w3.setCell ⟨g, j, none⟩ (.string s4)).alloc O) (some ⟨g, 0, none⟩) n2 (upd S2 j s4)) := fun O =>
      StrsAt.lay (OwnStrs.strs (OwnStrs.set HO3.out j hj s4)) ((Below.refl _ _).alloc (Nat.le_refl _) O)
    have HC : Hid (∀ O, ((w3.setCell ⟨g, j, none⟩ (.string s4)).alloc O).cell? ⟨g2, j, none⟩ = some (.string (S2 j))) := fun O => ((HB.out O).cell hg2s).trans hg2c
    have HE : Hid (∀ O q, Below w'.heap.size w' (((w3.setCell ⟨g, j, none⟩ (.string s4)).alloc O).drewN q)) := fun O q =>
      below_draws' ((Below.trans HL1.out ((HL2.out).mono HL1.out.size)).trans ((HB.out O).mono (Nat.le_trans HL1.out.size HL2.out.size))) q
    clear HO1 HO2 HO3 hgc hgf hg2c
    refine (reaches_any w3.heap.size s0 b1 n1 n1 (some ⟨g2, 0, none⟩) n2 n2 S2 _ (by unfold maxLen; omega) (by unfold maxLen; omega) (user_cells _ _ hsz.symm _ _ _ _ _ _ _ _ _ _).1 (user_cells _ _ hsz.symm _ _ _ _ _ _ _ _ _ _).2 (HS1.out _)).mono ?_
    rintro e w5 ⟨rfl, q, rfl⟩
    go_wp2_with fail
    refine (reaches_drew w3.heap.size s0 b1 n1 n1 (some ⟨g, 0, none⟩) n2 n2 (upd S2 j s4) _ _ (by unfold maxLen; omega) (by unfold maxLen; omega) (user_cells _ _ hsz.symm _ _ _ _ _ _ _ _ _ _).1 (user_cells _ _ hsz.symm _ _ _ _ _ _ _ _ _ _).2 (HS2.out _)).mono ?_
    rintro e w6 ⟨rfl, q', rfl⟩
    have hc2 := HC.out
    clear HS1 HS2 HB HL1 HL2 HL3 H1 H2 HC hg1 hg3 hsum hi0 hin p0 p1 p2 p3 p4 p5 p6 p7
    have hjI : (j : Int) < (n2 : Int) := by omega
    go_wp2_with fail
    all_goals go_ret
    · exact ⟨ret_bool (law_A ‹_› ‹_› hj), HE.out _ _⟩
    · exact ⟨ret_bool (law_B ‹_› ‹_›), HE.out _ _⟩
    · exact ⟨ret_bool (law_C ‹_› ‹_› hj), HE.out _ _⟩
    · exact ⟨ret_bool (law_D ‹_› ‹_› hj), HE.out _ _⟩
    · exact ⟨ret_bool (law_E ‹_› ‹_› ‹_›), HE.out _ _⟩
end Go.Proofs.Qxb6602956a
