/- The leaves of the two laws on Reaches, each walked once. -/
import Derived.Test.Qxb6602956aRows
import Derived.WalkKit
import Derived.ProofKit
import Derived.OpenShut
import Derived.WalkSpells
import Derived.Deep.QuietTactic
import Derived.BigQuiet
import Derived.Lib.SlicesS
namespace Go.Proofs.Qxb6602956a
open Go.ChangeShapes Go.WideShapes Go.ChangeAt Go.RowKit
set_option linter.unusedVariables false

/-- n strings lie behind a slice's address: none, or at a row of cells -/
def StrsAt (w : World) (a : Option Addr) (n : Nat) (Sx : Nat → ByteArray) : Prop :=
  n = 0 ∨ ∃ b off, a = some ⟨b, off, none⟩ ∧ b < w.heap.size ∧ ∀ i, i < n → w.cell? ⟨b, off + i, none⟩ = some (.string (Sx i))

theorem strBytes_any (s : ByteArray) (w : World) (hs : s.size ≤ maxLen) :
    Calls Try.prog 8 #[.string s] w fun e w' => ∃ n : Int, e = .returned (.int .i64 n) ∧ w' = w ∧ 0 ≤ n ∧ n ≤ 1048577 := by
  unfold maxLen at hs
  go_enter Try.func8, Try.ntmps8
  go_wp2
  · go_ret
    exact ⟨_, rfl, rfl, by omega, by omega⟩
  · go_ret
    exact ⟨_, rfl, rfl, by omega, by omega⟩

set_option maxHeartbeats 400000 in
theorem listBytes_row (b off n c : Nat) (Sx : Nat → ByteArray) (w : World) (hn : n ≤ maxLen) (hc : ∀ i, i < n → w.cell? ⟨b, off + i, none⟩ = some (.string (Sx i)))
    (hs : ∀ i, i < n → (Sx i).size ≤ maxLen) :
    Calls Try.prog 9 #[.slice (some ⟨b, off, none⟩) n c] w fun e w' => ∃ n : Int, e = .returned (.int .i64 n) ∧ w' = w ∧ 0 ≤ n ∧ n ≤ 1048577 := by
  unfold maxLen at hn
  go_enter Try.func9, Try.ntmps9
  go_wp2
  go_loop [3, 4] (fun t i => ∃ (k : Nat) (m : Int), k ≤ n ∧ i = .int .i64 k ∧ t = .int .i64 m ∧ 0 ≤ m ∧ m ≤ 1048576) (fun _ i => n - (intOf i).toNat)
  case atStart => exact ⟨0, 0, by omega, rfl, rfl, by omega, by omega⟩
  case round =>
    obtain ⟨k, m, hk, rfl, rfl, hm1, hm2⟩ := hrel
    by_cases hlt : k < n
    · have hcell := hc k hlt
      have hsz := hs k hlt
      clear hc hs
      go_wp2_with (go_at_call 8; refine (strBytes_any _ _ hsz).mono ?_; rintro e w' ⟨q, rfl, rfl, q1, q2⟩)
      · go_ret
        exact ⟨_, rfl, rfl, by omega, by omega⟩
      · go_round
        case rel => exact ⟨k + 1, _, by omega, by go_num, rfl, by omega, by omega⟩
        case measure => simp [intOf]; omega
    · clear hc hs
      go_wp2
      go_ret
      exact ⟨_, rfl, rfl, by omega, by omega⟩

theorem listBytes_none (a : Option Addr) (c : Nat) (w : World) :
    Calls Try.prog 9 #[.slice a 0 c] w fun e w' => ∃ n : Int, e = .returned (.int .i64 n) ∧ w' = w ∧ 0 ≤ n ∧ n ≤ 1048577 := by
  go_enter Try.func9, Try.ntmps9
  go_wp2
  refine wp_loop_rounds 1 ?_
  rw [rounds_succ]
  go_wp2
  go_ret
  exact ⟨_, rfl, rfl, by omega, by omega⟩

theorem listBytes_any (a : Option Addr) (n c : Nat) (Sx : Nat → ByteArray) (w : World) (hn : n ≤ maxLen) (h : StrsAt w a n Sx) (hs : ∀ i, i < n → (Sx i).size ≤ maxLen) :
    Calls Try.prog 9 #[.slice a n c] w fun e w' => ∃ n : Int, e = .returned (.int .i64 n) ∧ w' = w ∧ 0 ≤ n ∧ n ≤ 1048577 := by
  rcases h with rfl | ⟨b, off, rfl, _, hc⟩
  · exact listBytes_none a c w
  · exact listBytes_row b off n c Sx w hn hc hs

/-- is x among the first n? -/
def hasB (n : Nat) (Sx : Nat → ByteArray) (x : ByteArray) : Bool := (List.range n).any fun i => decide (Sx i = x)
theorem hasB_true {n : Nat} {Sx : Nat → ByteArray} {x : ByteArray} (i : Nat) (hi : i < n) (h : Sx i = x) : hasB n Sx x = true := by
  unfold hasB; rw [List.any_eq_true]; exact ⟨i, by simpa using hi, by simpa using h⟩
theorem hasB_false {n : Nat} {Sx : Nat → ByteArray} {x : ByteArray} (h : ∀ i, i < n → Sx i ≠ x) : hasB n Sx x = false := by
  unfold hasB; rw [List.any_eq_false]; intro i hi; have := h i (by simpa using hi); simpa using this

set_option maxHeartbeats 400000 in
theorem index_row (b off n c : Nat) (Sx : Nat → ByteArray) (x : ByteArray) (w : World) (hn : n ≤ maxLen) (hc : ∀ i, i < n → w.cell? ⟨b, off + i, none⟩ = some (.string (Sx i))) :
    Calls Try.prog 23 #[.slice (some ⟨b, off, none⟩) n c, .string x] w fun e w' => ∃ k : Int, e = .returned (.int .i64 k) ∧ w' = w ∧ (decide (0 ≤ k)) = hasB n Sx x := by
  unfold maxLen at hn
  go_enter Try.func23, Try.ntmps23
  go_wp2
  go_loop [8] (fun i => ∃ (k : Nat), k ≤ n ∧ i = .int .i64 k ∧ ∀ j, j < k → Sx j ≠ x) (fun i => n - (intOf i).toNat)
  case atStart => exact ⟨0, by omega, rfl, fun j hj => absurd hj (Nat.not_lt_zero _)⟩
  case round =>
    obtain ⟨k, hk, rfl, hne⟩ := hrel
    have HN : Hid (∀ j, j < k → Sx j ≠ x) := hne
    clear hne
    by_cases hlt : k < n
    · have hcell := hc k hlt
      clear hc
      go_wp2
      · go_ret
        refine ⟨_, rfl, rfl, ?_⟩
        rw [hasB_true k hlt ((Lib.bytes_beq_iff _ _).1 ‹_›).symm]
        exact decide_eq_true (by omega)
      · go_round
        case rel => exact ⟨k + 1, by omega, by go_num, fun j hj => by
          by_cases e : j = k
          · subst e; exact ((Lib.bytes_beq_false_iff _ _).1 ‹_›).symm
          · exact HN.out j (by omega)⟩
        case measure => simp [intOf]; omega
    · have hkn : k = n := by omega
      have HF : Hid (hasB n Sx x = false) := hasB_false (fun i hi => HN.out i (by omega))
      clear hc hkn
      go_wp2
      go_ret
      exact ⟨_, rfl, rfl, by rw [HF.out]; rfl⟩

theorem index_none (a : Option Addr) (c : Nat) (Sx : Nat → ByteArray) (x : ByteArray) (w : World) :
    Calls Try.prog 23 #[.slice a 0 c, .string x] w fun e w' => ∃ k : Int, e = .returned (.int .i64 k) ∧ w' = w ∧ (decide (0 ≤ k)) = hasB 0 Sx x := by
  go_enter Try.func23, Try.ntmps23
  go_wp2
  refine wp_loop_rounds 1 ?_
  rw [rounds_succ]
  go_wp2
  go_ret
  exact ⟨_, rfl, rfl, rfl⟩

theorem contains_any (a : Option Addr) (n c : Nat) (Sx : Nat → ByteArray) (x : ByteArray) (w : World) (hn : n ≤ maxLen) (h : StrsAt w a n Sx) :
    Calls Try.prog 21 #[.slice a n c, .string x] w fun e w' => e = .returned (.bool (hasB n Sx x)) ∧ w' = w := by
  have H : ∀ w2, w2 = w → Calls Try.prog 23 #[.slice a n c, .string x] w2 fun e w' => ∃ k : Int, e = .returned (.int .i64 k) ∧ w' = w2 ∧ (decide (0 ≤ k)) = hasB n Sx x := by
    intro w2 h2
    subst h2
    rcases h with rfl | ⟨b, off, rfl, _, hc⟩
    · exact index_none a c Sx x w2
    · exact index_row b off n c Sx x w2 hn hc
  have HH : Hid (∀ w2, w2 = w → Calls Try.prog 23 #[.slice a n c, .string x] w2 fun e w' => ∃ k : Int, e = .returned (.int .i64 k) ∧ w' = w2 ∧ (decide (0 ≤ k)) = hasB n Sx x) := H
  clear H h
  go_enter Try.func21, Try.ntmps21
  go_wp2_with (go_at_call 23; refine (HH.out _ rfl).mono ?_; rintro e w' ⟨k, rfl, rfl, hk⟩; have HK : Hid (_) := hk; clear hk)
  go_ret
  exact ⟨by rw [← HK.out]; rfl, rfl⟩

/-- what 'Reaches' answers: the organization, the depth of the user's own lineage, the lineage asked -/
def reachB (org : ByteArray) (d n : Nat) (Sx : Nat → ByteArray) : Bool :=
  if d = 0 then hasB n Sx org else decide (d ≤ n) && decide (Sx (d - 1) = org)

theorem dec_bytes (x y : ByteArray) : (x.toList == y.toList) = decide (x = y) := by
  rw [Bool.eq_iff_iff, Lib.bytes_beq_iff]; simp

set_option maxHeartbeats 800000 in
theorem reaches_any (ub : Nat) (org : ByteArray) (ua : Option Addr) (d uc : Nat) (a : Option Addr) (n c : Nat) (Sx : Nat → ByteArray) (w : World) (hd : d ≤ maxLen) (hn : n ≤ maxLen)
    (h7 : w.cell? ⟨ub, 7, none⟩ = some (.string org)) (h9 : w.cell? ⟨ub, 9, none⟩ = some (.slice ua d uc)) (h : StrsAt w a n Sx) :
    Calls Try.prog 12 #[.pointer (some ⟨ub, 0, none⟩), .slice a n c] w fun e w' => e = .returned (.bool (reachB org d n Sx)) ∧ ∃ q, w' = w.drewN q := by
  by_cases hd0 : d = 0
  · subst hd0
    have H : Hid (StrsAt w a n Sx) := h
    have hn' := hn
    unfold maxLen at hn'
    clear h
    unfold reachB
    rw [if_pos rfl]
    go_enter Try.func12, Try.ntmps12
    go_wp2_with (go_at_call 21; refine (contains_any _ _ _ Sx _ _ hn H.out).mono ?_; rintro e w' ⟨rfl, rfl⟩)
    go_ret
    exact ⟨rfl, 0, rfl⟩
  · unfold maxLen at hd hn
    have hdI : ((d : Int) == 0) = false := by simp; omega
    unfold reachB
    rw [if_neg hd0]
    by_cases hle : d ≤ n
    · rcases h with rfl | ⟨b, off, rfl, _, hc⟩
      · omega
      · have hc1 := hc (d - 1) (by omega)
        obtain ⟨d', rfl⟩ : ∃ d', d = d' + 1 := ⟨d - 1, by omega⟩
        simp only [Nat.add_sub_cancel] at hc1 ⊢
        have g1 : ((d' : Int) + 1) ≤ (n : Int) := by omega
        have g2 : (d' : Int) < (n : Int) := by omega
        have e1 : decide (d' + 1 ≤ n) = true := decide_eq_true hle
        rw [e1, Bool.true_and, ← dec_bytes]
        clear hc e1
        go_enter Try.func12, Try.ntmps12
        go_wp2
        go_quiet (fail)
        go_wp2
        go_ret
        exact ⟨rfl, _, rfl⟩
    · have e1 : decide (d ≤ n) = false := decide_eq_false hle
      have e2 : decide ((d : Int) ≤ (n : Int)) = false := decide_eq_false (by omega)
      rw [e1, Bool.false_and]
      clear e1 h
      go_enter Try.func12, Try.ntmps12
      go_wp2
      go_quiet (fail)
      go_wp2
      go_ret
      exact ⟨rfl, _, rfl⟩

theorem StrsAt.at {w : World} {a : Option Addr} {n : Nat} {Sx : Nat → ByteArray} (h : StrsAt w a n Sx) {k : Nat} (hk : k < n) : ∃ b off, a = some ⟨b, off, none⟩ ∧ w.cell? ⟨b, off + k, none⟩ = some (.string (Sx k)) := by
  rcases h with rfl | ⟨b, off, rfl, _, hc⟩
  · omega
  · exact ⟨b, off, rfl, hc k hk⟩

/-- how the byte-counting guards end: a bool; the world stands; where it is true both lists are short -/
def BytesPost (w : World) (n1 n2 : Nat) (e : Ending) (w' : World) : Prop := ∃ r : Bool, e = .returned (.bool r) ∧ w' = w ∧ (r = true → n1 ≤ 1048576 ∧ n2 ≤ 1048576)
theorem bytes_no {w : World} {n1 n2 : Nat} {e : Ending} (he : e = .returned (.bool false)) : BytesPost w n1 n2 e w := ⟨false, he, rfl, fun h => by cases h⟩
theorem bytes_yes {w : World} {n1 n2 : Nat} {e : Ending} (r : Bool) (he : e = .returned (.bool r)) (q1 : n1 ≤ 1048576) (q2 : n2 ≤ 1048576) : BytesPost w n1 n2 e w := ⟨r, he, rfl, fun _ => ⟨q1, q2⟩⟩

set_option maxHeartbeats 1600000 in
theorem bytes14_any (s0 : ByteArray) (a1 : Option Addr) (n1 c1 : Nat) (S1 : Nat → ByteArray) (a2 : Option Addr) (n2 c2 : Nat) (S2 : Nat → ByteArray) (i : Int) (s4 : ByteArray) (w : World)
    (h0 : s0.size ≤ maxLen) (hn1 : n1 ≤ maxLen) (H1 : Hid (StrsAt w a1 n1 S1)) (hs1 : ∀ i, i < n1 → (S1 i).size ≤ maxLen)
    (hn2 : n2 ≤ maxLen) (H2 : Hid (StrsAt w a2 n2 S2)) (hs2 : ∀ i, i < n2 → (S2 i).size ≤ maxLen) (h4 : s4.size ≤ maxLen) :
    Calls Try.prog 14 #[.string s0, .slice a1 n1 c1, .slice a2 n2 c2, .int .i64 i, .string s4] w fun e w' => BytesPost w n1 n2 e w' := by
  unfold maxLen at h0 hn1 hn2 h4 hs1 hs2
  go_enter Try.func14, Try.ntmps14
  go_wp2
  · go_ret
    exact bytes_no rfl
  · go_ret
    exact bytes_no rfl
  · go_ret
    exact bytes_no rfl
  have q1 : n1 ≤ 1048576 := by omega
  go_loop [11, 12] (fun t i => ∃ (k : Nat) (m : Int), k ≤ n1 ∧ i = .int .i64 k ∧ t = .int .i64 m ∧ 0 ≤ m ∧ m ≤ 1048576) (fun _ i => n1 - (intOf i).toNat)
  case atStart => exact ⟨0, _, by omega, rfl, rfl, by omega, by omega⟩
  case round =>
    obtain ⟨k, m, hk, rfl, rfl, hm1, hm2⟩ := hrel
    by_cases hlt : k < n1
    · obtain ⟨b, off, hab, hcell⟩ := H1.out.at hlt
      subst hab
      have hsz := hs1 k hlt
      clear hs1 hs2
      go_wp2
      · go_ret
        exact bytes_no rfl
      · go_ret
        exact bytes_no rfl
      · go_round
        case rel => exact ⟨k + 1, _, by omega, by go_num, rfl, by omega, by omega⟩
        case measure => simp [intOf]; omega
    · clear hs1
      go_wp2
      · go_ret
        exact bytes_no rfl
      · go_ret
        exact bytes_no rfl
      have q2 : n2 ≤ 1048576 := by omega
      go_loop [11, 13] (fun t i => ∃ (k : Nat) (m : Int), k ≤ n2 ∧ i = .int .i64 k ∧ t = .int .i64 m ∧ 0 ≤ m ∧ m ≤ 1048576) (fun _ i => n2 - (intOf i).toNat)
      case atStart => exact ⟨0, _, by omega, rfl, rfl, by omega, by omega⟩
      case round =>
        obtain ⟨k2, m2, hk2, rfl, rfl, hm3, hm4⟩ := hrel
        by_cases hlt2 : k2 < n2
        · obtain ⟨b, off, hab, hcell⟩ := H2.out.at hlt2
          subst hab
          have hsz := hs2 k2 hlt2
          clear hs2
          go_wp2
          · go_ret
            exact bytes_no rfl
          · go_ret
            exact bytes_no rfl
          · go_round
            case rel => exact ⟨k2 + 1, _, by omega, by go_num, rfl, by omega, by omega⟩
            case measure => simp [intOf]; omega
        · clear hs2
          go_wp2
          all_goals
            go_ret
            exact bytes_yes _ rfl q1 q2

theorem Try.info9 : (Try.prog.info? 9).map (fun i => (i.zero, i.size, i.bytes)) = some (some (.string ByteArray.empty), 1, 16) := by kernel_rfl
/-- a row of n strings, the first k of them laid -/
def stage (n : Nat) (Sx : Nat → ByteArray) (k : Nat) : List Value := (List.range n).map fun j => if j < k then .string (Sx j) else .string ByteArray.empty
theorem stage_zero (n : Nat) (Sx : Nat → ByteArray) : stage n Sx 0 = List.replicate n (.string ByteArray.empty) := by
  unfold stage; apply List.ext_getElem? ; intro j; simp [List.getElem?_replicate]; split <;> simp_all
theorem stage_set (n : Nat) (Sx : Nat → ByteArray) (k : Nat) (h : k < n) : (stage n Sx k).set k (.string (Sx k)) = stage n Sx (k + 1) := by
  unfold stage; apply List.ext_getElem?; intro j
  rw [List.getElem?_set]
  simp only [List.length_map, List.length_range, List.getElem?_map]
  by_cases hj : j < n
  · by_cases e : k = j
    · subst e; simp [h]
    · simp only [if_neg e, List.getElem?_range hj, Option.map_some]
      by_cases hk : j < k
      · rw [if_pos hk, if_pos (by omega)]
      · rw [if_neg hk, if_neg (by omega)]
  · have : (List.range n)[j]? = none := by simp; omega
    rw [this]; simp; omega
theorem stage_get (n : Nat) (Sx : Nat → ByteArray) (k j : Nat) (hj : j < n) (hk : j < k) : (stage n Sx k)[j]? = some (.string (Sx j)) := by
  unfold stage; simp [hj, hk]
theorem stage_some (n : Nat) (Sx : Nat → ByteArray) (k j : Nat) (hj : j < n) : ∃ s : ByteArray, (stage n Sx k)[j]? = some (.string s) := by
  unfold stage; by_cases h : j < k <;> simp [hj, h]

/-- what a list of the call's own is: n strings at the head of a row of its own from block 'base' on -/
def OwnStrs (base : Nat) (w : World) (a : Option Addr) (n : Nat) (Sx : Nat → ByteArray) : Prop :=
  w.ownsRow base 9 1 (.slice a n n) n (stage n Sx n)

theorem below_loop {w wr : World} {n k : Nat} {Sx : Nat → ByteArray} (hlt : k < n)
    (hown : wr.ownsRow w.heap.size 9 1 (.slice (some ⟨w.heap.size, 0, none⟩) n n) n (stage n Sx k)) (hbel : Below w.heap.size w wr) :
    (wr.setCell ⟨w.heap.size, k, none⟩ (.string (Sx k))).ownsRow w.heap.size 9 1 (.slice (some ⟨w.heap.size, 0, none⟩) n n) n (stage n Sx (k + 1)) ∧ Below w.heap.size w (wr.setCell ⟨w.heap.size, k, none⟩ (.string (Sx k))) := by
  have h := hown.stored k (.string (Sx k))
  rw [stage_set _ _ _ hlt] at h
  exact ⟨h.1, hbel.setCell (Nat.le_refl _) _⟩

theorem clone_nil (c : Nat) (w : World) :
    Calls Try.prog 10 #[.slice none 0 c] w fun e w' => e = .returned (.slice none 0 0) ∧ w' = w := by
  have hnil := fun (w : World) (a : Option Addr) (n c : Nat) => Lib.run_eql_slice_nil (P := Try.prog) w 22 9 a n c 0 0 Try.underlying22
  go_enter Try.func10, Try.ntmps10
  go_wp2
  go_ret
  exact ⟨rfl, rfl⟩

set_option maxHeartbeats 800000 in
theorem clone_some (x : Addr) (n c : Nat) (Sx : Nat → ByteArray) (w : World) (hn : n ≤ 1048576) (H : Hid (StrsAt w (some x) n Sx)) :
    Calls Try.prog 10 #[.slice (some x) n c] w fun e w' => e = .returned (.slice (some ⟨w.heap.size, 0, none⟩) n n) ∧ OwnStrs w.heap.size w' (some ⟨w.heap.size, 0, none⟩) n Sx ∧ Below w.heap.size w w' := by
  have hnil := fun (w : World) (a : Option Addr) (n c : Nat) => Lib.run_eql_slice_nil (P := Try.prog) w 22 9 a n c 0 0 Try.underlying22
  obtain ⟨i0, hi, hz0, hz1, hz2⟩ := info_parts Try.info9
  have hb2 : i0.bytes * n ≤ 281474976710656 := by rw [hz2]; omega
  have hb3 : n ≤ maxLen := by unfold maxLen; omega
  go_enter Try.func10, Try.ntmps10
  go_wp2_with (at_make; refine wpList_make_full _ rfl _ _ 22 rfl w.heap.size 9 i0 _ 1 Try.underlying22 hi hz0 hz1 _ _ _ _ n rfl rfl rfl rfl hb2 hb3 (Nat.le_refl _) ?_; intro w1 hown hgr; have HO : Hid (_) := hown; have HG : Hid (_) := hgr; clear hown hgr)
  go_loopw [4] (fun i wr => ∃ k : Nat, k ≤ n ∧ i = .int .i64 k ∧ wr.ownsRow w.heap.size 9 1 (.slice (some ⟨w.heap.size, 0, none⟩) n n) n (stage n Sx k) ∧ Below w.heap.size w wr) (fun i _ => n - (intOf i).toNat)
  case atStart =>
    refine ⟨0, by omega, rfl, ?_, (Below.refl _ _).grown HG.out (Nat.le_refl _) (by intro k hk; cases hk)⟩
    have e : (madeCells (Value.string ByteArray.empty).cells (n * 1)).toList = stage n Sx 0 := by
      rw [Nat.mul_one, stage_zero, ← toList_madeCells_one]; rfl
    rw [← e]
    exact HO.out
  case round =>
    obtain ⟨k, hk, rfl, hown, hbel⟩ := hrel
    clear HO HG hi hz0 hz1 hz2 hnil
    by_cases hlt : k < n
    · obtain ⟨b, off, hab, hcell, hbs⟩ : ∃ b off, some x = some (⟨b, off, none⟩ : Addr) ∧ wr.cell? ⟨b, off + k, none⟩ = some (.string (Sx k)) ∧ b < w.heap.size := by
        rcases H.out with rfl | ⟨b, off, h1, h2, hc⟩
        · omega
        · exact ⟨b, off, h1, (hbel.cell h2).trans (hc k hlt), h2⟩
      cases hab
      obtain ⟨s0, hold⟩ := stage_some n Sx k k hlt
      have hold' : wr.cell? ⟨w.heap.size, k, none⟩ = some (.string s0) := by rw [hown.cellAt k (by omega)]; exact hold
      have hfr : wr.frozen? ⟨w.heap.size, k, none⟩ = false := hown.frozenAt k
      have R : Hid (_) := below_loop hlt hown hbel
      clear hown hbel hold
      go_wp2
      go_roundw
      case rel => exact ⟨k + 1, by omega, by go_num, R.out.1, R.out.2⟩
      case measure => simp [intOf]; omega
    · have hkn : k = n := by omega
      have R : Hid (_) := And.intro hown hbel
      clear hown hbel
      go_wp2
      go_ret
      refine ⟨rfl, ?_, R.out.2⟩
      have := R.out.1
      rw [hkn] at this
      exact this
end Go.Proofs.Qxb6602956a
