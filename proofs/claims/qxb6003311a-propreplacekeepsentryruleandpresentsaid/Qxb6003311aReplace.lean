/- replace: the walk. -/
import Derived.Test.Qxb6003311aReplState
import Derived.Test.Qxb6003311aEntryRule
import Derived.Deep.RegionHeld3
import Derived.Deep.RegionLaw
import Derived.Deep.DeepCutAuto
import Derived.Deep.DeepFit
import Derived.BigRegion
namespace Go.Proofs.Qxb6003311a
open Go.ChangeShapes Go.WideShapes Go.ChangeAt Go.RowKit Go.Maps
set_option linter.unusedVariables false

theorem Pre.st {w W : World} {S : Nat → Prop} {B rb sb wb pb mb pc : Nat} {r A nx : Int} {c n : Nat} {zs script : List Int} {lv : Value} (h : Pre w W S B rb sb wb pb mb pc r A nx c n zs script lv)
    (l1 : wb < w.heap.size) (l2 : pb < w.heap.size) (l3 : mb < w.heap.size) (b1 : B ≤ wb) (b2 : B ≤ pb) (b3 : B ≤ mb) (hS : ∀ k, k = sb ∨ k = wb ∨ k = pb ∨ k = mb → S k) :
    St w W S B rb sb wb pb mb pc r A nx c n zs script zs lv (.slice (some ⟨w.heap.size + 1 + 1 + 1, 0, none⟩) 0 0) [] 0 (.map []) :=
  ⟨h.net, h.row, h.map, h.round, h.res, owns_empty (by omega) h.joins, h.rng, h.leave, h.keeps, l1, l2, l3, b1, b2, b3, by obtain ⟨j, hj⟩ := h.rng.src; exact hj.1, hS⟩

/-- append to a slice of the call's own, as one step of a region that draws -/
theorem step_append_own {P : Program} {ops : Array Oper} {o : Oper} {a : Act} {w : World} {K : Act → World → Prop} {Q : Exit → Act → World → Prop} {E : Prop}
    (hg : o.guard = none) (s x : Operand) (t : TypeId) (hop : o.op = Op.call { callee := Callee.builtin Builtin.append, args := #[s, x], argTypes := #[t, t] })
    (base : Nat) (e : TypeId) (i : TypeInfo) (z : Value) (size bytes : Nat) (ht : P.underlying t = some (.slice e)) (hi : P.info? e = some i) (hz : i.zero = some z)
    (hsize : i.size = size) (hby : i.bytes = bytes) (hzs : z.cells.size = size) (hsz : 0 < size)
    (v : Value) (n : Nat) (xs : List Value) (hs : a.eval s = v) (hown : w.ownsRow base e size v n xs)
    (ad : Addr) (m c : Nat) (news : List Value) (hx : a.eval x = .slice (some ad) m c) (hl : news.length = m * size) (hnews : ∀ j u, news[j]? = some u → w.cell? (ad.add j) = some u) (h1 : ∀ u ∈ news, u.oneCell' = true)
    (h63 : n + m ≤ maxLen) (hbytes : (n + m) * bytes ≤ 140737488355328) (hbase : base ≤ w.heap.size)
    (h : ∀ v' w', w'.ownsRow base e size v' (n + m) (xs ++ news) → w.grownBy w' v.ownBlock → K (a.put o.dst v') w') :
    if Region.wanted o (yielded ops a.tmps) = true then Oper.wp P o a w K Q else E := by
  have hw : Region.wanted o (yielded ops a.tmps) = true := by simp [Region.wanted, hg]
  rw [if_pos hw]
  exact wp_append_own w s x t hop base e i z size bytes ht hi hz hsize hby hzs hsz v n xs hs hown ad m c news hx hl hnews h1 h63 hbytes hbase fun v' w' h2 h3 _ => h v' w' h2 h3
theorem two_new (w : World) (t : TypeId) (x y : Value) : ∀ j u, ([x, y] : List Value)[j]? = some u → ((w.alloc (.cells #[x, y] t)).drew).cell? ((⟨w.heap.size, 0, none⟩ : Addr).add j) = some u := by
  intro j u hu
  rw [add_plain, Nat.zero_add]
  show (w.alloc (.cells #[x, y] t)).cell? _ = _
  rw [World.cell?_alloc_at (hn := rfl)]
  match j, hu with
  | 0, hu => simpa using hu
  | 1, hu => simpa using hu
  | j + 2, hu => simp at hu
theorem Try.info43 : (Try.prog.info? 43).map (fun i => (i.zero, i.size, i.bytes)) = some (some (.agg #[.int .i64 0, .int .i64 0]), 2, 16) := by kernel_rfl
/-- behind the append, ahead of the store -/
theorem appended {w W W2 : World} {S : Nat → Prop} {B rb sb wb pb mb pc : Nat} {r A nxv : Int} {c n : Nat} {zs script ps : List Int} {lv jv v' : Value} {js : List (Int × Int)} {mk : Nat} {D : DataW Unit} {x y : Int}
    (h : St w W S B rb sb wb pb mb pc r A nxv c n zs script ps lv jv js mk D)
    (ho : W2.ownsRow w.heap.size 43 2 v' (js.length + 1) (flat js ++ [.int .i64 x, .int .i64 y])) (hg : ((W.alloc (.cells #[.int .i64 x, .int .i64 y] 43)).drew).grownBy W2 jv.ownBlock) :
    (∃ g cap, v' = .slice (some ⟨g, 0, none⟩) (js.length + 1) cap) ∧ W2.cell? ⟨w.heap.size + 1 + 1 + 1 + 1, 2, none⟩ = some jv ∧ W2.frozen? ⟨w.heap.size + 1 + 1 + 1 + 1, 2, none⟩ = false ∧
    Hid (St w (W2.setCell ⟨w.heap.size + 1 + 1 + 1 + 1, 2, none⟩ v') S B rb sb wb pb mb pc r A nxv c n zs script ps lv v' (js ++ [(x, y)]) mk D) := by
  have h' := (h.alloc (.cells #[.int .i64 x, .int .i64 y] 43)).draws 1
  have hrd : W2.heap[w.heap.size + 1 + 1 + 1 + 1]? = some (.cells #[.int .i64 r, lv, jv] 37 (0, 0)) := by
    refine (hg.block _ (lt_of_heap h'.round) ?_).trans h'.round
    intro e
    obtain ⟨_, cur, h3⟩ := own_block h'.joins e.symm
    rw [h'.round] at h3; simp at h3
  refine ⟨?_, cell_of hrd rfl, free_of hrd, h'.joined (p := (x, y)) ho hg⟩
  rcases ho.2 with ⟨_, h0⟩ | ⟨g, cap, cur, e, _⟩
  · omega
  · exact ⟨g, cap, e⟩

/-- the counts as the map holds them -/
def Tally (D : DataW Unit) (js : List (Int × Int)) : Prop := ∀ v, D.atKey (.int .i64 v) (.lit (.int .i64 0)) = .lit (.int .i64 (cnt js v))

theorem look_again {W : World} {mb m : Nat} {D : DataW Unit} {v x : Int} (h : W.ownsMap (H := Unit) Try.prog 2 (plainElem Try.prog 3) mb m (D.put (.int .i64 v) (.lit (.int .i64 x)))) (hw : (Lit.int .i64 v).wf = true) :
    (Instr.lookup 41 (.map (some mb)) (.int .i64 v) false).run Try.prog W = .ok (.int .i64 x) W := by
  obtain ⟨cc, hrun, hat, _⟩ := h.lookup_int (int_keyed Try.underlying2) Try.underlying41 Try.underlying3 (Try.zeroValue3 _) (keyOf_int_mk Try.underlying2 hw)
  have hD : IsMap D := by
    cases D <;> first | exact ⟨_, rfl⟩ | (obtain ⟨es, clk, _, _, _, e⟩ := h; cases e)
  rw [atKey_put_same (k := .int .i64 v) hD trivial] at hat
  have h3 : x = cc := (Lit.int.inj (DataW.lit.inj hat)).2
  rw [h3]; exact hrun
theorem nx_step (nx : Int) (k : Nat) : wrap64 (wrap64 (nx + k) + 1) = wrap64 (nx + ((k + 1 : Nat) : Int)) := by
  unfold wrap64; omega
theorem tally_step {D : DataW Unit} {js : List (Int × Int)} {v x : Int} (h : Tally D js) (hD : IsMap D) : Tally (D.put (.int .i64 v) (.lit (.int .i64 ((cnt js v : Int) + 1)))) (js ++ [(x, v)]) := by
  intro u
  rw [cnt_snoc]
  by_cases e : v = u
  · subst e
    rw [atKey_put_same (k := .int .i64 v) hD trivial, if_pos rfl]; rfl
  · rw [atKey_put_other (fun e2 => e (by injection e2 with _ e3; exact e3.symm)), h u, if_neg e]; rfl
theorem tally_eq {D : DataW Unit} {js : List (Int × Int)} {v cc : Int} (h : Tally D js) (hat : D.atKey (.int .i64 v) (.lit (.int .i64 0)) = .lit (.int .i64 cc)) : cc = (cnt js v : Int) := by
  have := (h v).symm.trans hat
  injection this with h1
  injection h1 with h2 h3
  exact h3.symm

theorem flat_at (js : List (Int × Int)) : ∀ i (h : i < js.length), (flat js)[i * 2]? = some (.int .i64 js[i].1) ∧ (flat js)[i * 2 + 1]? = some (.int .i64 js[i].2) := by
  induction js with
  | nil => intro i h; simp at h
  | cons p js ih =>
    intro i h
    have e : flat (p :: js) = .int .i64 p.1 :: .int .i64 p.2 :: flat js := rfl
    rw [e]
    match i with
    | 0 => exact ⟨rfl, rfl⟩
    | i + 1 =>
      have := ih i (by simpa using h)
      rw [show (i + 1) * 2 = i * 2 + 1 + 1 from by omega]
      exact this
theorem join_cell {W : World} {base jg jc m : Nat} {js : List (Int × Int)} (h : W.ownsRow base 43 2 (.slice (some ⟨jg, 0, none⟩) m jc) m (flat js)) {i : Nat} (hi : i < js.length) (hm : js.length ≤ m) :
    W.cell? ⟨jg, i * 2, none⟩ = some (.int .i64 js[i].1) ∧ W.cell? ⟨jg, i * 2 + 1, none⟩ = some (.int .i64 js[i].2) := by
  rcases h.2 with ⟨h, _⟩ | ⟨g, cap, cur, e, h1, h2, h3, h4, h5, h6⟩
  · cases h
  · cases e
    have ht := flat_at js i hi
    have hx : ∀ q, q < m * 2 → cur[q]? = (flat js)[q]? := fun q hq => by
      rw [← h6, List.getElem?_take, if_pos hq, Array.getElem?_toList]
    exact ⟨cell_of h2 (by rw [hx _ (by omega)]; exact ht.1), cell_of h2 (by rw [hx _ (by omega)]; exact ht.2)⟩
theorem row_step (l ps : List Int) (i : Nat) (h1 : i < l.length) (h2 : i < ps.length) : (l.take i ++ ps.drop i).set i l[i] = l.take (i + 1) ++ ps.drop (i + 1) := by
  rw [List.set_append_right _ _ (by simp; omega)]
  rw [show i - (l.take i).length = 0 from by simp; omega, List.drop_eq_getElem_cons h2, List.set_cons_zero, List.take_succ_eq_append_getElem h1, List.append_assoc]
  rfl
/-- what is owed at the end -/
structure Fin (w W : World) (S : Nat → Prop) (wb pb pc : Nat) (r : Int) (c : Nat) (zs : List Int) (lv jv : Value) (js : List (Int × Int)) (row : List Int) : Prop where
  leave : W.ownsRow w.heap.size 2 1 lv c ((srt (zs.take c)).map (Value.int .i64))
  joins : W.ownsRow w.heap.size 43 2 jv js.length (flat js)
  net : ∃ x0 x1 x3 x4, W.heap[wb]? = some (.cells #[x0, x1, .slice (some ⟨pb, 0, none⟩) zs.length pc, x3, x4] 53 (0, 0))
  row : RowAt W pb row
  keeps : Keeps S w W
  lwb : wb < w.heap.size
  lpb : pb < w.heap.size
  res : ∃ x0 x1 x2, W.heap[w.heap.size]? = some (.cells #[x0, x1, x2] 37 (0, 0))
theorem Fin.set {w W : World} {S : Nat → Prop} {wb pb pc : Nat} {r : Int} {c : Nat} {zs : List Int} {lv jv : Value} {js : List (Int × Int)} {row : List Int} (h : Fin w W S wb pb pc r c zs lv jv js row) (i : Nat) (v : Value) (hi : i < 3) :
    Fin w (W.setCell ⟨w.heap.size, i, none⟩ v) S wb pb pc r c zs lv jv js row := by
  obtain ⟨x0, x1, x2, hres⟩ := h.res
  obtain ⟨y0, y1, y3, y4, hnet⟩ := h.net
  have hlw := h.lwb
  have hlp := h.lpb
  have ne : ∀ {k : Nat} {cur : Array Value} {t : TypeId}, W.heap[k]? = some (.cells cur t (0, 0)) → t ≠ 37 → k ≠ w.heap.size := fun {k cur t} h1 h2 e => by
    subst e; rw [hres] at h1; simp at h1; exact h2 h1.2.symm
  refine ⟨owns_heap h.leave (fun k hk => heap_other ?_), owns_heap h.joins (fun k hk => heap_other ?_), ⟨y0, y1, y3, y4, (heap_other (by omega)).trans hnet⟩, h.row.heap (heap_other (by omega)), h.keeps.set _ _ _ (fun hk => absurd hk (by omega)), h.lwb, h.lpb, ?_⟩
  · obtain ⟨_, cur, h2⟩ := own_block h.leave hk; exact ne h2 (by decide)
  · obtain ⟨_, cur, h2⟩ := own_block h.joins hk; exact ne h2 (by decide)
  · have := heap_set (i := i) (v := v) hres
    match i, hi with
    | 0, _ => exact ⟨v, x1, x2, by simpa using this⟩
    | 1, _ => exact ⟨x0, v, x2, by simpa using this⟩
    | 2, _ => exact ⟨x0, x1, v, by simpa using this⟩
theorem St.fin {w W : World} {S : Nat → Prop} {B rb sb wb pb mb pc : Nat} {r A nxv : Int} {c n : Nat} {zs script ps : List Int} {lv jv : Value} {js : List (Int × Int)} {mk : Nat} {D : DataW Unit}
    (h : St w W S B rb sb wb pb mb pc r A nxv c n zs script ps lv jv js mk D) (hz : zs.length = n) : Fin w W S wb pb pc r c zs lv jv js ps :=
  ⟨h.leave, h.joins, ⟨_, _, _, _, by rw [hz]; exact h.net⟩, h.row, h.keeps, h.lwb, h.lpb, h.res⟩

set_option maxRecDepth 100000 in
set_option maxHeartbeats 1600000 in
theorem replace_pos (B rb sb wb pb mb pc clk : Nat) (r A nx : Int) (c n : Nat) (zs script : List Int) (hz : zs.length = n) (hc : 1 ≤ c) (hcn : c < n) (hn : n ≤ 1048576) (hpc : n ≤ pc) (w : World)
    (hw : w.heap[wb]? = some (.cells #[.pointer (some ⟨rb, 0, none⟩), .int .i64 A, .slice (some ⟨pb, 0, none⟩) n pc, .int .i64 nx, .map (some mb)] 53 (0, 0))) (hp : RowAt w pb zs) (hm : w.ownsMap (H := Unit) Try.prog 2 (plainElem Try.prog 3) mb 0 (.map [])) (hr : Rng w B rb sb script) (hB : B ≤ w.heap.size)
    (hL : pb < w.heap.size ∧ mb < w.heap.size ∧ B ≤ wb ∧ B ≤ pb ∧ B ≤ mb) (hA : (c : Int) ≤ A * ((n : Int) - c) ∧ 0 ≤ A ∧ A ≤ 9223372036854775807) (hnd : zs.Nodup) (hnx : (Lit.int .i64 nx).wf = true) (hwf : ∀ z ∈ zs, (Lit.int .i64 z).wf = true) :
    Calls Try.prog 20 #[.pointer (some ⟨wb, 0, none⟩), .int .i64 r, .int .i64 c] w fun e w' => ReplPost w (fun k => k = sb ∨ k = wb ∨ k = pb ∨ k = mb) wb pb pc r A nx c zs e w' := by
  have hw2 : w.cell? ⟨wb, 2, none⟩ = some (.slice (some ⟨pb, 0, none⟩) n pc) := cell_of hw rfl
  have hwl : wb < w.heap.size := lt_of_heap hw
  have k2 : ∀ o1 o2 o3 o4 o5, (((((w.alloc o1).alloc o2).alloc o3).alloc o4).alloc o5).cell? ⟨wb, 2, none⟩ = some (.slice (some ⟨pb, 0, none⟩) n pc) := fun o1 o2 o3 o4 o5 => cell_of (heap_old _ _ (heap_old _ _ (heap_old _ _ (heap_old _ _ (heap_old _ _ hw))))) rfl
  have HW : Hid (_) := And.intro hw (And.intro hp (And.intro hm (And.intro hr hB)))
  have HZ : Hid (zs.length = n) := hz
  have hc0 : ((c : Int) == 0) = false := by simp; omega
  have hcI : (c : Int) ≤ (n : Int) := by omega
  have hcP : c ≤ pc := by omega
  have HL : Hid (_) := hL
  have HA : Hid (_) := hA
  have HN : Hid (_) := And.intro hnd (And.intro hnx hwf)
  clear hw hp hm hz hr hB hL hA hnd hnx hwf
  go_enter Try.func20, Try.ntmps20
  go_wp2_with (first
    | (go_at_call 25; refine (silent_any _ _).mono ?_; rintro e w' ⟨rfl, rfl⟩)
    | (go_at_call 27; refine (values_any _ _ _ _).mono ?_; rintro e w' ⟨rfl, rfl⟩))
  refine (sorted_len (w.heap.size + 1 + 1 + 1 + 1 + 1) pb pc c (zs.take c) (by rw [List.length_take, HZ.out]; omega) (by omega) _ (heap_at _ _ _ (by simp)) ((((((HW.out.2.1.take c).alloc _).alloc _).alloc _).alloc _).alloc _ |>.alloc _)).mono ?_
  rintro e w3 ⟨lv, rfl, hlv, hbel⟩
  obtain ⟨h4, P⟩ := pre_made (clk := 0) (S := fun k => k = sb ∨ k = wb ∨ k = pb ∨ k = mb) ⟨_, _, _, rfl⟩ HW.out.1 HW.out.2.1 HW.out.2.2.1 HW.out.2.2.2.1 HW.out.2.2.2.2 hlv hbel
  obtain ⟨lg, lc, rfl⟩ : ∃ lg lc, lv = .slice (some ⟨lg, 0, none⟩) c lc := by
    rcases hlv.2 with ⟨_, h⟩ | ⟨g, cap, cur, e, _⟩
    · omega
    · exact ⟨g, cap, e⟩
  have s1 : w3.cell? ⟨w.heap.size + 1 + 1 + 1 + 1, 1, none⟩ = some (.slice (some ⟨w.heap.size + 1 + 1, 0, none⟩) 0 0) := cell_of h4 rfl
  have f1 : w3.frozen? ⟨w.heap.size + 1 + 1 + 1 + 1, 1, none⟩ = false := free_of h4
  have HP : Hid (Pre _ _ _ _ _ _ _ _ _ _ _ _ _ _ _ _ _ _) := P
  have q4 : (w3.setCell ⟨w.heap.size + 1 + 1 + 1 + 1, 1, none⟩ (.slice (some ⟨lg, 0, none⟩) c lc)).cell? ⟨wb, 4, none⟩ = some (.map (some mb)) := cell_of P.net rfl
  have q2 : (w3.setCell ⟨w.heap.size + 1 + 1 + 1 + 1, 1, none⟩ (.slice (some ⟨lg, 0, none⟩) c lc)).cell? ⟨wb, 2, none⟩ = some (.slice (some ⟨pb, 0, none⟩) n pc) := cell_of P.net rfl
  have hcl : ∀ ty, (Builtin.clear_ #[41] ty #[.map (some mb)]).run Try.prog (w3.setCell ⟨w.heap.size + 1 + 1 + 1 + 1, 1, none⟩ (.slice (some ⟨lg, 0, none⟩) c lc)) = .ok (.tuple #[]) (w3.setCell ⟨w.heap.size + 1 + 1 + 1 + 1, 1, none⟩ (.slice (some ⟨lg, 0, none⟩) c lc)) := by
    obtain ⟨es, clk, h1, _, h3, _⟩ := P.map
    have : es = #[] := Array.eq_empty_of_size_eq_zero (by omega)
    subst this
    exact run_clear_empty h1
  clear P hlv hbel h4 k2 hw2
  go_wp2_with fail
  have HS0 : Hid (St _ _ _ _ _ _ _ _ _ _ _ _ _ _ _ _ _ _ _ _ _ _ _) := Pre.st HP.out hwl HL.out.1 HL.out.2.1 HL.out.2.2.1 HL.out.2.2.2.1 HL.out.2.2.2.2 (fun k hk => hk)
  clear HP HW s1 f1 q4 q2 hcl
  generalize (w3.setCell ⟨w.heap.size + 1 + 1 + 1 + 1, 1, none⟩ (.slice (some ⟨lg, 0, none⟩) c lc)) = W0 at HS0 ⊢
  go_loopw [8, 37] (fun en ct wr => ∃ (k e : Nat) (ps : List Int) (js : List (Int × Int)) (jv : Value) (D : DataW Unit), en = .int .i64 e ∧ ct = .int .i64 k ∧ Hid (PI zs A nx c n k e ps js) ∧ Hid (Tally D js) ∧
      Hid (St w wr (fun k => k = sb ∨ k = wb ∨ k = pb ∨ k = mb) B rb sb wb pb mb pc r A (wrap64 (nx + k)) c n zs script ps (.slice (some ⟨lg, 0, none⟩) c lc) jv js k D)) (fun _ ct _ => c - (intOf ct).toNat)
  case atStart =>
    have hA0 : 0 < A := by
      rcases Int.lt_or_le 0 A with h | h
      · exact h
      · exfalso
        have hAz : A = 0 := by have := HA.out.2.1; omega
        have := HA.out.1
        rw [hAz] at this
        omega
    have hx0 : wrap64 (nx + ((0 : Nat) : Int)) = nx := by
      have h1 : (Lit.int .i64 nx).wf = true := HN.out.2.1
      simp [Lit.wf] at h1
      have h2 : IntKind.i64.min = -9223372036854775808 := rfl
      rw [h2] at h1
      unfold wrap64; omega
    exact ⟨0, n, zs, [], _, .map [], rfl, rfl, PI.start HN.out.1 HZ.out hcn hA0, fun v => by simp [cnt, DataW.atKey], by rw [hx0]; exact HS0⟩
  case round =>
    obtain ⟨k, e, ps, js, jv, D, rfl, rfl, HI, HT, HS⟩ := hrel
    clear HS0
    by_cases hlt : k < c
    · have hroom : c < e := HI.out.room hlt HA.out.1 HA.out.2.1
      have hen : e ≤ n := HI.out.en
      have c0 : wr.cell? ⟨wb, 0, none⟩ = some (.pointer (some ⟨rb, 0, none⟩)) := cell_of HS.out.net rfl
      go_wp2_with fail
      obtain ⟨j0, hj0⟩ := HS.out.rng.src
      refine (intN_any B rb sb j0 script ((e : Int) - (c : Int)) (by omega) (by omega) wr HS.out.rng.rand hj0).mono ?_
      rintro e1 w1 ⟨rr, j1, rfl, r0, r1, hs1, hg1, hsz1⟩
      have HS1 : Hid (St _ _ _ _ _ _ _ _ _ _ _ _ _ _ _ _ _ _ _ _ _ _ _) := HS.out.drawn hs1 hg1
      obtain ⟨rn, rfl⟩ := Int.eq_ofNat_of_zero_le r0
      clear HS hs1 hg1 hsz1 hj0 c0 r0
      have hpl : ps.length = n := HI.out.pl
      have hpe : c + rn < e := by omega
      have c2 : w1.cell? ⟨wb, 2, none⟩ = some (.slice (some ⟨pb, 0, none⟩) n pc) := cell_of HS1.out.net rfl
      have cp : w1.cell? ⟨pb, c + rn, none⟩ = some (.int .i64 (ix ps (c + rn))) := HS1.out.row.cell (by omega)
      have hiI : (c : Int) + (rn : Int) < (n : Int) := by omega
      clear hpl
      go_wp2_with fail
      have d2 : w1.cell? ⟨w.heap.size + 1 + 1 + 1 + 1, 2, none⟩ = some jv := cell_of HS1.out.round rfl
      have d2f : w1.frozen? ⟨w.heap.size + 1 + 1 + 1 + 1, 2, none⟩ = false := free_of HS1.out.round
      have c3 : w1.cell? ⟨wb, 3, none⟩ = some (.int .i64 (wrap64 (nx + k))) := cell_of HS1.out.net rfl
      obtain ⟨ja, jn, jc, hjv⟩ : ∃ ja jn jc, jv = .slice ja jn jc := by
        rcases HS1.out.joins.2 with ⟨h, _⟩ | ⟨g, cap, cur, h, _⟩
        · exact ⟨_, _, _, h⟩
        · exact ⟨_, _, _, h⟩
      subst hjv
      have hjl : js.length = k := HI.out.len
      have HJ : Hid (World.ownsRow _ _ _ _ _ _ _) := HS1.out.joins
      have hN4 : w.heap.size + 1 + 1 + 1 + 1 < w1.heap.size := lt_of_heap HS1.out.round
      have hWB : wb < w1.heap.size := lt_of_heap HS1.out.net
      have h63 : js.length + 1 ≤ maxLen := by unfold maxLen; omega
      have hby2 : (js.length + 1) * 16 ≤ 140737488355328 := by omega
      have HJL : Hid (js.length = k) := hjl
      clear hjl
      have hbs : w.heap.size ≤ w1.heap.size := HS1.out.keeps.size
      obtain ⟨i0, hi, hz0, hz1, hz2⟩ := info_parts Try.info43
      go_cut [] (fun wx => ∃ jv', Hid (St w wx (fun k => k = sb ∨ k = wb ∨ k = pb ∨ k = mb) B rb sb wb pb mb pc r A (wrap64 (nx + k)) c n zs script ps (.slice (some ⟨lg, 0, none⟩) c lc) jv' (js ++ [(wrap64 (nx + k), ix ps (c + rn))]) k D))
      case first =>
        go_region_law (refine step_append_own rfl (.tmp 57) (.tmp 64) 35 rfl w.heap.size 43 i0 (.agg #[.int .i64 0, .int .i64 0]) 2 16 Try.underlying35 hi hz0 hz1 hz2 rfl (by decide) (.slice ja jn jc) js.length (flat js) rfl (World.ownsRow.alloc HJ.out _).drew ⟨w1.heap.size, 0, none⟩ 1 1 [.int .i64 (wrap64 (nx + k)), .int .i64 (ix ps (c + rn))] rfl rfl (two_new _ _ _ _) (by simp [Value.oneCell']) h63 hby2 (by simp; omega) ?_; intro v' w2 ho2 hg2; obtain ⟨⟨g', cap', rfl⟩, e2, e2f, HS2⟩ := appended HS1.out ho2 hg2; clear ho2 hg2)
        all_goals (go_wp2_with fail; go_meet; exact ⟨_, HS2⟩)
      case rest =>
        clear HS1 HJ d2 d2f c3 cp c2 h63 hby2 hbs hN4 hWB hi hz0 hz1 hz2
        obtain ⟨jv2, HS2⟩ := hcut
        have c3 : wc.cell? ⟨wb, 3, none⟩ = some (.int .i64 (wrap64 (nx + k))) := cell_of HS2.out.net rfl
        have c3f : wc.frozen? ⟨wb, 3, none⟩ = false := free_of HS2.out.net
        have c4 : wc.cell? ⟨wb, 4, none⟩ = some (.map (some mb)) := cell_of HS2.out.net rfl
        have HS3 : Hid (St _ _ _ _ _ _ _ _ _ _ _ _ _ _ _ _ _ _ _ _ _ _ _) := HS2.out.next (wrap64 (wrap64 (nx + k) + 1))
        have HM : Hid (World.ownsMap _ _ _ _ _ _ _) := HS3.out.map
        have HD : Hid (IsMap D) := World.ownsMap.isMap HM.out
        have hwv : (Lit.int .i64 (ix ps (c + rn))).wf = true := HN.out.2.2 _ (HI.out.perm.mem_iff.1 (ix_mem (by rw [HI.out.pl]; omega)))
        have hcb : (cnt js (ix ps (c + rn)) : Int) ≤ 1048576 := by
          have : cnt js (ix ps (c + rn)) ≤ js.length := List.countP_le_length
          rw [HJL.out] at this
          omega
        have hk63 : k < maxLen := by unfold maxLen; omega
        have hww : (Lit.int .i64 ((cnt js (ix ps (c + rn)) : Int) + 1)).wf = true := WalkArith.wf_i64 (by omega)
        generalize hv : ix ps (c + rn) = v at *
        have HV : Hid (ix ps (c + rn) = v) := hv
        clear hv
        go_wp2_with (first
          | (at_lookup; go_must (refine wpList_lookup_own_int _ rfl _ _ 41 rfl 2 3 .i64 (int_keyed Try.underlying2) Try.underlying41 Try.underlying3 (Try.zeroValue3 _) mb k D rfl HM.out _ _ rfl (keyOf_int_mk Try.underlying2 hwv) ?_; intro cc hat _; obtain rfl := tally_eq HT.out hat; clear hat))
          | (at_mapUpdate; refine wpList_mapUpdate_own _ rfl _ _ _ 41 rfl 2 3 (int_keyed Try.underlying2) Try.underlying41 _ mb k _ rfl HM.out hk63 _ _ _ rfl rfl (keyOf_int_mk Try.underlying2 hwv) _ [] (plainElem_int Try.underlying3 hww) ?_; intro w4 hown4 hgrow4; have HS4 : Hid (St _ _ _ _ _ _ _ _ _ _ _ _ _ _ _ _ _ _ _ _ _ _ _) := HS3.out.mapped hown4 hgrow4; clear hown4 hgrow4))
        clear HS3 HS2 HM c3 c3f c4
        have c4 : w4.cell? ⟨wb, 4, none⟩ = some (.map (some mb)) := cell_of HS4.out.net rfl
        have c1 : w4.cell? ⟨wb, 1, none⟩ = some (.int .i64 A) := cell_of HS4.out.net rfl
        have hlk : ∀ q, (Instr.lookup 41 (.map (some mb)) (.int .i64 v) false).run Try.prog (w4.drewN q) = .ok (.int .i64 ((cnt js v : Int) + 1)) (w4.drewN q) := fun q =>
          look_again (HS4.out.draws q).map hwv
        have hlk0 : (Instr.lookup 41 (.map (some mb)) (.int .i64 v) false).run Try.prog w4 = .ok (.int .i64 ((cnt js v : Int) + 1)) w4 := hlk 0
        go_frame
        go_quiet (fail)
        clear hlk hlk0 c4 c1
        have HS5 : Hid (St _ _ _ _ _ _ _ _ _ _ _ _ _ _ _ _ _ _ _ _ _ _ _) := HS4.out.draws nq
        generalize w4.drewN nq = w5 at HS5 ⊢
        clear HS4
        have HT2 : Hid (Tally (D.put (.int .i64 v) (.lit (.int .i64 ((cnt js v : Int) + 1)))) (js ++ [(wrap64 (nx + k), v)])) := tally_step HT.out HD.out
        clear hk63 hww hwv hcb
        by_cases hfull : ((cnt js v : Int) + 1 == A) = true
        · obtain ⟨e', rfl⟩ : ∃ e', e = e' + 1 := ⟨e - 1, by omega⟩
          have p2 : w5.cell? ⟨wb, 2, none⟩ = some (.slice (some ⟨pb, 0, none⟩) n pc) := cell_of HS5.out.net rfl
          have pa : w5.cell? ⟨pb, c + rn, none⟩ = some (.int .i64 v) := by rw [← HV.out]; exact HS5.out.row.cell (by rw [HI.out.pl]; omega)
          have pe : w5.cell? ⟨pb, e', none⟩ = some (.int .i64 (ix ps e')) := HS5.out.row.cell (by rw [HI.out.pl]; omega)
          have fa : w5.frozen? ⟨pb, c + rn, none⟩ = false := HS5.out.row.free _
          have fe : w5.frozen? ⟨pb, e', none⟩ = false := HS5.out.row.free _
          have heI : (e' : Int) < (n : Int) := by omega
          have HS6 : Hid (St _ _ _ _ _ _ _ _ _ _ _ _ _ _ _ _ _ _ _ _ _ _ _) := (HS5.out.put (c + rn) (ix ps e') (by rw [HI.out.pl]; omega)).put e' v (by rw [List.length_set, HI.out.pl]; omega)
          obtain ⟨y, pe2⟩ : ∃ y, (w5.setCell ⟨pb, c + rn, none⟩ (.int .i64 (ix ps e'))).cell? ⟨pb, e', none⟩ = some y := ⟨_, (HS5.out.put (c + rn) (ix ps e') (by rw [HI.out.pl]; omega)).row.cell (by rw [List.length_set, HI.out.pl]; omega)⟩
          clear HS5
          go_wp2_with fail
          go_region
          have HS7 : Hid (St w ((w5.setCell ⟨pb, c + rn, none⟩ (.int .i64 (ix ps e'))).setCell ⟨pb, e', none⟩ (.int .i64 v)).drew _ _ _ _ _ _ _ _ _ _ _ _ _ _ _ _ _ _ _ _ _) := HS6.out.draws 1
          clear HS6 p2 pa pe fa fe pe2
          generalize ((w5.setCell ⟨pb, c + rn, none⟩ (.int .i64 (ix ps e'))).setCell ⟨pb, e', none⟩ (.int .i64 v)).drew = w6 at HS7 ⊢
          go_wp2_with fail
          go_roundw
          case rel =>
            refine ⟨k + 1, e', swp ps (c + rn) e', _, jv2, _, rfl, by go_num, ?_, HT2, ?_⟩
            · rw [← HV.out]; exact HI.out.step_hi hlt (by omega) hpe (by rw [HV.out]; simpa using hfull)
            · have e1 : (ps.set (c + rn) (ix ps e')).set e' v = swp ps (c + rn) e' := by rw [← HV.out]; rfl
              rw [nx_step, e1] at HS7; exact HS7
          case measure => simp [intOf]; omega
        · have hfull' : ((cnt js v : Int) + 1 == A) = false := by simpa using hfull
          go_wp2_with fail
          go_roundw
          case rel => exact ⟨k + 1, e, ps, _, jv2, _, rfl, by go_num, by rw [← HV.out]; exact HI.out.step_lo hlt (by omega) hpe (by rw [HV.out]; simpa using hfull), HT2, by rw [nx_step] at HS5; exact HS5⟩
          case measure => simp [intOf]; omega
    · have hkc : k = c := by have := HI.out.kc; omega
      subst hkc
      obtain ⟨jg, jc, rfl⟩ : ∃ jg jc, jv = .slice (some ⟨jg, 0, none⟩) js.length jc := by
        rcases HS.out.joins.2 with ⟨_, h⟩ | h
        · exfalso; have := HI.out.len; omega
        · obtain ⟨g, cap, cur, h1, h2⟩ := h
          exact ⟨g, cap, h1⟩
      have HJL : Hid (js.length = k) := HI.out.len
      have hkj : k ≤ jc := by
        rcases HS.out.joins.2 with ⟨h, _⟩ | h
        · cases h
        · obtain ⟨g, cap, cur, h1, h2, h3, h4, h5⟩ := h
          cases h1
          have := HJL.out; omega
      have d2 : wr.cell? ⟨w.heap.size + 1 + 1 + 1 + 1, 2, none⟩ = some (.slice (some ⟨jg, 0, none⟩) k jc) := by rw [← HJL.out]; exact cell_of HS.out.round rfl
      go_wp2_with fail
      go_loopw [124] (fun ct wr2 => ∃ i : Nat, ct = .int .i64 i ∧ i ≤ k ∧ Hid (St w wr2 (fun k => k = sb ∨ k = wb ∨ k = pb ∨ k = mb) B rb sb wb pb mb pc r A (wrap64 (nx + k)) k n zs script ((js.map (fun p => p.1)).take i ++ ps.drop i) (.slice (some ⟨lg, 0, none⟩) k lc) (.slice (some ⟨jg, 0, none⟩) js.length jc) js k D)) (fun ct _ => k - (intOf ct).toNat)
      case atStart => exact ⟨0, rfl, by omega, HS⟩
      case round =>
        clear d2
        obtain ⟨i, rfl, hik, HR⟩ := hrel
        by_cases hi : i < k
        · have hij : i < js.length := by rw [HJL.out]; exact hi
          have q0 : wr.cell? ⟨jg, i * 2, none⟩ = some (.int .i64 js[i].1) := (join_cell HR.out.joins hij (Nat.le_refl _)).1
          have q1 : wr.cell? ⟨jg, i * 2 + 1, none⟩ = some (.int .i64 js[i].2) := (join_cell HR.out.joins hij (Nat.le_refl _)).2
          have c2 : wr.cell? ⟨wb, 2, none⟩ = some (.slice (some ⟨pb, 0, none⟩) n pc) := cell_of HR.out.net rfl
          have hpl : ((js.map (fun p => p.1)).take i ++ ps.drop i).length = n := by
            rw [List.length_append, List.length_take, List.length_map, List.length_drop, HI.out.pl, HJL.out]; omega
          have cp : wr.cell? ⟨pb, i, none⟩ = some (.int .i64 (ix ((js.map (fun p => p.1)).take i ++ ps.drop i) i)) := HR.out.row.cell (by rw [hpl]; omega)
          have cf : wr.frozen? ⟨pb, i, none⟩ = false := HR.out.row.free _
          have hWB : wb < wr.heap.size := lt_of_heap HR.out.net
          have hPB : pb < wr.heap.size := by have := HR.out.keeps.size; have := HL.out.1; omega
          have HPL : Hid (_) := hpl
          have hiI : (i : Int) < (n : Int) := by omega
          have hset := row_step (js.map (fun p => p.1)) ps i (by rw [List.length_map]; exact hij) (by rw [HI.out.pl]; omega)
          have HS8 : Hid (St w (((wr.setCell ⟨pb, i, none⟩ (.int .i64 js[i].1)).alloc (.cells #[.int .i64 js[i].1, .int .i64 js[i].2] 43)).drew) (fun k => k = sb ∨ k = wb ∨ k = pb ∨ k = mb) B rb sb wb pb mb pc r A (wrap64 (nx + k)) k n zs script ((js.map (fun p => p.1)).take (i + 1) ++ ps.drop (i + 1)) (.slice (some ⟨lg, 0, none⟩) k lc) (.slice (some ⟨jg, 0, none⟩) js.length jc) js k D) := by
            have := ((HR.out.put i js[i].1 (by rw [hpl]; omega)).alloc (.cells #[.int .i64 js[i].1, .int .i64 js[i].2] 43)).draws 1
            rw [List.getElem_map] at hset
            rw [hset] at this
            exact this
          clear hpl hset HR
          go_wp2_with fail
          go_region
          go_wp2_with fail
          go_roundw
          case rel => exact ⟨i + 1, by go_num, by omega, HS8⟩
          case measure => simp [intOf]; omega
        · have hik2 : i = k := by omega
          subst hik2
          have n0 : wr.cell? ⟨w.heap.size + 1 + 1 + 1 + 1, 0, none⟩ = some (.int .i64 r) := cell_of HR.out.round rfl
          have n1 : wr.cell? ⟨w.heap.size + 1 + 1 + 1 + 1, 1, none⟩ = some (.slice (some ⟨lg, 0, none⟩) i lc) := cell_of HR.out.round rfl
          have n2 : wr.cell? ⟨w.heap.size + 1 + 1 + 1 + 1, 2, none⟩ = some (.slice (some ⟨jg, 0, none⟩) js.length jc) := cell_of HR.out.round rfl
          obtain ⟨x0, x1, x2, hres⟩ := HR.out.res
          have m0 : wr.cell? ⟨w.heap.size, 0, none⟩ = some x0 := cell_of hres rfl
          have m1 : wr.cell? ⟨w.heap.size, 1, none⟩ = some x1 := cell_of hres rfl
          have m2 : wr.cell? ⟨w.heap.size, 2, none⟩ = some x2 := cell_of hres rfl
          have mf0 : wr.frozen? ⟨w.heap.size, 0, none⟩ = false := free_of hres
          have mf1 : wr.frozen? ⟨w.heap.size, 1, none⟩ = false := free_of hres
          have mf2 : wr.frozen? ⟨w.heap.size, 2, none⟩ = false := free_of hres
          clear hres
          go_wp2_with fail
          refine bodyPost_ret (v := .agg #[.int .i64 r, .slice (some ⟨lg, 0, none⟩) i lc, .slice (some ⟨jg, 0, none⟩) js.length jc]) (by simp [results, Try.results20, go_sem, m0, m1, m2]) rfl ?_
          have hF := (((HR.out.fin HZ.out).set 0 (.int .i64 r) (by omega)).set 1 (.slice (some ⟨lg, 0, none⟩) i lc) (by omega)).set 2 (.slice (some ⟨jg, 0, none⟩) js.length jc) (by omega)
          have hrow : (js.map (fun p => p.1)).take i = js.map (fun p => p.1) := List.take_of_length_le (by rw [List.length_map, HJL.out]; omega)
          exact ⟨_, _, js, ps, rfl, hF.leave, by have := hF.joins; rw [HJL.out] at this ⊢; exact this, HI.out.plain HA.out.2.1, hF.net, by have := hF.row; rw [hrow] at this; exact this, hF.keeps⟩
end Go.Proofs.Qxb6003311a

