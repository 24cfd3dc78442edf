/- The law of replace: the walk. -/
import Derived.Test.Qxb6003311aLawWords
import Derived.Deep.DeepCutAuto
import Derived.Deep.DeepFit
namespace Go.Proofs.Qxb6003311a
open Go.ChangeShapes Go.WideShapes Go.ChangeAt Go.RowKit Go.Maps
set_option linter.unusedVariables false

/-- how the law ends -/
def Fine (w : World) (e : Ending) (w' : World) : Prop := e = .returned (.bool true) ∧ Below w.heap.size w w'

theorem one_new (w : World) (t : TypeId) (x : Value) : ∀ j u, ([x] : List Value)[j]? = some u → (w.alloc (.cells #[x] t)).cell? ((⟨w.heap.size, 0, none⟩ : Addr).add j) = some u := by
  intro j u hu
  rw [add_plain, Nat.zero_add]
  rw [World.cell?_alloc_at (hn := rfl)]
  match j, hu with
  | 0, hu => simpa using hu
  | j + 1, hu => simp at hu

set_option maxRecDepth 100000 in
set_option maxHeartbeats 1600000 in
theorem law_go (a0 : Option Addr) (n cap0 c : Nat) (zs : List Int) (A nx r : Int) (a5 : Option Addr) (n5 cap5 : Nat) (script : List Int) (w : World) (hz : zs.length = n) (hcn : c < n) (hn : n ≤ 1048576) (hz5 : script.length = n5) (hn5 : n5 ≤ 1048576)
    (H0 : IntsAt .i64 w a0 zs) (H5 : IntsAt .u64 w a5 script) (h00 : a0 = none → cap0 = 0) (h05 : a5 = none → cap5 = 0) (hh : holdsB A n c = true) (hA1 : -9223372036854775808 ≤ A) (hA2 : A ≤ 9223372036854775807)
    (hnx : (Lit.int .i64 nx).wf = true) (hwf : ∀ z ∈ zs, (Lit.int .i64 z).wf = true) (hr5 : ∀ z ∈ script, 0 ≤ z ∧ z ≤ 18446744073709551615) :
    Calls Try.prog 4 #[.slice a0 n cap0, .int .i64 c, .int .i64 A, .int .i64 nx, .int .i64 r, .slice a5 n5 cap5] w fun e w' => Fine w e w' := by
  have HH : Hid (_) := And.intro hz (And.intro hz5 (And.intro H0 (And.intro H5 (And.intro h00 (And.intro h05 (And.intro hnx (And.intro hwf hr5)))))))
  have HA : Hid (_) := holds_parts hh hA2
  have HO : Hid (_) := hh
  have HA1 : Hid (_) := And.intro hA1 hA2
  have kd1 : decide (1048576 < (n : Int)) = false := decide_eq_false (by omega)
  have kd2 : decide (1048576 < (n5 : Int)) = false := decide_eq_false (by omega)
  have kd3 : decide ((c : Int) < 0) = false := decide_eq_false (by omega)
  have kd4 : decide (n ≤ c) = false := decide_eq_false (by omega)
  have hcI : (c : Int) ≤ (n : Int) := by omega
  have hc0 : (0 : Int) ≤ (c : Int) := by omega
  clear hz hz5 H0 H5 h00 h05 hnx hwf hr5 hh hA1 hA2
  have hmm := @run_makeMap Try.prog
  go_enter Try.func4, Try.ntmps4
  go_wp2_with fail
  refine (holds_any A n c HA1.out.1 HA1.out.2 (by omega) (by omega) (by omega) w).mono ?_
  rintro e w' ⟨rfl, hw'⟩
  rw [HO.out, hw']
  clear hw' 
  go_wp2_with fail
  refine (repeat_any a0 n cap0 zs HH.out.1 w (by omega) HH.out.2.2.1 HH.out.2.2.2.2.1).mono ?_
  rintro e w1 ⟨⟨rep, rfl, hrep⟩, hg1⟩
  have HG1 : Hid (World.grownBy _ _ _) := hg1
  clear hg1
  cases rep
  · go_wp2_with fail
    go_ret
    exact ⟨rfl, (Below.refl _ _).grown HG1.out (Nat.le_refl _) (fun k e => by cases e)⟩
  · go_wp2_with fail
    refine (clone8_any a0 n cap0 zs HH.out.1 w1 (by omega) (ints_grown HH.out.2.2.1 HG1.out) HH.out.2.2.2.2.1).mono ?_
    rintro e w2 ⟨ov, rfl, ho2, hg2⟩
    obtain ⟨ob, oc, rfl, ho2r, hob, hoc⟩ := row_of_own ho2 HH.out.1 (by omega)
    have HG2 : Hid (World.grownBy w w2 none) := HG1.out.trans hg2
    have HR2 : Hid (RowAt w2 ob zs) := ho2r
    have HOB : Hid (w1.heap.size ≤ ob) := hob
    clear ho2 hg2 ho2r hob
    go_wp2_with fail
    refine (rng_any a5 n5 cap5 script HH.out.2.1 w2 hn5 (ints_grown HH.out.2.2.2.1 HG2.out) HH.out.2.2.2.2.2.1 HH.out.2.2.2.2.2.2.2.2).mono ?_
    rintro e w3 ⟨rb, sb, rfl, hrng, hsb, hg3⟩
    have HG3 : Hid (World.grownBy w2 w3 none) := hg3
    have HRNG : Hid (Rng w3 w3.heap.size rb sb script) := hrng
    have HSB : Hid (w2.heap.size ≤ sb) := hsb
    clear hg3 hrng hsb
    go_wp2_with fail
    refine (clone8_any _ n oc zs HH.out.1 w3 (by omega) (ints_grown (ints_of_row HR2.out) HG3.out) (fun e => by cases e)).mono ?_
    rintro e w4 ⟨pv, rfl, ho4, hg4⟩
    obtain ⟨pb, pc, rfl, ho4r, hpb, hpc⟩ := row_of_own ho4 HH.out.1 (by omega)
    have HG4 : Hid (World.grownBy w3 w4 none) := hg4
    have HR4 : Hid (RowAt w4 pb zs) := ho4r
    have HPB : Hid (w3.heap.size ≤ pb) := hpb
    clear ho4 hg4 ho4r hpb
    go_wp2_with fail
    refine (network_any _ A _ nx ⟨_, _, _, rfl⟩ w4).mono ?_
    rintro e w5 ⟨rfl, rfl⟩
    go_wp2_with fail
    refine (made_zz (w2 := w2) HH.out.1 hcn hn hpc HRNG.out HG4.out HR4.out HPB.out HA.out (hrep.out trivial) HH.out.2.2.2.2.2.2.1 HH.out.2.2.2.2.2.2.2.1).mono ?_
    intro e w6 hpost
    obtain ⟨lv, jv, js0, ps0, rfl, hq⟩ := id hpost
    obtain ⟨la, lc, rfl, -⟩ := own_ints hq.1 (by rw [srt_len, List.length_take, HH.out.1]; omega)
    obtain ⟨ja, jc, rfl⟩ : ∃ ja jc, jv = .slice ja c jc := by
      rcases hq.2.1.2 with ⟨e, h0⟩ | ⟨g, cap, cur, e, _⟩
      · exact ⟨_, _, by rw [e, h0]⟩
      · exact ⟨_, _, e⟩
    clear hq
    obtain ⟨js, ps, hD⟩ := Done.made (w := w) (w0 := w) (w1 := w) (w2 := w) (w3 := w) (w4 := w) (oc := oc) HH.out.1 hpost
      (((HR2.out.heap ((HG4.out.block _ (by have := HG3.out.size; obtain ⟨cur, h1, _⟩ := HR2.out; have := lt_of_heap h1; omega) (fun e => by cases e)).trans (HG3.out.block _ (by obtain ⟨cur, h1, _⟩ := HR2.out; exact lt_of_heap h1) (fun e => by cases e)))).alloc _).alloc _)
      (by
        have hobl : ob < w2.heap.size := by obtain ⟨cur, h1, _⟩ := HR2.out; exact lt_of_heap h1
        have e1 := HG2.out.size
        have e2 := HG3.out.size
        have e3 := HG4.out.size
        have e4 := HSB.out
        have e5 := HPB.out
        rintro k (rfl | rfl | rfl | rfl) <;> omega)
      (grown_alloc (grown_alloc ((HG2.out.trans HG3.out).trans HG4.out) _) _)
    have HD1 : Hid (Done _ _ _ _ _ _ _ _ _ _ _ _ _ _ _ _ _ _ _) := hD
    clear hD hpost HG1 HG2 HG3 HG4 HR2 HR4 HOB HRNG HSB HPB hrep hpc
    go_wp2_with fail
    generalize hwb : w4.heap.size + 1 = wb at HD1 ⊢
    generalize hbs : ((w4.alloc (.map #[] 0)).alloc (.cells #[.pointer (some ⟨rb, 0, none⟩), .int .i64 A, .slice (some ⟨pb, 0, none⟩) n pc, .int .i64 nx, .map (some w4.heap.size)] 53)).heap.size = bs at HD1
    generalize hW1 : w6.alloc (.cells #[.int .i64 r, .slice la c lc, .slice ja c jc] 37) = W1 at HD1 ⊢
    generalize hrd : w6.heap.size = rd at HD1 ⊢
    clear hwb hbs hW1 hrd
    have hwl : (zs.take c).length = c := by rw [List.length_take, HH.out.1]; omega
    have HWL : Hid (_) := hwl
    clear hwl
    have hdl : (zs.drop c).length = n - c := by rw [List.length_drop, HH.out.1]
    have HDL : Hid (_) := hdl
    clear hdl
    refine (clone8_any _ c oc (zs.take c) HWL.out W1 (by omega) (ints_of_row (HD1.out.old.take c)) (fun e => by cases e)).mono ?_
    rintro e W2 ⟨wv, rfl, ho, hg⟩
    obtain ⟨wa, wc, rfl, -⟩ := own_ints ho HWL.out
    have HB2 : Hid (Below W1.heap.size W1 W2) := (Below.refl _ _).grown hg (Nat.le_refl _) (fun k e => by cases e)
    have HW : Hid (World.ownsRow _ _ _ _ _ _ _) := ho
    clear ho hg
    go_wp2_with fail
    refine (sort_len W1.heap.size c _ (zs.take c) HWL.out W2 (by omega) HW.out).mono ?_
    rintro e W3 ⟨rfl, ho, hg⟩
    have HB3 : Hid (Below W1.heap.size W1 W3) := HB2.out.grown hg HB2.out.size (fun k e => (own_block HW.out e).1)
    have HD3 : Hid (Done _ _ _ _ _ _ _ _ _ _ _ _ _ _ _ _ _ _ _) := HD1.out.over HB3.out
    have HW3 : Hid (IntsAt .i64 W3 wa (srt (zs.take c))) := by
      obtain ⟨a', c', e, h, _⟩ := own_ints ho (by rw [srt_len]; exact HWL.out)
      cases e; exact h
    have HL3 : Hid (IntsAt .i64 W3 la (srt (zs.take c))) := by
      obtain ⟨a', c', e, h, _⟩ := own_ints HD3.out.leave (by rw [srt_len]; exact HWL.out)
      cases e; exact h
    have r1 : W3.cell? ⟨rd, 1, none⟩ = some (.slice la c lc) := cell_of HD3.out.round rfl
    clear ho hg HW HB2 HD1 HB3
    go_wp2_with fail
    refine (equal13_same la wa c lc wc (srt (zs.take c)) (by rw [srt_len]; exact HWL.out) W3 (by omega) HL3 HW3).mono ?_
    rintro e W4 ⟨rfl, q, hq⟩
    have HD4 : Hid (Done w W4 rd ob oc wb pb pc bs r A nx c n zs (.slice la c lc) (.slice ja c jc) js ps) := by rw [hq]; exact HD3.out.over ⟨rfl, rfl, rfl, Nat.le_refl _, fun _ _ => rfl⟩
    clear hq HD3 HW3 HL3 r1
    have r2 : W4.cell? ⟨rd, 2, none⟩ = some (.slice ja c jc) := cell_of HD4.out.round rfl
    go_wp2_with fail
    clear r2
    refine (clone8_any _ (n - c) (oc - c) (zs.drop c) HDL.out W4 (by omega) (ints_drop HD4.out.old c) (fun e => by cases e)).mono ?_
    rintro e W5 ⟨sv, rfl, ho, hg⟩
    obtain ⟨sa, sc, rfl, -⟩ := own_ints ho HDL.out
    have HB5 : Hid (Below W4.heap.size W4 W5) := (Below.refl _ _).grown hg (Nat.le_refl _) (fun k e => by cases e)
    have HW5 : Hid (World.ownsRow _ _ _ _ _ _ _) := ho
    clear ho hg
    go_wp2_with fail
    refine (sort_len W4.heap.size (n - c) _ (zs.drop c) HDL.out W5 (by omega) HW5.out).mono ?_
    rintro e W6 ⟨rfl, ho, hg⟩
    have HB6 : Hid (Below W4.heap.size W4 W6) := HB5.out.grown hg HB5.out.size (fun k e => (own_block HW5.out e).1)
    have HD6 : Hid (Done _ _ _ _ _ _ _ _ _ _ _ _ _ _ _ _ _ _ _) := HD4.out.over HB6.out
    have HS6 : Hid (World.ownsRow _ _ _ _ _ _ _) := ho
    clear ho hg HW5 HB5 HD4 HB6
    go_wp2_with fail
    have HD7 : Hid (Done w (W6.alloc (.map #[] 0)) rd ob oc wb pb pc bs r A nx c n zs (.slice la c lc) (.slice ja c jc) js ps) := HD6.out.over ((Below.refl _ _).alloc (Nat.le_refl _) _)
    have HS7 : Hid (World.ownsRow (W6.alloc (.map #[] 0)) W4.heap.size 2 1 (.slice sa (n - c) sc) (n - c) ((srt (zs.drop c)).map (Value.int .i64))) := World.ownsRow.alloc HS6.out _
    have HM7 : Hid ((W6.alloc (.map #[] 0)).heap[W6.heap.size]? = some (.map #[] 0)) := heap_new _ _
    have HN7 : Hid (w.heap.size ≤ W6.heap.size ∧ W6.heap.size < (W6.alloc (.map #[] 0)).heap.size ∧ (W6.alloc (.map #[] 0)).ownsMap (H := Unit) Try.prog 2 (plainElem Try.prog 3) W6.heap.size 0 (.map [])) := And.intro HD6.out.low.size (And.intro (by simp) (World.ownsMap_made _ _ _ _))
    generalize hW7 : W6.alloc (.map #[] 0) = W7 at HD7 HS7 HM7 HN7 ⊢
    generalize hmb : W6.heap.size = mb at HM7 HN7 ⊢
    clear hW7 hmb HD6 HS6
    refine (clone8_any _ (n - c) (oc - c) (zs.drop c) HDL.out W7 (by omega) (ints_drop HD7.out.old c) (fun e => by cases e)).mono ?_
    rintro e W8 ⟨av, rfl, ho, hg⟩
    obtain ⟨aa, ac, rfl, -⟩ := own_ints ho HDL.out
    have HLI : Hid (LI w W7 W8 mb zs js c 0 0 (.slice aa (n - c) ac) (.map [])) := by
      refine (⟨⟨hg.os, hg.tape, hg.output, hg.size, fun k hk _ => hg.block k hk (fun e => by cases e)⟩, map_heap HN7.out.2.2 (hg.block mb HN7.out.2.1 (fun e => by cases e)), ?_, HN7.out.2.1, ⟨_, _, HM7.out⟩, HN7.out.1⟩ : LI w W7 W8 mb zs js c 0 0 (.slice aa (n - c) ac) (.map []))
      rw [HD7.out.zl]
      simpa using ho
    have r2 : W8.cell? ⟨rd, 2, none⟩ = some (.slice ja c jc) := cell_of ((HLI.out.cells HD7.out.round).trans HD7.out.round) rfl
    clear ho hg HM7 HN7
    go_wp2_with fail
    clear r2
    go_loopw [19, 99] (fun av ct wr => ∃ (i : Nat) (D : DataW Unit), ct = .int .i64 i ∧ i ≤ c ∧ Hid (Tally D (js.take i)) ∧ Hid (LI w W7 wr mb zs js c i i av D)) (fun _ ct _ => c - (intOf ct).toNat)
    case atStart => exact ⟨0, .map [], rfl, by omega, fun v => by simp [cnt, DataW.atKey], HLI⟩
    case round =>
      clear HLI
      obtain ⟨i, D, rfl, hic, HT, HL⟩ := hrel
      by_cases hi : i < c
      · have HJL : Hid (js.length = c) := HD7.out.plain.len
        obtain ⟨jg, rfl⟩ : ∃ jg, ja = some ⟨jg, 0, none⟩ := by
          rcases HD7.out.joins.2 with ⟨_, h⟩ | ⟨g, cap, cur, h, _⟩
          · omega
          · cases h; exact ⟨_, rfl⟩
        have hjc : c ≤ jc := by
          rcases HD7.out.joins.2 with ⟨h, _⟩ | ⟨g, cap, cur, h, h1, h2, h3, _⟩
          · cases h
          · cases h; exact h3
        have HJ : Hid (World.ownsRow wr bs 43 2 (.slice (some ⟨jg, 0, none⟩) c jc) c (flat js)) := HL.out.own HD7.out.joins
        have hij : i < js.length := by rw [HJL.out]; exact hi
        have hnode : js[i].1 = wrap64 (nx + i) := HD7.out.plain.node i hij
        have q0 : wr.cell? ⟨jg, i * 2, none⟩ = some (.int .i64 (wrap64 (nx + i))) := by rw [← hnode]; exact (join_cell HJ.out hij (by rw [HJL.out]; omega)).1
        have q1 : wr.cell? ⟨jg, i * 2 + 1, none⟩ = some (.int .i64 js[i].2) := (join_cell HJ.out hij (by rw [HJL.out]; omega)).2
        have HND : Hid (js[i].1 = wrap64 (nx + i)) := hnode
        have HEN : Hid (js[i].2 ∈ zs.drop c) := HD7.out.plain.entry _ (List.getElem_mem hij)
        have hwv : (Lit.int .i64 js[i].2).wf = true := HH.out.2.2.2.2.2.2.2.1 _ (List.mem_of_mem_drop HEN.out)
        have htk : js.take (i + 1) = js.take i ++ [(wrap64 (nx + i), js[i].2)] := by
          rw [List.take_succ_eq_append_getElem hij, ← hnode]
        have HTK : Hid (_) := htk
        have hcap : decide (A < (cnt (js.take i ++ [(wrap64 (nx + i), js[i].2)]) js[i].2 : Int)) = false := by
          rw [← htk]
          have h1 : cnt (js.take (i + 1)) js[i].2 ≤ cnt js js[i].2 := (List.take_sublist _ _).countP_le
          have h2 := HD7.out.plain.cap js[i].2
          exact decide_eq_false (by omega)
        have hcb : (cnt (js.take i) js[i].2 : Int) ≤ 1048576 := by
          have h1 : cnt (js.take i) js[i].2 ≤ (js.take i).length := List.countP_le_length
          rw [List.length_take] at h1
          omega
        have hk63 : i < maxLen := by unfold maxLen; omega
        have hww : (Lit.int .i64 ((cnt (js.take i) js[i].2 : Int) + 1)).wf = true := WalkArith.wf_i64 (by omega)
        have HLA : Hid (LI w W7 (wr.alloc (.cells #[.int .i64 (wrap64 (nx + i)), .int .i64 js[i].2] 43)) mb zs js c i i u19 D) := HL.out.alloc _
        have HSA : Hid (IntsAt .i64 (wr.alloc (.cells #[.int .i64 (wrap64 (nx + i)), .int .i64 js[i].2] 43)) sa (srt (zs.drop c))) := by
          obtain ⟨a', c', e, h, _⟩ := own_ints (HLA.out.own HS7.out) (by rw [srt_len]; exact HDL.out)
          cases e; exact h
        have HM : Hid (World.ownsMap _ _ _ _ _ _ _) := HLA.out.map
        have HD : Hid (IsMap D) := World.ownsMap.isMap HM.out
        have hmbl : mb < wr.heap.size := Nat.lt_of_lt_of_le HL.out.lmb HL.out.keeps.size
        have HZL : Hid (zs.length = n) := HD7.out.zl
        have h63 : zs.length - c + i + 1 ≤ maxLen := by unfold maxLen; rw [HZL.out]; omega
        have hby2 : (zs.length - c + i + 1) * 8 ≤ 140737488355328 := by rw [HZL.out]; omega
        obtain ⟨i0, hi2, hz0, hz1, hz2⟩ := info_parts Try.info2
        clear hnode htk
        go_wp2_with fail
        refine (bsearch_hit sa (n - c) sc (srt (zs.drop c)) (by rw [srt_len]; exact HDL.out) _ _ (by omega) HSA (srt_asc _) (srt_mem.2 HEN.out)).mono ?_
        rintro e wx ⟨⟨bk, rfl⟩, hwx⟩
        rw [hwx]
        clear hwx HSA
        have HT4 : Hid (Tally (D.put (.int .i64 js[i].2) (.lit (.int .i64 ((cnt (js.take i) js[i].2 : Int) + 1)))) (js.take i ++ [(wrap64 (nx + i), js[i].2)])) := tally_step HT.out HD.out
        generalize hv : js[i].2 = v at *
        go_wp2_with (first
          | (at_lookup; refine wpList_lookup_own_int _ rfl _ _ 41 rfl 2 3 .i64 (int_keyed Try.underlying2) Try.underlying41 Try.underlying3 (Try.zeroValue3 _) mb (i + 1) _ rfl HM4.out _ _ rfl (keyOf_int_mk Try.underlying2 hwv) ?_; intro cc hat _; obtain rfl := tally_eq HT4.out hat; clear hat)
          | (at_lookup; refine wpList_lookup_own_int _ rfl _ _ 41 rfl 2 3 .i64 (int_keyed Try.underlying2) Try.underlying41 Try.underlying3 (Try.zeroValue3 _) mb i D rfl HM.out _ _ rfl (keyOf_int_mk Try.underlying2 hwv) ?_; intro cc hat _; obtain rfl := tally_eq HT.out hat; clear hat)
          | (at_mapUpdate; refine wpList_mapUpdate_own _ rfl _ _ _ 41 rfl 2 3 (int_keyed Try.underlying2) Try.underlying41 _ mb i _ rfl HM.out hk63 _ _ _ rfl rfl (keyOf_int_mk Try.underlying2 hwv) _ [] (plainElem_int Try.underlying3 hww) ?_; intro w4 hown4 hgrow4; have z0 : w4.cell? ⟨wr.heap.size, 0, none⟩ = some (.int .i64 (wrap64 (nx + i))) := hgrow4.cell (cell_of (heap_new _ _) rfl) (by simp; omega); have z1 : w4.cell? ⟨wr.heap.size, 1, none⟩ = some (.int .i64 v) := hgrow4.cell (cell_of (heap_new _ _) rfl) (by simp; omega); have HL4 : Hid (LI _ _ _ _ _ _ _ _ _ _ _) := HLA.out.mapped hown4 hgrow4; have HM4 : Hid (World.ownsMap _ _ _ _ _ _ _) := hown4; clear hown4 hgrow4)
          | (at_builtin; refine wpList_append_own _ rfl _ _ 27 rfl W7.heap.size 2 i0 (.int .i64 0) 1 8 Try.underlying27 hi2 hz0 hz1 hz2 rfl (by decide) u19 (zs.length - c + i) _ rfl (HL4.out.alloc _).after ⟨w4.heap.size, 0, none⟩ 1 1 [.int .i64 (wrap64 (nx + i))] rfl rfl (one_new _ _ _) (by simp [Value.oneCell']) h63 hby2 (by simp; have := HL4.out.keeps.size; omega) ?_; intro v' w6 hown6 hgr6 hnl; have HL6 : Hid (LI _ _ _ _ _ _ _ _ _ _ _) := (HL4.out.alloc _).joined hij (by rw [HND.out]; exact hown6) hgr6; clear hown6 hgr6 hnl))
        exact ⟨⟨i + 1, _, by go_num, by omega, by rw [HTK.out]; exact HT4, HL6⟩, by simp [intOf]; omega⟩
      · have hic2 : i = c := by omega
        subst hic2
        obtain ⟨x0, x1, x3, x4, hnet⟩ := HD7.out.net
        have c2 : wr.cell? ⟨wb, 2, none⟩ = some (.slice (some ⟨pb, 0, none⟩) n pc) := cell_of ((HL.out.cells hnet).trans hnet) rfl
        clear hnet
        go_wp2_with fail
        refine (present_any wb _ wr c2 ⟨_, _, _, rfl⟩).mono ?_
        rintro e wx ⟨rfl, hwx⟩
        rw [hwx]
        clear hwx c2
        have hrl : (js.map (fun p => p.1) ++ ps.drop i).length = n := by
          rw [List.length_append, List.length_map, List.length_drop, HD7.out.plain.len, HD7.out.plain.pl, HD7.out.zl]; omega
        have HRL : Hid (_) := hrl
        clear hrl
        go_wp2_with fail
        refine (clone8_any _ n pc (js.map (fun p => p.1) ++ ps.drop i) HRL.out wr (by omega) (ints_of_row (HL.out.row HD7.out.row)) (fun e => by cases e)).mono ?_
        rintro e X1 ⟨gv, rfl, ho1, hg1⟩
        obtain ⟨ga, gc, rfl, -⟩ := own_ints ho1 HRL.out
        have hal : (zs.drop i ++ (js.take i).map (fun p => p.1)).length = n := by
          rw [List.length_append, List.length_map, List.length_drop, List.length_take, HD7.out.plain.len, HD7.out.zl]; omega
        have haf : wr.ownsRow W7.heap.size 2 1 u19 n ((zs.drop i ++ (js.take i).map (fun p => p.1)).map (Value.int .i64)) := by
          have h1 := HL.out.after
          rw [show zs.length - i + i = n from by rw [HD7.out.zl]; omega] at h1
          exact h1
        obtain ⟨aa2, ac2, hu, -⟩ := own_ints haf hal
        subst hu
        have HAL : Hid (_) := hal
        have hnw : ∀ k, (Value.slice aa2 n ac2).ownBlock = some k → k < wr.heap.size := fun k hk => by obtain ⟨_, cur, h1⟩ := own_block haf hk; exact lt_of_heap h1
        have HNW : Hid (_) := hnw
        have HF1 : Hid (World.ownsRow X1 _ _ _ _ _ _) := owns_heap haf (fun k hk => hg1.block k (hnw k hk) (fun e => by cases e))
        have HB1 : Hid (Below w.heap.size w X1) := (HL.out.low HD7.out.low).grown hg1 (Nat.le_trans HD7.out.low.size HL.out.keeps.size) (fun k e => by cases e)
        have HO1 : Hid (World.ownsRow _ _ _ _ _ _ _) := ho1
        clear hal haf hnw ho1 hg1
        go_wp2_with fail
        refine (sort_len wr.heap.size n _ _ HRL.out X1 (by omega) HO1.out).mono ?_
        rintro e X2 ⟨rfl, ho2, hg2⟩
        have HF2 : Hid (World.ownsRow X2 _ _ _ _ _ _) := owns_heap HF1.out (fun k hk => hg2.block k (by obtain ⟨_, cur, h1⟩ := own_block HF1.out hk; exact lt_of_heap h1) (fun e => by have h1 := (own_block HO1.out e.symm).1; have h2 := HNW.out k hk; omega))
        have HB2 : Hid (Below w.heap.size w X2) := HB1.out.grown hg2 HB1.out.size (fun k e => Nat.le_trans (Nat.le_trans HD7.out.low.size HL.out.keeps.size) (own_block HO1.out e).1)
        have HO2 : Hid (World.ownsRow _ _ _ _ _ _ _) := ho2
        clear ho2 hg2 HF1 HB1 HO1
        go_wp2_with fail
        refine (sort_len W7.heap.size n _ _ HAL.out X2 (by omega) HF2.out).mono ?_
        rintro e X3 ⟨rfl, ho3, hg3⟩
        have HB3 : Hid (Below w.heap.size w X3) := HB2.out.grown hg3 HB2.out.size (fun k e => Nat.le_trans HD7.out.low.size (own_block HF2.out e).1)
        have ho4 := owns_heap HO2.out (fun k hk => hg3.block k (by obtain ⟨_, cur, h1⟩ := own_block HO2.out hk; exact lt_of_heap h1) (fun e => by have h1 := (own_block HO2.out hk).1; have h2 := HNW.out k e.symm; omega))
        have hpm : srt (zs.drop i ++ (js.take i).map (fun p => p.1)) = srt (js.map (fun p => p.1) ++ ps.drop i) := by
          refine srt_of_perm ?_
          rw [List.take_of_length_le (by rw [HD7.out.plain.len]; omega)]
          exact List.perm_append_comm.trans (List.Perm.append_left _ HD7.out.plain.perm.symm)
        rw [hpm] at ho3
        have I1 : Hid (IntsAt .i64 X3 ga (srt (js.map (fun p => p.1) ++ ps.drop i))) := by
          obtain ⟨a', c', e, h, _⟩ := own_ints ho4 (by rw [srt_len]; exact HRL.out)
          cases e; exact h
        have I2 : Hid (IntsAt .i64 X3 aa2 (srt (js.map (fun p => p.1) ++ ps.drop i))) := by
          obtain ⟨a', c', e, h, _⟩ := own_ints ho3 (by rw [srt_len]; exact HRL.out)
          cases e; exact h
        clear ho3 ho4 hg3 hpm HO2 HF2 HB2
        go_wp2_with fail
        refine (equal13_same ga aa2 n gc ac2 _ (by rw [srt_len]; exact HRL.out) X3 (by omega) I1 I2).mono ?_
        rintro e X4 ⟨rfl, q, hq⟩
        have HB4 : Hid (Below w.heap.size w X4) := by rw [hq]; exact (HB3.out.trans ⟨rfl, rfl, rfl, Nat.le_refl _, fun _ _ => rfl⟩ : Below w.heap.size w (X3.drewN q))
        clear hq HB3 I1 I2
        go_wp2_with fail
        go_ret
        exact ⟨rfl, HB4.out⟩
set_option maxHeartbeats 800000 in
theorem law_past (a0 : Option Addr) (n cap0 : Nat) (c A nx r : Int) (a5 : Option Addr) (n5 cap5 : Nat) (w : World) (hA1 : -9223372036854775808 ≤ A) (hA2 : A ≤ 9223372036854775807) (hc : c ≤ 9223372036854775807)
    (h : 1048576 < n ∨ 1048576 < n5 ∨ c < 0 ∨ (n : Int) ≤ c ∨ holdsB A n c = false) :
    Calls Try.prog 4 #[.slice a0 n cap0, .int .i64 c, .int .i64 A, .int .i64 nx, .int .i64 r, .slice a5 n5 cap5] w fun e w' => Fine w e w' := by
  by_cases h1 : 1048576 < n
  · have kd1 : decide (1048576 < (n : Int)) = true := decide_eq_true (by omega)
    clear h
    go_enter Try.func4, Try.ntmps4
    go_wp2_with fail
    go_ret
    exact ⟨rfl, Below.refl _ _⟩
  · have kd1 : decide (1048576 < (n : Int)) = false := decide_eq_false (by omega)
    by_cases h2 : 1048576 < n5
    · have kd2 : decide (1048576 < (n5 : Int)) = true := decide_eq_true (by omega)
      clear h
      go_enter Try.func4, Try.ntmps4
      go_wp2_with fail
      go_ret
      exact ⟨rfl, Below.refl _ _⟩
    · have kd2 : decide (1048576 < (n5 : Int)) = false := decide_eq_false (by omega)
      by_cases h3 : c < 0
      · have kd3 : decide (c < 0) = true := decide_eq_true h3
        clear h
        go_enter Try.func4, Try.ntmps4
        go_wp2_with fail
        go_ret
        exact ⟨rfl, Below.refl _ _⟩
      · have kd3 : decide (c < 0) = false := decide_eq_false h3
        by_cases h4 : (n : Int) ≤ c
        · have kd4 : decide ((n : Int) ≤ c) = true := decide_eq_true h4
          clear h
          go_enter Try.func4, Try.ntmps4
          go_wp2_with fail
          go_ret
          exact ⟨rfl, Below.refl _ _⟩
        · have kd4 : decide ((n : Int) ≤ c) = false := decide_eq_false h4
          have HO : Hid (holdsB A n c = false) := by
            rcases h with h | h | h | h | h
            · exact absurd h h1
            · exact absurd h h2
            · exact absurd h h3
            · exact absurd h h4
            · exact h
          clear h
          go_enter Try.func4, Try.ntmps4
          go_wp2_with fail
          refine (holds_any A n c hA1 hA2 (by omega) (by omega) (by omega) w).mono ?_
          rintro e w' ⟨rfl, hw'⟩
          rw [HO.out, hw']
          clear hw'
          go_wp2_with fail
          go_ret
          exact ⟨rfl, Below.refl _ _⟩
end Go.Proofs.Qxb6003311a
