/- A []string that came in, opened once into what the walks ask. -/
import Derived.Test.Qxb6602956aLeaf
import Derived.Deep.Strs
namespace Go.Proofs.Qxb6602956a
open Go.ChangeShapes Go.WideShapes Go.ChangeAt Go.RowKit

theorem Try.cells9 : Try.prog.cellsOf 9 = 1 := by kernel_rfl
theorem Try.own : ownKnob Try.prog.godebug = none := by kernel_rfl
theorem Try.laidOut : laidOutB Try.prog = true := by kernel_rfl

/-- what the walk is told of a []string: n strings lie behind its address; nil has none; each is a string that Go can hold -/
def IsStrs (W : World) (a : Option Addr) (n : Nat) (Sx : Nat → ByteArray) : Prop :=
  n ≤ maxLen ∧ Hid (StrsAt W a n Sx) ∧ (∀ i, i < n → (Sx i).size ≤ maxLen) ∧ (a = none → n = 0)

theorem open_strs_arg {H : Type} {enc : TypeId × Value → H} {W : World} {sp : Nat → Bool} {held : Bool} {a : Option Addr} {n c : Nat} {d : DataW H} {ps : List MemPlace}
    (h : DataW.Trod enc Try.prog W 0 sp held 22 (.slice a n c) d ps) (hlt : ∀ x ∈ ps, x.block < W.heap.size) : ∃ Sx, IsStrs W a n Sx := by
  obtain ⟨fuel, hf⟩ := h
  rcases Go.Deep.open_strs Try.underlying22 Try.underlying9 Try.cells9 hf with ⟨hcs, _⟩ | ⟨x, l, cc, m, Sx, hcs, _, hl, hm, hmm, hx, hcell⟩
  · simp [Value.cells] at hcs
    obtain ⟨rfl, rfl, rfl⟩ := hcs
    exact ⟨fun _ => ByteArray.empty, Nat.zero_le _, .inl rfl, fun i hi => absurd hi (Nat.not_lt_zero _), fun _ => rfl⟩
  · simp [Value.cells] at hcs
    obtain ⟨rfl, rfl, rfl⟩ := hcs
    have hlm : n ≤ m := by rw [hmm]; split <;> omega
    refine ⟨Sx, by omega, ?_, fun i hi => (hcell i (by omega)).2, fun h => by cases h⟩
    by_cases h0 : n = 0
    · exact .inl h0
    · right
      obtain ⟨b, off, spot⟩ := x
      have hspot : spot = none := by simpa [Addr.add] using World.cell?_spot (hcell 0 (by omega)).1
      subst hspot
      refine ⟨b, off, rfl, ?_, fun i hi => by rw [← add_plain]; exact (hcell i (by omega)).1⟩
      have hps : ps = MemPlace.row ⟨b, off, none⟩ m := congrArg Prod.snd hx
      exact hlt (.cell b off) (by rw [hps]; exact MemPlace.mem_row.2 ⟨0, by omega, by simp⟩)
end Go.Proofs.Qxb6602956a
