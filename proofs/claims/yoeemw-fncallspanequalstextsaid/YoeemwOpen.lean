/-
  What the four rows share: a slice of strings that came in, opened for the walks.
-/
import Derived.Test.YoeemwBase
import Derived.ProofKit
import Derived.SliceStrings
namespace Go.Proofs.Yoeemw
open Go.ChangeShapes Go.WideShapes Go.ChangeAt Go.RowKit

theorem Eemg.own : ownKnob Eemg.prog.godebug = none := by kernel_rfl
theorem Eemg.laidOut : laidOutB Eemg.prog = true := by kernel_rfl
theorem Eemg.cells9 : Eemg.prog.cellsOf 9 = 1 := by kernel_rfl

/-- A slice of strings that came in: its elements as a list. -/
theorem open_args {H : Type} {enc : TypeId × Value → H} {W : World} {a : Option Addr} {len cap : Nat} {d : DataW H} {p : List MemPlace} {base : Nat} {sp : Nat → Bool} {held : Bool}
    (h : DataW.Trod enc Eemg.prog W base sp held 22 (.slice a len cap) d p) :
    ∃ ss : List ByteArray, ss.length = len ∧ ss.length ≤ maxLen ∧ (∀ t ∈ ss, t.size ≤ maxLen) ∧ Strs W a ss := by
  obtain ⟨fuel, hf⟩ := h
  rcases open_strings Eemg.underlying22 Eemg.underlying9 Eemg.cells9 hf with ⟨hcs, hx⟩ | ⟨x, l, c, ss, hcs, _, hl, hm, hz, hx, hcell, hws⟩
  · simp [Value.cells] at hcs
    obtain ⟨rfl, rfl, rfl⟩ := hcs
    exact ⟨[], rfl, by simp, by simp, .inl rfl⟩
  · simp [Value.cells] at hcs
    obtain ⟨rfl, rfl, rfl⟩ := hcs
    have hls : len ≤ ss.length := by rw [hz]; split <;> omega
    have hlen : (ss.take len).length = len := by simp; omega
    refine ⟨ss.take len, hlen, by omega, fun t ht => hws t (List.mem_of_mem_take ht), ?_⟩
    by_cases h0 : len = 0
    · subst h0; exact .inl (by simp)
    · obtain ⟨b, off, spot⟩ := x
      have hc0 := hcell 0 (by omega)
      have hspot : spot = none := by simpa [Addr.add] using World.cell?_spot hc0
      subst hspot
      refine .inr ⟨b, off, rfl, ?_, fun i hi => ?_⟩
      · exact World.block_lt_of_cell? W _ hc0
      · rw [hlen] at hi
        rw [← add_plain, hcell i (by omega)]
        simp [List.getD, hi]
end Go.Proofs.Yoeemw
