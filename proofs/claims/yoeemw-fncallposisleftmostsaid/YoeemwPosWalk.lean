/-
  FnCallPosIsLeftmost (4): the walk.
-/
import Derived.Test.YoeemwChain
namespace Go.Proofs.Yoeemw
open Go.RowKit

set_option maxHeartbeats 800000 in
theorem pos4 (s : ByteArray) (a : Option Addr) (c : Nat) (ss : List ByteArray) (p l r el D : Int) (w : World)
    (hs : s.size ≤ maxLen) (hn : ss.length ≤ maxLen) (hz : ∀ t ∈ ss, t.size ≤ maxLen) (hS : Strs w a ss) :
    Calls Eemg.prog 4 #[.string s, .slice a ss.length c, .int .i64 p, .int .i64 l, .int .i64 r, .int .i64 el, .int .i64 D] w fun e w' => e = .returned (.bool true) ∧ Below w.heap.size w w' := by
  have HB := bytes12 s a c ss p l r el D w hs hn hz hS
  go_enter Eemg.func4, Eemg.ntmps4
  go_wp2_with fail
  refine HB.mono ?_
  clear HB
  rintro e w' ⟨⟨b, rfl, hb⟩, hw⟩
  rw [hw]; clear hw
  cases b with
  | false =>
    go_wp2_with fail
    go_ret
    exact ⟨rfl, Below.refl _ _⟩
  | true =>
  have hsm := hb rfl
  clear hb hz
  have H8 := size8 s a c ss w hs hn hsm.2 hS
  unfold maxLen at hs hn
  rcases (show 65536 < s.size ∨ s.size ≤ 65536 from by omega) with g1n | g1
  · have g1' : (65536 : Int) < (s.size : Int) := by omega
    go_wp2_with fail
    go_ret
    exact ⟨rfl, Below.refl _ _⟩
  rcases (show 65536 < ss.length ∨ ss.length ≤ 65536 from by omega) with g2n | g2
  · have g2' : (65536 : Int) < (ss.length : Int) := by omega
    go_wp2_with fail
    go_ret
    exact ⟨rfl, Below.refl _ _⟩
  go_wp2_with fail
  refine H8.mono ?_
  clear H8 hsm
  rintro e w' ⟨⟨b, rfl, hb⟩, hw⟩
  rw [hw]; clear hw hb
  cases b with
  | false =>
    go_wp2_with fail
    go_ret
    exact ⟨rfl, Below.refl _ _⟩
  | true =>
  rcases (show D < 1 ∨ 1 ≤ D from by omega) with g3n | g3
  · have g3' : D < 1 := by omega
    go_wp2_with fail
    go_ret
    exact ⟨rfl, Below.refl _ _⟩
  rcases (show 65536 < D ∨ D ≤ 65536 from by omega) with g4n | g4
  · have g4' : 65536 < D := by omega
    go_wp2_with fail
    go_ret
    exact ⟨rfl, Below.refl _ _⟩
  have H9 := copy9 a c ss w g2 hS
  go_wp2_with fail
  refine H9.mono ?_
  clear H9
  rintro e w1 ⟨⟨a1, c1, rfl, hS1⟩, hb1⟩
  have H10 := args10 a1 c1 ss w1 g2 hS1
  go_wp2_with fail
  refine H10.mono ?_
  clear H10
  rintro e w2 ⟨⟨a2, c2, rfl, hE⟩, hb2⟩
  clear hE hS1
  have H13 := chain13 s p l r el a2 ss.length c2 65536 D w2 g3 (by omega) g4
  go_wp2_with fail
  refine H13.mono ?_
  clear H13
  rintro e w3 ⟨⟨d, b, rfl, hch⟩, hb3⟩
  have H14 := pos14 p _ d b w3 hch
  go_wp2_with fail
  refine H14.mono ?_
  clear H14 hch
  rintro e w' ⟨rfl, hw⟩
  rw [hw]; clear hw
  go_wp2_with fail
  go_ret
  exact ⟨rfl, (hb1.trans (hb2.mono hb1.size)).trans (hb3.mono (Nat.le_trans hb1.size hb2.size))⟩
end Go.Proofs.Yoeemw
