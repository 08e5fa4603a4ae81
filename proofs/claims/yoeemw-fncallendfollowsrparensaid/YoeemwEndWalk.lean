/-
  FnCallEndFollowsRParen (6): the walk.
-/
import Derived.Test.YoeemwChain
namespace Go.Proofs.Yoeemw
open Go.RowKit

set_option maxHeartbeats 800000 in
theorem end6 (s : ByteArray) (a : Option Addr) (c : Nat) (ss : List ByteArray) (p l r el D : Int) (w : World)
    (hs : s.size ≤ maxLen) (hn : ss.length ≤ maxLen) (hz : ∀ t ∈ ss, t.size ≤ maxLen) (hr1 : -9223372036854775808 ≤ r) (hr2 : r ≤ 9223372036854775807) (hS : Strs w a ss) :
    Calls Eemg.prog 6 #[.string s, .slice a ss.length c, .int .i64 p, .int .i64 l, .int .i64 r, .int .i64 el, .int .i64 D] w fun e w' => e = .returned (.bool true) ∧ Below w.heap.size w w' := by
  have HB := bytes17 s a c ss p l r el D w hs hn hz hS
  go_enter Eemg.func6, Eemg.ntmps6
  go_wp2_with fail
  refine HB.mono ?_
  clear HB
  rintro e w' ⟨⟨b, rfl, hb⟩, hw⟩
  rw [hw]; clear hw
  cases b with
  | false =>
    go_wp2_with fail
    go_ret
    exact ⟨rfl, Below.refl _ _⟩
  | true =>
  have hsm := hb rfl
  clear hb hz
  have H8 := size8 s a c ss w hs hn hsm.2 hS
  unfold maxLen at hs hn
  rcases (show 65536 < s.size ∨ s.size ≤ 65536 from by omega) with g1n | g1
  · have g1' : (65536 : Int) < (s.size : Int) := by omega
    go_wp2_with fail
    go_ret
    exact ⟨rfl, Below.refl _ _⟩
  rcases (show 65536 < ss.length ∨ ss.length ≤ 65536 from by omega) with g2n | g2
  · have g2' : (65536 : Int) < (ss.length : Int) := by omega
    go_wp2_with fail
    go_ret
    exact ⟨rfl, Below.refl _ _⟩
  go_wp2_with fail
  refine H8.mono ?_
  clear H8 hsm
  rintro e w' ⟨⟨b, rfl, hb⟩, hw⟩
  rw [hw]; clear hw hb
  cases b with
  | false =>
    go_wp2_with fail
    go_ret
    exact ⟨rfl, Below.refl _ _⟩
  | true =>
  rcases (show 9223372036854775807 ≤ r ∨ r < 9223372036854775807 from by omega) with g5n | g5
  · have g5' : (r == 9223372036854775807) = true := beq_iff_eq.2 (by omega)
    go_wp2_with fail
    go_ret
    exact ⟨rfl, Below.refl _ _⟩
  have g5' : (r == 9223372036854775807) = false := beq_eq_false_iff_ne.2 (by omega)
  rcases (show D < 1 ∨ 1 ≤ D from by omega) with g3n | g3
  · have g3' : D < 1 := by omega
    go_wp2_with fail
    go_ret
    exact ⟨rfl, Below.refl _ _⟩
  rcases (show 65536 < D ∨ D ≤ 65536 from by omega) with g4n | g4
  · have g4' : 65536 < D := by omega
    go_wp2_with fail
    go_ret
    exact ⟨rfl, Below.refl _ _⟩
  have H9 := copy9 a c ss w g2 hS
  go_wp2_with fail
  refine H9.mono ?_
  clear H9
  rintro e w1 ⟨⟨a1, c1, rfl, hS1⟩, hb1⟩
  have H10 := args10 a1 c1 ss w1 g2 hS1
  go_wp2_with fail
  refine H10.mono ?_
  clear H10
  rintro e w2 ⟨⟨a2, c2, rfl, hE⟩, hb2⟩
  clear hE hS1
  have B2 : Below w.heap.size w w2 := hb1.trans (hb2.mono hb1.size)
  clear hb1 hb2
  by_cases g6 : D = 1
  · have g6' : (D == 1) = true := beq_iff_eq.2 g6
    clear g6
    go_wp2
    go_ret
    have hsz := B2.size
    exact ⟨rfl, (((B2.alloc hsz _).alloc (by simp; omega) _).alloc (by simp; omega) _).alloc (by simp; omega) _⟩
  · have g6' : (D == 1) = false := beq_eq_false_iff_ne.2 g6
    have H13 := fun wx => chain13 s p l l el a2 ss.length c2 65536 (D - 1) wx (by omega) (by omega) (by omega)
    go_wp2_with fail
    refine (H13 _).mono ?_
    clear H13
    rintro e w3 ⟨⟨d, b, rfl, hch⟩, hb3⟩
    have c0 : w3.cell? ⟨w2.heap.size, 0, none⟩ = some .nilIface := by rw [hb3.cell (by simp)]; simp
    have c4 : w3.cell? ⟨w2.heap.size, 4, none⟩ = some (.int .i64 r) := by rw [hb3.cell (by simp)]; simp
    have f0 : w3.frozen? ⟨w2.heap.size, 0, none⟩ = false := by rw [hb3.frozen (by simp)]; simp
    have hlt : w2.heap.size < w3.heap.size := by have := hb3.size; simp at this; omega
    have hsz := B2.size
    have B3 : Below w.heap.size w w3 := (B2.alloc hsz _).trans (hb3.mono (by simp; omega))
    clear hch hb3 B2
    go_wp2
    go_ret
    exact ⟨rfl, ((B3.setCell (p := ⟨w2.heap.size, 0, none⟩) hsz _).alloc (by simp; omega) _).alloc (by simp; omega) _⟩
end Go.Proofs.Yoeemw
