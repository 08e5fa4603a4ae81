/-
  FnCallEllipsisOnlyAddsDots (3): the walk.
-/
import Derived.Test.YoeemwMade
import Derived.Deep.QuietTactic
import Derived.BigQuiet
namespace Go.Proofs.Yoeemw
open Go.RowKit

set_option maxHeartbeats 1600000 in
theorem dots3 (s : ByteArray) (a : Option Addr) (c : Nat) (ss : List ByteArray) (el : Int) (w : World)
    (hs : s.size ≤ maxLen) (hn : ss.length ≤ maxLen) (hz : ∀ t ∈ ss, t.size ≤ maxLen) (hS : Strs w a ss) :
    Calls Eemg.prog 3 #[.string s, .slice a ss.length c, .int .i64 el] w fun e w' => e = .returned (.bool true) ∧ Below w.heap.size w w' := by
  have HB := bytes7 s a c ss el w hs hn hz hS
  go_enter Eemg.func3, Eemg.ntmps3
  go_wp2_with fail
  refine HB.mono ?_
  clear HB
  rintro e w' ⟨⟨b, rfl, hb⟩, hw⟩
  rw [hw]; clear hw
  cases b with
  | false =>
    go_wp2_with fail
    go_ret
    exact ⟨rfl, Below.refl _ _⟩
  | true =>
  have hsm := hb rfl
  clear hb hz
  have H8 := size8 s a c ss w hs hn hsm.2 hS
  unfold maxLen at hs hn
  rcases (show 65536 < s.size ∨ s.size ≤ 65536 from by omega) with g1n | g1
  · have g1' : (65536 : Int) < (s.size : Int) := by omega
    go_wp2_with fail
    go_ret
    exact ⟨rfl, Below.refl _ _⟩
  rcases (show 65536 < ss.length ∨ ss.length ≤ 65536 from by omega) with g2n | g2
  · have g2' : (65536 : Int) < (ss.length : Int) := by omega
    go_wp2_with fail
    go_ret
    exact ⟨rfl, Below.refl _ _⟩
  go_wp2_with fail
  refine H8.mono ?_
  clear H8 hsm
  rintro e w' ⟨⟨b, rfl, hb⟩, hw⟩
  rw [hw]; clear hw
  cases b with
  | false =>
    go_wp2_with fail
    go_ret
    exact ⟨rfl, Below.refl _ _⟩
  | true =>
  have hfit := (hb rfl).2
  clear hb
  by_cases g5 : el = 0
  · have g5' : (el == 0) = true := beq_iff_eq.2 g5
    clear g5
    go_wp2_with fail
    go_ret
    exact ⟨rfl, Below.refl _ _⟩
  have g5' : (el == 0) = false := beq_eq_false_iff_ne.2 g5
  have G5 : Hid (el ≠ 0) := g5
  clear g5
  have H9 := copy9 a c ss w g2 hS
  go_wp2_with fail
  refine H9.mono ?_
  clear H9
  rintro e w1 ⟨⟨a1, c1, rfl, hS1⟩, hb1⟩
  have Bi : Below w1.heap.size w1 (w1.alloc (.cells #[.string s, .int .i64 1] 30)) := (Below.refl _ _).alloc (Nat.le_refl _) _
  have H10 := args10 a1 c1 ss _ g2 (hS1.kept Bi)
  clear Bi
  go_wp2_with fail
  refine H10.mono ?_
  clear H10
  rintro e w2 ⟨⟨a2, c2, rfl, hE⟩, hb2⟩
  have C1 := call_made (v1 := .int .i64 0) (v4 := .int .i64 0) (c := c2) (el := 0) hb2 hE
  have hs12 : w1.heap.size + 1 ≤ w2.heap.size := by have := hb2.size; simp at this; omega
  have B12 : Below w1.heap.size w1 w2 := ((Below.refl _ _).alloc (Nat.le_refl _) _).trans (hb2.mono (by simp))
  have B13 : Below w1.heap.size w1 ((w2.alloc (.cells #[.iface 27 (.pointer (some ⟨w1.heap.size, 0, none⟩)), .int .i64 0, .slice a2 ss.length c2, .int .i64 0, .int .i64 0] 36)).alloc (.cells #[.string s, .int .i64 1] 30)) := (B12.alloc (by omega) _).alloc (by simp; omega) _
  have H10 := args10 a1 c1 ss _ g2 (hS1.kept B13)
  clear hb2 hE
  go_wp2_with fail
  refine H10.mono ?_
  clear H10
  rintro e w4 ⟨⟨a4, c4, rfl, hE4⟩, hb4⟩
  have C2 := call_made (v1 := .int .i64 0) (v4 := .int .i64 0) (c := c4) (el := el) hb4 hE4
  have hs24 : w2.heap.size + 2 ≤ w4.heap.size := by have := hb4.size; simp at this; omega
  have B4 : Below w.heap.size w w4 := (hb1.trans (B13.mono hb1.size)).trans (hb4.mono (by simp; have := hb1.size; omega))
  have C1' := (C1.kept ((Below.refl _ _).alloc (Nat.le_refl _) (.cells #[.string s, .int .i64 1] 30))).kept hb4
  have C1'' := C1'.kept ((Below.refl _ _).alloc (Nat.le_refl _) (.cells #[.iface 27 (.pointer (some ⟨w2.heap.size + 1, 0, none⟩)), .int .i64 0, .slice a4 ss.length c4, .int .i64 el, .int .i64 0] 36))
  simp only [World.size_alloc] at C2
  have S1 := str11 _ s ss 0 _ C1'' g2 (by omega) (by omega)
  have B5 := B4.alloc (by have := hb1.size; omega) (.cells #[.iface 27 (.pointer (some ⟨w2.heap.size + 1, 0, none⟩)), .int .i64 0, .slice a4 ss.length c4, .int .i64 el, .int .i64 0] 36)
  clear C1 C1' C1'' B12 B13 hb4 hE4 B4
  go_wp2_with fail
  refine S1.mono ?_
  clear S1
  rintro e w5 ⟨rfl, hb5⟩
  have S2 := str11 _ s ss el _ (C2.kept hb5) g2 (by omega) (by omega)
  have B6 := B5.trans (hb5.mono B5.size)
  clear C2 hb5 B5
  go_wp2_with fail
  refine S2.mono ?_
  clear S2
  rintro e w6 ⟨rfl, hb6⟩
  have B7 := B6.trans (hb6.mono B6.size)
  clear hb6 B6
  by_cases h0 : ss.length = 0
  · have h0' : ss = [] := List.eq_nil_of_length_eq_zero h0
    subst h0'
    have E := text_empty s el
    rw [E]
    clear E
    generalize text s [] 0 = q
    go_wp2_with fail
    go_ret
    exact ⟨rfl, B7⟩
  · have h0' : ((ss.length : Int) == 0) = false := beq_eq_false_iff_ne.2 (by omega)
    rw [text_spread s ss el (by omega) G5.out, text_plain]
    have hq := stem_size s ss
    generalize stem s ss = q at hq ⊢
    have hq2 : q.size ≤ 2000000 := by omega
    have z0 : (q ++ (⟨#[41]⟩ : ByteArray)).size = q.size + 1 := by rw [ByteArray.size_append]; rfl
    have z1 : (q ++ (⟨#[46, 46, 46, 41]⟩ : ByteArray)).size = q.size + 4 := by rw [ByteArray.size_append]; rfl
    have x0 := extract_head q ⟨#[41]⟩
    have x1 := extract_head q ⟨#[46, 46, 46, 41]⟩
    have y0 : (q ++ (⟨#[41]⟩ : ByteArray)).extract q.size (q.size + 1) = ⟨#[41]⟩ := extract_tail q ⟨#[41]⟩
    have y1 : (q ++ (⟨#[46, 46, 46, 41]⟩ : ByteArray)).extract q.size (q.size + 4) = ⟨#[46, 46, 46, 41]⟩ := extract_tail q ⟨#[46, 46, 46, 41]⟩
    generalize q ++ (⟨#[41]⟩ : ByteArray) = s0 at z0 x0 y0 ⊢
    generalize q ++ (⟨#[46, 46, 46, 41]⟩ : ByteArray) = s1 at z1 x1 y1 ⊢
    clear hq h0
    have t0 : ((q.size : Int) + 1 == 0) = false := beq_eq_false_iff_ne.2 (by omega)
    go_wp2_with fail
    go_quiet (fail)
    go_wp2_with fail
    go_ret
    exact ⟨rfl, below_drewN B7 _⟩
end Go.Proofs.Yoeemw
