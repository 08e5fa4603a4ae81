/-
  FnCallSpanEqualsText (5): the walk.
-/
import Derived.Test.YoeemwMade
import Derived.Test.YoeemwChain
namespace Go.Proofs.Yoeemw
open Go.RowKit

/-- How far the position has come behind k arguments. -/
def span (s : ByteArray) (ss : List ByteArray) (k : Nat) : Nat := s.size + 1 + total (ss.take k) + 2 * (k - 1)
theorem span_all (s : ByteArray) (ss : List ByteArray) : span s ss ss.length = (stem s ss).size := by
  rw [stem_size]; unfold span; rw [List.take_length]; omega
theorem span_next (s : ByteArray) (ss : List ByteArray) (k : Nat) (h : k < ss.length) : span s ss (k + 1) = span s ss k + (ss.getD k ByteArray.empty).size + (if k = 0 then 0 else 2) := by
  unfold span; rw [total_take ss k h]; split <;> omega

theorem total_take_le (ss : List ByteArray) (k : Nat) : total (ss.take k) ≤ total ss := by
  have h : total (ss.take k ++ ss.drop k) = total (ss.take k) + total (ss.drop k) := total_append _ _
  rw [List.take_append_drop] at h
  omega
theorem span_le (s : ByteArray) (ss : List ByteArray) (k : Nat) (h : k ≤ ss.length) : span s ss k ≤ s.size + 1 + total ss + 2 * ss.length := by
  have := total_take_le ss k
  unfold span; omega

theorem size_plain (s : ByteArray) (ss : List ByteArray) : (text s ss 0).size = (stem s ss).size + 1 := by
  rw [text_plain, ByteArray.size_append]; rfl
theorem size_spread (s : ByteArray) (ss : List ByteArray) (el : Int) (h : 0 < ss.length) (he : el ≠ 0) : (text s ss el).size = (stem s ss).size + 4 := by
  rw [text_spread s ss el h he, ByteArray.size_append]; rfl

/-- Such a call is a chain of one, its name at p. -/
theorem chain_made {w1 w2 : World} {s : ByteArray} {p : Int} {v1 v2 v3 v4 : Value}
    (hb : Below (w1.alloc (.cells #[.string s, .int .i64 p] 30)).heap.size (w1.alloc (.cells #[.string s, .int .i64 p] 30)) w2) :
    Chain (w2.alloc (.cells #[.iface 27 (.pointer (some ⟨w1.heap.size, 0, none⟩)), v1, v2, v3, v4] 36)) 0 p 0 w2.heap.size := by
  have hsz := hb.size
  simp only [World.size_alloc] at hsz
  have B : Below w2.heap.size w2 (w2.alloc (.cells #[.iface 27 (.pointer (some ⟨w1.heap.size, 0, none⟩)), v1, v2, v3, v4] 36)) := (Below.refl _ _).alloc (Nat.le_refl _) _
  refine ⟨Nat.zero_le _, by simp, w1.heap.size, by simp, Nat.zero_le _, by simp only [World.size_alloc]; omega, ?_⟩
  rw [B.cell (by show w1.heap.size < w2.heap.size; omega), hb.cell (by simp)]
  simp

theorem ret_true {b : Bool} (h : b = true) : Ending.returned (.bool b) = .returned (.bool true) := by rw [h]

/-- End, where nothing wraps. -/
theorem end16_in (r : Int) (b : Nat) (w : World) (h : w.cell? ⟨b, 4, none⟩ = some (.int .i64 r)) (h1 : 0 ≤ r) (h2 : r ≤ 4000000000) :
    Calls Eemg.prog 16 #[.pointer (some ⟨b, 0, none⟩)] w fun e w' => e = .returned (.int .i64 (r + 1)) ∧ w' = w := by
  go_enter Eemg.func16, Eemg.ntmps16
  go_wp2
  go_ret
  exact ⟨rfl, rfl⟩

set_option maxHeartbeats 3200000 in
theorem span5 (base : Int) (s : ByteArray) (a : Option Addr) (c : Nat) (ss : List ByteArray) (we : Bool) (w : World)
    (hs : s.size ≤ maxLen) (hn : ss.length ≤ maxLen) (hz : ∀ t ∈ ss, t.size ≤ maxLen) (hS : Strs w a ss) :
    Calls Eemg.prog 5 #[.int .i64 base, .string s, .slice a ss.length c, .bool we] w fun e w' => e = .returned (.bool true) ∧ Below w.heap.size w w' := by
  have HB := bytes15 s a c ss base we w hs hn hz hS
  go_enter Eemg.func5, Eemg.ntmps5
  go_wp2_with fail
  refine HB.mono ?_
  clear HB
  rintro e w' ⟨⟨b, rfl, hb⟩, hw⟩
  rw [hw]; clear hw
  cases b with
  | false =>
    go_wp2_with fail
    go_ret
    exact ⟨rfl, Below.refl _ _⟩
  | true =>
  have hsm := hb rfl
  clear hb hz
  have H8 := size8 s a c ss w hs hn hsm.2 hS
  unfold maxLen at hs hn
  rcases (show 65536 < s.size ∨ s.size ≤ 65536 from by omega) with g1n | g1
  · have g1' : (65536 : Int) < (s.size : Int) := by omega
    go_wp2_with fail
    go_ret
    exact ⟨rfl, Below.refl _ _⟩
  rcases (show 65536 < ss.length ∨ ss.length ≤ 65536 from by omega) with g2n | g2
  · have g2' : (65536 : Int) < (ss.length : Int) := by omega
    go_wp2_with fail
    go_ret
    exact ⟨rfl, Below.refl _ _⟩
  go_wp2_with fail
  refine H8.mono ?_
  clear H8
  rintro e w' ⟨⟨b, rfl, hb⟩, hw⟩
  rw [hw]; clear hw
  cases b with
  | false =>
    go_wp2_with fail
    go_ret
    exact ⟨rfl, Below.refl _ _⟩
  | true =>
  have hfit := (hb rfl).2
  have hall := hsm.2
  clear hb hsm
  rcases (show base < 1 ∨ 1 ≤ base from by omega) with g3n | g3
  · have g3' : base < 1 := by omega
    go_wp2_with fail
    go_ret
    exact ⟨rfl, Below.refl _ _⟩
  rcases (show 1073741824 < base ∨ base ≤ 1073741824 from by omega) with g4n | g4
  · have g4' : 1073741824 < base := by omega
    go_wp2_with fail
    go_ret
    exact ⟨rfl, Below.refl _ _⟩
  have H9 := copy9 a c ss w g2 hS
  go_wp2_with fail
  refine H9.mono ?_
  clear H9
  rintro e w1 ⟨⟨a1, c1, rfl, hS1⟩, hb1⟩
  have hb1s := hb1.size
  go_wp2_with fail
  go_loop [9, 11] (fun p i => ∃ k : Nat, k ≤ ss.length ∧ i = .int .i64 k ∧ p = .int .i64 (base + (span s ss k : Int))) (fun _ i => ss.length - (intOf i).toNat)
  case atStart => exact ⟨0, Nat.zero_le _, rfl, by simp [span, total]; omega⟩
  case round =>
    obtain ⟨k, hk, rfl, rfl⟩ := hrel
    have hsp := span_le s ss k hk
    by_cases hlt : k < ss.length
    · obtain ⟨b, off, rfl, hb, hc⟩ : ∃ b off, a1 = some ⟨b, off, none⟩ ∧ b < w1.heap.size ∧ ∀ i, i < ss.length → w1.cell? ⟨b, off + i, none⟩ = some (.string (ss.getD i ByteArray.empty)) := by
        rcases hS1 with rfl | h
        · simp at hlt
        · exact h
      obtain ⟨u, hu⟩ : ∃ u, u = ss.getD k ByteArray.empty := ⟨_, rfl⟩
      have hcell : w1.cell? ⟨b, off + k, none⟩ = some (.string u) := by rw [hu]; exact hc k hlt
      have hus : u.size ≤ 1048576 := by rw [hu]; exact hall _ (getD_mem ss k hlt)
      have HT := span_next s ss k hlt
      rw [← hu] at HT
      have HT' : Hid (span s ss (k + 1) = span s ss k + u.size + (if k = 0 then 0 else 2)) := HT
      clear hu hc HT hS1 hall
      generalize span s ss k = q at hsp HT' ⊢
      by_cases hk0 : 0 < k
      · go_wp2_with fail
        go_round
        case rel =>
          have h3 := HT'.out
          rw [if_neg (by omega)] at h3
          exact ⟨k + 1, by omega, by go_num, by rw [h3]; go_num⟩
        case measure => simp [intOf]; omega
      · go_wp2_with fail
        go_round
        case rel =>
          have h3 := HT'.out
          rw [if_pos (by omega)] at h3
          exact ⟨k + 1, by omega, by go_num, by rw [h3]; go_num⟩
        case measure => simp [intOf]; omega
    · have hk2 : k = ss.length := by omega
      subst hk2
      have hst := span_all s ss
      rw [hst] at hsp ⊢
      have hT0 := size_plain s ss
      have hT1 := fun el => size_spread s ss el
      clear hst
      generalize (stem s ss).size = q at hsp hT0 hT1 ⊢
      have Bi : ∀ v, Below w1.heap.size w1 (w1.alloc (.cells #[.string s, v] 30)) := fun _ => (Below.refl _ _).alloc (Nat.le_refl _) _
      have H10 := args10 a1 c1 ss _ g2 (hS1.kept (Bi (.int .i64 base)))
      clear Bi hS1
      by_cases hpos : 0 < ss.length
      · cases we with
        | true =>
          go_wp2_with fail
          refine H10.mono ?_
          clear H10
          rintro e w2 ⟨⟨a2, c2, rfl, hE⟩, hb2⟩
          have C1 := call_made (v1 := .int .i64 (base + (s.size : Int))) (v4 := .int .i64 (base + (q : Int) + 3)) (c := c2) (el := base + (q : Int)) hb2 hE
          have D1 := chain_made (v1 := .int .i64 (base + (s.size : Int))) (v2 := .slice a2 ss.length c2) (v3 := .int .i64 (base + (q : Int))) (v4 := .int .i64 (base + (q : Int) + 3)) hb2
          have hs12 : w1.heap.size + 1 ≤ w2.heap.size := by have := hb2.size; simp at this; omega
          have B2 : Below w.heap.size w w2 := (hb1.alloc hb1s _).trans (hb2.mono (by simp; omega))
          have B3 := B2.alloc (by omega) (.cells #[.iface 27 (.pointer (some ⟨w1.heap.size, 0, none⟩)), .int .i64 (base + (s.size : Int)), .slice a2 ss.length c2, .int .i64 (base + (q : Int)), .int .i64 (base + (q : Int) + 3)] 36)
          have S1 := str11 _ s ss (base + (q : Int)) _ C1 g2 (by omega) (by omega)
          have hTx := hT1 (base + (q : Int)) hpos (by omega)
          clear C1 hb2 hE B2 hT0 hT1
          go_wp2_with fail
          refine S1.mono ?_
          clear S1
          rintro e w3 ⟨rfl, hb3⟩
          have D3 : Chain w3 0 base 0 w2.heap.size := Chain.kept hb3.size (fun x _ hx => hb3.block x hx) 0 _ D1
          have e4 : w3.cell? ⟨w2.heap.size, 4, none⟩ = some (.int .i64 (base + (q : Int) + 3)) := by rw [hb3.cell (by simp)]; simp
          have P14 := pos14 base 0 0 _ w3 D3
          have E16 := end16_in (base + (q : Int) + 3) _ w3 e4 (by omega) (by omega)
          have B4 : Below w.heap.size w w3 := B3.trans (hb3.mono B3.size)
          clear D3 e4 hb3 B3 D1
          generalize text s ss (base + (q : Int)) = tx at hTx ⊢
          go_wp2_with fail
          refine P14.mono ?_
          rintro e w' ⟨rfl, hw⟩
          rw [hw]; clear hw
          go_wp2_with fail
          refine E16.mono ?_
          clear E16
          rintro e w' ⟨rfl, hw⟩
          rw [hw]; clear hw
          go_wp2_with fail
          refine P14.mono ?_
          clear P14
          rintro e w' ⟨rfl, hw⟩
          rw [hw]; clear hw
          go_wp2_with fail
          go_ret
          exact ⟨ret_true (b := base + (q : Int) + 3 + 1 - base == (q : Int) + 4) (beq_iff_eq.2 (by omega)), B4⟩
        | false =>
          go_wp2_with fail
          refine H10.mono ?_
          clear H10
          rintro e w2 ⟨⟨a2, c2, rfl, hE⟩, hb2⟩
          have C1 := call_made (v1 := .int .i64 (base + (s.size : Int))) (v4 := .int .i64 (base + (q : Int))) (c := c2) (el := 0) hb2 hE
          have D1 := chain_made (v1 := .int .i64 (base + (s.size : Int))) (v2 := .slice a2 ss.length c2) (v3 := .int .i64 (0)) (v4 := .int .i64 (base + (q : Int))) hb2
          have hs12 : w1.heap.size + 1 ≤ w2.heap.size := by have := hb2.size; simp at this; omega
          have B2 : Below w.heap.size w w2 := (hb1.alloc hb1s _).trans (hb2.mono (by simp; omega))
          have B3 := B2.alloc (by omega) (.cells #[.iface 27 (.pointer (some ⟨w1.heap.size, 0, none⟩)), .int .i64 (base + (s.size : Int)), .slice a2 ss.length c2, .int .i64 (0), .int .i64 (base + (q : Int))] 36)
          have S1 := str11 _ s ss (0) _ C1 g2 (by omega) (by omega)
          have hTx := hT0
          clear C1 hb2 hE B2 hT0 hT1
          go_wp2_with fail
          refine S1.mono ?_
          clear S1
          rintro e w3 ⟨rfl, hb3⟩
          have D3 : Chain w3 0 base 0 w2.heap.size := Chain.kept hb3.size (fun x _ hx => hb3.block x hx) 0 _ D1
          have e4 : w3.cell? ⟨w2.heap.size, 4, none⟩ = some (.int .i64 (base + (q : Int))) := by rw [hb3.cell (by simp)]; simp
          have P14 := pos14 base 0 0 _ w3 D3
          have E16 := end16_in (base + (q : Int)) _ w3 e4 (by omega) (by omega)
          have B4 : Below w.heap.size w w3 := B3.trans (hb3.mono B3.size)
          clear D3 e4 hb3 B3 D1
          generalize text s ss (0) = tx at hTx ⊢
          go_wp2_with fail
          refine P14.mono ?_
          rintro e w' ⟨rfl, hw⟩
          rw [hw]; clear hw
          go_wp2_with fail
          refine E16.mono ?_
          clear E16
          rintro e w' ⟨rfl, hw⟩
          rw [hw]; clear hw
          go_wp2_with fail
          refine P14.mono ?_
          clear P14
          rintro e w' ⟨rfl, hw⟩
          rw [hw]; clear hw
          go_wp2_with fail
          go_ret
          exact ⟨ret_true (b := base + (q : Int) + 1 - base == (q : Int) + 1) (beq_iff_eq.2 (by omega)), B4⟩
      · have hpos' : ¬ (0 : Int) < (ss.length : Int) := by omega
        cases we with
        | true =>
          go_wp2_with fail
          refine H10.mono ?_
          clear H10
          rintro e w2 ⟨⟨a2, c2, rfl, hE⟩, hb2⟩
          have C1 := call_made (v1 := .int .i64 (base + (s.size : Int))) (v4 := .int .i64 (base + (q : Int))) (c := c2) (el := 0) hb2 hE
          have D1 := chain_made (v1 := .int .i64 (base + (s.size : Int))) (v2 := .slice a2 ss.length c2) (v3 := .int .i64 (0)) (v4 := .int .i64 (base + (q : Int))) hb2
          have hs12 : w1.heap.size + 1 ≤ w2.heap.size := by have := hb2.size; simp at this; omega
          have B2 : Below w.heap.size w w2 := (hb1.alloc hb1s _).trans (hb2.mono (by simp; omega))
          have B3 := B2.alloc (by omega) (.cells #[.iface 27 (.pointer (some ⟨w1.heap.size, 0, none⟩)), .int .i64 (base + (s.size : Int)), .slice a2 ss.length c2, .int .i64 (0), .int .i64 (base + (q : Int))] 36)
          have S1 := str11 _ s ss (0) _ C1 g2 (by omega) (by omega)
          have hTx := hT0
          clear C1 hb2 hE B2 hT0 hT1
          go_wp2_with fail
          refine S1.mono ?_
          clear S1
          rintro e w3 ⟨rfl, hb3⟩
          have D3 : Chain w3 0 base 0 w2.heap.size := Chain.kept hb3.size (fun x _ hx => hb3.block x hx) 0 _ D1
          have e4 : w3.cell? ⟨w2.heap.size, 4, none⟩ = some (.int .i64 (base + (q : Int))) := by rw [hb3.cell (by simp)]; simp
          have P14 := pos14 base 0 0 _ w3 D3
          have E16 := end16_in (base + (q : Int)) _ w3 e4 (by omega) (by omega)
          have B4 : Below w.heap.size w w3 := B3.trans (hb3.mono B3.size)
          clear D3 e4 hb3 B3 D1
          generalize text s ss (0) = tx at hTx ⊢
          go_wp2_with fail
          refine P14.mono ?_
          rintro e w' ⟨rfl, hw⟩
          rw [hw]; clear hw
          go_wp2_with fail
          refine E16.mono ?_
          clear E16
          rintro e w' ⟨rfl, hw⟩
          rw [hw]; clear hw
          go_wp2_with fail
          refine P14.mono ?_
          clear P14
          rintro e w' ⟨rfl, hw⟩
          rw [hw]; clear hw
          go_wp2_with fail
          go_ret
          exact ⟨ret_true (b := base + (q : Int) + 1 - base == (q : Int) + 1) (beq_iff_eq.2 (by omega)), B4⟩
        | false =>
          go_wp2_with fail
          refine H10.mono ?_
          clear H10
          rintro e w2 ⟨⟨a2, c2, rfl, hE⟩, hb2⟩
          have C1 := call_made (v1 := .int .i64 (base + (s.size : Int))) (v4 := .int .i64 (base + (q : Int))) (c := c2) (el := 0) hb2 hE
          have D1 := chain_made (v1 := .int .i64 (base + (s.size : Int))) (v2 := .slice a2 ss.length c2) (v3 := .int .i64 (0)) (v4 := .int .i64 (base + (q : Int))) hb2
          have hs12 : w1.heap.size + 1 ≤ w2.heap.size := by have := hb2.size; simp at this; omega
          have B2 : Below w.heap.size w w2 := (hb1.alloc hb1s _).trans (hb2.mono (by simp; omega))
          have B3 := B2.alloc (by omega) (.cells #[.iface 27 (.pointer (some ⟨w1.heap.size, 0, none⟩)), .int .i64 (base + (s.size : Int)), .slice a2 ss.length c2, .int .i64 (0), .int .i64 (base + (q : Int))] 36)
          have S1 := str11 _ s ss (0) _ C1 g2 (by omega) (by omega)
          have hTx := hT0
          clear C1 hb2 hE B2 hT0 hT1
          go_wp2_with fail
          refine S1.mono ?_
          clear S1
          rintro e w3 ⟨rfl, hb3⟩
          have D3 : Chain w3 0 base 0 w2.heap.size := Chain.kept hb3.size (fun x _ hx => hb3.block x hx) 0 _ D1
          have e4 : w3.cell? ⟨w2.heap.size, 4, none⟩ = some (.int .i64 (base + (q : Int))) := by rw [hb3.cell (by simp)]; simp
          have P14 := pos14 base 0 0 _ w3 D3
          have E16 := end16_in (base + (q : Int)) _ w3 e4 (by omega) (by omega)
          have B4 : Below w.heap.size w w3 := B3.trans (hb3.mono B3.size)
          clear D3 e4 hb3 B3 D1
          generalize text s ss (0) = tx at hTx ⊢
          go_wp2_with fail
          refine P14.mono ?_
          rintro e w' ⟨rfl, hw⟩
          rw [hw]; clear hw
          go_wp2_with fail
          refine E16.mono ?_
          clear E16
          rintro e w' ⟨rfl, hw⟩
          rw [hw]; clear hw
          go_wp2_with fail
          refine P14.mono ?_
          clear P14
          rintro e w' ⟨rfl, hw⟩
          rw [hw]; clear hw
          go_wp2_with fail
          go_ret
          exact ⟨ret_true (b := base + (q : Int) + 1 - base == (q : Int) + 1) (beq_iff_eq.2 (by omega)), B4⟩
end Go.Proofs.Yoeemw
