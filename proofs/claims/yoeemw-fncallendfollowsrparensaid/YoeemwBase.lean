/-
  Contracts of the small helpers of the four laws: zzBytes_* (7, 12, 15, 17), zzSizeOK (8).
-/
import Derived.Test.YoeemwRows
import Derived.WalkKit
import Derived.WalkSpells
import Derived.WalkLawsBesides
namespace Go.Proofs.Yoeemw
open Go.RowKit

/-- What a walk is told of a slice of strings: it is empty, or its cells lie in one row. -/
def Strs (w : World) (a : Option Addr) (ss : List ByteArray) : Prop :=
  ss = [] ∨ ∃ b off, a = some ⟨b, off, none⟩ ∧ b < w.heap.size ∧ ∀ i, i < ss.length → w.cell? ⟨b, off + i, none⟩ = some (.string (ss.getD i ByteArray.empty))

/-- The bytes of all strings of a list. -/
def total : List ByteArray → Nat
  | [] => 0
  | s :: ss => s.size + total ss

theorem total_append (xs ys : List ByteArray) : total (xs ++ ys) = total xs + total ys := by
  induction xs with
  | nil => simp [total]
  | cons x xs ih => simp [total, ih]; omega

theorem take_next (ss : List ByteArray) (k : Nat) (h : k < ss.length) : ss.take (k + 1) = ss.take k ++ [ss.getD k ByteArray.empty] := by
  rw [List.take_succ_eq_append_getElem h]; simp [List.getD, h]

theorem total_take (ss : List ByteArray) (k : Nat) (h : k < ss.length) : total (ss.take (k + 1)) = total (ss.take k) + (ss.getD k ByteArray.empty).size := by
  rw [take_next ss k h, total_append]; simp [total]

theorem forall_take_next (ss : List ByteArray) (k : Nat) (h : k < ss.length) (B : Nat) (h0 : ∀ t ∈ ss.take k, t.size ≤ B) (h1 : (ss.getD k ByteArray.empty).size ≤ B) : ∀ t ∈ ss.take (k + 1), t.size ≤ B := by
  intro t ht
  rw [take_next ss k h] at ht
  rcases List.mem_append.1 ht with ht | ht
  · exact h0 t ht
  · simp at ht; subst ht; simpa [List.getD] using h1

theorem getD_mem (ss : List ByteArray) (k : Nat) (h : k < ss.length) : ss.getD k ByteArray.empty ∈ ss := by
  simp [List.getD, h]

/-- What zzBytes says when it says yes. -/
def Small (ss : List ByteArray) : Prop := ss.length ≤ 1048576 ∧ ∀ t ∈ ss, t.size ≤ 1048576
/-- A bool comes back; if it is true then P. -/
def Yes (P : Prop) (e : Ending) : Prop := ∃ r : Bool, e = .returned (.bool r) ∧ (r = true → P)
theorem Yes.no {P : Prop} : Yes P (.returned (.bool false)) := ⟨false, rfl, fun h => by cases h⟩
theorem Yes.mk {P : Prop} (r : Bool) (h : r = true → P) : Yes P (.returned (.bool r)) := ⟨r, rfl, h⟩

set_option maxHeartbeats 800000 in
theorem bytes12 (s : ByteArray) (a : Option Addr) (c : Nat) (ss : List ByteArray) (x1 x2 x3 x4 x5 : Int) (w : World)
    (hs : s.size ≤ maxLen) (hn : ss.length ≤ maxLen) (hz : ∀ t ∈ ss, t.size ≤ maxLen) (hS : Strs w a ss) :
    Calls Eemg.prog 12 #[.string s, .slice a ss.length c, .int .i64 x1, .int .i64 x2, .int .i64 x3, .int .i64 x4, .int .i64 x5] w fun e w' => Yes (Small ss) e ∧ w' = w := by
  unfold maxLen at hs hn hz
  go_enter Eemg.func12, Eemg.ntmps12
  go_wp2
  all_goals first | (go_ret; exact ⟨Yes.no, rfl⟩) | skip
  go_loop [15, 16] (fun z i => ∃ k : Nat, k ≤ ss.length ∧ i = .int .i64 k ∧ z = .int .i64 ((s.size + ss.length + total (ss.take k) : Nat) : Int) ∧ s.size + ss.length + total (ss.take k) ≤ 1048576 ∧ ∀ t ∈ ss.take k, t.size ≤ 1048576) (fun _ i => ss.length - (intOf i).toNat)
  case atStart => exact ⟨0, Nat.zero_le _, rfl, by simp [total], by simp [total]; omega, by simp⟩
  case round =>
    obtain ⟨k, hk, rfl, rfl, hle, hall⟩ := hrel
    by_cases hlt : k < ss.length
    · obtain ⟨b, off, rfl, hb, hc⟩ : ∃ b off, a = some ⟨b, off, none⟩ ∧ b < w.heap.size ∧ ∀ i, i < ss.length → w.cell? ⟨b, off + i, none⟩ = some (.string (ss.getD i ByteArray.empty)) := by
        rcases hS with rfl | h
        · simp at hlt
        · exact h
      obtain ⟨u, hu⟩ : ∃ u, u = ss.getD k ByteArray.empty := ⟨_, rfl⟩
      have hcell : w.cell? ⟨b, off + k, none⟩ = some (.string u) := by rw [hu]; exact hc k hlt
      have hus : u.size ≤ 9223372036854775807 := by rw [hu]; exact hz _ (getD_mem ss k hlt)
      have HN := fun h => forall_take_next ss k hlt 1048576 hall h
      have HT := total_take ss k hlt
      rw [← hu] at HT HN
      have HT' : Hid (total (ss.take (k + 1)) = total (ss.take k) + u.size) := HT
      have HN' : Hid (u.size ≤ 1048576 → ∀ t ∈ ss.take (k + 1), t.size ≤ 1048576) := HN
      clear hu hc hz HT hS HN hall
      obtain ⟨q, hq⟩ : ∃ q, q = total (ss.take k) := ⟨_, rfl⟩
      rw [← hq] at hle HT' ⊢
      clear hq
      go_wp2
      all_goals first | (go_ret; exact ⟨Yes.no, rfl⟩) | skip
      go_round
      case rel =>
        have h1 : (u.size : Int) ≤ 1048576 := by assumption
        have h2 : (s.size : Int) + ss.length + q + u.size ≤ 1048576 := by assumption
        have h3 := HT'.out
        exact ⟨k + 1, by omega, by go_num, by rw [h3]; go_num, by rw [h3]; omega, HN'.out (by omega)⟩
      case measure => simp [intOf]; omega
    · go_wp2
      go_ret
      refine ⟨Yes.mk _ fun _ => ?_, rfl⟩
      rw [List.take_of_length_le (by omega)] at hall
      exact ⟨by omega, hall⟩

set_option maxHeartbeats 800000 in
theorem bytes17 (s : ByteArray) (a : Option Addr) (c : Nat) (ss : List ByteArray) (x1 x2 x3 x4 x5 : Int) (w : World)
    (hs : s.size ≤ maxLen) (hn : ss.length ≤ maxLen) (hz : ∀ t ∈ ss, t.size ≤ maxLen) (hS : Strs w a ss) :
    Calls Eemg.prog 17 #[.string s, .slice a ss.length c, .int .i64 x1, .int .i64 x2, .int .i64 x3, .int .i64 x4, .int .i64 x5] w fun e w' => Yes (Small ss) e ∧ w' = w := by
  unfold maxLen at hs hn hz
  go_enter Eemg.func17, Eemg.ntmps17
  go_wp2
  all_goals first | (go_ret; exact ⟨Yes.no, rfl⟩) | skip
  go_loop [15, 16] (fun z i => ∃ k : Nat, k ≤ ss.length ∧ i = .int .i64 k ∧ z = .int .i64 ((s.size + ss.length + total (ss.take k) : Nat) : Int) ∧ s.size + ss.length + total (ss.take k) ≤ 1048576 ∧ ∀ t ∈ ss.take k, t.size ≤ 1048576) (fun _ i => ss.length - (intOf i).toNat)
  case atStart => exact ⟨0, Nat.zero_le _, rfl, by simp [total], by simp [total]; omega, by simp⟩
  case round =>
    obtain ⟨k, hk, rfl, rfl, hle, hall⟩ := hrel
    by_cases hlt : k < ss.length
    · obtain ⟨b, off, rfl, hb, hc⟩ : ∃ b off, a = some ⟨b, off, none⟩ ∧ b < w.heap.size ∧ ∀ i, i < ss.length → w.cell? ⟨b, off + i, none⟩ = some (.string (ss.getD i ByteArray.empty)) := by
        rcases hS with rfl | h
        · simp at hlt
        · exact h
      obtain ⟨u, hu⟩ : ∃ u, u = ss.getD k ByteArray.empty := ⟨_, rfl⟩
      have hcell : w.cell? ⟨b, off + k, none⟩ = some (.string u) := by rw [hu]; exact hc k hlt
      have hus : u.size ≤ 9223372036854775807 := by rw [hu]; exact hz _ (getD_mem ss k hlt)
      have HN := fun h => forall_take_next ss k hlt 1048576 hall h
      have HT := total_take ss k hlt
      rw [← hu] at HT HN
      have HT' : Hid (total (ss.take (k + 1)) = total (ss.take k) + u.size) := HT
      have HN' : Hid (u.size ≤ 1048576 → ∀ t ∈ ss.take (k + 1), t.size ≤ 1048576) := HN
      clear hu hc hz HT hS HN hall
      obtain ⟨q, hq⟩ : ∃ q, q = total (ss.take k) := ⟨_, rfl⟩
      rw [← hq] at hle HT' ⊢
      clear hq
      go_wp2
      all_goals first | (go_ret; exact ⟨Yes.no, rfl⟩) | skip
      go_round
      case rel =>
        have h1 : (u.size : Int) ≤ 1048576 := by assumption
        have h2 : (s.size : Int) + ss.length + q + u.size ≤ 1048576 := by assumption
        have h3 := HT'.out
        exact ⟨k + 1, by omega, by go_num, by rw [h3]; go_num, by rw [h3]; omega, HN'.out (by omega)⟩
      case measure => simp [intOf]; omega
    · go_wp2
      go_ret
      refine ⟨Yes.mk _ fun _ => ?_, rfl⟩
      rw [List.take_of_length_le (by omega)] at hall
      exact ⟨by omega, hall⟩

set_option maxHeartbeats 800000 in
theorem bytes7 (s : ByteArray) (a : Option Addr) (c : Nat) (ss : List ByteArray) (x1 : Int) (w : World)
    (hs : s.size ≤ maxLen) (hn : ss.length ≤ maxLen) (hz : ∀ t ∈ ss, t.size ≤ maxLen) (hS : Strs w a ss) :
    Calls Eemg.prog 7 #[.string s, .slice a ss.length c, .int .i64 x1] w fun e w' => Yes (Small ss) e ∧ w' = w := by
  unfold maxLen at hs hn hz
  go_enter Eemg.func7, Eemg.ntmps7
  go_wp2
  all_goals first | (go_ret; exact ⟨Yes.no, rfl⟩) | skip
  go_loop [7, 8] (fun z i => ∃ k : Nat, k ≤ ss.length ∧ i = .int .i64 k ∧ z = .int .i64 ((s.size + ss.length + total (ss.take k) : Nat) : Int) ∧ s.size + ss.length + total (ss.take k) ≤ 1048576 ∧ ∀ t ∈ ss.take k, t.size ≤ 1048576) (fun _ i => ss.length - (intOf i).toNat)
  case atStart => exact ⟨0, Nat.zero_le _, rfl, by simp [total], by simp [total]; omega, by simp⟩
  case round =>
    obtain ⟨k, hk, rfl, rfl, hle, hall⟩ := hrel
    by_cases hlt : k < ss.length
    · obtain ⟨b, off, rfl, hb, hc⟩ : ∃ b off, a = some ⟨b, off, none⟩ ∧ b < w.heap.size ∧ ∀ i, i < ss.length → w.cell? ⟨b, off + i, none⟩ = some (.string (ss.getD i ByteArray.empty)) := by
        rcases hS with rfl | h
        · simp at hlt
        · exact h
      obtain ⟨u, hu⟩ : ∃ u, u = ss.getD k ByteArray.empty := ⟨_, rfl⟩
      have hcell : w.cell? ⟨b, off + k, none⟩ = some (.string u) := by rw [hu]; exact hc k hlt
      have hus : u.size ≤ 9223372036854775807 := by rw [hu]; exact hz _ (getD_mem ss k hlt)
      have HN := fun h => forall_take_next ss k hlt 1048576 hall h
      have HT := total_take ss k hlt
      rw [← hu] at HT HN
      have HT' : Hid (total (ss.take (k + 1)) = total (ss.take k) + u.size) := HT
      have HN' : Hid (u.size ≤ 1048576 → ∀ t ∈ ss.take (k + 1), t.size ≤ 1048576) := HN
      clear hu hc hz HT hS HN hall
      obtain ⟨q, hq⟩ : ∃ q, q = total (ss.take k) := ⟨_, rfl⟩
      rw [← hq] at hle HT' ⊢
      clear hq
      go_wp2
      all_goals first | (go_ret; exact ⟨Yes.no, rfl⟩) | skip
      go_round
      case rel =>
        have h1 : (u.size : Int) ≤ 1048576 := by assumption
        have h2 : (s.size : Int) + ss.length + q + u.size ≤ 1048576 := by assumption
        have h3 := HT'.out
        exact ⟨k + 1, by omega, by go_num, by rw [h3]; go_num, by rw [h3]; omega, HN'.out (by omega)⟩
      case measure => simp [intOf]; omega
    · go_wp2
      go_ret
      refine ⟨Yes.mk _ fun _ => ?_, rfl⟩
      rw [List.take_of_length_le (by omega)] at hall
      exact ⟨by omega, hall⟩

set_option maxHeartbeats 800000 in
theorem bytes15 (s : ByteArray) (a : Option Addr) (c : Nat) (ss : List ByteArray) (x1 : Int) (y1 : Bool) (w : World)
    (hs : s.size ≤ maxLen) (hn : ss.length ≤ maxLen) (hz : ∀ t ∈ ss, t.size ≤ maxLen) (hS : Strs w a ss) :
    Calls Eemg.prog 15 #[.int .i64 x1, .string s, .slice a ss.length c, .bool y1] w fun e w' => Yes (Small ss) e ∧ w' = w := by
  unfold maxLen at hs hn hz
  go_enter Eemg.func15, Eemg.ntmps15
  go_wp2
  all_goals first | (go_ret; exact ⟨Yes.no, rfl⟩) | skip
  go_loop [9, 10] (fun z i => ∃ k : Nat, k ≤ ss.length ∧ i = .int .i64 k ∧ z = .int .i64 ((s.size + ss.length + total (ss.take k) : Nat) : Int) ∧ s.size + ss.length + total (ss.take k) ≤ 1048576 ∧ ∀ t ∈ ss.take k, t.size ≤ 1048576) (fun _ i => ss.length - (intOf i).toNat)
  case atStart => exact ⟨0, Nat.zero_le _, rfl, by simp [total], by simp [total]; omega, by simp⟩
  case round =>
    obtain ⟨k, hk, rfl, rfl, hle, hall⟩ := hrel
    by_cases hlt : k < ss.length
    · obtain ⟨b, off, rfl, hb, hc⟩ : ∃ b off, a = some ⟨b, off, none⟩ ∧ b < w.heap.size ∧ ∀ i, i < ss.length → w.cell? ⟨b, off + i, none⟩ = some (.string (ss.getD i ByteArray.empty)) := by
        rcases hS with rfl | h
        · simp at hlt
        · exact h
      obtain ⟨u, hu⟩ : ∃ u, u = ss.getD k ByteArray.empty := ⟨_, rfl⟩
      have hcell : w.cell? ⟨b, off + k, none⟩ = some (.string u) := by rw [hu]; exact hc k hlt
      have hus : u.size ≤ 9223372036854775807 := by rw [hu]; exact hz _ (getD_mem ss k hlt)
      have HN := fun h => forall_take_next ss k hlt 1048576 hall h
      have HT := total_take ss k hlt
      rw [← hu] at HT HN
      have HT' : Hid (total (ss.take (k + 1)) = total (ss.take k) + u.size) := HT
      have HN' : Hid (u.size ≤ 1048576 → ∀ t ∈ ss.take (k + 1), t.size ≤ 1048576) := HN
      clear hu hc hz HT hS HN hall
      obtain ⟨q, hq⟩ : ∃ q, q = total (ss.take k) := ⟨_, rfl⟩
      rw [← hq] at hle HT' ⊢
      clear hq
      go_wp2
      all_goals first | (go_ret; exact ⟨Yes.no, rfl⟩) | skip
      go_round
      case rel =>
        have h1 : (u.size : Int) ≤ 1048576 := by assumption
        have h2 : (s.size : Int) + ss.length + q + u.size ≤ 1048576 := by assumption
        have h3 := HT'.out
        exact ⟨k + 1, by omega, by go_num, by rw [h3]; go_num, by rw [h3]; omega, HN'.out (by omega)⟩
      case measure => simp [intOf]; omega
    · go_wp2
      go_ret
      refine ⟨Yes.mk _ fun _ => ?_, rfl⟩
      rw [List.take_of_length_le (by omega)] at hall
      exact ⟨by omega, hall⟩

/-- What zzSizeOK says when it says yes. -/
def Fits (s : ByteArray) (ss : List ByteArray) : Prop := ss.length ≤ 65536 ∧ s.size + 8 * ss.length + total ss ≤ 1048576

set_option maxHeartbeats 800000 in
theorem size8 (s : ByteArray) (a : Option Addr) (c : Nat) (ss : List ByteArray) (w : World)
    (hs : s.size ≤ maxLen) (hn : ss.length ≤ maxLen) (hz : ∀ t ∈ ss, t.size ≤ 1048576) (hS : Strs w a ss) :
    Calls Eemg.prog 8 #[.string s, .slice a ss.length c] w fun e w' => Yes (Fits s ss) e ∧ w' = w := by
  unfold maxLen at hs hn
  rcases (show 1048576 < s.size ∨ s.size ≤ 1048576 from by omega) with g1n | g1
  · have g1' : (1048576 : Int) < (s.size : Int) := by omega
    go_enter Eemg.func8, Eemg.ntmps8
    go_wp2
    go_ret
    exact ⟨Yes.no, rfl⟩
  rcases (show 65536 < ss.length ∨ ss.length ≤ 65536 from by omega) with g2n | g2
  · have g2' : (65536 : Int) < (ss.length : Int) := by omega
    go_enter Eemg.func8, Eemg.ntmps8
    go_wp2
    go_ret
    exact ⟨Yes.no, rfl⟩
  go_enter Eemg.func8, Eemg.ntmps8
  go_wp2
  go_loop [5, 6] (fun z i => ∃ k : Nat, k ≤ ss.length ∧ i = .int .i64 k ∧ z = .int .i64 ((s.size + 8 * ss.length + total (ss.take k) : Nat) : Int) ∧ s.size + 8 * ss.length + total (ss.take k) ≤ 2097152 ∧ (0 < k → s.size + 8 * ss.length + total (ss.take k) ≤ 1048576)) (fun _ i => ss.length - (intOf i).toNat)
  case atStart => exact ⟨0, Nat.zero_le _, rfl, by simp [total], by simp [total]; omega, by simp⟩
  case round =>
    obtain ⟨k, hk, rfl, rfl, hle, hle2⟩ := hrel
    by_cases hlt : k < ss.length
    · obtain ⟨b, off, rfl, hb, hc⟩ : ∃ b off, a = some ⟨b, off, none⟩ ∧ b < w.heap.size ∧ ∀ i, i < ss.length → w.cell? ⟨b, off + i, none⟩ = some (.string (ss.getD i ByteArray.empty)) := by
        rcases hS with rfl | h
        · simp at hlt
        · exact h
      obtain ⟨u, hu⟩ : ∃ u, u = ss.getD k ByteArray.empty := ⟨_, rfl⟩
      have hcell : w.cell? ⟨b, off + k, none⟩ = some (.string u) := by rw [hu]; exact hc k hlt
      have hus : u.size ≤ 1048576 := by rw [hu]; exact hz _ (getD_mem ss k hlt)
      have HT := total_take ss k hlt
      rw [← hu] at HT
      have HT' : Hid (total (ss.take (k + 1)) = total (ss.take k) + u.size) := HT
      clear hu hc hz HT hS hle2
      obtain ⟨q, hq⟩ : ∃ q, q = total (ss.take k) := ⟨_, rfl⟩
      rw [← hq] at hle HT' ⊢
      clear hq
      go_wp2
      all_goals first | (go_ret; exact ⟨Yes.no, rfl⟩) | skip
      go_round
      case rel =>
        have h2 : (s.size : Int) + 8 * ss.length + q + u.size ≤ 1048576 := by assumption
        have h3 := HT'.out
        exact ⟨k + 1, by omega, by go_num, by rw [h3]; go_num, by rw [h3]; omega, fun _ => by rw [h3]; omega⟩
      case measure => simp [intOf]; omega
    · have hk2 : k = ss.length := by omega
      have HK : Hid (k = ss.length) := hk2
      clear hk2
      go_wp2
      go_ret
      refine ⟨Yes.mk _ fun h => ?_, rfl⟩
      rw [List.take_of_length_le (by omega)] at h
      exact ⟨by omega, by simp at h; omega⟩

end Go.Proofs.Yoeemw
