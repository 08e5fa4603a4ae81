/-
  zzCopyStrs (9): a fresh copy of a slice of strings.
-/
import Derived.Test.YoeemwBase
namespace Go.Proofs.Yoeemw
open Go.RowKit

theorem Eemg.info9 : (Eemg.prog.info? 9).map (fun i => (i.zero, i.size, i.bytes)) = some (some (.string ByteArray.empty), 1, 16) := by kernel_rfl

/-- A slice of these strings comes back. -/
def Copied (ss : List ByteArray) (e : Ending) (w' : World) : Prop := ∃ a' c', e = .returned (.slice a' ss.length c') ∧ Strs w' a' ss

/-- What the copy holds behind k rounds. -/
def half (ss : List ByteArray) (k : Nat) : List Value := (ss.take k).map Value.string ++ List.replicate (ss.length - k) (.string ByteArray.empty)
theorem half_zero (ss : List ByteArray) : half ss 0 = List.replicate ss.length (.string ByteArray.empty) := by simp [half]
theorem half_all (ss : List ByteArray) : half ss ss.length = ss.map Value.string := by simp [half]
theorem half_next (ss : List ByteArray) (k : Nat) (h : k < ss.length) : (half ss k).set k (.string (ss.getD k ByteArray.empty)) = half ss (k + 1) := by
  unfold half
  have hl : ((ss.take k).map Value.string).length = k := by simp; omega
  rw [List.set_append_right _ _ (by omega), hl, Nat.sub_self, take_next ss k h]
  have : ss.length - k = (ss.length - (k + 1)) + 1 := by omega
  rw [this, List.replicate_succ]
  simp
theorem half_some (ss : List ByteArray) (k : Nat) (h : k < ss.length) : ∃ v, (half ss k)[k]? = some v := by
  refine ⟨(half ss k)[k]'?_, List.getElem?_eq_getElem _⟩
  simp [half]; omega

set_option maxHeartbeats 800000 in
theorem copy9 (a : Option Addr) (c : Nat) (ss : List ByteArray) (w : World) (hn : ss.length ≤ 65536) (hS : Strs w a ss) :
    Calls Eemg.prog 9 #[.slice a ss.length c] w fun e w' => Copied ss e w' ∧ Below w.heap.size w w' := by
  obtain ⟨i0, hi, hz0, hz1, hz2⟩ := info_parts Eemg.info9
  have hnil : ∀ (w : World) (a : Option Addr) (n c : Nat), (binOp .eql 22 (.slice a n c) (.slice none 0 0)).run Eemg.prog w = .ok (.bool a.isNone) w := fun w a n c => Lib.run_eql_slice_nil w 22 9 a n c 0 0 Eemg.underlying22
  match a with
  | none =>
    have h0 : ss = [] := by
      rcases hS with h | ⟨b, off, h, _⟩
      · exact h
      · cases h
    subst h0
    go_enter Eemg.func9, Eemg.ntmps9
    go_wp2
    go_ret
    exact ⟨⟨none, 0, rfl, .inl rfl⟩, Below.refl _ _⟩
  | some x =>
    go_enter Eemg.func9, Eemg.ntmps9
    go_wp2_with (at_make; refine wpList_make_full _ rfl _ _ 22 rfl w.heap.size 9 i0 (.string ByteArray.empty) 1 Eemg.underlying22 hi hz0 hz1 _ _ _ _ ss.length rfl rfl rfl rfl ?b2 ?b3 (Nat.le_refl _) ?_)
    case b2 => rw [hz2]; omega
    case b3 => unfold maxLen; omega
    intro w0 hown0 hgrow0
    have hb0 : Below w.heap.size w w0 := (Below.refl _ _).grown hgrow0 (Nat.le_refl _) (fun k h => by cases h)
    have e0 : (madeCells #[Value.string ByteArray.empty] ss.length).toList = half ss 0 := by
      rw [half_zero]; exact toList_madeCells_one _ _
    rw [e0] at hown0
    clear hgrow0 e0
    go_wp2
    go_loopw [4] (fun i wr => ∃ k : Nat, k ≤ ss.length ∧ i = .int .i64 k ∧ wr.ownsRow w.heap.size 9 1 (.slice (some ⟨w.heap.size, 0, none⟩) ss.length ss.length) ss.length (half ss k) ∧ Below w.heap.size w wr)
      (fun i _ => ss.length - (intOf i).toNat)
    case atStart => exact ⟨0, Nat.zero_le _, rfl, hown0, hb0⟩
    case round =>
      obtain ⟨k, hk, rfl, hown, hbel⟩ := hrel
      by_cases hlt : k < ss.length
      · obtain ⟨b, off, hx, hb, hc⟩ : ∃ b off, some x = some ⟨b, off, none⟩ ∧ b < w.heap.size ∧ ∀ i, i < ss.length → w.cell? ⟨b, off + i, none⟩ = some (.string (ss.getD i ByteArray.empty)) := by
          rcases hS with rfl | h
          · simp at hlt
          · exact h
        obtain rfl : x = ⟨b, off, none⟩ := by simpa using hx
        obtain ⟨u, hu⟩ : ∃ u, u = ss.getD k ByteArray.empty := ⟨_, rfl⟩
        have hcell : wr.cell? ⟨b, off + k, none⟩ = some (.string u) := by rw [hu]; exact (hbel.cell (by exact hb)).trans (hc k hlt)
        obtain ⟨v0, hv0⟩ := half_some ss k hlt
        have hold : wr.cell? ⟨w.heap.size, k, none⟩ = some v0 := by rw [hown.cellAt k (by omega)]; exact hv0
        have hfz : wr.frozen? ⟨w.heap.size, k, none⟩ = false := hown.frozenAt k
        have hst := (hown.stored k (.string u)).1
        rw [hu, half_next ss k hlt, ← hu] at hst
        have HS := hst
        have HB : Below w.heap.size w (wr.setCell ⟨w.heap.size, k, none⟩ (.string u)) := hbel.setCell (Nat.le_refl _) _
        clear hu hc hx hown hbel hv0 hown0 hb0 hst hS
        go_wp2
        go_roundw
        case rel => exact ⟨k + 1, by omega, by go_num, HS, HB⟩
        case measure => simp [intOf]; omega
      · have hk2 : k = ss.length := by omega
        have HK : Hid (k = ss.length) := hk2
        clear hk2
        go_wp2
        go_ret
        refine ⟨⟨_, _, rfl, .inr ⟨w.heap.size, 0, rfl, ?_, fun i hi => ?_⟩⟩, hbel⟩
        · rcases hown.2 with ⟨h, _⟩ | ⟨g, cap, cur, h, _, hg, _⟩
          · simp at h
          · simp at h
            obtain ⟨rfl, rfl⟩ := h
            exact (Array.getElem?_eq_some_iff.1 hg).1
        · rw [Nat.zero_add, hown.cellAt i (by omega), HK.out, half_all]
          simp [List.getD, hi]
end Go.Proofs.Yoeemw
