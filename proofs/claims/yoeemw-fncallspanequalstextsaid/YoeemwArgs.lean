/-
  zzArgs (10): one fresh Ident node a name.
-/
import Derived.Test.YoeemwCopy
namespace Go.Proofs.Yoeemw
open Go.RowKit

theorem Eemg.info34 : (Eemg.prog.info? 34).map (fun i => (i.zero, i.size, i.bytes)) = some (some .nilIface, 1, 16) := by kernel_rfl

/-- An Expr that holds a pointer to an Ident named s; its block is lo or later. -/
def Node (w : World) (lo : Nat) (s : ByteArray) (v : Value) : Prop :=
  ∃ b, v = .iface 27 (.pointer (some ⟨b, 0, none⟩)) ∧ lo ≤ b ∧ b < w.heap.size ∧ w.cell? ⟨b, 0, none⟩ = some (.string s) ∧ w.cell? ⟨b, 1, none⟩ = some (.int .i64 1)

/-- A slice of Idents with these names. -/
def Exprs (w : World) (a : Option Addr) (ss : List ByteArray) : Prop :=
  ss = [] ∨ ∃ g off, a = some ⟨g, off, none⟩ ∧ g < w.heap.size ∧ ∀ i, i < ss.length → ∃ v, w.cell? ⟨g, off + i, none⟩ = some v ∧ Node w 0 (ss.getD i ByteArray.empty) v

/-- Such a slice comes back; nil for none. -/
def Built (ss : List ByteArray) (e : Ending) (w' : World) : Prop := ∃ a' c', e = .returned (.slice a' ss.length c') ∧ Exprs w' a' ss

theorem Node.kept {w w' : World} {lo : Nat} {s : ByteArray} {v : Value} (h : Node w lo s v) (hs : w.heap.size ≤ w'.heap.size) (hk : ∀ b, lo ≤ b → b < w.heap.size → w'.heap[b]? = w.heap[b]?) : Node w' lo s v := by
  obtain ⟨b, rfl, hl, hb, h0, h1⟩ := h
  refine ⟨b, rfl, hl, by omega, ?_, ?_⟩
  · rw [World.cell?_of_block (hk b hl hb)]; exact h0
  · rw [World.cell?_of_block (hk b hl hb)]; exact h1
theorem Node.mono {w : World} {lo lo' : Nat} {s : ByteArray} {v : Value} (h : Node w lo s v) (hl : lo' ≤ lo) : Node w lo' s v := by
  obtain ⟨b, rfl, h1, h2⟩ := h
  exact ⟨b, rfl, by omega, h2⟩

/-- What was there below is there behind. -/
theorem Strs.kept {w w' : World} {a : Option Addr} {ss : List ByteArray} (h : Strs w a ss) (hb : Below w.heap.size w w') : Strs w' a ss := by
  rcases h with rfl | ⟨b, off, rfl, hl, hc⟩
  · exact .inl rfl
  · exact .inr ⟨b, off, rfl, Nat.lt_of_lt_of_le hl hb.size, fun i hi => (hb.cell (by exact hl)).trans (hc i hi)⟩
theorem Exprs.kept {w w' : World} {a : Option Addr} {ss : List ByteArray} (h : Exprs w a ss) (hb : Below w.heap.size w w') : Exprs w' a ss := by
  rcases h with rfl | ⟨b, off, rfl, hl, hc⟩
  · exact .inl rfl
  · refine .inr ⟨b, off, rfl, Nat.lt_of_lt_of_le hl hb.size, fun i hi => ?_⟩
    obtain ⟨v, h1, h2⟩ := hc i hi
    exact ⟨v, (hb.cell (by exact hl)).trans h1, h2.kept hb.size fun b _ hb' => hb.block b hb'⟩

/-- The nodes laid so far. -/
def Nodes (w : World) (lo : Nat) (ss : List ByteArray) (k : Nat) (vs : List Value) : Prop :=
  vs.length = k ∧ ∀ i, i < k → ∃ v, vs[i]? = some v ∧ Node w lo (ss.getD i ByteArray.empty) v

theorem Nodes.next {w w' : World} {g b : Nat} {ss : List ByteArray} {k : Nat} {vs : List Value} {u : ByteArray} (h : Nodes w (g + 1) ss k vs) (hu : u = ss.getD k ByteArray.empty)
    (hg : g < b) (hbw : b = w.heap.size)
    (hgr : World.grownBy ((w.alloc (.cells #[.string u, .int .i64 1] 30)).alloc (.cells #[.iface 27 (.pointer (some ⟨b, 0, none⟩))] 34)) w' (some g)) :
    Nodes w' (g + 1) ss (k + 1) (vs ++ [.iface 27 (.pointer (some ⟨b, 0, none⟩))]) := by
  have hsz := hgr.size
  simp only [World.size_alloc] at hsz
  refine ⟨by simp [h.1], fun i hi => ?_⟩
  by_cases hik : i < k
  · obtain ⟨v, h1, h2⟩ := h.2 i hik
    refine ⟨v, by rw [List.getElem?_append_left (by rw [h.1]; exact hik)]; exact h1, h2.kept (by omega) fun x hx hx' => ?_⟩
    rw [hgr.block x (by simp only [World.size_alloc]; omega) (by simp; omega), Below.heap_alloc _ _ _ (by simp only [World.size_alloc]; omega), Below.heap_alloc _ _ _ hx']
  · have : i = k := by omega
    subst this
    refine ⟨_, by rw [List.getElem?_append_right (by rw [h.1]; omega), h.1]; simp, b, rfl, by omega, by omega, ?_, ?_⟩
    · rw [← hu]
      refine hgr.cell (v := .string u) ?_ (by simp; omega)
      rw [World.cell?_of_block (w := w.alloc _) (Below.heap_alloc _ _ _ (by simp only [World.size_alloc]; omega))]
      rw [hbw]; simp
    · refine hgr.cell (v := .int .i64 1) ?_ (by simp; omega)
      rw [World.cell?_of_block (w := w.alloc _) (Below.heap_alloc _ _ _ (by simp only [World.size_alloc]; omega))]
      rw [hbw]; simp

set_option maxHeartbeats 800000 in
theorem args10 (a : Option Addr) (c : Nat) (ss : List ByteArray) (w : World) (hn : ss.length ≤ 65536) (hS : Strs w a ss) :
    Calls Eemg.prog 10 #[.slice a ss.length c] w fun e w' => Built ss e w' ∧ Below w.heap.size w w' := by
  obtain ⟨i0, hi, hz0, hz1, hz2⟩ := info_parts Eemg.info34
  rcases hS with rfl | ⟨b, off, rfl, hb, hc⟩
  · go_enter Eemg.func10, Eemg.ntmps10
    go_wp2
    go_ret
    exact ⟨⟨none, 0, rfl, .inl rfl⟩, Below.refl _ _⟩
  · by_cases hne : ss.length = 0
    · have h0 : ss = [] := List.eq_nil_of_length_eq_zero hne
      subst h0
      go_enter Eemg.func10, Eemg.ntmps10
      go_wp2
      go_ret
      exact ⟨⟨none, 0, rfl, .inl rfl⟩, Below.refl _ _⟩
    have hne' : ((ss.length : Int) == 0) = false := beq_eq_false_iff_ne.2 (by omega)
    clear hne
    go_enter Eemg.func10, Eemg.ntmps10
    go_wp2_with (at_make; refine wpList_make_own _ rfl _ _ 31 rfl w.heap.size 34 i0 .nilIface 1 Eemg.underlying31 hi hz0 hz1 _ _ _ ss.length rfl rfl rfl ?b2 ?b3 (Nat.le_refl _) ?_)
    case b2 => rw [hz2]; omega
    case b3 => unfold maxLen; omega
    intro w0 hown0 hgrow0
    have hb0 : Below w.heap.size w w0 := (Below.refl _ _).grown hgrow0 (Nat.le_refl _) (fun k h => by cases h)
    clear hgrow0
    go_wp2
    go_loopw [3, 4] (fun v i wr => ∃ (k : Nat) (vs : List Value), k ≤ ss.length ∧ i = .int .i64 k ∧ v = .slice (some ⟨w.heap.size, 0, none⟩) k ss.length ∧ wr.ownsRow w.heap.size 34 1 (.slice (some ⟨w.heap.size, 0, none⟩) k ss.length) k vs ∧ Nodes wr (w.heap.size + 1) ss k vs ∧ Below w.heap.size w wr)
      (fun _ i _ => ss.length - (intOf i).toNat)
    case atStart => exact ⟨0, [], Nat.zero_le _, rfl, rfl, hown0, ⟨rfl, fun i hi => by omega⟩, hb0⟩
    case round =>
      obtain ⟨k, vs, hk, rfl, rfl, hown, hnod, hbel⟩ := hrel
      have hlt0 := (hown.lt w.heap.size rfl).2
      by_cases hlt : k < ss.length
      · obtain ⟨u, hu⟩ : ∃ u, u = ss.getD k ByteArray.empty := ⟨_, rfl⟩
        have hcell : wr.cell? ⟨b, off + k, none⟩ = some (.string u) := by rw [hu]; exact (hbel.cell (by exact hb)).trans (hc k hlt)
        have HU : Hid (u = ss.getD k ByteArray.empty) := hu
        clear hu hc hown0 hb0
        go_wp2_with (at_builtin; refine wpList_append_fits _ rfl _ _ 31 rfl w.heap.size 34 i0 1 Eemg.underlying31 hi hz1 w.heap.size k ss.length _ rfl ((hown.alloc _).alloc _) ⟨wr.heap.size + 1, 0, none⟩ 1 1 [.iface 27 (.pointer (some ⟨wr.heap.size, 0, none⟩))] rfl rfl ?c1 ?c2 ?c3 ?_)
        case c1 =>
          intro j x hj
          match j, hj with
          | 0, hj => simp at hj; subst hj; simp [Addr.add]
        case c2 => intro x hx; simp at hx; subst hx; rfl
        case c3 => omega
        intro w3 hown3 hgrow3
        go_wp2
        go_roundw
        case rel => exact ⟨k + 1, _, by omega, by go_num, rfl, hown3, Nodes.next hnod HU.out hlt0 rfl hgrow3, ((hbel.alloc hbel.size _).alloc (by simp; omega) _).grown hgrow3 (by simp; omega) (fun q hq => by cases hq; exact Nat.le_refl _)⟩
        case measure => simp [intOf]; omega
      · have hk2 : k = ss.length := by omega
        have HK : Hid (k = ss.length) := hk2
        clear hk2
        go_wp2
        go_ret
        refine ⟨⟨some ⟨w.heap.size, 0, none⟩, ss.length, by rw [HK.out]; rfl, .inr ⟨w.heap.size, 0, rfl, hlt0, fun i hi => ?_⟩⟩, hbel⟩
        obtain ⟨v, h1, h2⟩ := hnod.2 i (by rw [HK.out]; exact hi)
        exact ⟨v, by rw [Nat.zero_add, hown.cellAt i (by rw [HK.out]; omega)]; exact h1, h2.mono (Nat.zero_le _)⟩
end Go.Proofs.Yoeemw
