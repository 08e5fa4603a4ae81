/-
  zzChain (13), (*CallExpr).Pos (14), (*CallExpr).End (16).
-/
import Derived.Test.YoeemwArgs
namespace Go.Proofs.Yoeemw
open Go.RowKit

/-- A chain of d + 1 calls at block b, every block of it lo or later, whose name stands at p. -/
def Chain (w : World) (lo : Nat) (p : Int) : Nat → Nat → Prop
  | 0, b => lo ≤ b ∧ b < w.heap.size ∧ ∃ b', w.cell? ⟨b, 0, none⟩ = some (.iface 27 (.pointer (some ⟨b', 0, none⟩))) ∧ lo ≤ b' ∧ b' < w.heap.size ∧ w.cell? ⟨b', 1, none⟩ = some (.int .i64 p)
  | d + 1, b => lo ≤ b ∧ b < w.heap.size ∧ ∃ b', w.cell? ⟨b, 0, none⟩ = some (.iface 26 (.pointer (some ⟨b', 0, none⟩))) ∧ Chain w lo p d b'

theorem Chain.kept {w w' : World} {lo : Nat} {p : Int} (hs : w.heap.size ≤ w'.heap.size) (hk : ∀ b, lo ≤ b → b < w.heap.size → w'.heap[b]? = w.heap[b]?) : ∀ (d b : Nat), Chain w lo p d b → Chain w' lo p d b
  | 0, b, ⟨h1, h2, b', h3, h4, h5, h6⟩ => ⟨h1, by omega, b', by rw [World.cell?_of_block (hk b h1 h2)]; exact h3, h4, by omega, by rw [World.cell?_of_block (hk b' h4 h5)]; exact h6⟩
  | d + 1, b, ⟨h1, h2, b', h3, h4⟩ => ⟨h1, by omega, b', by rw [World.cell?_of_block (hk b h1 h2)]; exact h3, Chain.kept hs hk d b' h4⟩
theorem Chain.mono {w : World} {lo lo' : Nat} {p : Int} (hl : lo' ≤ lo) : ∀ (d b : Nat), Chain w lo p d b → Chain w lo' p d b
  | 0, _, ⟨h1, h2, b', h3, h4, h5, h6⟩ => ⟨by omega, h2, b', h3, by omega, h5, h6⟩
  | d + 1, _, ⟨h1, h2, b', h3, h4⟩ => ⟨by omega, h2, b', h3, Chain.mono hl d b' h4⟩

/-- A pointer to such a chain comes back. -/
def Chained (lo : Nat) (p : Int) (e : Ending) (w' : World) : Prop := ∃ d b, e = .returned (.pointer (some ⟨b, 0, none⟩)) ∧ Chain w' lo p d b

theorem chain_new (w : World) (s : ByteArray) (p : Int) (v1 v2 v3 v4 : Value) : Chain ((w.alloc (.cells #[.iface 27 (.pointer (some ⟨w.heap.size + 1, 0, none⟩)), v1, v2, v3, v4] 36)).alloc (.cells #[.string s, .int .i64 p] 30)) w.heap.size p 0 w.heap.size := by
  refine ⟨Nat.le_refl _, by simp; omega, w.heap.size + 1, ?_, by omega, by simp, ?_⟩
  · rw [World.cell?_of_block (w := w.alloc _) (Below.heap_alloc _ _ _ (by simp))]; simp
  · have e : w.heap.size + 1 = (w.alloc (.cells #[.iface 27 (.pointer (some ⟨w.heap.size + 1, 0, none⟩)), v1, v2, v3, v4] 36)).heap.size := by simp
    rw [e]; simp

theorem chain_more (w w1 : World) (p : Int) (d b : Nat) (vs : Array Value) (u : Value) (h0 : w1.cell? ⟨w.heap.size, 0, none⟩ = some u) (hb : Below (w.alloc (.cells vs 36)).heap.size (w.alloc (.cells vs 36)) w1) (hc : Chain w1 (w.alloc (.cells vs 36)).heap.size p d b) :
    Chain (w1.setCell ⟨w.heap.size, 0, none⟩ (.iface 26 (.pointer (some ⟨b, 0, none⟩)))) w.heap.size p (d + 1) w.heap.size ∧ Below w.heap.size w (w1.setCell ⟨w.heap.size, 0, none⟩ (.iface 26 (.pointer (some ⟨b, 0, none⟩)))) := by
  have hsz := hb.size
  simp only [World.size_alloc] at hsz hb hc
  refine ⟨⟨Nat.le_refl _, by simp [World.setCell]; omega, b, ?_, ?_⟩, ?_⟩
  · exact World.cell?_setCell_same _ _ _ h0
  · refine Chain.mono (Nat.le_succ _) d b (Chain.kept (by simp [World.setCell]) (fun x hx _ => ?_) d b hc)
    exact Below.heap_setCell _ _ _ _ (by simp; omega)
  · have h2 : Below w.heap.size w w1 := ((Below.refl _ _).alloc (Nat.le_refl _) _).trans (hb.mono (by omega))
    exact h2.setCell (p := ⟨w.heap.size, 0, none⟩) (Nat.le_refl _) _

set_option maxHeartbeats 800000 in
theorem chain13 (s : ByteArray) (p l r el : Int) (a : Option Addr) (n c : Nat) (k : Nat) : ∀ (D : Int) (w : World), 1 ≤ D → D ≤ (k : Int) + 1 → D ≤ 65536 →
    Calls Eemg.prog 13 #[.string s, .int .i64 p, .int .i64 l, .int .i64 r, .int .i64 el, .slice a n c, .int .i64 D] w fun e w' => Chained w.heap.size p e w' ∧ Below w.heap.size w w' := by
  induction k with
  | zero =>
    intro D w h1 h2 h3
    have h4 : D ≤ 1 := by omega
    clear h2
    go_enter Eemg.func13, Eemg.ntmps13
    go_wp2_with fail
    go_ret
    exact ⟨⟨0, w.heap.size, rfl, chain_new w s p _ _ _ _⟩, ((Below.refl _ _).alloc (Nat.le_refl _) _).alloc (by simp) _⟩
  | succ k ih =>
    intro D w h1 h2 h3
    by_cases h4 : D ≤ 1
    · go_enter Eemg.func13, Eemg.ntmps13
      go_wp2_with fail
      go_ret
      exact ⟨⟨0, w.heap.size, rfl, chain_new w s p _ _ _ _⟩, ((Below.refl _ _).alloc (Nat.le_refl _) _).alloc (by simp) _⟩
    · have IH : Hid (∀ (D : Int) (w : World), 1 ≤ D → D ≤ (k : Int) + 1 → D ≤ 65536 → Calls Eemg.prog 13 #[.string s, .int .i64 p, .int .i64 l, .int .i64 r, .int .i64 el, .slice a n c, .int .i64 D] w fun e w' => Chained w.heap.size p e w' ∧ Below w.heap.size w w') := ih
      clear ih
      go_enter Eemg.func13, Eemg.ntmps13
      go_wp2_with fail
      refine (IH.out (D - 1) _ (by omega) (by omega) (by omega)).mono ?_
      rintro e w1 ⟨⟨d, b, rfl, hch⟩, hb⟩
      have hcell : w1.cell? ⟨w.heap.size, 0, none⟩ = some .nilIface := by
        rw [hb.cell (by simp)]; simp
      have hfz : w1.frozen? ⟨w.heap.size, 0, none⟩ = false := by
        rw [hb.frozen (by simp)]; simp
      have HM := chain_more w w1 p d b _ _ hcell hb hch
      clear hb hch
      go_wp2_with fail
      go_ret
      exact ⟨⟨d + 1, w.heap.size, rfl, HM.1⟩, HM.2⟩

theorem meth_pos27 (b : Nat) (w : World) : (method 171 27 (.pointer (some ⟨b, 0, none⟩)) "Pos").run Eemg.prog w = .ok (43, .pointer (some ⟨b, 0, none⟩)) w := by kernel_rfl
theorem meth_pos26 (b : Nat) (w : World) : (method 171 26 (.pointer (some ⟨b, 0, none⟩)) "Pos").run Eemg.prog w = .ok (14, .pointer (some ⟨b, 0, none⟩)) w := by kernel_rfl

set_option maxHeartbeats 400000 in
theorem pos14 (p : Int) (lo : Nat) (d : Nat) : ∀ (b : Nat) (w : World), Chain w lo p d b →
    Calls Eemg.prog 14 #[.pointer (some ⟨b, 0, none⟩)] w fun e w' => e = .returned (.int .i64 p) ∧ w' = w := by
  induction d with
  | zero =>
    intro b w ⟨_, _, b', h1, _, _, h2⟩
    have hm := meth_pos27 b'
    go_enter Eemg.func14, Eemg.ntmps14
    go_wp2
    go_ret
    exact ⟨rfl, rfl⟩
  | succ d ih =>
    intro b w ⟨_, _, b', h1, h2⟩
    have hm := meth_pos26 b'
    have IH : Hid (∀ (b : Nat) (w : World), Chain w lo p d b → Calls Eemg.prog 14 #[.pointer (some ⟨b, 0, none⟩)] w fun e w' => e = .returned (.int .i64 p) ∧ w' = w) := ih
    clear ih
    go_enter Eemg.func14, Eemg.ntmps14
    go_wp2_with fail
    refine (IH.out b' _ h2).mono ?_
    rintro e w' ⟨rfl, rfl⟩
    go_wp2_with fail
    go_ret
    exact ⟨rfl, rfl⟩

theorem end16 (r : Int) (b : Nat) (w : World) (h : w.cell? ⟨b, 4, none⟩ = some (.int .i64 r)) :
    Calls Eemg.prog 16 #[.pointer (some ⟨b, 0, none⟩)] w fun e w' => e = .returned (.int .i64 (wrap64 (r + 1))) ∧ w' = w := by
  go_enter Eemg.func16, Eemg.ntmps16
  go_wp2
  go_ret
  exact ⟨rfl, rfl⟩
end Go.Proofs.Yoeemw
