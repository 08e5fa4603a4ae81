/-
  (*CallExpr).String (11).
-/
import Derived.Test.YoeemwJoin
import Derived.BigCall
import Derived.Maps.AppendAt
namespace Go.Proofs.Yoeemw
open Go.RowKit

/-- A call at block b: its Func is an Ident named s, its Args are Idents named ss, its Ellipsis is el. -/
structure Call (w : World) (b : Nat) (s : ByteArray) (ss : List ByteArray) (el : Int) : Prop where
  lt : b < w.heap.size
  fn : ∃ bf, w.cell? ⟨b, 0, none⟩ = some (.iface 27 (.pointer (some ⟨bf, 0, none⟩))) ∧ bf < w.heap.size ∧ w.cell? ⟨bf, 0, none⟩ = some (.string s)
  args : ∃ a c, w.cell? ⟨b, 2, none⟩ = some (.slice a ss.length c) ∧ Exprs w a ss
  ell : w.cell? ⟨b, 3, none⟩ = some (.int .i64 el)

theorem Call.kept {w w' : World} {b : Nat} {s : ByteArray} {ss : List ByteArray} {el : Int} (h : Call w b s ss el) (hb : Below w.heap.size w w') : Call w' b s ss el := by
  obtain ⟨h1, ⟨bf, h2, h3, h4⟩, ⟨a, c, h5, h6⟩, h7⟩ := h
  exact ⟨Nat.lt_of_lt_of_le h1 hb.size, ⟨bf, (hb.cell (by exact h1)).trans h2, Nat.lt_of_lt_of_le h3 hb.size, (hb.cell (by exact h3)).trans h4⟩, ⟨a, c, (hb.cell (by exact h1)).trans h5, h6.kept hb⟩, (hb.cell (by exact h1)).trans h7⟩

theorem mem_total (ss : List ByteArray) (t : ByteArray) (h : t ∈ ss) : t.size ≤ total ss := by
  induction ss with
  | nil => simp at h
  | cons x xs ih =>
    simp only [total]
    rcases List.mem_cons.1 h with rfl | h
    · omega
    · have := ih h; omega
theorem parts_length (ss : List ByteArray) (el : Int) : (parts ss el).length = ss.length := by unfold parts; split <;> simp
theorem total_set (ss : List ByteArray) (k : Nat) (t : ByteArray) (h : k < ss.length) : total (ss.set k t) + (ss.getD k ByteArray.empty).size = total ss + t.size := by
  induction ss generalizing k with
  | nil => simp at h
  | cons x xs ih =>
    match k with
    | 0 => simp [total]; omega
    | k + 1 =>
      have := ih k (by simpa using h)
      simp only [List.set_cons_succ, total, List.getD_cons_succ]
      omega
theorem total_parts (ss : List ByteArray) (el : Int) (h : 0 < ss.length) (he : el ≠ 0) : total (parts ss el) = total ss + 3 := by
  have := total_set ss (ss.length - 1) (ss.getD (ss.length - 1) ByteArray.empty ++ dots) (by omega)
  rw [ByteArray.size_append] at this
  have e : dots.size = 3 := rfl
  unfold parts
  rw [if_neg he]
  omega

theorem own_next {w3 : World} {B k : Nat} {ss : List ByteArray} {u : ByteArray} {v' : Value} (h : k < ss.length) (hu : u = ss.getD k ByteArray.empty) (hown : w3.ownsRow B 9 1 v' (k + 1) ((ss.take k).map Value.string ++ [.string u])) :
    ∃ ao cv, v' = .slice ao (k + 1) cv ∧ w3.ownsRow B 9 1 (.slice ao (k + 1) cv) (k + 1) ((ss.take (k + 1)).map Value.string) := by
  have e : (ss.take (k + 1)).map Value.string = (ss.take k).map Value.string ++ [.string u] := by rw [take_next ss k h, hu]; simp
  rw [e]
  rcases hown.2 with ⟨_, h⟩ | ⟨g3, cap3, _, h, _⟩
  · omega
  · exact ⟨_, _, h, by rw [← h]; exact hown⟩

set_option maxHeartbeats 1600000 in
theorem str11 (b : Nat) (s : ByteArray) (ss : List ByteArray) (el : Int) (w : World) (h : Call w b s ss el) (hn : ss.length ≤ 65536) (hs : s.size ≤ 1048576) (ht : total ss ≤ 1048576) :
    Calls Eemg.prog 11 #[.pointer (some ⟨b, 0, none⟩)] w fun e w' => e = .returned (.string (text s ss el)) ∧ Below w.heap.size w w' := by
  obtain ⟨i0, hi, hz0, hz1, hz2⟩ := info_parts Eemg.info9
  obtain ⟨hlt, ⟨bf, hf, hbf, hfs⟩, ⟨a, c, ha, hE⟩, hell⟩ := h
  go_enter Eemg.func11, Eemg.ntmps11
  go_wp2_with fail
  go_loopw [3, 11] (fun v i wr => ∃ (k : Nat) (ao : Option Addr) (cv : Nat), k ≤ ss.length ∧ i = .int .i64 k ∧ v = .slice ao k cv ∧ wr.ownsRow w.heap.size 9 1 (.slice ao k cv) k ((ss.take k).map Value.string) ∧ Below w.heap.size w wr)
    (fun _ i _ => ss.length - (intOf i).toNat)
  case atStart => exact ⟨0, none, 0, Nat.zero_le _, rfl, rfl, World.ownsRow_nil _ _ _ _, Below.refl _ _⟩
  case round =>
    obtain ⟨k, ao, cv, hk, rfl, rfl, hown, hbel⟩ := hrel
    have hsize := hbel.size
    by_cases hlt2 : k < ss.length
    · obtain ⟨g, off, rfl, hg, hc⟩ : ∃ g off, a = some ⟨g, off, none⟩ ∧ g < w.heap.size ∧ ∀ i, i < ss.length → ∃ v, w.cell? ⟨g, off + i, none⟩ = some v ∧ Node w 0 (ss.getD i ByteArray.empty) v := by
        rcases hE with rfl | h
        · simp at hlt2
        · exact h
      obtain ⟨v, hv, bk, rfl, _, hbk, hs0, _⟩ := hc k hlt2
      obtain ⟨u, hu⟩ : ∃ u, u = ss.getD k ByteArray.empty := ⟨_, rfl⟩
      rw [← hu] at hs0
      have hcell : wr.cell? ⟨g, off + k, none⟩ = some (.iface 27 (.pointer (some ⟨bk, 0, none⟩))) := (hbel.cell (by exact hg)).trans hv
      have hstr : wr.cell? ⟨bk, 0, none⟩ = some (.string u) := (hbel.cell (by exact hbk)).trans hs0
      have hm := meth_str27 bk
      have HU : Hid (u = ss.getD k ByteArray.empty) := hu
      have H44 := ident44 u bk wr hstr
      clear hu hc hv hs0
      go_wp2_with fail
      refine H44.mono ?_
      clear H44
      rintro e w' ⟨rfl, hw⟩
      rw [hw]; clear hw
      go_wp2_with (at_builtin; refine wpList_append_own _ rfl _ _ 22 rfl w.heap.size 9 i0 (.string ByteArray.empty) 1 16 Eemg.underlying22 hi hz0 hz1 hz2 rfl (by decide) _ _ _ rfl (hown.alloc _) ⟨wr.heap.size, 0, none⟩ 1 1 [.string u] rfl rfl (cell_one_new _ _ _) (fun x hx => by simp at hx; subst hx; rfl) (by unfold maxLen; omega) (by omega) (by simp; omega) ?_; intro v' w3 hown' hgrow3 hnil3)
      go_roundw
      case rel =>
        obtain ⟨ao', cv', hv', ho'⟩ := own_next hlt2 HU.out hown'
        exact ⟨k + 1, ao', cv', by omega, by go_num, hv', ho', (hbel.alloc hsize _).grown hgrow3 (by simp; omega) (fun q hq => (hown.lt q hq).1)⟩
      case measure => simp [intOf]; omega
    · have hk2 : k = ss.length := by omega
      rw [hk2, List.take_length] at hown
      have h0 : wr.cell? ⟨b, 0, none⟩ = some (.iface 27 (.pointer (some ⟨bf, 0, none⟩))) := (hbel.cell (by exact hlt)).trans hf
      have h3 : wr.cell? ⟨b, 3, none⟩ = some (.int .i64 el) := (hbel.cell (by exact hlt)).trans hell
      have hstr : wr.cell? ⟨bf, 0, none⟩ = some (.string s) := (hbel.cell (by exact hbf)).trans hfs
      have hm := meth_str27 bf
      subst hk2
      clear hf hell hfs ha hE hlt2 hk
      have hss : (s ++ (⟨#[40]⟩ : ByteArray)).size = s.size + 1 := by rw [ByteArray.size_append]; rfl
      by_cases hpos : 0 < ss.length
      · by_cases hel : el = 0
        · have J : Calls Eemg.prog 19 #[.slice ao ss.length cv, .string ⟨#[44, 32]⟩] wr fun e w' => e = .returned (.string (joined ss)) ∧ Below wr.heap.size wr w' := join_own _ ao cv ss wr hown hn (by omega)
          have HJ := joined_size ss
          have J44 := ident44 s bf wr hstr
          have e0 : (el != 0) = false := by simp [hel]
          have E : Hid (text s ss el = s ++ ⟨#[40]⟩ ++ joined ss ++ ⟨#[41]⟩) := by unfold text parts; rw [if_pos hel]; rfl
          clear hel hown
          go_wp2_with (go_at_call 18; refine (valid18 _ _).mono ?_; rintro e w' ⟨rfl, rfl⟩)
          refine J44.mono ?_
          rintro e w' ⟨rfl, hw⟩
          rw [hw]; clear hw J44
          go_wp2_with fail
          refine J.mono ?_
          rintro e w4 ⟨rfl, hb4⟩
          clear J
          generalize joined ss = j at HJ E ⊢
          have hj : j.size ≤ 2000000 := by omega
          clear HJ
          have hs2 : (s ++ (⟨#[40]⟩ : ByteArray) ++ j).size = s.size + 1 + j.size := by rw [ByteArray.size_append, hss]
          go_wp2_with fail
          go_ret
          exact ⟨by rw [E.out]; rfl, hbel.trans (hb4.mono hsize)⟩
        · have e0 : (el != 0) = true := by simp [hel]
          obtain ⟨g, hao⟩ : ∃ g, ao = some ⟨g, 0, none⟩ := by
            rcases hown.2 with ⟨_, hz⟩ | ⟨g, cap, cur, h, _⟩
            · omega
            · simp only [Value.slice.injEq, true_and] at h
              exact ⟨g, h.1⟩
          subst hao
          have hgw : w.heap.size ≤ g := (hown.lt g rfl).1
          obtain ⟨u, hu⟩ : ∃ u, u = ss.getD (ss.length - 1) ByteArray.empty := ⟨_, rfl⟩
          have hcl : wr.cell? ⟨g, ss.length - 1, none⟩ = some (.string u) := by
            rw [hown.cellAt _ (by omega), hu]
            simp [List.getD, show ss.length - 1 < ss.length by omega]
          have hfz : wr.frozen? ⟨g, ss.length - 1, none⟩ = false := hown.frozenAt _
          have husz : u.size ≤ 1048576 := by
            have := mem_total ss u (by rw [hu]; exact getD_mem ss _ (by omega))
            omega
          have hst := (hown.stored (ss.length - 1) (.string (u ++ dots))).1
          have hps : (ss.map Value.string).set (ss.length - 1) (.string (u ++ dots)) = (parts ss el).map Value.string := by
            unfold parts
            rw [if_neg hel, List.map_set, hu]
          rw [hps] at hst
          have hpl := parts_length ss el
          have hpt := total_parts ss el hpos hel
          have B2 : Below w.heap.size w (wr.setCell ⟨g, ss.length - 1, none⟩ (.string (u ++ dots))) := hbel.setCell (p := ⟨g, ss.length - 1, none⟩) hgw _
          have J0 := join_own _ (some ⟨g, 0, none⟩) cv (parts ss el) (wr.setCell ⟨g, ss.length - 1, none⟩ (.string (u ++ dots))) (by rw [hpl]; exact hst) (by omega) (by omega)
          rw [hpl] at J0
          have J : Calls Eemg.prog 19 #[.slice (some ⟨g, 0, none⟩) ss.length cv, .string ⟨#[44, 32]⟩] (wr.setCell ⟨g, ss.length - 1, none⟩ (.string (u ++ ⟨#[46, 46, 46]⟩))) fun e w' => e = .returned (.string (joined (parts ss el))) ∧ Below (wr.setCell ⟨g, ss.length - 1, none⟩ (.string (u ++ dots))).heap.size (wr.setCell ⟨g, ss.length - 1, none⟩ (.string (u ++ dots))) w' := J0
          have HJ := joined_size (parts ss el)
          rw [hpl, hpt] at HJ
          have k0 : (wr.setCell ⟨g, ss.length - 1, none⟩ (.string (u ++ ⟨#[46, 46, 46]⟩))).cell? ⟨b, 0, none⟩ = some (.iface 27 (.pointer (some ⟨bf, 0, none⟩))) := by
            rw [World.cell?_of_block (Below.heap_setCell wr ⟨g, ss.length - 1, none⟩ _ b (by show b ≠ g; omega))]; exact h0
          have kstr : (wr.setCell ⟨g, ss.length - 1, none⟩ (.string (u ++ ⟨#[46, 46, 46]⟩))).cell? ⟨bf, 0, none⟩ = some (.string s) := by
            rw [World.cell?_of_block (Below.heap_setCell wr ⟨g, ss.length - 1, none⟩ _ bf (by show bf ≠ g; omega))]; exact hstr
          have J44 := ident44 s bf _ kstr
          have E : Hid (text s ss el = s ++ ⟨#[40]⟩ ++ joined (parts ss el) ++ ⟨#[41]⟩) := rfl
          have hsz2 : Hid (w.heap.size ≤ (wr.setCell ⟨g, ss.length - 1, none⟩ (.string (u ++ dots))).heap.size) := B2.size
          clear hel hown hu hst hps hpl hpt J0
          go_wp2_with (go_at_call 18; refine (valid18 _ _).mono ?_; rintro e w' ⟨rfl, hw⟩; rw [hw]; clear hw)
          refine J44.mono ?_
          rintro e w' ⟨rfl, hw⟩
          rw [hw]; clear hw J44
          go_wp2_with fail
          refine J.mono ?_
          rintro e w4 ⟨rfl, hb4⟩
          clear J
          generalize joined (parts ss el) = j at HJ E ⊢
          have hj : j.size ≤ 2000000 := by omega
          clear HJ
          have hs2 : (s ++ (⟨#[40]⟩ : ByteArray) ++ j).size = s.size + 1 + j.size := by rw [ByteArray.size_append, hss]
          go_wp2_with fail
          go_ret
          exact ⟨by rw [E.out]; rfl, B2.trans (hb4.mono hsz2.out)⟩
      · have h0' : ss = [] := List.eq_nil_of_length_eq_zero (by omega)
        subst h0'
        have J : Calls Eemg.prog 19 #[.slice ao 0 cv, .string ⟨#[44, 32]⟩] wr fun e w' => e = .returned (.string (joined [])) ∧ Below wr.heap.size wr w' := join_own _ ao cv [] wr hown hn (by simp [total])
        have HJ := joined_size []
        have J44 := ident44 s bf wr hstr
        have E : Hid (text s [] el = s ++ ⟨#[40]⟩ ++ joined [] ++ ⟨#[41]⟩) := by unfold text parts; split <;> rfl
        go_wp2_with fail
        refine J44.mono ?_
        rintro e w' ⟨rfl, hw⟩
        rw [hw]; clear hw J44
        go_wp2_with fail
        refine J.mono ?_
        rintro e w4 ⟨rfl, hb4⟩
        clear J
        generalize joined [] = j at HJ E ⊢
        have hj : j.size ≤ 0 := by rw [HJ]; decide
        clear HJ
        have hs2 : (s ++ (⟨#[40]⟩ : ByteArray) ++ j).size = s.size + 1 + j.size := by rw [ByteArray.size_append, hss]
        go_wp2_with fail
        go_ret
        exact ⟨by rw [E.out]; rfl, hbel.trans (hb4.mono hsize)⟩
end Go.Proofs.Yoeemw
