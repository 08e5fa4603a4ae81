/-
  A call that a law has just made; the two printed forms of one call.
-/
import Derived.Test.YoeemwStr
namespace Go.Proofs.Yoeemw
open Go.RowKit

/-- The Ident is laid, the arguments are built, the call is laid. -/
theorem call_made {w1 w2 : World} {s : ByteArray} {ss : List ByteArray} {a : Option Addr} {c : Nat} {p v1 v4 : Value} {el : Int}
    (hb : Below (w1.alloc (.cells #[.string s, p] 30)).heap.size (w1.alloc (.cells #[.string s, p] 30)) w2) (hE : Exprs w2 a ss) :
    Call (w2.alloc (.cells #[.iface 27 (.pointer (some ⟨w1.heap.size, 0, none⟩)), v1, .slice a ss.length c, .int .i64 el, v4] 36)) w2.heap.size s ss el := by
  have hsz := hb.size
  simp only [World.size_alloc] at hsz
  have B : Below w2.heap.size w2 (w2.alloc (.cells #[.iface 27 (.pointer (some ⟨w1.heap.size, 0, none⟩)), v1, .slice a ss.length c, .int .i64 el, v4] 36)) := (Below.refl _ _).alloc (Nat.le_refl _) _
  refine ⟨by simp, ⟨w1.heap.size, by simp, by simp only [World.size_alloc]; omega, ?_⟩, ⟨a, c, by simp, hE.kept B⟩, by simp⟩
  rw [B.cell (by show w1.heap.size < w2.heap.size; omega), hb.cell (by simp)]
  simp

theorem toList_join (xs : List (List UInt8)) (l d : List UInt8) (sep : List UInt8) : Lib.join (xs ++ [l ++ d]) sep = Lib.join (xs ++ [l]) sep ++ d := by
  match xs with
  | [] => simp [Lib.join_one]
  | x :: r =>
    rw [List.cons_append, List.cons_append, Lib.join_cons, Lib.join_cons]
    simp [Lib.joinTail]

theorem last_split (ss : List ByteArray) (h : 0 < ss.length) (t : ByteArray) : ss.set (ss.length - 1) t = ss.take (ss.length - 1) ++ [t] ∧ ss = ss.take (ss.length - 1) ++ [ss.getD (ss.length - 1) ByteArray.empty] := by
  obtain ⟨k, hk⟩ : ∃ k, ss.length = k + 1 := ⟨ss.length - 1, by omega⟩
  rw [hk, Nat.add_sub_cancel]
  refine ⟨?_, ?_⟩
  · apply List.ext_getElem?
    intro i
    by_cases hi : i < k
    · rw [List.getElem?_append_left (by simp; omega), List.getElem?_set_ne (by omega), List.getElem?_take, if_pos hi]
    · by_cases hi2 : i = k
      · subst hi2
        rw [List.getElem?_append_right (by simp; omega), List.getElem?_set_self (by omega)]
        simp [hk]
      · rw [List.getElem?_eq_none (by simp; omega), List.getElem?_eq_none (by simp; omega)]
  · have := take_next ss k (by omega)
    rw [← this, List.take_of_length_le (by omega)]

/-- The dots go behind the whole list. -/
theorem joined_dots (ss : List ByteArray) (el : Int) (h : 0 < ss.length) (he : el ≠ 0) : joined (parts ss el) = joined ss ++ dots := by
  obtain ⟨e1, e2⟩ := last_split ss h (ss.getD (ss.length - 1) ByteArray.empty ++ dots)
  have d1 : (ss.getD (ss.length - 1) ByteArray.empty ++ dots).data.toList = (ss.getD (ss.length - 1) ByteArray.empty).data.toList ++ dots.data.toList := by
    rw [ByteArray.data_append, Array.toList_append]
  have j1 : Lib.join ((parts ss el).map (·.data.toList)) [44, 32] = Lib.join (ss.map (·.data.toList)) [44, 32] ++ dots.data.toList := by
    unfold parts
    rw [if_neg he, e1]
    have e3 : ss.map (·.data.toList) = (ss.take (ss.length - 1)).map (·.data.toList) ++ [(ss.getD (ss.length - 1) ByteArray.empty).data.toList] := by
      have := congrArg (List.map (fun x : ByteArray => x.data.toList)) e2
      rw [List.map_append, List.map_singleton] at this
      exact this
    rw [e3, List.map_append, List.map_singleton, d1, toList_join]
  unfold joined
  rw [j1]
  apply ByteArray.ext
  rw [ByteArray.data_append]
  simp

/-- The call's text up to its closing parenthesis, without the dots. -/
def stem (s : ByteArray) (ss : List ByteArray) : ByteArray := s ++ ⟨#[40]⟩ ++ joined ss
theorem text_plain (s : ByteArray) (ss : List ByteArray) : text s ss 0 = stem s ss ++ ⟨#[41]⟩ := rfl
theorem text_spread (s : ByteArray) (ss : List ByteArray) (el : Int) (h : 0 < ss.length) (he : el ≠ 0) : text s ss el = stem s ss ++ ⟨#[46, 46, 46, 41]⟩ := by
  unfold text stem
  rw [joined_dots ss el h he]
  simp only [ByteArray.append_assoc]
  congr 3
theorem text_empty (s : ByteArray) (el : Int) : text s [] el = text s [] 0 := by
  unfold text parts; split <;> rfl
theorem extract_head (q t : ByteArray) : (q ++ t).extract 0 q.size = q := ByteArray.extract_append_eq_left rfl
theorem extract_tail (q t : ByteArray) : (q ++ t).extract q.size (q.size + t.size) = t := ByteArray.extract_append_eq_right rfl rfl
theorem stem_size (s : ByteArray) (ss : List ByteArray) : (stem s ss).size = s.size + 1 + (total ss + 2 * (ss.length - 1)) := by
  unfold stem
  rw [ByteArray.size_append, ByteArray.size_append, joined_size]; rfl
end Go.Proofs.Yoeemw
