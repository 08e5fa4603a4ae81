/-
  strings.Join over a slice that the call itself made; the printed form of a call, as a plain function
-/
import Derived.Test.YoeemwStr0
import Derived.Test.YoeemwShelf
namespace Go.Proofs.Yoeemw
open Go.RowKit

def comma : ByteArray := ⟨#[44, 32]⟩
def dots : ByteArray := ⟨#[46, 46, 46]⟩

/-- The arguments as they are joined: the last one bears the dots if the call is spread. -/
def parts (ss : List ByteArray) (el : Int) : List ByteArray := if el = 0 then ss else ss.set (ss.length - 1) (ss.getD (ss.length - 1) ByteArray.empty ++ dots)
/-- The arguments' text. -/
def joined (xs : List ByteArray) : ByteArray := ⟨(Lib.join (xs.map (·.data.toList)) [44, 32]).toArray⟩
/-- The call's text. -/
def text (s : ByteArray) (ss : List ByteArray) (el : Int) : ByteArray := s ++ ⟨#[40]⟩ ++ joined (parts ss el) ++ ⟨#[41]⟩

theorem tail_length : ∀ xs : List ByteArray, (Lib.joinTail [44, 32] (xs.map (·.data.toList))).length = total xs + 2 * xs.length
  | [] => rfl
  | x :: xs => by
    have ih := tail_length xs
    simp only [Lib.joinTail, List.map_cons, List.flatten_cons, List.length_append, List.length_cons, List.length_nil, total] at ih ⊢
    rw [ih]
    have : x.data.toList.length = x.size := Array.length_toList
    omega

/-- The length of the arguments' text. -/
theorem joined_size (xs : List ByteArray) : (joined xs).size = total xs + 2 * (xs.length - 1) := by
  match xs with
  | [] => rfl
  | x :: r =>
    have : (joined (x :: r)).size = (Lib.join ((x :: r).map (·.data.toList)) [44, 32]).length := by simp [joined, ByteArray.size]
    rw [this, List.map_cons, Lib.join_cons, List.length_append, tail_length]
    have : x.data.toList.length = x.size := Array.length_toList
    simp [total]; omega

theorem join_own (base : Nat) (ao : Option Addr) (cv : Nat) (xs : List ByteArray) (w : World) (hown : w.ownsRow base 9 1 (.slice ao xs.length cv) xs.length (xs.map Value.string)) (hn : xs.length ≤ 65536) (ht : total xs ≤ 2097152) :
    Calls Eemg.prog 19 #[.slice ao xs.length cv, .string comma] w fun e w' => e = .returned (.string (joined xs)) ∧ Below w.heap.size w w' := by
  by_cases h0 : xs = []
  · subst h0
    refine (Eemg.strings_Join_none ao cv comma w).mono fun e w' ⟨he, hw⟩ => ?_
    subst hw
    exact ⟨he, Below.refl _ _⟩
  · have hl : 0 < xs.length := List.length_pos_iff.2 h0
    rcases hown.2 with ⟨h, hz⟩ | ⟨g, cap, cur, h, _, hg, hc, _⟩
    · omega
    · simp only [Value.slice.injEq, true_and] at h
      obtain ⟨rfl, rfl⟩ := h
      have hsz := joined_size xs
      refine Eemg.strings_Join g 0 cv xs comma w (fun j x hx => ?_) ((Array.getElem?_eq_some_iff.1 hg).1) (by omega) hc ?_
      · have hj := (List.getElem?_eq_some_iff.1 hx).1
        rw [Nat.zero_add, hown.cellAt j (by omega)]
        simp [hx]
      · have e : (Lib.join (xs.map (·.data.toList)) comma.data.toList).length = (joined xs).size := by simp [joined, ByteArray.size, comma]
        rw [e, hsz]; omega
end Go.Proofs.Yoeemw
