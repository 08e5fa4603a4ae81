/-
  'Rows.FnCallSpanEqualsTextSaid', proved: the row round the walk of YoeemwSpanWalk.
-/
import Derived.Test.YoeemwSpanWalk
import Derived.Test.YoeemwOpen
import Derived.OpenShut
namespace Go.Proofs.Yoeemw
open Go.ChangeShapes Go.WideShapes Go.ChangeAt Go.RowKit
open Go.ChangeMaps (open_string shut_string)

set_option maxRecDepth 100000 in
theorem span_lifted (os : Os) (started : os.Started) (H : Type) (enc : TypeId × Value → H) :
    ReturnsInHanded {} Eemg.checked os 5 .any (Rows.fnCallSpanEqualsTextSpec.pre6 enc Eemg.prog Eemg.f5 Rows.fnCallSpanEqualsTextRow.domain false) (Rows.fnCallSpanEqualsTextSpec.post enc Eemg.prog Eemg.f5 false true false false) := by
  refine returnsInHanded_of_change (C := Eemg.checked) Eemg.own started (by kernel_rfl) Eemg.func5
    (ChangeSpec.witness6 (enc := enc) (C := Eemg.checked) false ⟨#[], #[.int .i64 0, .string ⟨#[]⟩, .slice none 0 0, .bool false], []⟩ 8 (by kernel_rfl) (by kernel_rfl) (by kernel_rfl) (by kernel_rfl)) ?_
  intro W base args ds gs before hval0 hW hcnd _
  have hval : ∀ (j : Nat) t v, Eemg.f5.params[j]? = some t → args[j]? = some v → Value.okWide Eemg.prog W .any base t v := hval0
  have hW' := hW
  obtain ⟨p, q, hA0, hV, rfl, hfz, hnd⟩ := hW
  have hA : DataW.TrodAll enc Eemg.prog W 0 (fun _ => true) true Eemg.f5.params.toList args.toList ds p := hA0
  rw [Eemg.params5] at hA hval
  obtain ⟨v0, vs0, d0, ds0, p0, q0, hargs, rfl, rfl, h0, r0⟩ := trodAll_cons hA
  obtain ⟨v1, vs1, d1, ds1, p1, q1, rfl, rfl, rfl, h1, r1⟩ := trodAll_cons r0
  obtain ⟨v2, vs2, d2, ds2, p2, q2, rfl, rfl, rfl, h2, r2⟩ := trodAll_cons r1
  obtain ⟨v3, vs3, d3, ds3, p3, q3, rfl, rfl, rfl, h3, r3⟩ := trodAll_cons r2
  obtain ⟨rfl, rfl, rfl⟩ := trodAll_nil r3
  obtain rfl : args = #[v0, v1, v2, v3] := by cases args; simp_all
  obtain ⟨rfl, rfl⟩ := trodVars_none hV
  obtain ⟨x0, rfl, rfl, rfl, w0⟩ := open_int Eemg.underlying3 (hval 0 3 v0 rfl rfl) h0
  obtain ⟨s, rfl, rfl, rfl, ws⟩ := open_string Eemg.underlying9 (hval 1 9 v1 rfl rfl) h1
  obtain ⟨a2, len2, cap2, rfl⟩ := okWide_slice Eemg.underlying22 (hval 2 22 v2 rfl rfl)
  have k2 := h2
  have lt2 : ∀ x ∈ p2, x.block < W.heap.size := by obtain ⟨m, hm⟩ := k2; exact DataW.trod_lt m _ _ _ hm
  obtain ⟨ss, rfl, hn, hz, hS⟩ := open_args h2
  obtain ⟨y3, rfl, rfl, rfl⟩ := open_bool Eemg.underlying4 (hval 3 4 v3 rfl rfl) h3
  clear hA0 hval0
  refine (span5 x0 s a2 cap2 ss y3 W ws hn hz hS).mono fun e W' ⟨he, bel⟩ => ?_
  subst he
  exact ⟨_, rfl, _, _, _, [], _, [], hW', trodAll_mk1 (shut_bool Eemg.underlying4 _),
    (trodAll_cons_mk (shut_int Eemg.underlying3 w0) (trodAll_cons_mk (shut_string Eemg.underlying9 ws) (trodAll_cons_mk (Below.trod Eemg.laidOut (by kernel_rfl) (of_decide_eq_true (by kernel_rfl)) k2 bel lt2) (trodAll_cons_mk (shut_bool Eemg.underlying4 y3) trodAll_mk0)))), rfl, bel.frame _, fun h => by cases h⟩

theorem span_over : Rows.fnCallSpanEqualsTextRow.holds Eemg.pinned (OpenSpec.ofChange Rows.fnCallSpanEqualsTextSpec) :=
  OpenClaim.holds_of_wide 5 Eemg.f5 rfl rfl rfl rfl rfl rfl rfl ⟨rfl, rfl, rfl, rfl, rfl⟩ rfl rfl rfl rfl rfl (by kernel_rfl) Eemg.func5 (by kernel_rfl)
    (of_decide_eq_true (by kernel_rfl)) (by unfold Func.isWrapper; first | (rw [if_pos (by decide +kernel)]; kernel_rfl) | (rw [if_neg (by decide +kernel)]; exact ⟨rfl, rfl⟩))
    (fun os started H enc _ => span_lifted os started H enc)

/-- THE STATEMENT. -/
theorem fnCallSpanEqualsText_holds : Rows.FnCallSpanEqualsTextSaid := span_over
end Go.Proofs.Yoeemw
