/-
  'Rows.FnCallEndFollowsRParenSaid', proved: the row round the walk of YoeemwEndWalk.
-/
import Derived.Test.YoeemwEndWalk
import Derived.Test.YoeemwOpen
import Derived.OpenShut
namespace Go.Proofs.Yoeemw
open Go.ChangeShapes Go.WideShapes Go.ChangeAt Go.RowKit
open Go.ChangeMaps (open_string shut_string)

/-- An int lies within its kind. -/
theorem i64_bounds {x : Int} (h : (Lit.int .i64 x).wf = true) : -9223372036854775808 ≤ x ∧ x ≤ 9223372036854775807 := by
  simp [Lit.wf, IntKind.min, IntKind.max, IntKind.signed, IntKind.bits] at h
  exact ⟨by omega, by omega⟩

set_option maxRecDepth 100000 in
theorem end_lifted (os : Os) (started : os.Started) (H : Type) (enc : TypeId × Value → H) :
    ReturnsInHanded {} Eemg.checked os 6 .any (Rows.fnCallEndFollowsRParenSpec.pre6 enc Eemg.prog Eemg.f6 Rows.fnCallEndFollowsRParenRow.domain false) (Rows.fnCallEndFollowsRParenSpec.post enc Eemg.prog Eemg.f6 false true false false) := by
  refine returnsInHanded_of_change (C := Eemg.checked) Eemg.own started (by kernel_rfl) Eemg.func6
    (ChangeSpec.witness6 (enc := enc) (C := Eemg.checked) false ⟨#[], #[.string ⟨#[]⟩, .slice none 0 0, .int .i64 0, .int .i64 0, .int .i64 0, .int .i64 0, .int .i64 0], []⟩ 8 (by kernel_rfl) (by kernel_rfl) (by kernel_rfl) (by kernel_rfl)) ?_
  intro W base args ds gs before hval0 hW hcnd _
  have hval : ∀ (j : Nat) t v, Eemg.f6.params[j]? = some t → args[j]? = some v → Value.okWide Eemg.prog W .any base t v := hval0
  have hW' := hW
  obtain ⟨p, q, hA0, hV, rfl, hfz, hnd⟩ := hW
  have hA : DataW.TrodAll enc Eemg.prog W 0 (fun _ => true) true Eemg.f6.params.toList args.toList ds p := hA0
  rw [Eemg.params6] at hA hval
  obtain ⟨v0, vs0, d0, ds0, p0, q0, hargs, rfl, rfl, h0, r0⟩ := trodAll_cons hA
  obtain ⟨v1, vs1, d1, ds1, p1, q1, rfl, rfl, rfl, h1, r1⟩ := trodAll_cons r0
  obtain ⟨v2, vs2, d2, ds2, p2, q2, rfl, rfl, rfl, h2, r2⟩ := trodAll_cons r1
  obtain ⟨v3, vs3, d3, ds3, p3, q3, rfl, rfl, rfl, h3, r3⟩ := trodAll_cons r2
  obtain ⟨v4, vs4, d4, ds4, p4, q4, rfl, rfl, rfl, h4, r4⟩ := trodAll_cons r3
  obtain ⟨v5, vs5, d5, ds5, p5, q5, rfl, rfl, rfl, h5, r5⟩ := trodAll_cons r4
  obtain ⟨v6, vs6, d6, ds6, p6, q6, rfl, rfl, rfl, h6, r6⟩ := trodAll_cons r5
  obtain ⟨rfl, rfl, rfl⟩ := trodAll_nil r6
  obtain rfl : args = #[v0, v1, v2, v3, v4, v5, v6] := by cases args; simp_all
  obtain ⟨rfl, rfl⟩ := trodVars_none hV
  obtain ⟨s, rfl, rfl, rfl, ws⟩ := open_string Eemg.underlying9 (hval 0 9 v0 rfl rfl) h0
  obtain ⟨a1, len1, cap1, rfl⟩ := okWide_slice Eemg.underlying22 (hval 1 22 v1 rfl rfl)
  have k1 := h1
  have lt1 : ∀ x ∈ p1, x.block < W.heap.size := by obtain ⟨m, hm⟩ := k1; exact DataW.trod_lt m _ _ _ hm
  obtain ⟨ss, rfl, hn, hz, hS⟩ := open_args h1
  obtain ⟨x2, rfl, rfl, rfl, w2⟩ := open_int Eemg.underlying3 (hval 2 3 v2 rfl rfl) h2
  obtain ⟨x3, rfl, rfl, rfl, w3⟩ := open_int Eemg.underlying3 (hval 3 3 v3 rfl rfl) h3
  obtain ⟨x4, rfl, rfl, rfl, w4⟩ := open_int Eemg.underlying3 (hval 4 3 v4 rfl rfl) h4
  obtain ⟨x5, rfl, rfl, rfl, w5⟩ := open_int Eemg.underlying3 (hval 5 3 v5 rfl rfl) h5
  obtain ⟨x6, rfl, rfl, rfl, w6⟩ := open_int Eemg.underlying3 (hval 6 3 v6 rfl rfl) h6
  clear hA0 hval0
  refine (end6 s a1 cap1 ss x2 x3 x4 x5 x6 W ws hn hz (i64_bounds w4).1 (i64_bounds w4).2 hS).mono fun e W' ⟨he, bel⟩ => ?_
  subst he
  exact ⟨_, rfl, _, _, _, [], _, [], hW', trodAll_mk1 (shut_bool Eemg.underlying4 _),
    (trodAll_cons_mk (shut_string Eemg.underlying9 ws) (trodAll_cons_mk (Below.trod Eemg.laidOut (by kernel_rfl) (of_decide_eq_true (by kernel_rfl)) k1 bel lt1) (trodAll_cons_mk (shut_int Eemg.underlying3 w2) (trodAll_cons_mk (shut_int Eemg.underlying3 w3) (trodAll_cons_mk (shut_int Eemg.underlying3 w4) (trodAll_cons_mk (shut_int Eemg.underlying3 w5) (trodAll_cons_mk (shut_int Eemg.underlying3 w6) trodAll_mk0))))))), rfl, bel.frame _, fun h => by cases h⟩

theorem end_over : Rows.fnCallEndFollowsRParenRow.holds Eemg.pinned (OpenSpec.ofChange Rows.fnCallEndFollowsRParenSpec) :=
  OpenClaim.holds_of_wide 6 Eemg.f6 rfl rfl rfl rfl rfl rfl rfl ⟨rfl, rfl, rfl, rfl, rfl⟩ rfl rfl rfl rfl rfl (by kernel_rfl) Eemg.func6 (by kernel_rfl)
    (of_decide_eq_true (by kernel_rfl)) (by unfold Func.isWrapper; first | (rw [if_pos (by decide +kernel)]; kernel_rfl) | (rw [if_neg (by decide +kernel)]; exact ⟨rfl, rfl⟩))
    (fun os started H enc _ => end_lifted os started H enc)

/-- THE STATEMENT. -/
theorem fnCallEndFollowsRParen_holds : Rows.FnCallEndFollowsRParenSaid := end_over
end Go.Proofs.Yoeemw
