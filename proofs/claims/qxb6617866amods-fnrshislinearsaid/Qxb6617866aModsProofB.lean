/-
  THE ROW of FnRshIsLinear, proved.
-/
import Derived.Test.Qxb6617866aModsWalkC
import Derived.Test.Qxb6617866aModsOpen
namespace Go.Proofs.Qxb6617866aMods
open Go.ChangeShapes Go.WideShapes Go.ChangeAt Go.RowKit

set_option maxRecDepth 100000 in
theorem linear_lifted (os : Os) (started : os.Started) (H : Type) (enc : TypeId × Value → H) :
    ReturnsInHanded {} Trym.checked os 4 .any (Rows.fnRshIsLinearSpec.pre6 enc Trym.prog Trym.f4 Rows.fnRshIsLinearRow.domain false) (Rows.fnRshIsLinearSpec.post enc Trym.prog Trym.f4 false true false false) := by
  refine returnsInHanded_of_change (C := Trym.checked) own started (by kernel_rfl) Trym.func4
    (ChangeSpec.witness6 (enc := enc) (C := Trym.checked) false ⟨#[], #[.agg #[.int .u64 0, .int .u64 0, .int .u64 0, .int .u64 0], .agg #[.int .u64 0, .int .u64 0, .int .u64 0, .int .u64 0], .int .u64 0], []⟩ 8 (by kernel_rfl) (by kernel_rfl) (by kernel_rfl) (by kernel_rfl)) ?_
  intro W base args ds gs before hval0 hW hcnd _
  have hval : ∀ (j : Nat) t v, Trym.f4.params[j]? = some t → args[j]? = some v → Value.okWide Trym.prog W .any base t v := hval0
  have hW' := hW
  obtain ⟨p, q, hA0, hV, rfl, hfz, hnd⟩ := hW
  have hA : DataW.TrodAll enc Trym.prog W 0 (fun _ => true) true Trym.f4.params.toList args.toList ds p := hA0
  rw [Trym.params4] at hA hval
  obtain ⟨v0, v1, v2, d0, d1, d2, p0, p1, p2, rfl, rfl, rfl, h0, h1, h2⟩ := trodAll_three hA
  obtain ⟨rfl, rfl⟩ := trodVars_none hV
  obtain ⟨x0, x1, x2, x3, rfl, rfl, rfl, w0, w1, w2, w3⟩ := open_arr (hval 0 23 v0 rfl rfl) h0
  obtain ⟨y0, y1, y2, y3, rfl, rfl, rfl, u0, u1, u2, u3⟩ := open_arr (hval 1 23 v1 rfl rfl) h1
  obtain ⟨k, rfl, rfl, rfl, wk⟩ := open_int Trym.underlying24 (hval 2 24 v2 rfl rfl) h2
  clear hA0 hval0
  simp only [List.append_nil] at hW'
  refine (linear_walk x0 x1 x2 x3 y0 y1 y2 y3 k (word_of_wf w0) (word_of_wf w1) (word_of_wf w2) (word_of_wf w3) (word_of_wf u0) (word_of_wf u1) (word_of_wf u2) (word_of_wf u3) (word_of_wf wk).1 (word_of_wf wk).2 W).mono fun e W' ⟨he, hg⟩ => ?_
  subst he
  exact ⟨_, rfl, post_of_same (pa := []) (pv := []) hW' (fun _ _ _ => trodAll_mk1 (shut_bool Trym.underlying4 _)) (fun sp _ => trodAll_mk3 (shut_arr w0 w1 w2 w3) (shut_arr u0 u1 u2 u3) (shut_int Trym.underlying24 wk)) (fun _ _ => rfl) rfl
    (hg.frame _) hg.2.1 (ok_one (by kernel_rfl) rfl (okWide_bool_mk Trym.underlying4 _))⟩

theorem linear_holds : Rows.FnRshIsLinearSaid :=
  OpenClaim.holds_of_wide 4 Trym.f4 rfl rfl rfl rfl rfl rfl rfl ⟨rfl, rfl, rfl, rfl, rfl⟩ rfl rfl rfl rfl rfl (by kernel_rfl) Trym.func4 (by kernel_rfl)
    (of_decide_eq_true (by kernel_rfl)) (by unfold Func.isWrapper; first | (rw [if_pos (by decide +kernel)]; kernel_rfl) | (rw [if_neg (by decide +kernel)]; exact ⟨rfl, rfl⟩))
    (fun os started H enc _ => linear_lifted os started H enc)
end Go.Proofs.Qxb6617866aMods
