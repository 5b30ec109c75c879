/-
  THE LAW FnQuorumIsTwoThirdsOfCountAndOfPower: her walk and her row, proved (the frame: the shell that came with the seat).
-/
import Derived.Test.Qxb6615493aModsWalkA
import Derived.ProofKit
import Derived.OpenShut
import Derived.ShutString
namespace Go.Proofs.Qxb6615493aMods
open Go.ChangeShapes Go.WideShapes Go.ChangeAt Go.RowKit
set_option linter.unusedVariables false

theorem own : ownKnob Trym.prog.godebug = none := by kernel_rfl

set_option maxHeartbeats 1600000 in
theorem law_main (s n p t : Nat) (hs : s ≤ 3074457345618258602) (hn : n ≤ 3074457345618258602) (hp0 : p < 18446744073709551616) (ht : t < 18446744073709551616) (w : World) :
    Calls Trym.prog 3 #[.int .i64 s, .int .i64 n, .int .u64 p, .int .u64 t] w fun e w' => e = .returned (.bool true) ∧ Grown w w' := by
  by_cases hc : 2 * n ≤ 3 * s
  · by_cases hp : 2 * t ≤ 3 * p
    · have e1 : qB s n t t = true := by unfold qB; simp [hc]; omega
      have e2 : qB n n p t = true := by unfold qB; simp [hp]; omega
      have e3 : qB s n p t = true := by unfold qB; simp [hc, hp]
      have HQ1 : Hid (∀ w : World, Calls Trym.prog 7 #[.agg #[.int .i64 s, .int .i64 n, .int .u64 t, .int .u64 t]] w fun e w' => e = .returned (.bool true) ∧ ∃ c1 : Array Value, w' = w.alloc (.cells c1 24)) := fun w => by rw [← e1]; exact quorum_any s n t t (by omega) (by omega) ht ht w
      have HQ2 : Hid (∀ w : World, Calls Trym.prog 7 #[.agg #[.int .i64 n, .int .i64 n, .int .u64 p, .int .u64 t]] w fun e w' => e = .returned (.bool true) ∧ ∃ c1 : Array Value, w' = w.alloc (.cells c1 24)) := fun w => by rw [← e2]; exact quorum_any n n p t (by omega) (by omega) hp0 ht w
      have HQ3 : Hid (∀ w : World, Calls Trym.prog 7 #[.agg #[.int .i64 s, .int .i64 n, .int .u64 p, .int .u64 t]] w fun e w' => e = .returned (.bool true) ∧ ∃ c1 : Array Value, w' = w.alloc (.cells c1 24)) := fun w => by rw [← e3]; exact quorum_any s n p t (by omega) (by omega) hp0 ht w
      have x1 : (n : Int) - (n : Int) / 3 ≤ (s : Int) := by omega
      have x2 : (t : Int) - (t : Int) / 3 ≤ (p : Int) := by omega
      clear e1 e2 e3 hc hp
      go_enter Trym.func3, Trym.ntmps3
      go_wp2_with fail
      refine Calls.mono (HQ1.out _) ?_
      rintro e w1 ⟨rfl, k1, rfl⟩
      go_wp2_with fail
      refine Calls.mono (HQ2.out _) ?_
      rintro e w2 ⟨rfl, k2, rfl⟩
      go_wp2_with fail
      refine Calls.mono (HQ3.out _) ?_
      rintro e w3 ⟨rfl, k3, rfl⟩
      go_wp2_with fail
      go_ret
      exact ⟨rfl, by go_grown⟩
    · have e1 : qB s n t t = true := by unfold qB; simp [hc]; omega
      have e2 : qB n n p t = false := by unfold qB; simp [hp]
      have e3 : qB s n p t = false := by unfold qB; simp [hc, hp]
      have HQ1 : Hid (∀ w : World, Calls Trym.prog 7 #[.agg #[.int .i64 s, .int .i64 n, .int .u64 t, .int .u64 t]] w fun e w' => e = .returned (.bool true) ∧ ∃ c1 : Array Value, w' = w.alloc (.cells c1 24)) := fun w => by rw [← e1]; exact quorum_any s n t t (by omega) (by omega) ht ht w
      have HQ2 : Hid (∀ w : World, Calls Trym.prog 7 #[.agg #[.int .i64 n, .int .i64 n, .int .u64 p, .int .u64 t]] w fun e w' => e = .returned (.bool false) ∧ ∃ c1 : Array Value, w' = w.alloc (.cells c1 24)) := fun w => by rw [← e2]; exact quorum_any n n p t (by omega) (by omega) hp0 ht w
      have HQ3 : Hid (∀ w : World, Calls Trym.prog 7 #[.agg #[.int .i64 s, .int .i64 n, .int .u64 p, .int .u64 t]] w fun e w' => e = .returned (.bool false) ∧ ∃ c1 : Array Value, w' = w.alloc (.cells c1 24)) := fun w => by rw [← e3]; exact quorum_any s n p t (by omega) (by omega) hp0 ht w
      have x1 : (n : Int) - (n : Int) / 3 ≤ (s : Int) := by omega
      have x2 : (p : Int) < (t : Int) - (t : Int) / 3 := by omega
      clear e1 e2 e3 hc hp
      go_enter Trym.func3, Trym.ntmps3
      go_wp2_with fail
      refine Calls.mono (HQ1.out _) ?_
      rintro e w1 ⟨rfl, k1, rfl⟩
      go_wp2_with fail
      refine Calls.mono (HQ2.out _) ?_
      rintro e w2 ⟨rfl, k2, rfl⟩
      go_wp2_with fail
      refine Calls.mono (HQ3.out _) ?_
      rintro e w3 ⟨rfl, k3, rfl⟩
      go_wp2_with fail
      go_ret
      exact ⟨by simp [*], by go_grown⟩
  · by_cases hp : 2 * t ≤ 3 * p
    · have e1 : qB s n t t = false := by unfold qB; simp [hc]
      have e2 : qB n n p t = true := by unfold qB; simp [hp]; omega
      have e3 : qB s n p t = false := by unfold qB; simp [hc, hp]
      have HQ1 : Hid (∀ w : World, Calls Trym.prog 7 #[.agg #[.int .i64 s, .int .i64 n, .int .u64 t, .int .u64 t]] w fun e w' => e = .returned (.bool false) ∧ ∃ c1 : Array Value, w' = w.alloc (.cells c1 24)) := fun w => by rw [← e1]; exact quorum_any s n t t (by omega) (by omega) ht ht w
      have HQ2 : Hid (∀ w : World, Calls Trym.prog 7 #[.agg #[.int .i64 n, .int .i64 n, .int .u64 p, .int .u64 t]] w fun e w' => e = .returned (.bool true) ∧ ∃ c1 : Array Value, w' = w.alloc (.cells c1 24)) := fun w => by rw [← e2]; exact quorum_any n n p t (by omega) (by omega) hp0 ht w
      have HQ3 : Hid (∀ w : World, Calls Trym.prog 7 #[.agg #[.int .i64 s, .int .i64 n, .int .u64 p, .int .u64 t]] w fun e w' => e = .returned (.bool false) ∧ ∃ c1 : Array Value, w' = w.alloc (.cells c1 24)) := fun w => by rw [← e3]; exact quorum_any s n p t (by omega) (by omega) hp0 ht w
      have x1 : (s : Int) < (n : Int) - (n : Int) / 3 := by omega
      have x2 : (t : Int) - (t : Int) / 3 ≤ (p : Int) := by omega
      clear e1 e2 e3 hc hp
      go_enter Trym.func3, Trym.ntmps3
      go_wp2_with fail
      refine Calls.mono (HQ1.out _) ?_
      rintro e w1 ⟨rfl, k1, rfl⟩
      go_wp2_with fail
      refine Calls.mono (HQ2.out _) ?_
      rintro e w2 ⟨rfl, k2, rfl⟩
      go_wp2_with fail
      refine Calls.mono (HQ3.out _) ?_
      rintro e w3 ⟨rfl, k3, rfl⟩
      go_wp2_with fail
      go_ret
      exact ⟨by simp [*], by go_grown⟩
    · have e1 : qB s n t t = false := by unfold qB; simp [hc]
      have e2 : qB n n p t = false := by unfold qB; simp [hp]
      have e3 : qB s n p t = false := by unfold qB; simp [hc, hp]
      have HQ1 : Hid (∀ w : World, Calls Trym.prog 7 #[.agg #[.int .i64 s, .int .i64 n, .int .u64 t, .int .u64 t]] w fun e w' => e = .returned (.bool false) ∧ ∃ c1 : Array Value, w' = w.alloc (.cells c1 24)) := fun w => by rw [← e1]; exact quorum_any s n t t (by omega) (by omega) ht ht w
      have HQ2 : Hid (∀ w : World, Calls Trym.prog 7 #[.agg #[.int .i64 n, .int .i64 n, .int .u64 p, .int .u64 t]] w fun e w' => e = .returned (.bool false) ∧ ∃ c1 : Array Value, w' = w.alloc (.cells c1 24)) := fun w => by rw [← e2]; exact quorum_any n n p t (by omega) (by omega) hp0 ht w
      have HQ3 : Hid (∀ w : World, Calls Trym.prog 7 #[.agg #[.int .i64 s, .int .i64 n, .int .u64 p, .int .u64 t]] w fun e w' => e = .returned (.bool false) ∧ ∃ c1 : Array Value, w' = w.alloc (.cells c1 24)) := fun w => by rw [← e3]; exact quorum_any s n p t (by omega) (by omega) hp0 ht w
      have x1 : (s : Int) < (n : Int) - (n : Int) / 3 := by omega
      have x2 : (p : Int) < (t : Int) - (t : Int) / 3 := by omega
      clear e1 e2 e3 hc hp
      go_enter Trym.func3, Trym.ntmps3
      go_wp2_with fail
      refine Calls.mono (HQ1.out _) ?_
      rintro e w1 ⟨rfl, k1, rfl⟩
      go_wp2_with fail
      refine Calls.mono (HQ2.out _) ?_
      rintro e w2 ⟨rfl, k2, rfl⟩
      go_wp2_with fail
      refine Calls.mono (HQ3.out _) ?_
      rintro e w3 ⟨rfl, k3, rfl⟩
      go_wp2_with fail
      go_ret
      exact ⟨by simp [*], by go_grown⟩

set_option maxHeartbeats 800000 in
theorem law_walk (a0 a1 a2 a3 : Int) (w2 : 0 ≤ a2 ∧ a2 < 18446744073709551616) (w3 : 0 ≤ a3 ∧ a3 < 18446744073709551616) (w : World) :
    Calls Trym.prog 3 #[.int .i64 a0, .int .i64 a1, .int .u64 a2, .int .u64 a3] w fun e w' => e = .returned (.bool true) ∧ Grown w w' := by
  by_cases c1 : a0 < 0
  · go_enter Trym.func3, Trym.ntmps3
    go_wp2
    go_ret
    exact ⟨rfl, by go_grown⟩
  by_cases c2 : a1 < 0
  · go_enter Trym.func3, Trym.ntmps3
    go_wp2
    go_ret
    exact ⟨rfl, by go_grown⟩
  by_cases c3 : 3074457345618258602 < a0
  · go_enter Trym.func3, Trym.ntmps3
    go_wp2
    go_ret
    exact ⟨rfl, by go_grown⟩
  by_cases c4 : 3074457345618258602 < a1
  · go_enter Trym.func3, Trym.ntmps3
    go_wp2
    go_ret
    exact ⟨rfl, by go_grown⟩
  obtain ⟨s, rfl⟩ := Int.eq_ofNat_of_zero_le (show 0 ≤ a0 by omega)
  obtain ⟨n, rfl⟩ := Int.eq_ofNat_of_zero_le (show 0 ≤ a1 by omega)
  obtain ⟨p, rfl⟩ := Int.eq_ofNat_of_zero_le w2.1
  obtain ⟨t, rfl⟩ := Int.eq_ofNat_of_zero_le w3.1
  exact law_main s n p t (by omega) (by omega) (by omega) (by omega) w

theorem word_of_wf {x : Int} (h : (Lit.int .u64 x).wf = true) : 0 ≤ x ∧ x < 18446744073709551616 := by
  simp [Lit.wf, IntKind.min, IntKind.max, IntKind.signed, IntKind.bits] at h
  exact ⟨by omega, by omega⟩

set_option maxRecDepth 100000 in
theorem quorum_lifted (os : Os) (started : os.Started) (H : Type) (enc : TypeId × Value → H) :
    ReturnsInHanded {} Trym.checked os 3 .any (Rows.fnQuorumIsTwoThirdsOfCountAndOfPowerSpec.pre6 enc Trym.prog Trym.f3 Rows.fnQuorumIsTwoThirdsOfCountAndOfPowerRow.domain false) (Rows.fnQuorumIsTwoThirdsOfCountAndOfPowerSpec.post enc Trym.prog Trym.f3 false true false false) := by
  refine returnsInHanded_of_change (C := Trym.checked) own started (by kernel_rfl) Trym.func3
    (ChangeSpec.witness6 (enc := enc) (C := Trym.checked) false ⟨#[], #[.int .i64 0, .int .i64 0, .int .u64 0, .int .u64 0], []⟩ 8 (by kernel_rfl) (by kernel_rfl) (by kernel_rfl) (by kernel_rfl)) ?_
  intro W base args ds gs before hval0 hW hcnd _
  have hval : ∀ (j : Nat) t v, Trym.f3.params[j]? = some t → args[j]? = some v → Value.okWide Trym.prog W .any base t v := hval0
  have hW' := hW
  obtain ⟨p, q, hA0, hV, rfl, hfz, hnd⟩ := hW
  have hA : DataW.TrodAll enc Trym.prog W 0 (fun _ => true) true Trym.f3.params.toList args.toList ds p := hA0
  rw [Trym.params3] at hA hval
  obtain ⟨v0, v1, v2, v3, d0, d1, d2, d3, p0, p1, p2, p3, rfl, rfl, rfl, h0, h1, h2, h3⟩ := trodAll_four hA
  obtain ⟨rfl, rfl⟩ := trodVars_none hV
  obtain ⟨a0, rfl, rfl, rfl, w0⟩ := open_int Trym.underlying3 (hval 0 3 v0 rfl rfl) h0
  obtain ⟨a1, rfl, rfl, rfl, w1⟩ := open_int Trym.underlying3 (hval 1 3 v1 rfl rfl) h1
  obtain ⟨a2, rfl, rfl, rfl, w2⟩ := open_int Trym.underlying22 (hval 2 22 v2 rfl rfl) h2
  obtain ⟨a3, rfl, rfl, rfl, w3⟩ := open_int Trym.underlying22 (hval 3 22 v3 rfl rfl) h3
  clear hA0 hval0
  simp only [List.append_nil] at hW'
  refine (law_walk a0 a1 a2 a3 (word_of_wf w2) (word_of_wf w3) W).mono fun e W' ⟨he, hg⟩ => ?_
  subst he
  exact ⟨_, rfl, post_of_same (pa := []) (pv := []) hW' (fun _ _ _ => trodAll_mk1 (shut_bool Trym.underlying4 _)) (fun sp _ => trodAll_mk4 (shut_int Trym.underlying3 w0) (shut_int Trym.underlying3 w1) (shut_int Trym.underlying22 w2) (shut_int Trym.underlying22 w3)) (fun _ _ => rfl) rfl
    (hg.frame _) hg.2.1 (ok_one (by kernel_rfl) rfl (okWide_bool_mk Trym.underlying4 _))⟩

theorem quorum_holds : Rows.FnQuorumIsTwoThirdsOfCountAndOfPowerSaid :=
  OpenClaim.holds_of_wide 3 Trym.f3 rfl rfl rfl rfl rfl rfl rfl ⟨rfl, rfl, rfl, rfl, rfl⟩ rfl rfl rfl rfl rfl (by kernel_rfl) Trym.func3 (by kernel_rfl)
    (of_decide_eq_true (by kernel_rfl)) (by unfold Func.isWrapper; first | (rw [if_pos (by decide +kernel)]; kernel_rfl) | (rw [if_neg (by decide +kernel)]; exact ⟨rfl, rfl⟩))
    (fun os started H enc _ => quorum_lifted os started H enc)
end Go.Proofs.Qxb6615493aMods
