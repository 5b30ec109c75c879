/-
  THE WALKS of ZZeven and of the law FnEvenBalancesByNearestShare.
-/
import Derived.Test.Qxb6617915aModsWalkI
import Derived.Test.Qxb6617915aModsWalkJ
namespace Go.Proofs.Qxb6617915aMods
open Go.RowKit Plain

theorem entries_cap (ao : Option Addr) (n c : Nat) (K V : Nat → Hd) (w : World) (hn : n ≤ 1048576) (h0 : ao = none → n = 0 ∧ c = 0) (hE : Es w ao n K V) :
    Calls Trym.prog 20 #[.slice ao n c] w fun e w' => ∃ ao', e = .returned (.slice ao' n n) ∧ Es w' ao' n K V ∧ Below w.heap.size w w' := by
  cases ao with
  | none =>
    obtain ⟨rfl, rfl⟩ := h0 rfl
    refine (entries_nil w).mono ?_
    rintro e w' ⟨rfl, rfl⟩
    exact ⟨none, rfl, hE, Below.refl _ _⟩
  | some a0 =>
    refine (entries_some a0 n c K V w hn hE).mono ?_
    rintro e w' ⟨rfl, h1, h2⟩
    exact ⟨_, rfl, h1, h2⟩

set_option maxHeartbeats 400000 in
theorem zzeven_any (ao : Option Addr) (n c L : Nat) (K V : Nat → Hd) (p : Int) (w : World) (h0 : ao = none → n = 0 ∧ c = 0) (hE : Es w ao n K V) (hT : tot K V n ≤ 1048576) (hL : L ≤ 65536) :
    Calls Trym.prog 9 #[.slice ao n c, .int .i64 L, .int .i64 p] w fun e w' => ∃ v, e = .returned v ∧ EvOut w' v (sz K V) n L p ∧ Below w.heap.size w w' := by
  have hn : n ≤ 1048576 := by have := tot_n K V n; omega
  go_enter Trym.func9, Trym.ntmps9
  go_wp2_with fail
  refine (entries_cap ao n c K V w hn h0 hE).mono ?_
  rintro e w1 ⟨ao', rfl, hE', hb1⟩
  have HE : Hid (Es w1 ao' n K V) := hE'
  clear hE hE' h0
  go_wp2_with fail
  refine (even_walk ao' n n L K V p w1 (Nat.le_refl _) (by omega) HE.out hT hL).mono ?_
  rintro e w2 ⟨v, rfl, hO, hb2⟩
  have HO : Hid (EvOut w2 v (sz K V) n L p) := hO
  clear hO
  go_wp2_with fail
  go_ret
  exact ⟨v, rfl, HO.out, hb1.trans (hb2.mono hb1.size)⟩

set_option maxHeartbeats 800000 in
theorem bal_walk (ao : Option Addr) (n c : Nat) (K V : Nat → Hd) (l p : Int) (w : World) (hn : n ≤ c) (hcm : c ≤ 9223372036854775807) (h0 : ao = none → n = 0 ∧ c = 0) (hE : Es w ao n K V) (hF : Fit n K V) :
    Calls Trym.prog 3 #[.slice ao n c, .int .i64 l, .int .i64 p] w fun e w' => e = .returned (.bool true) ∧ Below w.heap.size w w' := by
  have HE : Hid (Es w ao n K V) := hE
  have HF : Hid (Fit n K V) := hF
  have H0 : Hid (ao = none → n = 0 ∧ c = 0) := h0
  clear hE hF h0
  go_enter Trym.func3, Trym.ntmps3
  go_wp2_with fail
  refine (fits6 ao n c l p K V w (by omega) HE.out HF.out).mono ?_
  rintro e w' ⟨⟨r, rfl⟩, rfl⟩
  cases r
  · go_wp2_with fail
    go_ret
    exact ⟨rfl, Below.refl _ _⟩
  go_wp2_with fail
  refine (bytes_any ao n c K V w' (by omega) HE.out HF.out).mono ?_
  rintro e w'' ⟨⟨t, rfl, ht⟩, q, rfl⟩
  by_cases htb : 1048576 < t
  · clear ht
    go_wp2_with fail
    go_ret
    exact ⟨rfl, ⟨rfl, rfl, rfl, Nat.le_refl _, fun _ _ => rfl⟩⟩
  obtain rfl := ht (by omega)
  have hT : tot K V n ≤ 1048576 := by omega
  clear ht htb
  by_cases hg1 : l < 0
  · go_wp2_with fail
    go_ret
    exact ⟨rfl, ⟨rfl, rfl, rfl, Nat.le_refl _, fun _ _ => rfl⟩⟩
  by_cases hg2 : 65536 < l
  · go_wp2_with fail
    go_ret
    exact ⟨rfl, ⟨rfl, rfl, rfl, Nat.le_refl _, fun _ _ => rfl⟩⟩
  obtain ⟨L, rfl⟩ := Int.eq_ofNat_of_zero_le (show 0 ≤ l by omega)
  have hL : L ≤ 65536 := by omega
  go_wp2_with fail
  refine (model_walk ao n c L K V p (w'.drewN q) hn hcm (HE.out.drewN q) hT hL).mono ?_
  rintro e w1 ⟨v1, rfl, hO1, hb1⟩
  have HO1 : Hid (EvOut w1 v1 (sz K V) n L p) := hO1
  clear hO1
  go_wp2_with fail
  refine (zzeven_any ao n c L K V p w1 H0.out ((HE.out.drewN q).below hb1) hT hL).mono ?_
  rintro e w2 ⟨v2, rfl, hO2, hb2⟩
  have hbb : Below w'.heap.size w' w2 := (show Below w'.heap.size w' w1 from ⟨hb1.os, hb1.tape, hb1.output, hb1.size, hb1.block⟩).trans (hb2.mono hb1.size)
  have hO1' := HO1.out.below hb2
  clear HO1 hb1 hb2 HE HF H0
  rcases hO1' with ⟨ha, g1, rfl, hg1', hc1⟩ | ⟨⟨i, hi, hno⟩, rfl⟩
  · rcases hO2 with ⟨_, g2, rfl, hg2', hc2⟩ | ⟨⟨i, hi, hno⟩, _⟩
    · have HQ : Hid (Calls Trym.prog 10 #[.slice (some ⟨g2, 0, none⟩) L L, .slice (some ⟨g1, 0, none⟩) L L] w2 fun e w' => e = .returned (.bool true) ∧ ∃ q, w' = w2.drewN q) := equal_some g2 g1 L _ w2 hL hc2 hc1
      clear ha hc1 hc2
      go_wp2_with fail
      refine Calls.mono HQ.out ?_
      rintro e w3 ⟨rfl, q3, rfl⟩
      go_wp2_with fail
      go_ret
      exact ⟨rfl, hbb.os, hbb.tape, hbb.output, hbb.size, hbb.block⟩
    · exact absurd (ha i hi) hno
  · rcases hO2 with ⟨ha, _⟩ | ⟨_, rfl⟩
    · exact absurd (ha i hi) hno
    · clear hno
      go_wp2_with fail
      refine (equal_nil w2).mono ?_
      rintro e w3 ⟨rfl, rfl⟩
      go_wp2_with fail
      go_ret
      exact ⟨rfl, hbb⟩
end Go.Proofs.Qxb6617915aMods
