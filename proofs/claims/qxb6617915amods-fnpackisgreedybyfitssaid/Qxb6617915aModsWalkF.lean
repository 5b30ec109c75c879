/-
  THE WALK of the law FnPackIsGreedyByFits.
-/
import Derived.Test.Qxb6617915aModsWalkE
namespace Go.Proofs.Qxb6617915aMods
open Go.RowKit Plain
set_option maxHeartbeats 1600000 in
theorem greedy_walk (ao : Option Addr) (n c : Nat) (K V : Nat → Hd) (p : Int) (w : World) (hn : n ≤ c) (hcm : c ≤ 9223372036854775807) (h0 : ao = none → n = 0 ∧ c = 0) (hE : Es w ao n K V) (hF : Fit n K V)
    (a1 : -9223372036854775808 ≤ p) :
    Calls Trym.prog 4 #[.slice ao n c, .int .i64 p] w fun e w' => e = .returned (.bool true) ∧ Below w.heap.size w w' := by
  have q25 : ∀ (w : World) (a : Option Addr) (n c n' c' : Nat), (binOp .eql 25 (.slice a n c) (.slice none n' c')).run Trym.prog w = .ok (.bool a.isNone) w := fun w a n c n' c' => Lib.run_eql_slice_nil w _ _ a n c n' c' Trym.underlying25
  have HE : Hid (Es w ao n K V) := hE
  have HF : Hid (Fit n K V) := hF
  have H0 : Hid (ao = none → n = 0 ∧ c = 0) := h0
  clear hE hF h0
  go_enter Trym.func4, Trym.ntmps4
  go_wp2_with fail
  refine (fits11 ao n c p K V w (by omega) HE.out HF.out).mono ?_
  rintro e w' ⟨⟨r, rfl⟩, rfl⟩
  cases r
  · go_wp2_with fail
    go_ret
    exact ⟨rfl, Below.refl _ _⟩
  go_wp2_with fail
  refine (bytes_any ao n c K V w' (by omega) HE.out HF.out).mono ?_
  rintro e w'' ⟨⟨t, rfl, ht⟩, q, rfl⟩
  by_cases htb : 1048576 < t
  · clear ht
    go_wp2_with fail
    go_ret
    exact ⟨rfl, ⟨rfl, rfl, rfl, Nat.le_refl _, fun _ _ => rfl⟩⟩
  obtain rfl := ht (by omega)
  have hT : tot K V n ≤ 1048576 := by omega
  clear ht htb
  by_cases hg1 : 9223372036854775807 - (tot K V n : Int) < p
  · go_wp2_with fail
    go_ret
    exact ⟨rfl, ⟨rfl, rfl, rfl, Nat.le_refl _, fun _ _ => rfl⟩⟩
  go_wp2_with fail
  refine (zzpack_any ao n c K V p _ hT H0.out (HE.out.drewN q) (by omega) (by omega)).mono ?_
  rintro e w1 ⟨v1, rfl, hC1, hb1⟩
  have hbb : Below w'.heap.size w' w1 := ⟨hb1.os, hb1.tape, hb1.output, hb1.size, hb1.block⟩
  have hE1 := (HE.out.drewN q).below hb1
  have hn48 := tot_n K V n
  have hpg := pk_pages (sz K V) p n
  obtain ⟨s1, m1⟩ := pk_sum (sz K V) p n
  have l1 := pk_length_le (sz K V) p n
  obtain ⟨ho1, hv1⟩ := hC1
  obtain ⟨cs, e1⟩ : ∃ c1, c1 = (pk (sz K V) p n).1 := ⟨_, rfl⟩
  rw [← e1] at ho1 hv1 s1 m1 l1 hpg
  clear e1 hb1 HE HF H0
  by_cases hn0 : n = 0
  · subst hn0
    obtain rfl : cs = [] := List.eq_nil_of_length_eq_zero (by omega)
    obtain rfl : v1 = .slice none 0 0 := by rcases hv1 with h | h; exact h.1; exact absurd h.2 (by simp)
    clear ho1 hv1 s1 m1 hpg hE1
    go_wp2_with fail
    refine wp_loop_rounds 1 ?_
    rw [rounds_succ]
    go_wp2_with fail
    go_ret
    exact ⟨rfl, hbb⟩
  · have p1' : 0 < cs.length := by
      rcases Nat.eq_zero_or_pos cs.length with h | h
      · have := List.eq_nil_of_length_eq_zero h; subst this; simp at s1; omega
      · exact h
    obtain ⟨g1, cap1, rfl⟩ : ∃ g cap, v1 = .slice (some ⟨g, 0, none⟩) cs.length cap := by
      rcases hv1 with h | h
      · rw [h.2] at p1'; simp at p1'
      · exact h.1
    obtain ⟨b, off, rfl, hc⟩ := hE1 (by omega)
    have hnb : ((n : Int) == 0) = false := by simp; omega
    have HC : Hid (∀ i, i < n → w1.cell? ⟨b, off + i * 2, none⟩ = some (.slice (K i).a (K i).n (K i).c) ∧ w1.cell? ⟨b, off + i * 2 + 1, none⟩ = some (.slice (V i).a (V i).n (V i).c)) := hc
    have HO : Hid (World.ownsRow w1 (w'.drewN q).heap.size 3 1 (.slice (some ⟨g1, 0, none⟩) cs.length cap1) cs.length (ints cs)) := ho1
    have HP : Hid (∀ i, i < cs.length → 1 ≤ cs.getD i 0 ∧ fitB (sz K V) (cs.take i).sum (cs.getD i 0) p = true ∧ ((cs.take i).sum + cs.getD i 0 < n → fitB (sz K V) (cs.take i).sum (cs.getD i 0 + 1) p = false)) := hpg
    have HS : Hid (cs.sum = n) := s1
    have HBB : Hid (Below w'.heap.size w' w1) := hbb
    clear hc ho1 hpg hE1 hv1 m1 s1 hbb
    go_wp2_with fail
    go_loopw [7, 8] (fun s i wr => ∃ k : Nat, k ≤ cs.length ∧ i = .int .i64 k ∧ s = .int .i64 ((cs.take k).sum : Nat) ∧ Below w1.heap.size w1 wr) (fun _ i _ => cs.length - (intOf i).toNat)
    case atStart => exact ⟨0, Nat.zero_le _, rfl, rfl, Below.refl _ _⟩
    case round =>
      obtain ⟨k, hk, rfl, rfl, hb⟩ := hrel
      by_cases hlt : k < cs.length
      · have hkb : (0 : Int) ≤ (k : Int) := by omega
        have hkn : (k : Int) < (cs.length : Int) := by omega
        have hts := sum_take_le cs k hlt
        have hst := sum_take_succ cs k hlt
        obtain ⟨hx1, hfit, hnot⟩ := HP.out k hlt
        have hgl := (HO.out.lt g1 rfl).2
        have ho : wr.cell? ⟨g1, k, none⟩ = some (.int .i64 ((cs.getD k 0 : Nat) : Int)) := by rw [hb.cell (by exact hgl), HO.out.cellAt _ (by omega), ints_at cs k hlt]
        obtain ⟨x, HX⟩ : ∃ x, Hid (x = cs.getD k 0) := ⟨_, rfl⟩
        obtain ⟨s, HSk⟩ : ∃ s, Hid (s = (cs.take k).sum) := ⟨_, rfl⟩
        rw [← HX.out] at hx1 ho hts hst hfit hnot
        rw [← HSk.out] at hts hst hfit hnot ⊢
        rw [HS.out] at hts
        have HST : Hid ((cs.take (k + 1)).sum = s + x) := hst
        have HFit : Hid (fitB (sz K V) s x p = true) := hfit
        have HNot : Hid (s + x < n → fitB (sz K V) s (x + 1) p = false) := hnot
        have hcr : Hid (∀ i, i < n → wr.cell? ⟨b, off + i * 2, none⟩ = some (.slice (K i).a (K i).n (K i).c) ∧ wr.cell? ⟨b, off + i * 2 + 1, none⟩ = some (.slice (V i).a (V i).n (V i).c)) := by
          intro i hi
          obtain ⟨h1, h2⟩ := HC.out i hi
          have hbb : b < w1.heap.size := World.block_lt_of_cell? w1 ⟨b, off + i * 2, none⟩ h1
          exact ⟨(hb.cell (by exact hbb)).trans h1, (hb.cell (by exact hbb)).trans h2⟩
        have hcs : ¬ c = s := by omega
        clear hst hfit hnot HX HSk
        go_wp2_with fail
        refine (zzfits_cut b off x (c - s) s n K V p wr hT (by omega) hcr.out).mono ?_
        rintro e w2 ⟨rfl, hb2⟩
        rw [HFit.out]
        have HB2 : Hid (Below w1.heap.size w1 w2) := hb.trans (hb2.mono hb.size)
        by_cases hnx : s + x < n
        · have hcr2 : Hid (∀ i, i < n → w2.cell? ⟨b, off + i * 2, none⟩ = some (.slice (K i).a (K i).n (K i).c) ∧ w2.cell? ⟨b, off + i * 2 + 1, none⟩ = some (.slice (V i).a (V i).n (V i).c)) := by
            intro i hi
            obtain ⟨h1, h2⟩ := hcr.out i hi
            have hbb : b < wr.heap.size := World.block_lt_of_cell? wr ⟨b, off + i * 2, none⟩ h1
            exact ⟨(hb2.cell (by exact hbb)).trans h1, (hb2.cell (by exact hbb)).trans h2⟩
          clear hb hb2
          go_wp2_with fail
          rw [show s + x + 1 - s = x + 1 by omega]
          refine (zzfits_cut b off (x + 1) (c - s) s n K V p w2 hT (by omega) hcr2.out).mono ?_
          rintro e w3 ⟨rfl, hb3⟩
          rw [HNot.out hnx]
          have HB3 : Hid (Below w1.heap.size w1 w3) := HB2.out.trans (hb3.mono HB2.out.size)
          clear hb3
          go_wp2_with fail
          go_roundw
          case rel => exact ⟨k + 1, by omega, by go_num, by rw [HST.out]; go_num, HB3.out⟩
          case measure => simp [intOf]; omega
        · clear hb hb2
          go_wp2_with fail
          go_roundw
          case rel => exact ⟨k + 1, by omega, by go_num, by rw [HST.out]; go_num, HB2.out⟩
          case measure => simp [intOf]; omega
      · obtain rfl : k = cs.length := by omega
        have e : (cs.take cs.length).sum = n := by rw [List.take_length]; exact HS.out
        rw [e]
        clear e
        go_wp2_with fail
        go_ret
        exact ⟨rfl, HBB.out.trans (hb.mono HBB.out.size)⟩
end Go.Proofs.Qxb6617915aMods
