/-
  THE WALKS of ZZpack, zzCoversAll and the law FnPackNeedsNoMorePagesWhenPagesGrow.
-/
import Derived.Test.Qxb6617915aModsWalkC
namespace Go.Proofs.Qxb6617915aMods
open Go.RowKit Plain

theorem Es.below {w w' : World} {ao : Option Addr} {n : Nat} {K V : Nat → Hd} (h : Es w ao n K V) (hb : Below w.heap.size w w') : Es w' ao n K V := by
  intro hn
  obtain ⟨b, off, rfl, hc⟩ := h hn
  refine ⟨b, off, rfl, fun i hi => ?_⟩
  obtain ⟨h1, h2⟩ := hc i hi
  have hbb : b < w.heap.size := World.block_lt_of_cell? w ⟨b, off + i * 2, none⟩ h1
  exact ⟨(hb.cell (by exact hbb)).trans h1, (hb.cell (by exact hbb)).trans h2⟩
theorem Es.drewN {w : World} {ao : Option Addr} {n : Nat} {K V : Nat → Hd} (h : Es w ao n K V) (q : Nat) : Es (w.drewN q) ao n K V := h
theorem ownsRow_below {w w' : World} {B B' : Nat} {v : Value} {n : Nat} {xs : List Value} (h : w.ownsRow B 3 1 v n xs) (hB : B' ≤ B) (hb : Below w.heap.size w w') : w'.ownsRow B' 3 1 v n xs := by
  refine ⟨h.1, ?_⟩
  rcases h.2 with h2 | ⟨g, cap, cur, hv, hg, hh, r⟩
  · exact .inl h2
  · refine .inr ⟨g, cap, cur, hv, by omega, ?_, r⟩
    rw [hb.block g (Array.getElem?_eq_some_iff.1 hh).1]; exact hh
theorem Counts.below {w w' : World} {B B' : Nat} {v : Value} {cs : List Nat} (h : Counts B w v cs) (hB : B' ≤ B) (hb : Below w.heap.size w w') : Counts B' w' v cs := ⟨ownsRow_below h.1 hB hb, h.2⟩

set_option maxHeartbeats 400000 in
theorem zzpack_any (ao : Option Addr) (n c : Nat) (K V : Nat → Hd) (p : Int) (w : World) (hT : tot K V n ≤ 1048576) (h0 : ao = none → n = 0 ∧ c = 0) (hE : Es w ao n K V) (hp1 : -9223372036854775808 ≤ p) (hp2 : p ≤ 9223372036854775807 - tot K V n) :
    Calls Trym.prog 12 #[.slice ao n c, .int .i64 p] w fun e w' => ∃ v, e = .returned v ∧ Counts w.heap.size w' v (pk (sz K V) p n).1 ∧ Below w.heap.size w w' := by
  have hn : n ≤ 1048576 := by have := tot_n K V n; omega
  go_enter Trym.func12, Trym.ntmps12
  go_wp2_with fail
  refine (entries_any ao n c K V w hn h0 hE).mono ?_
  rintro e w1 ⟨ao', c', rfl, h0', hE', hb1⟩
  have HE : Hid _ := hE'
  clear hE hE' h0 h0'
  go_wp2_with fail
  refine (pack_any ao' n c' K V p w1 hT HE.out hp1 hp2).mono ?_
  rintro e w2 ⟨v, rfl, hC, hb2⟩
  have HC : Hid (Counts w1.heap.size w2 v (pk (sz K V) p n).1) := hC
  clear hC
  go_wp2_with fail
  go_ret
  exact ⟨v, rfl, HC.out.below hb1.size (Below.refl _ _), hb1.trans (hb2.mono hb1.size)⟩

theorem sum_take_le (cs : List Nat) (i : Nat) (h : i < cs.length) : (cs.take i).sum + cs.getD i 0 ≤ cs.sum := by
  have e : cs.sum = (cs.take i).sum + (cs.drop i).sum := by rw [← List.sum_append, List.take_append_drop]
  have e2 : cs.drop i = cs[i] :: cs.drop (i + 1) := List.drop_eq_getElem_cons h
  have e3 : cs.getD i 0 = cs[i] := by simp [h]
  rw [e, e2, e3, List.sum_cons]; omega
theorem sum_take_succ (cs : List Nat) (i : Nat) (h : i < cs.length) : (cs.take (i + 1)).sum = (cs.take i).sum + cs.getD i 0 := by
  have e3 : cs.getD i 0 = cs[i] := by simp [h]
  rw [List.take_succ_eq_append_getElem h, List.sum_append, e3, List.sum_cons, List.sum_nil, Nat.add_zero]

set_option maxHeartbeats 400000 in
theorem covers_nil (w : World) : Calls Trym.prog 15 #[.slice none 0 0, .int .i64 0] w fun e w' => e = .returned (.bool true) ∧ w' = w := by
  have q25 : ∀ (w : World) (a : Option Addr) (n c n' c' : Nat), (binOp .eql 25 (.slice a n c) (.slice none n' c')).run Trym.prog w = .ok (.bool a.isNone) w := fun w a n c n' c' => Lib.run_eql_slice_nil w _ _ a n c n' c' Trym.underlying25
  go_enter Trym.func15, Trym.ntmps15
  go_wp2
  refine wp_loop_rounds 1 ?_
  rw [rounds_succ]
  go_wp2
  go_ret
  exact ⟨rfl, rfl⟩

set_option maxHeartbeats 800000 in
theorem covers_some (g cap : Nat) (cs : List Nat) (n B : Nat) (w : World) (hown : w.ownsRow B 3 1 (.slice (some ⟨g, 0, none⟩) cs.length cap) cs.length (ints cs)) (hs : cs.sum = n) (h1 : ∀ x ∈ cs, 1 ≤ x) (hn : n ≤ 1048576) (hc : cs.length ≤ n) (hc0 : 0 < cs.length) :
    Calls Trym.prog 15 #[.slice (some ⟨g, 0, none⟩) cs.length cap, .int .i64 n] w fun e w' => e = .returned (.bool true) ∧ w' = w := by
  have q25 : ∀ (w : World) (a : Option Addr) (n c n' c' : Nat), (binOp .eql 25 (.slice a n c) (.slice none n' c')).run Trym.prog w = .ok (.bool a.isNone) w := fun w a n c n' c' => Lib.run_eql_slice_nil w _ _ a n c n' c' Trym.underlying25
  have hn0 : ((n : Int) == 0) = false := by simp; omega
  have HS : Hid (cs.sum = n) := hs
  clear hs
  go_enter Trym.func15, Trym.ntmps15
  go_wp2
  go_loop [5, 6] (fun s i => ∃ k : Nat, k ≤ cs.length ∧ i = .int .i64 k ∧ s = .int .i64 ((cs.take k).sum : Nat)) (fun _ i => cs.length - (intOf i).toNat)
  case atStart => exact ⟨0, Nat.zero_le _, rfl, rfl⟩
  case round =>
    obtain ⟨k, hk, rfl, rfl⟩ := hrel
    by_cases hlt : k < cs.length
    · have hkb : (0 : Int) ≤ (k : Int) := by omega
      have hkn : (k : Int) < (cs.length : Int) := by omega
      have hts := sum_take_le cs k hlt
      have hst := sum_take_succ cs k hlt
      have hx1 : 1 ≤ cs.getD k 0 := by
        have := h1 cs[k] (List.getElem_mem hlt); simpa [hlt] using this
      have ho : w.cell? ⟨g, k, none⟩ = some (.int .i64 ((cs.getD k 0 : Nat) : Int)) := by rw [hown.cellAt _ (by omega), ints_at cs k hlt]
      obtain ⟨x, HX⟩ : ∃ x, Hid (x = cs.getD k 0) := ⟨_, rfl⟩
      obtain ⟨s, HSk⟩ : ∃ s, Hid (s = (cs.take k).sum) := ⟨_, rfl⟩
      rw [← HX.out] at hx1 ho hts hst
      rw [← HSk.out] at hts hst ⊢
      have HST : Hid ((cs.take (k + 1)).sum = s + x) := hst
      rw [HS.out] at hts
      clear hst h1 hown HX HSk
      go_wp2
      go_round
      case rel => exact ⟨k + 1, by omega, by go_num, by rw [HST.out]; go_num⟩
      case measure => simp [intOf]; omega
    · obtain rfl : k = cs.length := by omega
      have e : (cs.take cs.length).sum = n := by rw [List.take_length]; exact HS.out
      rw [e]
      clear h1 hown
      go_wp2
      go_ret
      exact ⟨rfl, rfl⟩

set_option maxHeartbeats 800000 in
theorem grow_walk (ao : Option Addr) (n c : Nat) (K V : Nat → Hd) (p1 p2 : Int) (w : World) (hn : n ≤ 9223372036854775807) (h0 : ao = none → n = 0 ∧ c = 0) (hE : Es w ao n K V) (hF : Fit n K V)
    (a1 : -9223372036854775808 ≤ p1) (_b1 : p1 ≤ 9223372036854775807) (a2 : -9223372036854775808 ≤ p2) (_b2 : p2 ≤ 9223372036854775807) :
    Calls Trym.prog 5 #[.slice ao n c, .int .i64 p1, .int .i64 p2] w fun e w' => e = .returned (.bool true) ∧ Below w.heap.size w w' := by
  have HE : Hid (Es w ao n K V) := hE
  have HF : Hid (Fit n K V) := hF
  have H0 : Hid (ao = none → n = 0 ∧ c = 0) := h0
  clear hE hF h0
  go_enter Trym.func5, Trym.ntmps5
  go_wp2_with fail
  refine (fits14 ao n c p1 p2 K V w hn HE.out HF.out).mono ?_
  rintro e w' ⟨⟨r, rfl⟩, rfl⟩
  cases r
  · go_wp2_with fail
    go_ret
    exact ⟨rfl, Below.refl _ _⟩
  go_wp2_with fail
  refine (bytes_any ao n c K V w' hn HE.out HF.out).mono ?_
  rintro e w'' ⟨⟨t, rfl, ht⟩, q, rfl⟩
  by_cases htb : 1048576 < t
  · clear ht
    go_wp2_with fail
    go_ret
    exact ⟨rfl, ⟨rfl, rfl, rfl, Nat.le_refl _, fun _ _ => rfl⟩⟩
  obtain rfl := ht (by omega)
  have hT : tot K V n ≤ 1048576 := by omega
  clear ht htb
  by_cases hg1 : 9223372036854775807 - (tot K V n : Int) < p1
  · go_wp2_with fail
    go_ret
    exact ⟨rfl, ⟨rfl, rfl, rfl, Nat.le_refl _, fun _ _ => rfl⟩⟩
  by_cases hg2 : 9223372036854775807 - (tot K V n : Int) < p2
  · go_wp2_with fail
    go_ret
    exact ⟨rfl, ⟨rfl, rfl, rfl, Nat.le_refl _, fun _ _ => rfl⟩⟩
  by_cases hsw : p2 < p1
  · have _hsw : p2 < p1 := hsw
    go_wp2_with fail
    refine (zzpack_any ao n c K V p2 _ hT H0.out (HE.out.drewN q) (by omega) (by omega)).mono ?_
    rintro e w1 ⟨v1, rfl, hC1, hb1⟩
    have HC1 : Hid (Counts (w'.drewN q).heap.size w1 v1 (pk (sz K V) p2 n).1) := hC1
    clear hC1
    go_wp2_with fail
    refine (zzpack_any ao n c K V p1 w1 hT H0.out ((HE.out.drewN q).below hb1) (by omega) (by omega)).mono ?_
    rintro e w2 ⟨v2, rfl, hC2, hb2⟩
    have hbb : Below w'.heap.size w' w2 := (show Below w'.heap.size w' w1 from ⟨hb1.os, hb1.tape, hb1.output, hb1.size, hb1.block⟩).trans (hb2.mono hb1.size)
    obtain ⟨ho1, hv1⟩ := HC1.out.below (Nat.le_refl _) hb2
    obtain ⟨ho2, hv2⟩ := hC2
    have hle := pk_grow_length (sz K V) (show (p2 : Int) ≤ p1 by omega) n
    obtain ⟨s1, m1⟩ := pk_sum (sz K V) p2 n
    obtain ⟨s2, m2⟩ := pk_sum (sz K V) p1 n
    have l1 := pk_length_le (sz K V) p2 n
    have l2 := pk_length_le (sz K V) p1 n
    obtain ⟨c1, e1⟩ : ∃ c1, c1 = (pk (sz K V) p2 n).1 := ⟨_, rfl⟩
    obtain ⟨c2, e2⟩ : ∃ c2, c2 = (pk (sz K V) p1 n).1 := ⟨_, rfl⟩
    rw [← e1] at ho1 hv1 hle s1 m1 l1
    rw [← e2] at ho2 hv2 hle s2 m2 l2
    clear e1 e2 HC1 hb1 hb2 HE HF H0
    by_cases hn0 : n = 0
    · subst hn0
      obtain rfl : c1 = [] := List.eq_nil_of_length_eq_zero (by omega)
      obtain rfl : c2 = [] := List.eq_nil_of_length_eq_zero (by omega)
      obtain rfl : v1 = .slice none 0 0 := by rcases hv1 with h | h; exact h.1; exact absurd h.2 (by simp)
      obtain rfl : v2 = .slice none 0 0 := by rcases hv2 with h | h; exact h.1; exact absurd h.2 (by simp)
      clear ho1 ho2 hv1 hv2 s1 m1 s2 m2 hle
      go_wp2_with fail
      refine (covers_nil _).mono ?_
      rintro e w3 ⟨rfl, rfl⟩
      go_wp2_with fail
      refine (covers_nil _).mono ?_
      rintro e w4 ⟨rfl, rfl⟩
      go_wp2_with fail
      go_ret
      exact ⟨rfl, hbb⟩
    · have p1' : 0 < c1.length := by
        rcases Nat.eq_zero_or_pos c1.length with h | h
        · have := List.eq_nil_of_length_eq_zero h; subst this; simp at s1; omega
        · exact h
      have p2' : 0 < c2.length := by
        rcases Nat.eq_zero_or_pos c2.length with h | h
        · have := List.eq_nil_of_length_eq_zero h; subst this; simp at s2; omega
        · exact h
      obtain ⟨g1, cap1, rfl⟩ : ∃ g cap, v1 = .slice (some ⟨g, 0, none⟩) c1.length cap := by
        rcases hv1 with h | h
        · rw [h.2] at p1'; simp at p1'
        · exact h.1
      obtain ⟨g2, cap2, rfl⟩ : ∃ g cap, v2 = .slice (some ⟨g, 0, none⟩) c2.length cap := by
        rcases hv2 with h | h
        · rw [h.2] at p2'; simp at p2'
        · exact h.1
      have A1 := covers_some g1 cap1 c1 n _ w2 ho1 s1 m1 (by have := tot_n K V n; omega) l1 p1'
      have A2 := covers_some g2 cap2 c2 n _ w2 ho2 s2 m2 (by have := tot_n K V n; omega) l2 p2'
      have H1 : Hid (Calls Trym.prog 15 #[.slice (some ⟨g1, 0, none⟩) c1.length cap1, .int .i64 n] w2 fun e w' => e = .returned (.bool true) ∧ w' = w2) := A1
      have H2 : Hid (Calls Trym.prog 15 #[.slice (some ⟨g2, 0, none⟩) c2.length cap2, .int .i64 n] w2 fun e w' => e = .returned (.bool true) ∧ w' = w2) := A2
      clear ho1 ho2 hv1 hv2 s1 m1 s2 m2 A1 A2
      go_wp2_with fail
      refine Calls.mono H1.out ?_
      rintro e w3 ⟨rfl, rfl⟩
      go_wp2_with fail
      refine Calls.mono H2.out ?_
      rintro e w4 ⟨rfl, rfl⟩
      go_wp2_with fail
      go_ret
      exact ⟨rfl, hbb⟩
  · have _hsw : p1 ≤ p2 := by omega
    go_wp2_with fail
    refine (zzpack_any ao n c K V p1 _ hT H0.out (HE.out.drewN q) (by omega) (by omega)).mono ?_
    rintro e w1 ⟨v1, rfl, hC1, hb1⟩
    have HC1 : Hid (Counts (w'.drewN q).heap.size w1 v1 (pk (sz K V) p1 n).1) := hC1
    clear hC1
    go_wp2_with fail
    refine (zzpack_any ao n c K V p2 w1 hT H0.out ((HE.out.drewN q).below hb1) (by omega) (by omega)).mono ?_
    rintro e w2 ⟨v2, rfl, hC2, hb2⟩
    have hbb : Below w'.heap.size w' w2 := (show Below w'.heap.size w' w1 from ⟨hb1.os, hb1.tape, hb1.output, hb1.size, hb1.block⟩).trans (hb2.mono hb1.size)
    obtain ⟨ho1, hv1⟩ := HC1.out.below (Nat.le_refl _) hb2
    obtain ⟨ho2, hv2⟩ := hC2
    have hle := pk_grow_length (sz K V) (show (p1 : Int) ≤ p2 by omega) n
    obtain ⟨s1, m1⟩ := pk_sum (sz K V) p1 n
    obtain ⟨s2, m2⟩ := pk_sum (sz K V) p2 n
    have l1 := pk_length_le (sz K V) p1 n
    have l2 := pk_length_le (sz K V) p2 n
    obtain ⟨c1, e1⟩ : ∃ c1, c1 = (pk (sz K V) p1 n).1 := ⟨_, rfl⟩
    obtain ⟨c2, e2⟩ : ∃ c2, c2 = (pk (sz K V) p2 n).1 := ⟨_, rfl⟩
    rw [← e1] at ho1 hv1 hle s1 m1 l1
    rw [← e2] at ho2 hv2 hle s2 m2 l2
    clear e1 e2 HC1 hb1 hb2 HE HF H0
    by_cases hn0 : n = 0
    · subst hn0
      obtain rfl : c1 = [] := List.eq_nil_of_length_eq_zero (by omega)
      obtain rfl : c2 = [] := List.eq_nil_of_length_eq_zero (by omega)
      obtain rfl : v1 = .slice none 0 0 := by rcases hv1 with h | h; exact h.1; exact absurd h.2 (by simp)
      obtain rfl : v2 = .slice none 0 0 := by rcases hv2 with h | h; exact h.1; exact absurd h.2 (by simp)
      clear ho1 ho2 hv1 hv2 s1 m1 s2 m2 hle
      go_wp2_with fail
      refine (covers_nil _).mono ?_
      rintro e w3 ⟨rfl, rfl⟩
      go_wp2_with fail
      refine (covers_nil _).mono ?_
      rintro e w4 ⟨rfl, rfl⟩
      go_wp2_with fail
      go_ret
      exact ⟨rfl, hbb⟩
    · have p1' : 0 < c1.length := by
        rcases Nat.eq_zero_or_pos c1.length with h | h
        · have := List.eq_nil_of_length_eq_zero h; subst this; simp at s1; omega
        · exact h
      have p2' : 0 < c2.length := by
        rcases Nat.eq_zero_or_pos c2.length with h | h
        · have := List.eq_nil_of_length_eq_zero h; subst this; simp at s2; omega
        · exact h
      obtain ⟨g1, cap1, rfl⟩ : ∃ g cap, v1 = .slice (some ⟨g, 0, none⟩) c1.length cap := by
        rcases hv1 with h | h
        · rw [h.2] at p1'; simp at p1'
        · exact h.1
      obtain ⟨g2, cap2, rfl⟩ : ∃ g cap, v2 = .slice (some ⟨g, 0, none⟩) c2.length cap := by
        rcases hv2 with h | h
        · rw [h.2] at p2'; simp at p2'
        · exact h.1
      have A1 := covers_some g1 cap1 c1 n _ w2 ho1 s1 m1 (by have := tot_n K V n; omega) l1 p1'
      have A2 := covers_some g2 cap2 c2 n _ w2 ho2 s2 m2 (by have := tot_n K V n; omega) l2 p2'
      have H1 : Hid (Calls Trym.prog 15 #[.slice (some ⟨g1, 0, none⟩) c1.length cap1, .int .i64 n] w2 fun e w' => e = .returned (.bool true) ∧ w' = w2) := A1
      have H2 : Hid (Calls Trym.prog 15 #[.slice (some ⟨g2, 0, none⟩) c2.length cap2, .int .i64 n] w2 fun e w' => e = .returned (.bool true) ∧ w' = w2) := A2
      clear ho1 ho2 hv1 hv2 s1 m1 s2 m2 A1 A2
      go_wp2_with fail
      refine Calls.mono H1.out ?_
      rintro e w3 ⟨rfl, rfl⟩
      go_wp2_with fail
      refine Calls.mono H2.out ?_
      rintro e w4 ⟨rfl, rfl⟩
      go_wp2_with fail
      go_ret
      exact ⟨rfl, hbb⟩
end Go.Proofs.Qxb6617915aMods
