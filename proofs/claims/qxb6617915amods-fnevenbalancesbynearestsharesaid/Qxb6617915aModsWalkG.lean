/-
  THE WALKS of zzSize, zzPageFits, zzNearest, zzIntsEqual.
-/
import Derived.Test.Qxb6617915aModsWalkE
import Derived.Test.Qxb6617915aModsPlainC
namespace Go.Proofs.Qxb6617915aMods
open Go.RowKit Plain

set_option maxHeartbeats 400000 in
theorem zzsize_any (ka va : Option Addr) (kn kc vn vc : Nat) (w : World) (h : kn + vn ≤ 9223372036854775000) :
    Calls Trym.prog 16 #[.agg #[.slice ka kn kc, .slice va vn vc]] w fun e w' => e = .returned (.int .i64 (16 + kn + vn)) ∧ w' = w.alloc (.cells #[.slice ka kn kc, .slice va vn vc] 32) := by
  go_enter Trym.func16, Trym.ntmps16
  go_wp2
  go_ret
  exact ⟨rfl, rfl⟩

set_option maxHeartbeats 800000 in
theorem pagefits_any (ao : Option Addr) (n c : Nat) (K V : Nat → Hd) (p : Int) (w : World) (hT : tot K V n ≤ 1048576) (hE : Es w ao n K V) :
    Calls Trym.prog 18 #[.slice ao n c, .int .i64 p] w fun e w' => e = .returned (.bool (fitB (sz K V) 0 n p)) ∧ Below w.heap.size w w' := by
  have hn : n ≤ 1048576 := by have := tot_n K V n; omega
  have hgs : Hid (gs (sz K V) 0 n = sm (sz K V) n) := by show sm (fun i => sz K V (0 + i)) n = _; simp
  by_cases h2 : n = 1
  · have h2' : ((n : Int) == 1) = true := by simp [h2]
    have H2 : Hid (n = 1) := h2
    clear h2 hE
    go_enter Trym.func18, Trym.ntmps18
    go_wp2
    go_ret
    refine ⟨?_, Below.refl _ _⟩
    have : fitB (sz K V) 0 n p = true := by unfold fitB; simp [H2.out]
    rw [this]; rfl
  have h2' : ((n : Int) == 1) = false := by simp; omega
  go_enter Trym.func18, Trym.ntmps18
  go_wp2
  go_loopw [5, 6] (fun t i wr => ∃ k : Nat, k ≤ n ∧ i = .int .i64 k ∧ t = .int .i64 (16 + (sm (sz K V) k : Nat)) ∧ Below w.heap.size w wr) (fun _ i _ => n - (intOf i).toNat)
  case atStart => exact ⟨0, Nat.zero_le _, rfl, rfl, Below.refl _ _⟩
  case round =>
    obtain ⟨k, hk, rfl, rfl, hb⟩ := hrel
    have hs := sm_le K V k
    have hkt := tot_le K V hk
    by_cases hlt : k < n
    · obtain ⟨b, off, rfl, hc⟩ := hE (by omega)
      obtain ⟨hc1, hc2⟩ := hc k hlt
      have hbb : b < w.heap.size := World.block_lt_of_cell? w ⟨b, off + k * 2, none⟩ hc1
      have g1 : wr.cell? ⟨b, off + k * 2, none⟩ = some (.slice (K k).a (K k).n (K k).c) := (hb.cell (by exact hbb)).trans hc1
      have g2 : wr.cell? ⟨b, off + k * 2 + 1, none⟩ = some (.slice (V k).a (V k).n (V k).c) := (hb.cell (by exact hbb)).trans hc2
      have hkb : (0 : Int) ≤ (k : Int) := by omega
      have hkn : (k : Int) < (n : Int) := by omega
      have ht1 : tot K V k + (48 + (K k).n + (V k).n) ≤ tot K V n := tot_le K V (show k + 1 ≤ n by omega)
      have HS : Hid (sm (sz K V) (k + 1) = sm (sz K V) k + (16 + (K k).n + (V k).n)) := rfl
      have HB : Hid (Below w.heap.size w wr) := hb
      have hbs := hb.size
      clear hc hE hc1 hc2 hb
      go_wp2_with fail
      refine (zzsize_any (K k).a (V k).a (K k).n (K k).c (V k).n (V k).c _ (by omega)).mono ?_
      rintro e w' ⟨rfl, rfl⟩
      go_wp2_with fail
      go_roundw
      case rel => exact ⟨k + 1, by omega, by go_num, by rw [HS.out]; go_num, HB.out.alloc hbs _⟩
      case measure => simp [intOf]; omega
    · obtain rfl : k = n := by omega
      clear hE
      by_cases h1 : (16 + (sm (sz K V) k : Nat) : Int) < p
      · go_wp2
        go_ret
        refine ⟨?_, hb⟩
        have : fitB (sz K V) 0 k p = true := by unfold fitB; rw [hgs.out]; simp [h1]
        rw [this]; simp
      · go_wp2
        go_ret
        refine ⟨?_, hb⟩
        have : fitB (sz K V) 0 k p = false := by unfold fitB; rw [hgs.out]; simp [h1, h2]
        rw [this]; simp

theorem near_step {S : Nat → Nat} (hS : ∀ i, 0 < S i) {share k : Nat} (hk : 0 < k) (D : Int) (hD : far (sm S (k + 1) : Nat) share = D) (d : Int) (hd : 0 < k → d = far (sm S (nr S share k) : Nat) share) :
    (D ≤ d → nr S share (k + 1) = k + 1) ∧ (d < D → nr S share (k + 1) = nr S share k) := by
  have h := nr_near hS (share := share) (k := k)
  rw [hD, ← hd hk] at h
  exact ⟨fun h1 => nr_on hk (h.1 h1).1 (h.1 h1).2, fun h1 => nr_off hk (fun h2 => by have := h.2 h2; omega)⟩

set_option maxHeartbeats 1600000 in
theorem nearest_any (ao : Option Addr) (n c share : Nat) (K V : Nat → Hd) (w : World) (hT : tot K V n ≤ 1048576) (hsh : share ≤ 1048576) (hE : Es w ao n K V) :
    Calls Trym.prog 17 #[.slice ao n c, .int .i64 share] w fun e w' => e = .returned (.int .i64 (nr (sz K V) share n : Nat)) ∧ Below w.heap.size w w' := by
  have hn : n ≤ 1048576 := by have := tot_n K V n; omega
  have hS : Hid (∀ i, 0 < sz K V i) := fun i => by unfold sz; omega
  go_enter Trym.func17, Trym.ntmps17
  go_wp2
  go_loopw [5, 6, 7, 8] (fun bst bd s i wr => ∃ (k : Nat) (d : Int), k ≤ n ∧ i = .int .i64 (k + 1) ∧ s = .int .i64 (sm (sz K V) k : Nat) ∧ bst = .int .i64 (nr (sz K V) share k : Nat) ∧ bd = .int .i64 d ∧ (0 < k → d = far (sm (sz K V) (nr (sz K V) share k) : Nat) share) ∧ Below w.heap.size w wr) (fun _ _ _ i _ => n + 1 - (intOf i).toNat)
  case atStart => exact ⟨0, 0, Nat.zero_le _, rfl, rfl, rfl, rfl, fun h => absurd h (Nat.lt_irrefl _), Below.refl _ _⟩
  case round =>
    obtain ⟨k, d, hk, rfl, rfl, rfl, rfl, hd, hb⟩ := hrel
    have hs := sm_le K V k
    have hkt := tot_le K V hk
    by_cases hlt : k < n
    · obtain ⟨b, off, rfl, hc⟩ := hE (by omega)
      obtain ⟨hc1, hc2⟩ := hc k hlt
      have hbb : b < w.heap.size := World.block_lt_of_cell? w ⟨b, off + k * 2, none⟩ hc1
      have g1 : wr.cell? ⟨b, off + k * 2, none⟩ = some (.slice (K k).a (K k).n (K k).c) := (hb.cell (by exact hbb)).trans hc1
      have g2 : wr.cell? ⟨b, off + k * 2 + 1, none⟩ = some (.slice (V k).a (V k).n (V k).c) := (hb.cell (by exact hbb)).trans hc2
      have hkb : (0 : Int) ≤ (k : Int) := by omega
      have hkn : (k : Int) < (n : Int) := by omega
      have ht1 : tot K V k + (48 + (K k).n + (V k).n) ≤ tot K V n := tot_le K V (show k + 1 ≤ n by omega)
      have HS : Hid (sm (sz K V) (k + 1) = sm (sz K V) k + (16 + (K k).n + (V k).n)) := rfl
      have hnl := nr_le (sz K V) share k
      have HB : Hid (Below w.heap.size w wr) := hb
      have hbs := hb.size
      obtain ⟨s, Hs⟩ : ∃ s, Hid (s = sm (sz K V) k) := ⟨_, rfl⟩
      obtain ⟨nb, Hnb⟩ : ∃ nb, Hid (nb = nr (sz K V) share k) := ⟨_, rfl⟩
      have HD : Hid (0 < k → d = far (sm (sz K V) (nr (sz K V) share k) : Nat) share) := hd
      rw [← Hs.out] at hs ⊢
      rw [← Hnb.out] at hnl ⊢
      clear hc hE hc1 hc2 hb hd
      go_wp2_with fail
      refine (zzsize_any (K k).a (V k).a (K k).n (K k).c (V k).n (V k).c _ (by omega)).mono ?_
      rintro e w' ⟨rfl, rfl⟩
      by_cases hneg : (s : Int) + (16 + (K k).n + (V k).n) - share < 0
      · have HDn : Hid (far (sm (sz K V) (k + 1) : Nat) share = (-((s : Int) + (16 + (K k).n + (V k).n) - share))) := by
          show far _ _ = _
          rw [HS.out, ← Hs.out]; unfold far; rw [if_pos (by omega)]; omega
        by_cases hk0 : k = 0
        · have hk1 : (((k : Int) + 1) == 1) = true := by simp; omega
          have H0 : Hid (k = 0) := hk0
          clear hk0
          go_wp2_with fail
          go_roundw
          case rel => exact ⟨k + 1, _, by omega, by go_num, by rw [HS.out, ← Hs.out]; go_num, by rw [H0.out, nr_one]; go_num, rfl, fun _ => by rw [show nr (sz K V) share (k + 1) = k + 1 by rw [H0.out, nr_one], HDn.out], HB.out.alloc hbs _⟩
          case measure => simp [intOf]; omega
        · have hk1 : (((k : Int) + 1) == 1) = false := by simp; omega
          have HST := near_step hS.out (show 0 < k by omega) _ HDn.out d HD.out
          have HST1 : Hid ((-((s : Int) + (16 + (K k).n + (V k).n) - share)) ≤ d → nr (sz K V) share (k + 1) = k + 1) := HST.1
          have HST2 : Hid (d < (-((s : Int) + (16 + (K k).n + (V k).n) - share)) → nr (sz K V) share (k + 1) = nr (sz K V) share k) := HST.2
          clear HST
          by_cases hnear : (-((s : Int) + (16 + (K k).n + (V k).n) - share)) ≤ d
          · go_wp2_with fail
            go_roundw
            case rel => exact ⟨k + 1, _, by omega, by go_num, by rw [HS.out, ← Hs.out]; go_num, by rw [HST1.out hnear]; go_num, rfl, fun _ => by rw [HST1.out hnear, HDn.out], HB.out.alloc hbs _⟩
            case measure => simp [intOf]; omega
          · have hnear' : d < (-((s : Int) + (16 + (K k).n + (V k).n) - share)) := by omega
            go_wp2_with fail
            go_roundw
            case rel => exact ⟨k + 1, d, by omega, by go_num, by rw [HS.out, ← Hs.out]; go_num, by rw [HST2.out hnear', ← Hnb.out], rfl, fun _ => by rw [HST2.out hnear']; exact HD.out (by omega), HB.out.alloc hbs _⟩
            case measure => simp [intOf]; omega
      · have HDn : Hid (far (sm (sz K V) (k + 1) : Nat) share = ((s : Int) + (16 + (K k).n + (V k).n) - share)) := by
          show far _ _ = _
          rw [HS.out, ← Hs.out]; unfold far; rw [if_neg (by omega)]; omega
        by_cases hk0 : k = 0
        · have hk1 : (((k : Int) + 1) == 1) = true := by simp; omega
          have H0 : Hid (k = 0) := hk0
          clear hk0
          go_wp2_with fail
          go_roundw
          case rel => exact ⟨k + 1, _, by omega, by go_num, by rw [HS.out, ← Hs.out]; go_num, by rw [H0.out, nr_one]; go_num, rfl, fun _ => by rw [show nr (sz K V) share (k + 1) = k + 1 by rw [H0.out, nr_one], HDn.out], HB.out.alloc hbs _⟩
          case measure => simp [intOf]; omega
        · have hk1 : (((k : Int) + 1) == 1) = false := by simp; omega
          have HST := near_step hS.out (show 0 < k by omega) _ HDn.out d HD.out
          have HST1 : Hid (((s : Int) + (16 + (K k).n + (V k).n) - share) ≤ d → nr (sz K V) share (k + 1) = k + 1) := HST.1
          have HST2 : Hid (d < ((s : Int) + (16 + (K k).n + (V k).n) - share) → nr (sz K V) share (k + 1) = nr (sz K V) share k) := HST.2
          clear HST
          by_cases hnear : ((s : Int) + (16 + (K k).n + (V k).n) - share) ≤ d
          · go_wp2_with fail
            go_roundw
            case rel => exact ⟨k + 1, _, by omega, by go_num, by rw [HS.out, ← Hs.out]; go_num, by rw [HST1.out hnear]; go_num, rfl, fun _ => by rw [HST1.out hnear, HDn.out], HB.out.alloc hbs _⟩
            case measure => simp [intOf]; omega
          · have hnear' : d < ((s : Int) + (16 + (K k).n + (V k).n) - share) := by omega
            go_wp2_with fail
            go_roundw
            case rel => exact ⟨k + 1, d, by omega, by go_num, by rw [HS.out, ← Hs.out]; go_num, by rw [HST2.out hnear', ← Hnb.out], rfl, fun _ => by rw [HST2.out hnear']; exact HD.out (by omega), HB.out.alloc hbs _⟩
            case measure => simp [intOf]; omega
    · obtain rfl : k = n := by omega
      clear hE hd
      go_wp2_with fail
      go_ret
      exact ⟨rfl, hb⟩

set_option maxHeartbeats 400000 in
theorem equal_nil (w : World) : Calls Trym.prog 10 #[.slice none 0 0, .slice none 0 0] w fun e w' => e = .returned (.bool true) ∧ w' = w := by
  have q25 : ∀ (w : World) (a : Option Addr) (n c n' c' : Nat), (binOp .eql 25 (.slice a n c) (.slice none n' c')).run Trym.prog w = .ok (.bool a.isNone) w := fun w a n c n' c' => Lib.run_eql_slice_nil w _ _ a n c n' c' Trym.underlying25
  go_enter Trym.func10, Trym.ntmps10
  go_wp2
  refine wp_loop_rounds 1 ?_
  rw [rounds_succ]
  go_wp2
  go_ret
  exact ⟨rfl, rfl⟩

set_option maxHeartbeats 400000 in
theorem equal_some (g1 g2 L : Nat) (f : Nat → Nat) (w : World) (hL : L ≤ 65536) (h1 : ∀ i, i < L → w.cell? ⟨g1, i, none⟩ = some (.int .i64 (f i : Int))) (h2 : ∀ i, i < L → w.cell? ⟨g2, i, none⟩ = some (.int .i64 (f i : Int))) :
    Calls Trym.prog 10 #[.slice (some ⟨g1, 0, none⟩) L L, .slice (some ⟨g2, 0, none⟩) L L] w fun e w' => e = .returned (.bool true) ∧ ∃ q, w' = w.drewN q := by
  have q25 : ∀ (w : World) (a : Option Addr) (n c n' c' : Nat), (binOp .eql 25 (.slice a n c) (.slice none n' c')).run Trym.prog w = .ok (.bool a.isNone) w := fun w a n c n' c' => Lib.run_eql_slice_nil w _ _ a n c n' c' Trym.underlying25
  have H1 : Hid (∀ i, i < L → w.cell? ⟨g1, i, none⟩ = some (.int .i64 (f i : Int))) := h1
  have H2 : Hid (∀ i, i < L → w.cell? ⟨g2, i, none⟩ = some (.int .i64 (f i : Int))) := h2
  clear h1 h2
  go_enter Trym.func10, Trym.ntmps10
  go_wp2
  go_loopw [5] (fun i wr => ∃ k q : Nat, k ≤ L ∧ i = .int .i64 k ∧ wr = w.drewN q) (fun i _ => L - (intOf i).toNat)
  case atStart => exact ⟨0, 0, Nat.zero_le _, rfl, rfl⟩
  case round =>
    obtain ⟨k, q, hk, rfl, rfl⟩ := hrel
    by_cases hlt : k < L
    · have hkb : (0 : Int) ≤ (k : Int) := by omega
      have hkn : (k : Int) < (L : Int) := by omega
      have c1 := H1.out k hlt
      have c2 := H2.out k hlt
      go_wp2
      go_quiet (fail)
      go_wp2
      go_roundw
      case rel => exact ⟨k + 1, _, by omega, by go_num, rfl⟩
      case measure => simp [intOf]; omega
    · go_wp2
      go_ret
      exact ⟨rfl, _, rfl⟩
end Go.Proofs.Qxb6617915aMods
