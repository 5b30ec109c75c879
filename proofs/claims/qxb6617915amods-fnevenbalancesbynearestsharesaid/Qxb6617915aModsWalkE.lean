/-
  THE WALKS of fits, ZZfits and the law FnPackIsGreedyByFits.
-/
import Derived.Test.Qxb6617915aModsWalkD
import Derived.Test.Qxb6617915aModsPlainB
namespace Go.Proofs.Qxb6617915aMods
open Go.RowKit Plain

set_option maxHeartbeats 800000 in
theorem fits_any (ao : Option Addr) (n c : Nat) (K V : Nat → Hd) (p : Int) (w : World) (hT : tot K V n ≤ 1048576) (hE : Es w ao n K V) :
    Calls Trym.prog 22 #[.slice ao n c, .int .i64 p] w fun e w' => e = .returned (.bool (fitB (sz K V) 0 n p)) ∧ Below w.heap.size w w' := by
  have hn : n ≤ 1048576 := by have := tot_n K V n; omega
  have hgs : Hid (gs (sz K V) 0 n = sm (sz K V) n) := by show sm (fun i => sz K V (0 + i)) n = _; simp
  go_enter Trym.func22, Trym.ntmps22
  go_wp2
  go_loopw [5, 10] (fun t i wr => ∃ k : Nat, k ≤ n ∧ i = .int .i64 k ∧ t = .int .i64 (16 + (sm (sz K V) k : Nat)) ∧ Below w.heap.size w wr) (fun _ i _ => n - (intOf i).toNat)
  case atStart => exact ⟨0, Nat.zero_le _, rfl, rfl, Below.refl _ _⟩
  case round =>
    obtain ⟨k, hk, rfl, rfl, hb⟩ := hrel
    have hs := sm_le K V k
    have hkt := tot_le K V hk
    by_cases hlt : k < n
    · obtain ⟨b, off, rfl, hc⟩ := hE (by omega)
      obtain ⟨hc1, hc2⟩ := hc k hlt
      have hbb : b < w.heap.size := World.block_lt_of_cell? w ⟨b, off + k * 2, none⟩ hc1
      have g1 : wr.cell? ⟨b, off + k * 2, none⟩ = some (.slice (K k).a (K k).n (K k).c) := (hb.cell (by exact hbb)).trans hc1
      have g2 : wr.cell? ⟨b, off + k * 2 + 1, none⟩ = some (.slice (V k).a (V k).n (V k).c) := (hb.cell (by exact hbb)).trans hc2
      have hkb : (0 : Int) ≤ (k : Int) := by omega
      have hkn : (k : Int) < (n : Int) := by omega
      have ht1 : tot K V k + (48 + (K k).n + (V k).n) ≤ tot K V n := tot_le K V (show k + 1 ≤ n by omega)
      have HS : Hid (sm (sz K V) (k + 1) = sm (sz K V) k + (16 + (K k).n + (V k).n)) := rfl
      have HB : Hid (Below w.heap.size w wr) := hb
      have hbs := hb.size
      clear hc hE hc1 hc2 hb
      go_wp2_with fail
      refine (size_any (K k).a (V k).a (K k).n (K k).c (V k).n (V k).c _ (by omega)).mono ?_
      rintro e w' ⟨rfl, rfl⟩
      go_wp2_with fail
      go_roundw
      case rel => exact ⟨k + 1, by omega, by go_num, by rw [HS.out]; go_num, (HB.out.alloc hbs _).alloc (by simp; omega) _⟩
      case measure => simp [intOf]; omega
    · obtain rfl : k = n := by omega
      clear hE
      by_cases h1 : (16 + (sm (sz K V) k : Nat) : Int) < p
      · go_wp2
        go_ret
        refine ⟨?_, hb⟩
        have : fitB (sz K V) 0 k p = true := by unfold fitB; rw [hgs.out]; simp [h1]
        rw [this]; rfl
      · by_cases h2 : k = 1
        · have h2' : ((k : Int) == 1) = true := by simp [h2]
          have H2 : Hid (k = 1) := h2
          clear h2
          go_wp2
          go_ret
          refine ⟨?_, hb⟩
          have : fitB (sz K V) 0 k p = true := by unfold fitB; simp [H2.out]
          rw [this]; rfl
        · have h2' : ((k : Int) == 1) = false := by simp; omega
          go_wp2
          go_ret
          refine ⟨?_, hb⟩
          have : fitB (sz K V) 0 k p = false := by unfold fitB; rw [hgs.out]; simp [h1, h2]
          rw [this]; rfl

set_option maxHeartbeats 400000 in
theorem zzfits_any (ao : Option Addr) (n c : Nat) (K V : Nat → Hd) (p : Int) (w : World) (hT : tot K V n ≤ 1048576) (h0 : ao = none → n = 0 ∧ c = 0) (hE : Es w ao n K V) :
    Calls Trym.prog 13 #[.slice ao n c, .int .i64 p] w fun e w' => e = .returned (.bool (fitB (sz K V) 0 n p)) ∧ Below w.heap.size w w' := by
  have hn : n ≤ 1048576 := by have := tot_n K V n; omega
  go_enter Trym.func13, Trym.ntmps13
  go_wp2_with fail
  refine (entries_any ao n c K V w hn h0 hE).mono ?_
  rintro e w1 ⟨ao', c', rfl, h0', hE', hb1⟩
  have HE : Hid (Es w1 ao' n K V) := hE'
  clear hE hE' h0 h0'
  go_wp2_with fail
  refine (fits_any ao' n c' K V p w1 hT HE.out).mono ?_
  rintro e w2 ⟨rfl, hb2⟩
  go_wp2_with fail
  go_ret
  exact ⟨rfl, hb1.trans (hb2.mono hb1.size)⟩

/-! A cut out of the entries. -/
theorem tot_cut (K V : Nat → Hd) (a m : Nat) : tot (fun i => K (a + i)) (fun i => V (a + i)) m + tot K V a = tot K V (a + m) := by
  induction m with
  | zero => simp [tot]
  | succ m ih =>
    have e : tot K V (a + (m + 1)) = tot K V (a + m) + (48 + (K (a + m)).n + (V (a + m)).n) := rfl
    have e' : tot (fun i => K (a + i)) (fun i => V (a + i)) (m + 1) = tot (fun i => K (a + i)) (fun i => V (a + i)) m + (48 + (K (a + m)).n + (V (a + m)).n) := rfl
    omega
theorem es_cut {w : World} {b off n : Nat} {K V : Nat → Hd} (hc : ∀ i, i < n → w.cell? ⟨b, off + i * 2, none⟩ = some (.slice (K i).a (K i).n (K i).c) ∧ w.cell? ⟨b, off + i * 2 + 1, none⟩ = some (.slice (V i).a (V i).n (V i).c))
    (a m : Nat) (h : a + m ≤ n) : Es w (some ⟨b, off + a * 2, none⟩) m (fun i => K (a + i)) (fun i => V (a + i)) := by
  intro _
  refine ⟨b, off + a * 2, rfl, fun i hi => ?_⟩
  have := hc (a + i) (by omega)
  have e : off + (a + i) * 2 = off + a * 2 + i * 2 := by omega
  rw [e] at this
  exact this
theorem zzfits_cut (b off m c a n : Nat) (K V : Nat → Hd) (p : Int) (w : World) (hT : tot K V n ≤ 1048576) (h : a + m ≤ n)
    (hc : ∀ i, i < n → w.cell? ⟨b, off + i * 2, none⟩ = some (.slice (K i).a (K i).n (K i).c) ∧ w.cell? ⟨b, off + i * 2 + 1, none⟩ = some (.slice (V i).a (V i).n (V i).c)) :
    Calls Trym.prog 13 #[.slice (some ⟨b, off + a * 2, none⟩) m c, .int .i64 p] w fun e w' => e = .returned (.bool (fitB (sz K V) a m p)) ∧ Below w.heap.size w w' := by
  have e : fitB (sz K V) a m p = fitB (sz (fun i => K (a + i)) (fun i => V (a + i))) 0 m p := by
    unfold fitB
    have : gs (sz (fun i => K (a + i)) (fun i => V (a + i))) 0 m = gs (sz K V) a m := by
      show sm (fun i => sz (fun i => K (a + i)) (fun i => V (a + i)) (0 + i)) m = sm (fun i => sz K V (a + i)) m
      congr 1; funext i; simp [sz]
    rw [this]
  rw [e]
  exact zzfits_any _ m c _ _ p w (by have := tot_cut K V a m; have := tot_le K V h; omega) (fun h => by simp at h) (es_cut hc a m h)
end Go.Proofs.Qxb6617915aMods
