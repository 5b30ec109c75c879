/-
  THE WALK of zzEvenModel: it hands back the plain counts, or nil.
-/
import Derived.Test.Qxb6617915aModsWalkH
import Derived.Deep.RegionWith
namespace Go.Proofs.Qxb6617915aMods
open Go.RowKit Plain
set_option maxHeartbeats 3200000 in
theorem model_walk (ao : Option Addr) (n c L : Nat) (K V : Nat → Hd) (p : Int) (w : World) (hnc : n ≤ c) (hcm : c ≤ 9223372036854775807) (hE : Es w ao n K V) (hT : tot K V n ≤ 1048576) (hL : L ≤ 65536) :
    Calls Trym.prog 8 #[.slice ao n c, .int .i64 L, .int .i64 p] w fun e w' => ∃ v, e = .returned v ∧ EvOut w' v (sz K V) n L p ∧ Below w.heap.size w w' := by
  have hn : n ≤ 1048576 := by have := tot_n K V n; omega
  obtain ⟨i0, hi, hz0, hz1, hz2⟩ := info_parts info3
  go_enter Trym.func8, Trym.ntmps8
  go_wp2
  go_loopw [7, 8] (fun t i wr => ∃ k : Nat, k ≤ n ∧ i = .int .i64 k ∧ t = .int .i64 (sm (sz K V) k : Nat) ∧ Below w.heap.size w wr) (fun _ i _ => n - (intOf i).toNat)
  case atStart => exact ⟨0, Nat.zero_le _, rfl, rfl, Below.refl _ _⟩
  case round =>
    obtain ⟨k, hk, rfl, rfl, hb⟩ := hrel
    have hs := sm_le K V k
    have hkt := tot_le K V hk
    by_cases hlt : k < n
    · obtain ⟨b, off, rfl, hc⟩ := hE (by omega)
      obtain ⟨hc1, hc2⟩ := hc k hlt
      have hbb : b < w.heap.size := World.block_lt_of_cell? w ⟨b, off + k * 2, none⟩ hc1
      have g1 : wr.cell? ⟨b, off + k * 2, none⟩ = some (.slice (K k).a (K k).n (K k).c) := (hb.cell (by exact hbb)).trans hc1
      have g2 : wr.cell? ⟨b, off + k * 2 + 1, none⟩ = some (.slice (V k).a (V k).n (V k).c) := (hb.cell (by exact hbb)).trans hc2
      have hkb : (0 : Int) ≤ (k : Int) := by omega
      have hkn : (k : Int) < (n : Int) := by omega
      have ht1 : tot K V k + (48 + (K k).n + (V k).n) ≤ tot K V n := tot_le K V (show k + 1 ≤ n by omega)
      have HS : Hid (sm (sz K V) (k + 1) = sm (sz K V) k + (16 + (K k).n + (V k).n)) := rfl
      have HB : Hid (Below w.heap.size w wr) := hb
      have hbs := hb.size
      clear hc hE hc1 hc2 hb
      go_wp2_with fail
      refine (zzsize_any (K k).a (V k).a (K k).n (K k).c (V k).n (V k).c _ (by omega)).mono ?_
      rintro e w' ⟨rfl, rfl⟩
      go_wp2_with fail
      go_roundw
      case rel => exact ⟨k + 1, by omega, by go_num, by rw [HS.out]; go_num, HB.out.alloc hbs _⟩
      case measure => simp [intOf]; omega
    · obtain rfl : k = n := by omega
      obtain ⟨wo, rfl⟩ : ∃ wo : World, wo = wr := ⟨_, rfl⟩
      have HE : Hid (Es w ao k K V) := hE
      clear hE
      go_wp2_with (at_make; refine wpList_make_full _ rfl _ _ 25 rfl w.heap.size 3 i0 (.int .i64 0) 1 Trym.underlying25 hi hz0 hz1 .i64 .i64 _ _ L rfl rfl rfl rfl ?c1 ?c2 ?c3 ?_)
      case c1 => rw [hz2]; omega
      case c2 => unfold maxLen; omega
      case c3 => exact hb.size
      intro w1 hown hgrow
      have hb1 : Below w.heap.size w w1 := hb.grown hgrow hb.size (by simp)
      have HFi : Hid (Fill w.heap.size w1 wo.heap.size L 0 (sz K V) k p) := Fill.start hown
      have HB1 : Hid (Below w.heap.size w w1) := hb1
      have hgl : w.heap.size ≤ wo.heap.size := hb.size
      have HG : Hid (gs (sz K V) 0 (k - 0) = sm (sz K V) k) := gs_zero _ _
      clear hgrow hi hz0 hz1 hz2 i0 hown hb1 hb
      go_wp2_with fail
      go_loopw [7, 10, 11] (fun t ps i wr => ∃ I : Nat, I ≤ L ∧ i = .int .i64 I ∧ ps = .int .i64 (evp (sz K V) k L I : Nat) ∧ t = .int .i64 (gs (sz K V) (evp (sz K V) k L I) (k - evp (sz K V) k L I) : Nat) ∧ Fill w.heap.size wr wo.heap.size L I (sz K V) k p ∧ Below w.heap.size w wr) (fun _ _ i _ => L - (intOf i).toNat)
      case atStart => exact ⟨0, Nat.zero_le _, rfl, rfl, by rw [← HG.out]; rfl, HFi.out, HB1.out⟩
      case round =>
        obtain ⟨I, hI, rfl, rfl, rfl, hfil, hb⟩ := hrel
        have hpl := evp_le (sz K V) k L I
        have hgt := gs_le_tot K V (evp (sz K V) k L I) (k - evp (sz K V) k L I) k (by omega)
        have HPG : Hid (pg (sz K V) k L I = cnt (sz K V) k L I (evp (sz K V) k L I)) := rfl
        have HEV : Hid (evp (sz K V) k L (I + 1) = evp (sz K V) k L I + pg (sz K V) k L I) := rfl
        have HOK : Hid (okAt (sz K V) k L p I ↔ (pg (sz K V) k L I = 0 ∨ fitB (sz K V) (evp (sz K V) k L I) (pg (sz K V) k L I) p = true)) := Iff.rfl
        obtain ⟨pos, Hp⟩ : ∃ s, Hid (s = evp (sz K V) k L I) := ⟨_, rfl⟩
        obtain ⟨lf, Hlf⟩ : ∃ s, Hid (s = gs (sz K V) pos (k - pos)) := ⟨_, rfl⟩
        rw [← Hp.out] at hpl hgt HPG HEV HOK ⊢
        rw [← Hlf.out] at hgt ⊢
        have hsh0 := share_cast lf L I
        by_cases hlt : I < L
        · have hshc := hsh0 hlt
          clear hsh0
          have hsl : lf / (L - I) ≤ 1048576 := Nat.le_trans (Nat.div_le_self _ _) (by omega)
          have HSD : Hid (lf / (L - I) = gs (sz K V) pos (k - pos) / (L - I)) := by rw [Hlf.out]; rfl
          obtain ⟨share, Hsh⟩ : ∃ s, Hid (s = lf / (L - I)) := ⟨_, rfl⟩
          rw [← Hsh.out] at hshc hsl HSD
          have hd0 : ¬ ((L : Int) - (I : Int)) = 0 := by omega
          have hw0 : IntKind.i64.wrap ((L : Int) - (I : Int)) = (L : Int) - (I : Int) := by rw [IntKind.wrap_i64]; omega
          have hw1 : IntKind.i64.wrap (share : Int) = (share : Int) := by rw [IntKind.wrap_i64]; omega
          obtain ⟨u, o1, f1⟩ := hfil.cell hlt
          by_cases hpn : pos < k
          · obtain ⟨b, off, rfl, hc⟩ := HE.out (by omega)
            have HBW : Hid (b < w.heap.size) := Cells.lt hc (by omega)
            have HCr : Hid (Cells wr b off k K V) := fun j hj => ⟨(hb.cell (by exact HBW.out)).trans (hc j hj).1, (hb.cell (by exact HBW.out)).trans (hc j hj).2⟩
            have hcp : ¬ c = pos := by omega
            clear hc
            by_cases hlast : I + 1 < L
            · have HCC : Hid (pg (sz K V) k L I = nr (sh (sz K V) pos) share (k - pos)) := by show _ = _; rw [HPG.out, HSD.out]; unfold cnt; rw [if_pos hlast]
              have hcl := nr_le (sh (sz K V) pos) share (k - pos)
              have hcc0 := nr_pos (sh (sz K V) pos) share (k - pos) (by omega)
              have HN : Hid (Calls Trym.prog 17 #[.slice (some ⟨b, off + pos * 2, none⟩) (k - pos) (c - pos), .int .i64 share] wr.drew fun e w' => e = .returned (.int .i64 (nr (sh (sz K V) pos) share (k - pos) : Nat)) ∧ Below wr.drew.heap.size wr.drew w') := nearest_cut b off (k - pos) (c - pos) pos k share K V wr.drew hT (by omega) hsl HCr.out
              rw [← HCC.out] at hcl hcc0 HN
              obtain ⟨cc, Hcc⟩ : ∃ s, Hid (s = pg (sz K V) k L I) := ⟨_, rfl⟩
              rw [← Hcc.out] at hcl hcc0 HN
              have HLF : Hid (lf = gs (sz K V) pos cc + gs (sz K V) (pos + cc) (k - (pos + cc))) := by
                have e := gs_add (sz K V) pos cc (k - (pos + cc))
                rw [show cc + (k - (pos + cc)) = k - pos by omega, ← Hlf.out] at e; exact e
              have HFr : Hid (Fill w.heap.size wr wo.heap.size L I (sz K V) k p) := hfil
              have HBr : Hid (Below w.heap.size w wr) := hb
              clear hfil hb o1 f1
              go_wp2_with fail
              go_region_with (go_at_call 17; refine Calls.mono HN.out ?_; rintro e w2 ⟨rfl, hb2⟩)
              have hb2' : Below wr.heap.size wr w2 := ⟨hb2.os, hb2.tape, hb2.output, hb2.size, hb2.block⟩
              have HC : Hid (Cells w2 b off k K V) := HCr.out.below hb2'
              have HF : Hid (Fill w.heap.size w2 wo.heap.size L I (sz K V) k p) := HFr.out.below hb2'
              have HB : Hid (Below w.heap.size w w2) := HBr.out.trans (hb2'.mono HBr.out.size)
              obtain ⟨u, o1, f1⟩ := HF.out.cell hlt
              clear hb2 hb2' HCr HFr HBr HN
              by_cases hfit : fitB (sz K V) pos cc p = true
              · go_wp2_with fail
                refine (pagefits_cut b off cc (c - pos) pos k K V p w2 hT (by omega) HC.out).mono ?_
                rintro e w3 ⟨rfl, hb3⟩
                rw [hfit]
                have HC3 : Hid (Cells w3 b off k K V) := HC.out.below hb3
                have HF3 : Hid (Fill w.heap.size w3 wo.heap.size L I (sz K V) k p) := HF.out.below hb3
                have HB3 : Hid (Below w.heap.size w w3) := HB.out.trans (hb3.mono HB.out.size)
                obtain ⟨u3, o3, f3⟩ := HF3.out.cell hlt
                have HF4 : Hid (Fill w.heap.size (w3.setCell ⟨wo.heap.size, I, none⟩ (.int .i64 (cc : Int))) wo.heap.size L (I + 1) (sz K V) k p) := by
                  have := HF3.out.step hlt (HOK.out.2 (.inr (by rw [← Hcc.out]; exact hfit)))
                  rw [← Hcc.out] at this; exact this
                have HB4 : Hid (Below w.heap.size w (w3.setCell ⟨wo.heap.size, I, none⟩ (.int .i64 (cc : Int)))) := HB3.out.setCell (by exact hgl) _
                have HC4 : Hid (Cells (w3.setCell ⟨wo.heap.size, I, none⟩ (.int .i64 (cc : Int))) b off k K V) := by
                  intro j hj
                  have hbw : b < w.heap.size := HBW.out
                  refine ⟨?_, ?_⟩
                  · rw [HB4.out.cell (by exact hbw), ← HB3.out.cell (by exact hbw)]; exact (HC3.out j hj).1
                  · rw [HB4.out.cell (by exact hbw), ← HB3.out.cell (by exact hbw)]; exact (HC3.out j hj).2
                clear hb3 hfit o1 f1
                go_wp2_with fail
                go_loopw [7, 13] (fun t j wr3 => ∃ m : Nat, m ≤ cc ∧ j = .int .i64 (pos + m) ∧ t = .int .i64 ((lf : Int) - (gs (sz K V) pos m : Nat)) ∧ Cells wr3 b off k K V ∧ Fill w.heap.size wr3 wo.heap.size L (I + 1) (sz K V) k p ∧ Below w.heap.size w wr3) (fun _ j _ => pos + cc - (intOf j).toNat)
                case atStart => exact ⟨0, Nat.zero_le _, by simp, by simp [gs, sm], HC4.out, HF4.out, HB4.out⟩
                case round =>
                  obtain ⟨m, hm, rfl, rfl, hc5, hf5, hb5⟩ := hrel
                  have hgm := gs_le_tot K V pos m k (by omega)
                  have HC5 : Hid (Cells wr b off k K V) := hc5
                  have HF5 : Hid (Fill w.heap.size wr wo.heap.size L (I + 1) (sz K V) k p) := hf5
                  have HB5 : Hid (Below w.heap.size w wr) := hb5
                  have hbs5 := hb5.size
                  by_cases hmc : m < cc
                  · obtain ⟨c1, c2⟩ := hc5 (pos + m) (by omega)
                    have hgm2 := gs_le_tot K V pos (m + 1) k (by omega)
                    have HGM : Hid (gs (sz K V) pos (m + 1) = gs (sz K V) pos m + (16 + (K (pos + m)).n + (V (pos + m)).n)) := rfl
                    have hsz : gs (sz K V) pos m + (16 + (K (pos + m)).n + (V (pos + m)).n) ≤ 1048576 := by rw [← HGM.out]; omega
                    have hkb : (0 : Int) ≤ (pos : Int) + (m : Int) := by omega
                    have hkn : (pos : Int) + (m : Int) < (k : Int) := by omega
                    clear hc5 hf5 hb5 hgm2
                    go_wp2_with fail
                    refine (zzsize_any (K (pos + m)).a (V (pos + m)).a (K (pos + m)).n (K (pos + m)).c (V (pos + m)).n (V (pos + m)).c _ (by omega)).mono ?_
                    rintro e w6 ⟨rfl, rfl⟩
                    go_wp2_with fail
                    go_roundw
                    case rel => exact ⟨m + 1, by omega, by go_num, by rw [HGM.out]; go_num, HC5.out.below ((Below.refl _ _).alloc (Nat.le_refl _) _), HF5.out.alloc _, HB5.out.alloc hbs5 _⟩
                    case measure => simp [intOf]; omega
                  · obtain rfl : m = cc := by omega
                    clear hc5 hf5 hb5
                    go_wp2_with fail
                    go_roundw
                    case rel => exact ⟨I + 1, by omega, by go_num, by rw [HEV.out, ← Hcc.out]; go_num, by rw [HEV.out, ← Hcc.out]; have := HLF.out; go_num, HF5.out, HB5.out⟩
                    case measure => simp [intOf]; omega
              · have hfit' : fitB (sz K V) pos cc p = false := by simpa using hfit
                go_wp2_with fail
                refine (pagefits_cut b off cc (c - pos) pos k K V p w2 hT (by omega) HC.out).mono ?_
                rintro e w3 ⟨rfl, hb3⟩
                rw [hfit']
                have HB3 : Hid (Below w.heap.size w w3) := HB.out.trans (hb3.mono HB.out.size)
                clear hb3
                go_wp2_with fail
                go_ret
                refine ⟨_, rfl, .inr ⟨⟨I, hlt, fun h => ?_⟩, rfl⟩, HB3.out⟩
                rcases HOK.out.1 h with h | h
                · rw [← Hcc.out] at h; omega
                · rw [← Hcc.out] at h; exact hfit h
            · have HCC : Hid (pg (sz K V) k L I = k - pos) := by show _ = _; rw [HPG.out]; unfold cnt; rw [if_neg hlast]
              have hcl : k - pos ≤ k - pos := Nat.le_refl _
              have hcc0 : 0 < k - pos := by omega
              have hcast : (k : Int) - (pos : Int) = ((k - pos : Nat) : Int) := by omega
              obtain ⟨cc, Hcc⟩ : ∃ s, Hid (s = pg (sz K V) k L I) := ⟨_, rfl⟩
              have Hcc2 : Hid (cc = k - pos) := by rw [Hcc.out]; exact HCC.out
              have hccl : pos + cc ≤ k := by rw [Hcc2.out]; omega
              rw [← Hcc2.out] at hcc0 hcast
              have HLF : Hid (lf = gs (sz K V) pos cc + gs (sz K V) (pos + cc) (k - (pos + cc))) := by
                have e := gs_add (sz K V) pos cc (k - (pos + cc))
                rw [show cc + (k - (pos + cc)) = k - pos by omega, ← Hlf.out] at e; exact e
              have HF : Hid (Fill w.heap.size wr wo.heap.size L I (sz K V) k p) := hfil
              have HB : Hid (Below w.heap.size w wr) := hb
              have HC : Hid (Cells wr b off k K V) := HCr.out
              clear hfil hb HCr hcl
              by_cases hfit : fitB (sz K V) pos cc p = true
              · go_wp2_with fail
                refine (pagefits_cut b off cc (c - pos) pos k K V p wr hT (by omega) HC.out).mono ?_
                rintro e w3 ⟨rfl, hb3⟩
                rw [hfit]
                have HC3 : Hid (Cells w3 b off k K V) := HC.out.below hb3
                have HF3 : Hid (Fill w.heap.size w3 wo.heap.size L I (sz K V) k p) := HF.out.below hb3
                have HB3 : Hid (Below w.heap.size w w3) := HB.out.trans (hb3.mono HB.out.size)
                obtain ⟨u3, o3, f3⟩ := HF3.out.cell hlt
                have HF4 : Hid (Fill w.heap.size (w3.setCell ⟨wo.heap.size, I, none⟩ (.int .i64 (cc : Int))) wo.heap.size L (I + 1) (sz K V) k p) := by
                  have := HF3.out.step hlt (HOK.out.2 (.inr (by rw [← Hcc.out]; exact hfit)))
                  rw [← Hcc.out] at this; exact this
                have HB4 : Hid (Below w.heap.size w (w3.setCell ⟨wo.heap.size, I, none⟩ (.int .i64 (cc : Int)))) := HB3.out.setCell (by exact hgl) _
                have HC4 : Hid (Cells (w3.setCell ⟨wo.heap.size, I, none⟩ (.int .i64 (cc : Int))) b off k K V) := by
                  intro j hj
                  have hbw : b < w.heap.size := HBW.out
                  refine ⟨?_, ?_⟩
                  · rw [HB4.out.cell (by exact hbw), ← HB3.out.cell (by exact hbw)]; exact (HC3.out j hj).1
                  · rw [HB4.out.cell (by exact hbw), ← HB3.out.cell (by exact hbw)]; exact (HC3.out j hj).2
                clear hb3 hfit o1 f1
                go_wp2_with fail
                go_loopw [7, 13] (fun t j wr3 => ∃ m : Nat, m ≤ cc ∧ j = .int .i64 (pos + m) ∧ t = .int .i64 ((lf : Int) - (gs (sz K V) pos m : Nat)) ∧ Cells wr3 b off k K V ∧ Fill w.heap.size wr3 wo.heap.size L (I + 1) (sz K V) k p ∧ Below w.heap.size w wr3) (fun _ j _ => pos + cc - (intOf j).toNat)
                case atStart => exact ⟨0, Nat.zero_le _, by simp, by simp [gs, sm], HC4.out, HF4.out, HB4.out⟩
                case round =>
                  obtain ⟨m, hm, rfl, rfl, hc5, hf5, hb5⟩ := hrel
                  have hgm := gs_le_tot K V pos m k (by omega)
                  have HC5 : Hid (Cells wr b off k K V) := hc5
                  have HF5 : Hid (Fill w.heap.size wr wo.heap.size L (I + 1) (sz K V) k p) := hf5
                  have HB5 : Hid (Below w.heap.size w wr) := hb5
                  have hbs5 := hb5.size
                  by_cases hmc : m < cc
                  · obtain ⟨c1, c2⟩ := hc5 (pos + m) (by omega)
                    have hgm2 := gs_le_tot K V pos (m + 1) k (by omega)
                    have HGM : Hid (gs (sz K V) pos (m + 1) = gs (sz K V) pos m + (16 + (K (pos + m)).n + (V (pos + m)).n)) := rfl
                    have hsz : gs (sz K V) pos m + (16 + (K (pos + m)).n + (V (pos + m)).n) ≤ 1048576 := by rw [← HGM.out]; omega
                    have hkb : (0 : Int) ≤ (pos : Int) + (m : Int) := by omega
                    have hkn : (pos : Int) + (m : Int) < (k : Int) := by omega
                    clear hc5 hf5 hb5 hgm2
                    go_wp2_with fail
                    refine (zzsize_any (K (pos + m)).a (V (pos + m)).a (K (pos + m)).n (K (pos + m)).c (V (pos + m)).n (V (pos + m)).c _ (by omega)).mono ?_
                    rintro e w6 ⟨rfl, rfl⟩
                    go_wp2_with fail
                    go_roundw
                    case rel => exact ⟨m + 1, by omega, by go_num, by rw [HGM.out]; go_num, HC5.out.below ((Below.refl _ _).alloc (Nat.le_refl _) _), HF5.out.alloc _, HB5.out.alloc hbs5 _⟩
                    case measure => simp [intOf]; omega
                  · obtain rfl : m = cc := by omega
                    clear hc5 hf5 hb5
                    go_wp2_with fail
                    go_roundw
                    case rel => exact ⟨I + 1, by omega, by go_num, by rw [HEV.out, ← Hcc.out]; go_num, by rw [HEV.out, ← Hcc.out]; have := HLF.out; go_num, HF5.out, HB5.out⟩
                    case measure => simp [intOf]; omega
              · have hfit' : fitB (sz K V) pos cc p = false := by simpa using hfit
                go_wp2_with fail
                refine (pagefits_cut b off cc (c - pos) pos k K V p wr hT (by omega) HC.out).mono ?_
                rintro e w3 ⟨rfl, hb3⟩
                rw [hfit']
                have HB3 : Hid (Below w.heap.size w w3) := HB.out.trans (hb3.mono HB.out.size)
                clear hb3
                go_wp2_with fail
                go_ret
                refine ⟨_, rfl, .inr ⟨⟨I, hlt, fun h => ?_⟩, rfl⟩, HB3.out⟩
                rcases HOK.out.1 h with h | h
                · rw [← Hcc.out] at h; omega
                · rw [← Hcc.out] at h; exact hfit h
          · have hk0 : k - pos = 0 := by omega
            have HZ : Hid (pg (sz K V) k L I = 0) := by
              have h1 := cnt_le (sz K V) k L I pos
              rw [← HPG.out] at h1; show _ = 0; omega
            have hcast : (k : Int) - (pos : Int) = 0 := by omega
            by_cases hlast : I + 1 < L
            · have HFr : Hid (Fill w.heap.size wr wo.heap.size L I (sz K V) k p) := hfil
              have HBr : Hid (Below w.heap.size w wr) := hb
              clear hfil hb o1 f1
              by_cases hcp : c = pos
              · subst hcp
                go_wp2_with fail
                go_region_with (go_at_call 17; refine (nearest_none _ _ share wr.drew hsl).mono ?_; rintro e w2 ⟨rfl, hb2⟩)
                have hb2' : Below wr.heap.size wr w2 := ⟨hb2.os, hb2.tape, hb2.output, hb2.size, hb2.block⟩
                have HF : Hid (Fill w.heap.size w2 wo.heap.size L I (sz K V) k p) := HFr.out.below hb2'
                have HB : Hid (Below w.heap.size w w2) := HBr.out.trans (hb2'.mono HBr.out.size)
                obtain ⟨u, o1, f1⟩ := HF.out.cell hlt
                clear hb2 hb2' HFr HBr
                have HF4 : Hid (Fill w.heap.size (w2.setCell ⟨wo.heap.size, I, none⟩ (.int .i64 0)) wo.heap.size L (I + 1) (sz K V) k p) := by
                  have := HF.out.step hlt (HOK.out.2 (.inl HZ.out))
                  rw [HZ.out] at this; exact this
                have HB4 : Hid (Below w.heap.size w (w2.setCell ⟨wo.heap.size, I, none⟩ (.int .i64 0))) := HB.out.setCell (by exact hgl) _
                go_wp2_with fail
                refine wp_loop_rounds 1 ?_
                rw [rounds_succ]
                go_wp2_with fail
                go_roundw
                case rel => exact ⟨I + 1, by omega, by go_num, by rw [HEV.out, HZ.out]; go_num, by rw [HEV.out, HZ.out, Nat.add_zero, ← Hlf.out], HF4.out, HB4.out⟩
                case measure => simp [intOf]; omega
              · go_wp2_with fail
                go_region_with (go_at_call 17; refine (nearest_none _ _ share wr.drew hsl).mono ?_; rintro e w2 ⟨rfl, hb2⟩)
                have hb2' : Below wr.heap.size wr w2 := ⟨hb2.os, hb2.tape, hb2.output, hb2.size, hb2.block⟩
                have HF : Hid (Fill w.heap.size w2 wo.heap.size L I (sz K V) k p) := HFr.out.below hb2'
                have HB : Hid (Below w.heap.size w w2) := HBr.out.trans (hb2'.mono HBr.out.size)
                obtain ⟨u, o1, f1⟩ := HF.out.cell hlt
                clear hb2 hb2' HFr HBr
                have HF4 : Hid (Fill w.heap.size (w2.setCell ⟨wo.heap.size, I, none⟩ (.int .i64 0)) wo.heap.size L (I + 1) (sz K V) k p) := by
                  have := HF.out.step hlt (HOK.out.2 (.inl HZ.out))
                  rw [HZ.out] at this; exact this
                have HB4 : Hid (Below w.heap.size w (w2.setCell ⟨wo.heap.size, I, none⟩ (.int .i64 0))) := HB.out.setCell (by exact hgl) _
                go_wp2_with fail
                refine wp_loop_rounds 1 ?_
                rw [rounds_succ]
                go_wp2_with fail
                go_roundw
                case rel => exact ⟨I + 1, by omega, by go_num, by rw [HEV.out, HZ.out]; go_num, by rw [HEV.out, HZ.out, Nat.add_zero, ← Hlf.out], HF4.out, HB4.out⟩
                case measure => simp [intOf]; omega
            · have HF : Hid (Fill w.heap.size wr wo.heap.size L I (sz K V) k p) := hfil
              have HB : Hid (Below w.heap.size w wr) := hb
              clear hfil hb
              have HF4 : Hid (Fill w.heap.size (wr.setCell ⟨wo.heap.size, I, none⟩ (.int .i64 0)) wo.heap.size L (I + 1) (sz K V) k p) := by
                have := HF.out.step hlt (HOK.out.2 (.inl HZ.out))
                rw [HZ.out] at this; exact this
              have HB4 : Hid (Below w.heap.size w (wr.setCell ⟨wo.heap.size, I, none⟩ (.int .i64 0))) := HB.out.setCell (by exact hgl) _
              go_wp2_with fail
              refine wp_loop_rounds 1 ?_
              rw [rounds_succ]
              go_wp2_with fail
              go_roundw
              case rel => exact ⟨I + 1, by omega, by go_num, by rw [HEV.out, HZ.out]; go_num, by rw [HEV.out, HZ.out, Nat.add_zero, ← Hlf.out], HF4.out, HB4.out⟩
              case measure => simp [intOf]; omega
        · obtain rfl : I = L := by omega
          have HF : Hid (Fill w.heap.size wr wo.heap.size I I (sz K V) k p) := hfil
          have HB : Hid (Below w.heap.size w wr) := hb
          clear hfil hb
          go_wp2_with fail
          go_ret
          exact ⟨_, rfl, HF.out.done, HB.out⟩
end Go.Proofs.Qxb6617915aMods
