/-
  THE WALK of even: it hands back the plain counts, or nil.
-/
import Derived.Test.Qxb6617915aModsWalkH
namespace Go.Proofs.Qxb6617915aMods
open Go.RowKit Plain

theorem fits_cut (b off m c a n : Nat) (K V : Nat → Hd) (p : Int) (w : World) (hT : tot K V n ≤ 1048576) (h : a + m ≤ n) (hc : Cells w b off n K V) :
    Calls Trym.prog 22 #[.slice (some ⟨b, off + a * 2, none⟩) m c, .int .i64 p] w fun e w' => e = .returned (.bool (fitB (sz K V) a m p)) ∧ Below w.heap.size w w' := by
  rw [← fitB_cut]
  exact fits_any _ m c _ _ p w (by have := tot_cut K V a m; have := tot_le K V h; omega) (es_cut hc a m h)

set_option maxRecDepth 100000 in
set_option maxHeartbeats 6400000 in
theorem even_walk (ao : Option Addr) (n c L : Nat) (K V : Nat → Hd) (p : Int) (w : World) (hnc : n ≤ c) (hcm : c ≤ 9223372036854775807) (hE : Es w ao n K V) (hT : tot K V n ≤ 1048576) (hL : L ≤ 65536) :
    Calls Trym.prog 19 #[.slice ao n c, .int .i64 L, .int .i64 p] w fun e w' => ∃ v, e = .returned v ∧ EvOut w' v (sz K V) n L p ∧ Below w.heap.size w w' := by
  have hn : n ≤ 1048576 := by have := tot_n K V n; omega
  obtain ⟨b, off, hE'⟩ : ∃ b off, 0 < n → ao = some ⟨b, off, none⟩ ∧ Cells w b off n K V := by
    rcases Nat.eq_zero_or_pos n with h | h
    · exact ⟨0, 0, fun h' => by omega⟩
    · obtain ⟨b, off, h1, h2⟩ := hE h; exact ⟨b, off, fun _ => ⟨h1, h2⟩⟩
  have HEs : Hid (0 < n → ao = some ⟨b, off, none⟩ ∧ Cells w b off n K V) := hE'
  clear hE hE'
  obtain ⟨i0, hi, hz0, hz1, hz2⟩ := info_parts info3
  go_enter Trym.func19, Trym.ntmps19
  go_wp2
  go_loopw [7, 19] (fun t i wr => ∃ k : Nat, k ≤ n ∧ i = .int .i64 k ∧ t = .int .i64 (sm (sz K V) k : Nat) ∧ Below w.heap.size w wr) (fun _ i _ => n - (intOf i).toNat)
  case atStart => exact ⟨0, Nat.zero_le _, rfl, rfl, Below.refl _ _⟩
  case round =>
    obtain ⟨k, hk, rfl, rfl, hb⟩ := hrel
    have hs := sm_le K V k
    have hkt := tot_le K V hk
    by_cases hlt : k < n
    · obtain ⟨rfl, hc⟩ := HEs.out (by omega)
      obtain ⟨hc1, hc2⟩ := hc k hlt
      have hbb : b < w.heap.size := World.block_lt_of_cell? w ⟨b, off + k * 2, none⟩ hc1
      have g1 : wr.cell? ⟨b, off + k * 2, none⟩ = some (.slice (K k).a (K k).n (K k).c) := (hb.cell (by exact hbb)).trans hc1
      have g2 : wr.cell? ⟨b, off + k * 2 + 1, none⟩ = some (.slice (V k).a (V k).n (V k).c) := (hb.cell (by exact hbb)).trans hc2
      have hkb : (0 : Int) ≤ (k : Int) := by omega
      have hkn : (k : Int) < (n : Int) := by omega
      have ht1 : tot K V k + (48 + (K k).n + (V k).n) ≤ tot K V n := tot_le K V (show k + 1 ≤ n by omega)
      have HS : Hid (sm (sz K V) (k + 1) = sm (sz K V) k + (16 + (K k).n + (V k).n)) := rfl
      have HB : Hid (Below w.heap.size w wr) := hb
      have hbs := hb.size
      clear hc hc1 hc2 hb
      go_wp2_with fail
      refine (size_any (K k).a (V k).a (K k).n (K k).c (V k).n (V k).c _ (by omega)).mono ?_
      rintro e w' ⟨rfl, rfl⟩
      go_wp2_with fail
      go_roundw
      case rel => exact ⟨k + 1, by omega, by go_num, by rw [HS.out]; go_num, (HB.out.alloc hbs _).alloc (by simp; omega) _⟩
      case measure => simp [intOf]; omega
    · obtain rfl : k = n := by omega
      obtain ⟨wo, rfl⟩ : ∃ wo : World, wo = wr := ⟨_, rfl⟩
      go_wp2_with (at_make; refine wpList_make_full _ rfl _ _ 25 rfl w.heap.size 3 i0 (.int .i64 0) 1 Trym.underlying25 hi hz0 hz1 .i64 .i64 _ _ L rfl rfl rfl rfl ?c1 ?c2 ?c3 ?_)
      case c1 => rw [hz2]; omega
      case c2 => unfold maxLen; omega
      case c3 => exact hb.size
      intro w1 hown hgrow
      have hb1 : Below w.heap.size w w1 := hb.grown hgrow hb.size (by simp)
      have HFi : Hid (Fill w.heap.size w1 wo.heap.size L 0 (sz K V) k p) := Fill.start hown
      have HB1 : Hid (Below w.heap.size w w1) := hb1
      have hgl : w.heap.size ≤ wo.heap.size := hb.size
      have HG : Hid (gs (sz K V) 0 (k - 0) = sm (sz K V) k) := gs_zero _ _
      clear hgrow hi hz0 hz1 hz2 i0 hown hb1 hb
      go_wp2_with fail
      go_loopw [0, 7, 31] (fun e0 t i wr => ∃ (I rem ec : Nat) (eo : Option Addr), I ≤ L ∧ i = .int .i64 I ∧ e0 = .slice eo rem ec ∧ rem = k - evp (sz K V) k L I ∧ rem ≤ ec ∧ ec ≤ 9223372036854775807 ∧ (0 < rem → eo = some ⟨b, off + evp (sz K V) k L I * 2, none⟩) ∧ t = .int .i64 (gs (sz K V) (evp (sz K V) k L I) rem : Nat) ∧ Fill w.heap.size wr wo.heap.size L I (sz K V) k p ∧ Below w.heap.size w wr) (fun _ _ i _ => L - (intOf i).toNat)
      case atStart => exact ⟨0, k, c, ao, Nat.zero_le _, rfl, rfl, rfl, hnc, hcm, fun h => by rw [(HEs.out h).1]; rfl, by rw [← HG.out]; rfl, HFi.out, HB1.out⟩
      case round =>
        obtain ⟨I, rem, ec, eo, hI, rfl, rfl, hrem, hrc, hecm, heo, rfl, hfil, hb⟩ := hrel
        have hpl := evp_le (sz K V) k L I
        have HPG : Hid (pg (sz K V) k L I = cnt (sz K V) k L I (evp (sz K V) k L I)) := rfl
        have HEV : Hid (evp (sz K V) k L (I + 1) = evp (sz K V) k L I + pg (sz K V) k L I) := rfl
        have HOK : Hid (okAt (sz K V) k L p I ↔ (pg (sz K V) k L I = 0 ∨ fitB (sz K V) (evp (sz K V) k L I) (pg (sz K V) k L I) p = true)) := Iff.rfl
        obtain ⟨pos, Hp⟩ : ∃ s, Hid (s = evp (sz K V) k L I) := ⟨_, rfl⟩
        obtain ⟨lf, Hlf⟩ : ∃ s, Hid (s = gs (sz K V) pos rem) := ⟨_, rfl⟩
        rw [← Hp.out] at hpl HPG HEV HOK hrem heo ⊢
        rw [← Hlf.out]
        have HR : Hid (rem = k - pos) := hrem
        have hprk : pos + rem = k := by omega
        have hgt : lf ≤ tot K V k := by rw [Hlf.out]; exact gs_le_tot K V pos rem k (by omega)
        have HPR : Hid (pos + rem = k) := hprk
        have hpk1 : pos + rem ≤ k := by omega
        have hpk2 : k ≤ pos + rem := by omega
        have HEO : Hid (0 < rem → eo = some ⟨b, off + pos * 2, none⟩) := heo
        clear hrem hprk heo
        have hsh0 := share_cast lf L I
        by_cases hlt : I < L
        · have hshc := hsh0 hlt
          clear hsh0
          have hsl : lf / (L - I) ≤ 1048576 := Nat.le_trans (Nat.div_le_self _ _) (by omega)
          have HSD : Hid (lf / (L - I) = gs (sz K V) pos (k - pos) / (L - I)) := by show _ = _; rw [Hlf.out, ← HR.out]
          obtain ⟨share, Hsh⟩ : ∃ s, Hid (s = lf / (L - I)) := ⟨_, rfl⟩
          rw [← Hsh.out] at hshc hsl HSD
          have hd0 : ¬ ((L : Int) - (I : Int)) = 0 := by omega
          by_cases hpn : 0 < rem
          · obtain rfl := HEO.out hpn
            obtain ⟨rfl, hc⟩ := HEs.out (by omega)
            have HBW : Hid (b < w.heap.size) := Cells.lt hc (by omega)
            have HCr : Hid (Cells wr b off k K V) := fun j hj => ⟨(hb.cell (by exact HBW.out)).trans (hc j hj).1, (hb.cell (by exact HBW.out)).trans (hc j hj).2⟩
            clear hc
            by_cases hlast : I + 1 < L
            · have HCC : Hid (pg (sz K V) k L I = nr (sh (sz K V) pos) share rem) := by show _ = _; rw [HPG.out, HR.out, HSD.out]; unfold cnt; rw [if_pos hlast]
              have HFr : Hid (Fill w.heap.size wr wo.heap.size L I (sz K V) k p) := hfil
              have HBr : Hid (Below w.heap.size w wr) := hb
              obtain ⟨wi, rfl⟩ : ∃ wo : World, wo = wr := ⟨_, rfl⟩
              clear hfil hb
              go_wp2_with fail
              go_loopw [12, 13, 48] (fun ct tk i wr => ∃ j : Nat, j ≤ rem ∧ i = .int .i64 j ∧ ct = .int .i64 j ∧ tk = .int .i64 (gs (sz K V) pos j : Nat) ∧ nr (sh (sz K V) pos) share j = j ∧ Cells wr b off k K V ∧ Fill w.heap.size wr wo.heap.size L I (sz K V) k p ∧ Below w.heap.size w wr) (fun _ _ i _ => rem - (intOf i).toNat)
              case atStart => exact ⟨0, Nat.zero_le _, rfl, rfl, rfl, rfl, HCr.out, HFr.out, HBr.out⟩
              case round =>
                obtain ⟨j, hj, rfl, rfl, rfl, hnj, hcj, hfj, hbj⟩ := hrel
                have HNJ : Hid (nr (sh (sz K V) pos) share j = j) := hnj
                have HCj : Hid (Cells wr b off k K V) := hcj
                have HFj : Hid (Fill w.heap.size wr wo.heap.size L I (sz K V) k p) := hfj
                have HBj : Hid (Below w.heap.size w wr) := hbj
                have hbs := hbj.size
                have hgj := gs_le_tot K V pos j k (by omega)
                clear hnj hfj hbj HCr HFr HBr
                by_cases hjr : j < rem
                · obtain ⟨c1, c2⟩ := hcj (pos + j) (by omega)
                  rw [show off + (pos + j) * 2 = off + pos * 2 + j * 2 by omega] at c1 c2
                  have HGJ : Hid (gs (sz K V) pos (j + 1) = gs (sz K V) pos j + (16 + (K (pos + j)).n + (V (pos + j)).n)) := rfl
                  have HSJ : Hid (sh (sz K V) pos j = 16 + (K (pos + j)).n + (V (pos + j)).n) := rfl
                  have hgj2 : gs (sz K V) pos j + (16 + (K (pos + j)).n + (V (pos + j)).n) ≤ 1048576 := by
                    have := gs_le_tot K V pos (j + 1) k (by omega); rw [HGJ.out] at this; omega
                  have hkb : (0 : Int) ≤ (j : Int) := by omega
                  have hkn : (j : Int) < (rem : Int) := by omega
                  have HBe : Hid (∀ o1 o2 : Obj, Below wr.heap.size wr ((wr.alloc o1).alloc o2)) := fun o1 o2 => ((Below.refl _ _).alloc (Nat.le_refl _) _).alloc (by simp) _
                  have HBe3 : Hid (∀ o1 o2 o3 : Obj, Below wr.heap.size wr (((wr.alloc o1).alloc o2).alloc o3)) := fun o1 o2 o3 => (((Below.refl _ _).alloc (Nat.le_refl _) _).alloc (by simp) _).alloc (by simp; omega) _
                  clear hcj
                  by_cases hj0 : 0 < j
                  · by_cases hstop : 2 * share < 2 * gs (sz K V) pos j + (16 + (K (pos + j)).n + (V (pos + j)).n)
                    · have HCt : Hid (nr (sh (sz K V) pos) share rem = j) := by
                        have e := nr_stop hj0 HNJ.out (by rw [HSJ.out]; exact hstop) (rem - j)
                        rw [show j + (rem - j) = rem by omega] at e; exact e
                      have hstop' : 2 * (share : Int) < 2 * (gs (sz K V) pos j : Nat) + (16 + (K (pos + j)).n + (V (pos + j)).n) := by omega
                      obtain ⟨tk, Htk⟩ : ∃ s, Hid (s = gs (sz K V) pos j) := ⟨_, rfl⟩
                      rw [← Htk.out] at hstop' hgj2 hgj ⊢
                      have hcc : j ≤ rem := by omega
                      have Hcc : Hid (j = pg (sz K V) k L I) := by show _ = _; rw [HCC.out, HCt.out]
                      have HLF : Hid (lf = tk + gs (sz K V) (pos + j) (rem - j)) := by
                        have e := gs_add (sz K V) pos j (rem - j)
                        rw [show j + (rem - j) = rem by omega, ← Hlf.out, ← Htk.out] at e; exact e
                      have htl : tk ≤ lf := by have := HLF.out; omega
                      clear hstop
                      go_wp2_with fail
                      refine (size_any (K (pos + j)).a (V (pos + j)).a (K (pos + j)).n (K (pos + j)).c (V (pos + j)).n (V (pos + j)).c _ (by omega)).mono ?_
                      rintro e w6 ⟨rfl, rfl⟩
                      obtain ⟨w7, hw7⟩ : ∃ w7, w7 = (wr.alloc (.cells #[.slice (K (pos + j)).a (K (pos + j)).n (K (pos + j)).c, .slice (V (pos + j)).a (V (pos + j)).n (V (pos + j)).c] 41)).alloc (.cells #[.slice (K (pos + j)).a (K (pos + j)).n (K (pos + j)).c, .slice (V (pos + j)).a (V (pos + j)).n (V (pos + j)).c] 41) := ⟨_, rfl⟩
                      have hbx := HBe.out (.cells #[.slice (K (pos + j)).a (K (pos + j)).n (K (pos + j)).c, .slice (V (pos + j)).a (V (pos + j)).n (V (pos + j)).c] 41) (.cells #[.slice (K (pos + j)).a (K (pos + j)).n (K (pos + j)).c, .slice (V (pos + j)).a (V (pos + j)).n (V (pos + j)).c] 41)
                      rw [← hw7] at hbx ⊢
                      have HC : Hid (Cells w7 b off k K V) := HCj.out.below hbx
                      have HF : Hid (Fill w.heap.size w7 wo.heap.size L I (sz K V) k p) := HFj.out.below hbx
                      have HB : Hid (Below w.heap.size w w7) := HBj.out.trans (hbx.mono hbs)
                      clear hbx hw7 HBe HBe3 HCj HFj HBj
                      by_cases hfit : fitB (sz K V) pos j p = true
                      · go_wp2_with fail
                        refine (fits_cut b off j ec pos k K V p w7 hT (by omega) HC.out).mono ?_
                        rintro e w3 ⟨rfl, hb3⟩
                        rw [hfit]
                        have HF3 : Hid (Fill w.heap.size w3 wo.heap.size L I (sz K V) k p) := HF.out.below hb3
                        have HB3 : Hid (Below w.heap.size w w3) := HB.out.trans (hb3.mono HB.out.size)
                        obtain ⟨u3, o3, f3⟩ := HF3.out.cell hlt
                        have HF4 : Hid (Fill w.heap.size (w3.setCell ⟨wo.heap.size, I, none⟩ (.int .i64 (j : Int))) wo.heap.size L (I + 1) (sz K V) k p) := by
                          have := HF3.out.step hlt (HOK.out.2 (.inr (by rw [← Hcc.out]; exact hfit)))
                          rw [← Hcc.out] at this; exact this
                        have HB4 : Hid (Below w.heap.size w (w3.setCell ⟨wo.heap.size, I, none⟩ (.int .i64 (j : Int)))) := HB3.out.setCell (by exact hgl) _
                        clear hb3 hfit
                        by_cases hecj : ec = j
                        · exact absurd hecj (by omega)
                        · go_wp2_with fail
                          go_roundw
                          case rel => exact ⟨I + 1, _, _, _, by omega, by go_num, rfl, by rw [HEV.out, ← Hcc.out]; have := HR.out; omega, by omega, by omega, fun h => by rw [HEV.out, ← Hcc.out]; congr 2; omega, by rw [HEV.out, ← Hcc.out]; have := HLF.out; go_num, HF4.out, HB4.out⟩
                          case measure => simp [intOf]; omega
                      · have hfit' : fitB (sz K V) pos j p = false := by simpa using hfit
                        go_wp2_with fail
                        refine (fits_cut b off j ec pos k K V p w7 hT (by omega) HC.out).mono ?_
                        rintro e w3 ⟨rfl, hb3⟩
                        rw [hfit']
                        have HB3 : Hid (Below w.heap.size w w3) := HB.out.trans (hb3.mono HB.out.size)
                        clear hb3
                        go_wp2_with fail
                        go_ret
                        refine ⟨_, rfl, .inr ⟨⟨I, hlt, fun h => ?_⟩, rfl⟩, HB3.out⟩
                        rcases HOK.out.1 h with h | h
                        · rw [← Hcc.out] at h; omega
                        · rw [← Hcc.out] at h; exact hfit h
                    · have hgo : 2 * ((gs (sz K V) pos j : Nat) : Int) + (16 + (K (pos + j)).n + (V (pos + j)).n) ≤ 2 * (share : Int) := by omega
                      have HN1 : Hid (nr (sh (sz K V) pos) share (j + 1) = j + 1) := nr_on hj0 HNJ.out (by rw [HSJ.out]; exact Nat.le_of_not_lt hstop)
                      obtain ⟨tk, Htk⟩ : ∃ s, Hid (s = gs (sz K V) pos j) := ⟨_, rfl⟩
                      rw [← Htk.out] at hgo hgj2 hgj ⊢
                      clear hstop
                      go_wp2_with fail
                      refine (size_any (K (pos + j)).a (V (pos + j)).a (K (pos + j)).n (K (pos + j)).c (V (pos + j)).n (V (pos + j)).c _ (by omega)).mono ?_
                      rintro e w6 ⟨rfl, rfl⟩
                      go_wp2_with fail
                      refine (size_any (K (pos + j)).a (V (pos + j)).a (K (pos + j)).n (K (pos + j)).c (V (pos + j)).n (V (pos + j)).c _ (by omega)).mono ?_
                      rintro e w6 ⟨rfl, rfl⟩
                      go_wp2_with fail
                      go_roundw
                      case rel => exact ⟨j + 1, by omega, by go_num, by go_num, by rw [HGJ.out, ← Htk.out]; go_num, HN1.out, HCj.out.below (HBe3.out _ _ _), HFj.out.below (HBe3.out _ _ _), HBj.out.trans ((HBe3.out _ _ _).mono hbs)⟩
                      case measure => simp [intOf]; omega
                  · have HJ0 : Hid (j = 0) := by show j = 0; omega
                    have hj0' : ¬ (0 : Int) < (j : Int) := by omega
                    have HN1 : Hid (nr (sh (sz K V) pos) share (j + 1) = j + 1) := by show _ = _; rw [HJ0.out, nr_one]
                    obtain ⟨tk, Htk⟩ : ∃ s, Hid (s = gs (sz K V) pos j) := ⟨_, rfl⟩
                    rw [← Htk.out] at hgj2 hgj ⊢
                    go_wp2_with fail
                    refine (size_any (K (pos + j)).a (V (pos + j)).a (K (pos + j)).n (K (pos + j)).c (V (pos + j)).n (V (pos + j)).c _ (by omega)).mono ?_
                    rintro e w6 ⟨rfl, rfl⟩
                    go_wp2_with fail
                    go_roundw
                    case rel => exact ⟨j + 1, by omega, by go_num, by go_num, by rw [HGJ.out, ← Htk.out]; go_num, HN1.out, HCj.out.below (HBe.out _ _), HFj.out.below (HBe.out _ _), HBj.out.trans ((HBe.out _ _).mono hbs)⟩
                    case measure => simp [intOf]; omega
                · obtain rfl : j = rem := by omega
                  have Hcc : Hid (j = pg (sz K V) k L I) := by show _ = _; rw [HCC.out, HNJ.out]
                  have hcc : j ≤ j := Nat.le_refl _
                  have hj0 : 0 < j := hpn
                  rw [← Hlf.out]
                  obtain ⟨tk, Htk⟩ : ∃ s, Hid (s = lf) := ⟨_, rfl⟩
                  have htl : lf ≤ lf := Nat.le_refl _
                  have HLF : Hid (lf = lf + gs (sz K V) (pos + j) (j - j)) := by show _ = _; rw [Nat.sub_self]; rfl
                  have HC : Hid (Cells wr b off k K V) := HCj.out
                  have HF : Hid (Fill w.heap.size wr wo.heap.size L I (sz K V) k p) := HFj.out
                  have HB : Hid (Below w.heap.size w wr) := HBj.out
                  clear HCj HFj HBj hcj
                  by_cases hfit : fitB (sz K V) pos j p = true
                  · go_wp2_with fail
                    refine (fits_cut b off j ec pos k K V p wr hT (by omega) HC.out).mono ?_
                    rintro e w3 ⟨rfl, hb3⟩
                    rw [hfit]
                    have HF3 : Hid (Fill w.heap.size w3 wo.heap.size L I (sz K V) k p) := HF.out.below hb3
                    have HB3 : Hid (Below w.heap.size w w3) := HB.out.trans (hb3.mono HB.out.size)
                    obtain ⟨u3, o3, f3⟩ := HF3.out.cell hlt
                    have HF4 : Hid (Fill w.heap.size (w3.setCell ⟨wo.heap.size, I, none⟩ (.int .i64 (j : Int))) wo.heap.size L (I + 1) (sz K V) k p) := by
                      have := HF3.out.step hlt (HOK.out.2 (.inr (by rw [← Hcc.out]; exact hfit)))
                      rw [← Hcc.out] at this; exact this
                    have HB4 : Hid (Below w.heap.size w (w3.setCell ⟨wo.heap.size, I, none⟩ (.int .i64 (j : Int)))) := HB3.out.setCell (by exact hgl) _
                    clear hb3 hfit
                    by_cases hecj : ec = j
                    · have HEC : Hid (ec = j) := hecj
                      have hnr : j = j := by omega
                      have HNR : Hid (j = j) := hnr
                      subst hecj
                      clear hnr
                      go_wp2_with fail
                      go_roundw
                      case rel => exact ⟨I + 1, _, _, _, by omega, by go_num, rfl, by rw [HEV.out, ← Hcc.out]; have := HR.out; omega, by omega, by omega, fun h => by omega, by rw [HEV.out, ← Hcc.out]; have := HLF.out; go_num, HF4.out, HB4.out⟩
                      case measure => simp [intOf]; omega
                    · go_wp2_with fail
                      go_roundw
                      case rel => exact ⟨I + 1, _, _, _, by omega, by go_num, rfl, by rw [HEV.out, ← Hcc.out]; have := HR.out; omega, by omega, by omega, fun h => by rw [HEV.out, ← Hcc.out]; congr 2; omega, by rw [HEV.out, ← Hcc.out]; have := HLF.out; go_num, HF4.out, HB4.out⟩
                      case measure => simp [intOf]; omega
                  · have hfit' : fitB (sz K V) pos j p = false := by simpa using hfit
                    go_wp2_with fail
                    refine (fits_cut b off j ec pos k K V p wr hT (by omega) HC.out).mono ?_
                    rintro e w3 ⟨rfl, hb3⟩
                    rw [hfit']
                    have HB3 : Hid (Below w.heap.size w w3) := HB.out.trans (hb3.mono HB.out.size)
                    clear hb3
                    go_wp2_with fail
                    go_ret
                    refine ⟨_, rfl, .inr ⟨⟨I, hlt, fun h => ?_⟩, rfl⟩, HB3.out⟩
                    rcases HOK.out.1 h with h | h
                    · rw [← Hcc.out] at h; omega
                    · rw [← Hcc.out] at h; exact hfit h
            · have HCC : Hid (pg (sz K V) k L I = rem) := by show _ = _; rw [HPG.out, HR.out]; unfold cnt; rw [if_neg hlast]
              have Hcc : Hid (rem = pg (sz K V) k L I) := by show _ = _; rw [HCC.out]
              have hcc : rem ≤ rem := Nat.le_refl _
              have hj0 : 0 < rem := hpn
              have htl : lf ≤ lf := Nat.le_refl _
              have HLF : Hid (lf = lf + gs (sz K V) (pos + rem) (rem - rem)) := by show _ = _; rw [Nat.sub_self]; rfl
              have HC : Hid (Cells wr b off k K V) := HCr.out
              have HF : Hid (Fill w.heap.size wr wo.heap.size L I (sz K V) k p) := hfil
              have HB : Hid (Below w.heap.size w wr) := hb
              clear hfil hb HCr
              by_cases hfit : fitB (sz K V) pos rem p = true
              · go_wp2_with fail
                refine (fits_cut b off rem ec pos k K V p wr hT (by omega) HC.out).mono ?_
                rintro e w3 ⟨rfl, hb3⟩
                rw [hfit]
                have HF3 : Hid (Fill w.heap.size w3 wo.heap.size L I (sz K V) k p) := HF.out.below hb3
                have HB3 : Hid (Below w.heap.size w w3) := HB.out.trans (hb3.mono HB.out.size)
                obtain ⟨u3, o3, f3⟩ := HF3.out.cell hlt
                have HF4 : Hid (Fill w.heap.size (w3.setCell ⟨wo.heap.size, I, none⟩ (.int .i64 (rem : Int))) wo.heap.size L (I + 1) (sz K V) k p) := by
                  have := HF3.out.step hlt (HOK.out.2 (.inr (by rw [← Hcc.out]; exact hfit)))
                  rw [← Hcc.out] at this; exact this
                have HB4 : Hid (Below w.heap.size w (w3.setCell ⟨wo.heap.size, I, none⟩ (.int .i64 (rem : Int)))) := HB3.out.setCell (by exact hgl) _
                clear hb3 hfit
                by_cases hecj : ec = rem
                · have HEC : Hid (ec = rem) := hecj
                  have hnr : rem = rem := by omega
                  have HNR : Hid (rem = rem) := hnr
                  subst hecj
                  clear hnr
                  go_wp2_with fail
                  go_roundw
                  case rel => exact ⟨I + 1, _, _, _, by omega, by go_num, rfl, by rw [HEV.out, ← Hcc.out]; have := HR.out; omega, by omega, by omega, fun h => by omega, by rw [HEV.out, ← Hcc.out]; have := HLF.out; go_num, HF4.out, HB4.out⟩
                  case measure => simp [intOf]; omega
                · go_wp2_with fail
                  go_roundw
                  case rel => exact ⟨I + 1, _, _, _, by omega, by go_num, rfl, by rw [HEV.out, ← Hcc.out]; have := HR.out; omega, by omega, by omega, fun h => by rw [HEV.out, ← Hcc.out]; congr 2; omega, by rw [HEV.out, ← Hcc.out]; have := HLF.out; go_num, HF4.out, HB4.out⟩
                  case measure => simp [intOf]; omega
              · have hfit' : fitB (sz K V) pos rem p = false := by simpa using hfit
                go_wp2_with fail
                refine (fits_cut b off rem ec pos k K V p wr hT (by omega) HC.out).mono ?_
                rintro e w3 ⟨rfl, hb3⟩
                rw [hfit']
                have HB3 : Hid (Below w.heap.size w w3) := HB.out.trans (hb3.mono HB.out.size)
                clear hb3
                go_wp2_with fail
                go_ret
                refine ⟨_, rfl, .inr ⟨⟨I, hlt, fun h => ?_⟩, rfl⟩, HB3.out⟩
                rcases HOK.out.1 h with h | h
                · rw [← Hcc.out] at h; omega
                · rw [← Hcc.out] at h; exact hfit h
          · obtain rfl : rem = 0 := by omega
            obtain rfl : lf = 0 := by rw [Hlf.out]; rfl
            have HZ : Hid (pg (sz K V) k L I = 0) := by
              have h1 := cnt_le (sz K V) k L I pos
              rw [← HPG.out, ← HR.out] at h1; show _ = 0; omega
            obtain ⟨u, o1, f1⟩ := hfil.cell hlt
            have HF4 : Hid (Fill w.heap.size (wr.setCell ⟨wo.heap.size, I, none⟩ (.int .i64 0)) wo.heap.size L (I + 1) (sz K V) k p) := by
              have := hfil.step hlt (HOK.out.2 (.inl HZ.out))
              rw [HZ.out] at this; exact this
            have HB4 : Hid (Below w.heap.size w (wr.setCell ⟨wo.heap.size, I, none⟩ (.int .i64 0))) := hb.setCell (by exact hgl) _
            clear hfil hb
            by_cases hec0 : ec = 0
            · subst hec0
              by_cases hlast : I + 1 < L
              · go_wp2_with fail
                refine wp_loop_rounds 1 ?_
                rw [rounds_succ]
                go_wp2_with fail
                go_roundw
                case rel => exact ⟨I + 1, 0, _, _, by omega, by go_num, rfl, by rw [HEV.out, HZ.out, Nat.add_zero]; exact HR.out, by omega, by omega, fun h => absurd h (Nat.lt_irrefl _), by rw [HEV.out, HZ.out]; rfl, HF4.out, HB4.out⟩
                case measure => simp [intOf]; omega
              · go_wp2_with fail
                go_roundw
                case rel => exact ⟨I + 1, 0, _, _, by omega, by go_num, rfl, by rw [HEV.out, HZ.out, Nat.add_zero]; exact HR.out, by omega, by omega, fun h => absurd h (Nat.lt_irrefl _), by rw [HEV.out, HZ.out]; rfl, HF4.out, HB4.out⟩
                case measure => simp [intOf]; omega
            · by_cases hlast : I + 1 < L
              · go_wp2_with fail
                refine wp_loop_rounds 1 ?_
                rw [rounds_succ]
                go_wp2_with fail
                go_roundw
                case rel => exact ⟨I + 1, 0, _, _, by omega, by go_num, rfl, by rw [HEV.out, HZ.out, Nat.add_zero]; exact HR.out, by omega, by omega, fun h => absurd h (Nat.lt_irrefl _), by rw [HEV.out, HZ.out]; rfl, HF4.out, HB4.out⟩
                case measure => simp [intOf]; omega
              · go_wp2_with fail
                go_roundw
                case rel => exact ⟨I + 1, 0, _, _, by omega, by go_num, rfl, by rw [HEV.out, HZ.out, Nat.add_zero]; exact HR.out, by omega, by omega, fun h => absurd h (Nat.lt_irrefl _), by rw [HEV.out, HZ.out]; rfl, HF4.out, HB4.out⟩
                case measure => simp [intOf]; omega
        · obtain rfl : I = L := by omega
          have HF : Hid (Fill w.heap.size wr wo.heap.size I I (sz K V) k p) := hfil
          have HB : Hid (Below w.heap.size w wr) := hb
          clear hfil hb hsh0
          go_wp2_with fail
          go_ret
          exact ⟨_, rfl, HF.out.done, HB.out⟩
end Go.Proofs.Qxb6617915aMods
