/-
  THE WALK of scheduleAfter.
-/
import Derived.Test.Qxb6618524aModsWalkD
namespace Go.Proofs.Qxb6618524aMods
open Go.RowKit
set_option linter.unusedVariables false

/-- What scheduleAfter reads. -/
def Aft (w : World) (N n : Nat) (d G st : Nat → Bool) (nx wb sb : Nat) (da : Option Addr) : Prop :=
  Sch w N n d G st nx ∧ w.rowIs wb 4 n (fun i => .bool (G i)) ∧ w.rowIs sb 4 n (fun i => .bool (st i)) ∧ Bs w da n d
theorem Aft.below {w w' : World} {N n : Nat} {d G st : Nat → Bool} {nx wb sb : Nat} {da : Option Addr} (h : Aft w N n d G st nx wb sb da) (hb : Below w.heap.size w w') : Aft w' N n d G st nx wb sb da :=
  ⟨h.1.below hb, h.2.1.of_block (hb.block _ h.2.1.lt), h.2.2.1.of_block (hb.block _ h.2.2.1.lt), h.2.2.2.below hb⟩
theorem below_drewN' {B : Nat} {a w : World} (h : Below B a w) (q : Nat) : Below B a (w.drewN q) := ⟨h.os, h.tape, h.output, h.size, h.block⟩
theorem below_step {a b c : World} (h : Below a.heap.size a b) (k : Below b.heap.size b c) : Below a.heap.size a c := h.trans (k.mono h.size)

set_option maxRecDepth 10000 in
set_option maxHeartbeats 6400000 in
theorem after_any {w : World} {N n : Nat} {d G st : Nat → Bool} {nx wb sb : Nat} {da : Option Addr} (hA : Aft w N n d G st nx wb sb da) (dc nx0 m : Nat) (hn : n ≤ 65536) (h1 : nx0 ≤ nx) (h2 : nx ≤ n) (h3 : ∀ k, nx0 ≤ k → k < nx → G k = true) (h4 : nx < n → G nx = false) (hm : cnt st n = m) :
    Calls Trym.prog 9 #[.pointer (some ⟨N + 7 + n, 0, none⟩), .pointer (some ⟨N, 0, none⟩), .pointer (some ⟨N + 1, 0, none⟩), .slice (some ⟨N + 2, 0, none⟩) n n, .slice (some ⟨wb, 0, none⟩) n n, .slice da n dc, .slice (some ⟨sb, 0, none⟩) n n, .int .i64 nx0, .int .i64 m] w fun e w' => e = .returned (.bool true) ∧ Below w.heap.size w w' := by
  have HA : Hid (Aft w N n d G st nx wb sb da) := hA
  have HM : Hid (cnt st n = m) := hm
  have H3 : Hid (∀ k, nx0 ≤ k → k < nx → G k = true) := h3
  have H4 : Hid (nx < n → G nx = false) := h4
  have HG : Hid (w.cell? ⟨N + 7 + n, 4, none⟩ = some (.slice (some ⟨N + 3 + n, 0, none⟩) n n)) := by obtain ⟨⟨D, hS, _⟩, _⟩ := hA; exact hS.cells.2.2.2.1
  clear hA hm h3 h4
  go_enter Trym.func9, Trym.ntmps9
  go_wp2_with fail
  refine (given_any _ _ _ _ w HG.out).mono ?_
  rintro e w' ⟨rfl, rfl⟩
  go_wp2_with fail
  go_loopw [21] (fun i wr => ∃ k : Nat, k ≤ n ∧ i = .int .i64 k ∧ Below w'.heap.size w' wr) (fun i _ => n - (intOf i).toNat)
  case atStart => exact ⟨0, Nat.zero_le _, rfl, Below.refl _ _⟩
  case round =>
    obtain ⟨k, hk, rfl, hb⟩ := hrel
    have hA := HA.out.below hb
    have HB : Hid (Below w'.heap.size w' wr) := hb
    have HAr : Hid (Aft wr N n d G st nx wb sb da) := hA
    by_cases hlt : k < n
    · have c1 : wr.cell? ⟨N + 3 + n, k, none⟩ = some (.bool (G k)) := by obtain ⟨⟨D, hS, _⟩, _⟩ := hA; exact hS.given.cell hlt
      have c2 : wr.cell? ⟨wb, k, none⟩ = some (.bool (G k)) := hA.2.1.cell hlt
      have hkb : (0 : Int) ≤ (k : Int) := by omega
      have hkn : (k : Int) < (n : Int) := by omega
      clear hA hb
      go_wp2_with fail
      go_quiet (fail)
      go_wp2_with fail
      go_roundw
      case rel => exact ⟨k + 1, by omega, by go_num, below_drewN' HB.out _⟩
      case measure => simp [intOf]; omega
    · clear hb
      have g2 : wr.cell? ⟨N + 7 + n, 2, none⟩ = some (.int .i64 (nx : Int)) := by obtain ⟨⟨D, hS, _⟩, _⟩ := hA; exact hS.cells.2.2.1
      clear hA
      go_wp2_with fail
      refine (next_any _ _ _ g2).mono ?_
      rintro e w2 ⟨rfl, rfl⟩
      have HA2 : Hid (Aft w2 N n d G st nx wb sb da) := HAr.out
      have HB2 : Hid (Below w'.heap.size w' w2) := HB.out
      clear HAr HB g2
      go_wp2_with fail
      go_loop [23] (fun i => ∃ k : Nat, nx0 ≤ k ∧ k ≤ nx ∧ i = .int .i64 k) (fun i => nx - (intOf i).toNat)
      case atStart => exact ⟨nx0, Nat.le_refl _, h1, rfl⟩
      case round =>
        obtain ⟨k, hk0, hk, rfl⟩ := hrel
        by_cases hlt : k < nx
        · have c1 : w2.cell? ⟨wb, k, none⟩ = some (.bool true) := by rw [HA2.out.2.1.cell (by omega), H3.out k hk0 hlt]
          have hkb : (0 : Int) ≤ (k : Int) := by omega
          have hkn : (k : Int) < (n : Int) := by omega
          go_wp2_with fail
          go_round
          case rel => exact ⟨k + 1, by omega, by omega, by go_num⟩
          case measure => simp [intOf]; omega
        · obtain rfl : nx = k := by omega
          have hcase : (nx < n ∧ w2.cell? ⟨wb, nx, none⟩ = some (.bool false)) ∨ ¬ nx < n := by
            rcases Nat.lt_or_ge nx n with h | h
            · exact .inl ⟨h, by rw [HA2.out.2.1.cell h, H4.out h]⟩
            · exact .inr (by omega)
          rcases hcase with ⟨hnx, c5⟩ | hnx
          · have hnb : (0 : Int) ≤ (nx : Int) := by omega
            have hnn : (nx : Int) < (n : Int) := by omega
            go_wp2_with fail
            refine (underlen_any HA2.out.1).mono ?_
            rintro e w3 ⟨rfl, rfl⟩
            rw [HM.out]
            go_wp2_with fail
            go_loopw [24, 25, 26] (fun cr cd i wr => ∃ k : Nat, k ≤ n ∧ i = .int .i64 k ∧ cr = .int .i64 (cnt (fun k => st k && !d k) k : Nat) ∧ cd = .int .i64 (cnt (fun k => st k && d k) k : Nat) ∧ Below w'.heap.size w' wr) (fun _ _ i _ => n - (intOf i).toNat)
            case atStart => exact ⟨0, Nat.zero_le _, rfl, rfl, rfl, HB2.out⟩
            case round =>
              obtain ⟨k, hk, rfl, rfl, rfl, hb⟩ := hrel
              have HB3 : Hid (Below w'.heap.size w' wr) := hb
              have HAr3 : Hid (Aft wr N n d G st nx wb sb da) := HA.out.below hb
              have HSr : Hid (Sch wr N n d G st nx) := HAr3.out.1
              have hq1 := cnt_le (fun k => st k && !d k) k
              have hq2 := cnt_le (fun k => st k && d k) k
              clear hb
              by_cases hlt : k < n
              · have c1 : wr.cell? ⟨N + 2, k, none⟩ = some (.pointer (some ⟨N + 3 + k, 0, none⟩)) := by obtain ⟨⟨D, hS, _⟩, _⟩ := HAr3.out; exact hS.places.cell hlt
                obtain ⟨db, doff, rfl, _⟩ := HA.out.2.2.2 (by omega)
                have hkb : (0 : Int) ≤ (k : Int) := by omega
                have hkn : (k : Int) < (n : Int) := by omega
                have HCR : Hid (cnt (fun k => st k && !d k) (k + 1) = cnt (fun k => st k && !d k) k + (st k && !d k).toNat) := rfl
                have HCD : Hid (cnt (fun k => st k && d k) (k + 1) = cnt (fun k => st k && d k) k + (st k && d k).toNat) := rfl
                obtain ⟨x1, Hx1⟩ : ∃ x, Hid (x = cnt (fun k => st k && !d k) k) := ⟨_, rfl⟩
                obtain ⟨x2, Hx2⟩ : ∃ x, Hid (x = cnt (fun k => st k && d k) k) := ⟨_, rfl⟩
                rw [← Hx1.out] at HCR hq1 ⊢
                rw [← Hx2.out] at HCD hq2 ⊢
                cases hst : st k with
                | true =>
                  cases hdk : d k with
                  | true =>
                    have HST : Hid (st k = true) := hst
                    have HDK : Hid (d k = true) := hdk
                    clear hst hdk
                    go_wp2_with fail
                    refine (counts_place0 HSr.out hlt).mono ?_
                    rintro e w5 ⟨rfl, hb5⟩
                    have HA5 : Hid (Aft w5 N n d G st nx wb sb (some ⟨db, doff, none⟩)) := HAr3.out.below hb5
                    have HB5 : Hid (Below w'.heap.size w' w5) := below_step HB3.out hb5
                    have e1 : w5.cell? ⟨N + 2, k, none⟩ = some (.pointer (some ⟨N + 3 + k, 0, none⟩)) := by obtain ⟨⟨D, hS, _⟩, _⟩ := HA5.out; exact hS.places.cell hlt
                    rw [HST.out]
                    clear c1 hb5
                    go_wp2_with fail
                    refine (counts_place1 HA5.out.1 hlt).mono ?_
                    rintro e w6 ⟨rfl, hb6⟩
                    have HA6 : Hid (Aft w6 N n d G st nx wb sb (some ⟨db, doff, none⟩)) := HA5.out.below hb6
                    have HB6 : Hid (Below w'.heap.size w' w6) := below_step HB5.out hb6
                    have e2 : w6.cell? ⟨sb, k, none⟩ = some (.bool true) := by rw [HA6.out.2.2.1.cell hlt, HST.out]
                    have e3 : w6.cell? ⟨db, doff + k, none⟩ = some (.bool true) := by
                      obtain ⟨b', off', h0, hc'⟩ := HA6.out.2.2.2 (by omega)
                      obtain ⟨rfl, rfl⟩ : db = b' ∧ doff = off' := by simpa using h0
                      rw [hc' k hlt, HDK.out]
                    have HU := underhas_any HA6.out.1 hlt hn
                    rw [HST.out] at HU
                    have HUU : Hid (Calls Trym.prog 17 #[.pointer (some ⟨N + 7 + n, 0, none⟩), .int .i64 k] w6 fun e w' => e = .returned (.bool true) ∧ w' = w6) := HU
                    clear HU e1 hb6
                    go_wp2_with fail
                    refine Calls.mono HUU.out ?_
                    rintro e w7 ⟨rfl, rfl⟩
                    go_wp2_with fail
                    go_roundw
                    case rel => exact ⟨k + 1, by omega, by go_num, by rw [HCR.out, HST.out, HDK.out]; go_num, by rw [HCD.out, HST.out, HDK.out]; go_num, HB6.out⟩
                    case measure => simp [intOf]; omega
                  | false =>
                    have HST : Hid (st k = true) := hst
                    have HDK : Hid (d k = false) := hdk
                    clear hst hdk
                    go_wp2_with fail
                    refine (counts_place0 HSr.out hlt).mono ?_
                    rintro e w5 ⟨rfl, hb5⟩
                    have HA5 : Hid (Aft w5 N n d G st nx wb sb (some ⟨db, doff, none⟩)) := HAr3.out.below hb5
                    have HB5 : Hid (Below w'.heap.size w' w5) := below_step HB3.out hb5
                    have e1 : w5.cell? ⟨N + 2, k, none⟩ = some (.pointer (some ⟨N + 3 + k, 0, none⟩)) := by obtain ⟨⟨D, hS, _⟩, _⟩ := HA5.out; exact hS.places.cell hlt
                    rw [HST.out]
                    clear c1 hb5
                    go_wp2_with fail
                    refine (counts_place1 HA5.out.1 hlt).mono ?_
                    rintro e w6 ⟨rfl, hb6⟩
                    have HA6 : Hid (Aft w6 N n d G st nx wb sb (some ⟨db, doff, none⟩)) := HA5.out.below hb6
                    have HB6 : Hid (Below w'.heap.size w' w6) := below_step HB5.out hb6
                    have e2 : w6.cell? ⟨sb, k, none⟩ = some (.bool true) := by rw [HA6.out.2.2.1.cell hlt, HST.out]
                    have e3 : w6.cell? ⟨db, doff + k, none⟩ = some (.bool false) := by
                      obtain ⟨b', off', h0, hc'⟩ := HA6.out.2.2.2 (by omega)
                      obtain ⟨rfl, rfl⟩ : db = b' ∧ doff = off' := by simpa using h0
                      rw [hc' k hlt, HDK.out]
                    have HU := underhas_any HA6.out.1 hlt hn
                    rw [HST.out] at HU
                    have HUU : Hid (Calls Trym.prog 17 #[.pointer (some ⟨N + 7 + n, 0, none⟩), .int .i64 k] w6 fun e w' => e = .returned (.bool true) ∧ w' = w6) := HU
                    clear HU e1 hb6
                    go_wp2_with fail
                    refine Calls.mono HUU.out ?_
                    rintro e w7 ⟨rfl, rfl⟩
                    go_wp2_with fail
                    go_roundw
                    case rel => exact ⟨k + 1, by omega, by go_num, by rw [HCR.out, HST.out, HDK.out]; go_num, by rw [HCD.out, HST.out, HDK.out]; go_num, HB6.out⟩
                    case measure => simp [intOf]; omega
                | false =>
                  cases hdk : d k with
                  | true =>
                    have HST : Hid (st k = false) := hst
                    have HDK : Hid (d k = true) := hdk
                    clear hst hdk
                    go_wp2_with fail
                    refine (counts_place0 HSr.out hlt).mono ?_
                    rintro e w5 ⟨rfl, hb5⟩
                    have HA5 : Hid (Aft w5 N n d G st nx wb sb (some ⟨db, doff, none⟩)) := HAr3.out.below hb5
                    have HB5 : Hid (Below w'.heap.size w' w5) := below_step HB3.out hb5
                    have e1 : w5.cell? ⟨N + 2, k, none⟩ = some (.pointer (some ⟨N + 3 + k, 0, none⟩)) := by obtain ⟨⟨D, hS, _⟩, _⟩ := HA5.out; exact hS.places.cell hlt
                    rw [HST.out]
                    clear c1 hb5
                    go_wp2_with fail
                    refine (counts_place1 HA5.out.1 hlt).mono ?_
                    rintro e w6 ⟨rfl, hb6⟩
                    have HA6 : Hid (Aft w6 N n d G st nx wb sb (some ⟨db, doff, none⟩)) := HA5.out.below hb6
                    have HB6 : Hid (Below w'.heap.size w' w6) := below_step HB5.out hb6
                    have e2 : w6.cell? ⟨sb, k, none⟩ = some (.bool false) := by rw [HA6.out.2.2.1.cell hlt, HST.out]
                    have e3 : w6.cell? ⟨db, doff + k, none⟩ = some (.bool true) := by
                      obtain ⟨b', off', h0, hc'⟩ := HA6.out.2.2.2 (by omega)
                      obtain ⟨rfl, rfl⟩ : db = b' ∧ doff = off' := by simpa using h0
                      rw [hc' k hlt, HDK.out]
                    have HU := underhas_any HA6.out.1 hlt hn
                    rw [HST.out] at HU
                    have HUU : Hid (Calls Trym.prog 17 #[.pointer (some ⟨N + 7 + n, 0, none⟩), .int .i64 k] w6 fun e w' => e = .returned (.bool false) ∧ w' = w6) := HU
                    clear HU e1 hb6
                    go_wp2_with fail
                    refine Calls.mono HUU.out ?_
                    rintro e w7 ⟨rfl, rfl⟩
                    go_wp2_with fail
                    go_roundw
                    case rel => exact ⟨k + 1, by omega, by go_num, by rw [HCR.out, HST.out, HDK.out]; go_num, by rw [HCD.out, HST.out, HDK.out]; go_num, HB6.out⟩
                    case measure => simp [intOf]; omega
                  | false =>
                    have HST : Hid (st k = false) := hst
                    have HDK : Hid (d k = false) := hdk
                    clear hst hdk
                    go_wp2_with fail
                    refine (counts_place0 HSr.out hlt).mono ?_
                    rintro e w5 ⟨rfl, hb5⟩
                    have HA5 : Hid (Aft w5 N n d G st nx wb sb (some ⟨db, doff, none⟩)) := HAr3.out.below hb5
                    have HB5 : Hid (Below w'.heap.size w' w5) := below_step HB3.out hb5
                    have e1 : w5.cell? ⟨N + 2, k, none⟩ = some (.pointer (some ⟨N + 3 + k, 0, none⟩)) := by obtain ⟨⟨D, hS, _⟩, _⟩ := HA5.out; exact hS.places.cell hlt
                    rw [HST.out]
                    clear c1 hb5
                    go_wp2_with fail
                    refine (counts_place1 HA5.out.1 hlt).mono ?_
                    rintro e w6 ⟨rfl, hb6⟩
                    have HA6 : Hid (Aft w6 N n d G st nx wb sb (some ⟨db, doff, none⟩)) := HA5.out.below hb6
                    have HB6 : Hid (Below w'.heap.size w' w6) := below_step HB5.out hb6
                    have e2 : w6.cell? ⟨sb, k, none⟩ = some (.bool false) := by rw [HA6.out.2.2.1.cell hlt, HST.out]
                    have e3 : w6.cell? ⟨db, doff + k, none⟩ = some (.bool false) := by
                      obtain ⟨b', off', h0, hc'⟩ := HA6.out.2.2.2 (by omega)
                      obtain ⟨rfl, rfl⟩ : db = b' ∧ doff = off' := by simpa using h0
                      rw [hc' k hlt, HDK.out]
                    have HU := underhas_any HA6.out.1 hlt hn
                    rw [HST.out] at HU
                    have HUU : Hid (Calls Trym.prog 17 #[.pointer (some ⟨N + 7 + n, 0, none⟩), .int .i64 k] w6 fun e w' => e = .returned (.bool false) ∧ w' = w6) := HU
                    clear HU e1 hb6
                    go_wp2_with fail
                    refine Calls.mono HUU.out ?_
                    rintro e w7 ⟨rfl, rfl⟩
                    go_wp2_with fail
                    go_roundw
                    case rel => exact ⟨k + 1, by omega, by go_num, by rw [HCR.out, HST.out, HDK.out]; go_num, by rw [HCD.out, HST.out, HDK.out]; go_num, HB6.out⟩
                    case measure => simp [intOf]; omega
              · obtain rfl : k = n := by omega
                go_wp2_with fail
                refine (counts_root0 HSr.out).mono ?_
                rintro e w5 ⟨rfl, hb5⟩
                have HA5 : Hid (Aft w5 N k d G st nx wb sb da) := HAr3.out.below hb5
                have HB5 : Hid (Below w'.heap.size w' w5) := below_step HB3.out hb5
                rw [HM.out]
                clear hb5
                go_wp2_with fail
                refine (counts_dir0 HA5.out.1).mono ?_
                rintro e w6 ⟨rfl, hb6⟩
                have HA6 : Hid (Aft w6 N k d G st nx wb sb da) := HA5.out.below hb6
                have HB6 : Hid (Below w'.heap.size w' w6) := below_step HB5.out hb6
                clear hb6
                go_wp2_with fail
                refine (counts_root1 HA6.out.1).mono ?_
                rintro e w7 ⟨rfl, hb7⟩
                have HA7 : Hid (Aft w7 N k d G st nx wb sb da) := HA6.out.below hb7
                have HB7 : Hid (Below w'.heap.size w' w7) := below_step HB6.out hb7
                clear hb7
                go_wp2_with fail
                refine (counts_dir1 HA7.out.1).mono ?_
                rintro e w8 ⟨rfl, hb8⟩
                have HB8 : Hid (Below w'.heap.size w' w8) := below_step HB7.out hb8
                clear hb8
                go_wp2_with fail
                go_ret
                exact ⟨rfl, HB8.out⟩
          · have hnn : decide ((nx : Int) < (n : Int)) = false := by simp; omega
            go_wp2_with fail
            refine (underlen_any HA2.out.1).mono ?_
            rintro e w3 ⟨rfl, rfl⟩
            rw [HM.out]
            go_wp2_with fail
            go_loopw [24, 25, 26] (fun cr cd i wr => ∃ k : Nat, k ≤ n ∧ i = .int .i64 k ∧ cr = .int .i64 (cnt (fun k => st k && !d k) k : Nat) ∧ cd = .int .i64 (cnt (fun k => st k && d k) k : Nat) ∧ Below w'.heap.size w' wr) (fun _ _ i _ => n - (intOf i).toNat)
            case atStart => exact ⟨0, Nat.zero_le _, rfl, rfl, rfl, HB2.out⟩
            case round =>
              obtain ⟨k, hk, rfl, rfl, rfl, hb⟩ := hrel
              have HB3 : Hid (Below w'.heap.size w' wr) := hb
              have HAr3 : Hid (Aft wr N n d G st nx wb sb da) := HA.out.below hb
              have HSr : Hid (Sch wr N n d G st nx) := HAr3.out.1
              have hq1 := cnt_le (fun k => st k && !d k) k
              have hq2 := cnt_le (fun k => st k && d k) k
              clear hb
              by_cases hlt : k < n
              · have c1 : wr.cell? ⟨N + 2, k, none⟩ = some (.pointer (some ⟨N + 3 + k, 0, none⟩)) := by obtain ⟨⟨D, hS, _⟩, _⟩ := HAr3.out; exact hS.places.cell hlt
                obtain ⟨db, doff, rfl, _⟩ := HA.out.2.2.2 (by omega)
                have hkb : (0 : Int) ≤ (k : Int) := by omega
                have hkn : (k : Int) < (n : Int) := by omega
                have HCR : Hid (cnt (fun k => st k && !d k) (k + 1) = cnt (fun k => st k && !d k) k + (st k && !d k).toNat) := rfl
                have HCD : Hid (cnt (fun k => st k && d k) (k + 1) = cnt (fun k => st k && d k) k + (st k && d k).toNat) := rfl
                obtain ⟨x1, Hx1⟩ : ∃ x, Hid (x = cnt (fun k => st k && !d k) k) := ⟨_, rfl⟩
                obtain ⟨x2, Hx2⟩ : ∃ x, Hid (x = cnt (fun k => st k && d k) k) := ⟨_, rfl⟩
                rw [← Hx1.out] at HCR hq1 ⊢
                rw [← Hx2.out] at HCD hq2 ⊢
                cases hst : st k with
                | true =>
                  cases hdk : d k with
                  | true =>
                    have HST : Hid (st k = true) := hst
                    have HDK : Hid (d k = true) := hdk
                    clear hst hdk
                    go_wp2_with fail
                    refine (counts_place0 HSr.out hlt).mono ?_
                    rintro e w5 ⟨rfl, hb5⟩
                    have HA5 : Hid (Aft w5 N n d G st nx wb sb (some ⟨db, doff, none⟩)) := HAr3.out.below hb5
                    have HB5 : Hid (Below w'.heap.size w' w5) := below_step HB3.out hb5
                    have e1 : w5.cell? ⟨N + 2, k, none⟩ = some (.pointer (some ⟨N + 3 + k, 0, none⟩)) := by obtain ⟨⟨D, hS, _⟩, _⟩ := HA5.out; exact hS.places.cell hlt
                    rw [HST.out]
                    clear c1 hb5
                    go_wp2_with fail
                    refine (counts_place1 HA5.out.1 hlt).mono ?_
                    rintro e w6 ⟨rfl, hb6⟩
                    have HA6 : Hid (Aft w6 N n d G st nx wb sb (some ⟨db, doff, none⟩)) := HA5.out.below hb6
                    have HB6 : Hid (Below w'.heap.size w' w6) := below_step HB5.out hb6
                    have e2 : w6.cell? ⟨sb, k, none⟩ = some (.bool true) := by rw [HA6.out.2.2.1.cell hlt, HST.out]
                    have e3 : w6.cell? ⟨db, doff + k, none⟩ = some (.bool true) := by
                      obtain ⟨b', off', h0, hc'⟩ := HA6.out.2.2.2 (by omega)
                      obtain ⟨rfl, rfl⟩ : db = b' ∧ doff = off' := by simpa using h0
                      rw [hc' k hlt, HDK.out]
                    have HU := underhas_any HA6.out.1 hlt hn
                    rw [HST.out] at HU
                    have HUU : Hid (Calls Trym.prog 17 #[.pointer (some ⟨N + 7 + n, 0, none⟩), .int .i64 k] w6 fun e w' => e = .returned (.bool true) ∧ w' = w6) := HU
                    clear HU e1 hb6
                    go_wp2_with fail
                    refine Calls.mono HUU.out ?_
                    rintro e w7 ⟨rfl, rfl⟩
                    go_wp2_with fail
                    go_roundw
                    case rel => exact ⟨k + 1, by omega, by go_num, by rw [HCR.out, HST.out, HDK.out]; go_num, by rw [HCD.out, HST.out, HDK.out]; go_num, HB6.out⟩
                    case measure => simp [intOf]; omega
                  | false =>
                    have HST : Hid (st k = true) := hst
                    have HDK : Hid (d k = false) := hdk
                    clear hst hdk
                    go_wp2_with fail
                    refine (counts_place0 HSr.out hlt).mono ?_
                    rintro e w5 ⟨rfl, hb5⟩
                    have HA5 : Hid (Aft w5 N n d G st nx wb sb (some ⟨db, doff, none⟩)) := HAr3.out.below hb5
                    have HB5 : Hid (Below w'.heap.size w' w5) := below_step HB3.out hb5
                    have e1 : w5.cell? ⟨N + 2, k, none⟩ = some (.pointer (some ⟨N + 3 + k, 0, none⟩)) := by obtain ⟨⟨D, hS, _⟩, _⟩ := HA5.out; exact hS.places.cell hlt
                    rw [HST.out]
                    clear c1 hb5
                    go_wp2_with fail
                    refine (counts_place1 HA5.out.1 hlt).mono ?_
                    rintro e w6 ⟨rfl, hb6⟩
                    have HA6 : Hid (Aft w6 N n d G st nx wb sb (some ⟨db, doff, none⟩)) := HA5.out.below hb6
                    have HB6 : Hid (Below w'.heap.size w' w6) := below_step HB5.out hb6
                    have e2 : w6.cell? ⟨sb, k, none⟩ = some (.bool true) := by rw [HA6.out.2.2.1.cell hlt, HST.out]
                    have e3 : w6.cell? ⟨db, doff + k, none⟩ = some (.bool false) := by
                      obtain ⟨b', off', h0, hc'⟩ := HA6.out.2.2.2 (by omega)
                      obtain ⟨rfl, rfl⟩ : db = b' ∧ doff = off' := by simpa using h0
                      rw [hc' k hlt, HDK.out]
                    have HU := underhas_any HA6.out.1 hlt hn
                    rw [HST.out] at HU
                    have HUU : Hid (Calls Trym.prog 17 #[.pointer (some ⟨N + 7 + n, 0, none⟩), .int .i64 k] w6 fun e w' => e = .returned (.bool true) ∧ w' = w6) := HU
                    clear HU e1 hb6
                    go_wp2_with fail
                    refine Calls.mono HUU.out ?_
                    rintro e w7 ⟨rfl, rfl⟩
                    go_wp2_with fail
                    go_roundw
                    case rel => exact ⟨k + 1, by omega, by go_num, by rw [HCR.out, HST.out, HDK.out]; go_num, by rw [HCD.out, HST.out, HDK.out]; go_num, HB6.out⟩
                    case measure => simp [intOf]; omega
                | false =>
                  cases hdk : d k with
                  | true =>
                    have HST : Hid (st k = false) := hst
                    have HDK : Hid (d k = true) := hdk
                    clear hst hdk
                    go_wp2_with fail
                    refine (counts_place0 HSr.out hlt).mono ?_
                    rintro e w5 ⟨rfl, hb5⟩
                    have HA5 : Hid (Aft w5 N n d G st nx wb sb (some ⟨db, doff, none⟩)) := HAr3.out.below hb5
                    have HB5 : Hid (Below w'.heap.size w' w5) := below_step HB3.out hb5
                    have e1 : w5.cell? ⟨N + 2, k, none⟩ = some (.pointer (some ⟨N + 3 + k, 0, none⟩)) := by obtain ⟨⟨D, hS, _⟩, _⟩ := HA5.out; exact hS.places.cell hlt
                    rw [HST.out]
                    clear c1 hb5
                    go_wp2_with fail
                    refine (counts_place1 HA5.out.1 hlt).mono ?_
                    rintro e w6 ⟨rfl, hb6⟩
                    have HA6 : Hid (Aft w6 N n d G st nx wb sb (some ⟨db, doff, none⟩)) := HA5.out.below hb6
                    have HB6 : Hid (Below w'.heap.size w' w6) := below_step HB5.out hb6
                    have e2 : w6.cell? ⟨sb, k, none⟩ = some (.bool false) := by rw [HA6.out.2.2.1.cell hlt, HST.out]
                    have e3 : w6.cell? ⟨db, doff + k, none⟩ = some (.bool true) := by
                      obtain ⟨b', off', h0, hc'⟩ := HA6.out.2.2.2 (by omega)
                      obtain ⟨rfl, rfl⟩ : db = b' ∧ doff = off' := by simpa using h0
                      rw [hc' k hlt, HDK.out]
                    have HU := underhas_any HA6.out.1 hlt hn
                    rw [HST.out] at HU
                    have HUU : Hid (Calls Trym.prog 17 #[.pointer (some ⟨N + 7 + n, 0, none⟩), .int .i64 k] w6 fun e w' => e = .returned (.bool false) ∧ w' = w6) := HU
                    clear HU e1 hb6
                    go_wp2_with fail
                    refine Calls.mono HUU.out ?_
                    rintro e w7 ⟨rfl, rfl⟩
                    go_wp2_with fail
                    go_roundw
                    case rel => exact ⟨k + 1, by omega, by go_num, by rw [HCR.out, HST.out, HDK.out]; go_num, by rw [HCD.out, HST.out, HDK.out]; go_num, HB6.out⟩
                    case measure => simp [intOf]; omega
                  | false =>
                    have HST : Hid (st k = false) := hst
                    have HDK : Hid (d k = false) := hdk
                    clear hst hdk
                    go_wp2_with fail
                    refine (counts_place0 HSr.out hlt).mono ?_
                    rintro e w5 ⟨rfl, hb5⟩
                    have HA5 : Hid (Aft w5 N n d G st nx wb sb (some ⟨db, doff, none⟩)) := HAr3.out.below hb5
                    have HB5 : Hid (Below w'.heap.size w' w5) := below_step HB3.out hb5
                    have e1 : w5.cell? ⟨N + 2, k, none⟩ = some (.pointer (some ⟨N + 3 + k, 0, none⟩)) := by obtain ⟨⟨D, hS, _⟩, _⟩ := HA5.out; exact hS.places.cell hlt
                    rw [HST.out]
                    clear c1 hb5
                    go_wp2_with fail
                    refine (counts_place1 HA5.out.1 hlt).mono ?_
                    rintro e w6 ⟨rfl, hb6⟩
                    have HA6 : Hid (Aft w6 N n d G st nx wb sb (some ⟨db, doff, none⟩)) := HA5.out.below hb6
                    have HB6 : Hid (Below w'.heap.size w' w6) := below_step HB5.out hb6
                    have e2 : w6.cell? ⟨sb, k, none⟩ = some (.bool false) := by rw [HA6.out.2.2.1.cell hlt, HST.out]
                    have e3 : w6.cell? ⟨db, doff + k, none⟩ = some (.bool false) := by
                      obtain ⟨b', off', h0, hc'⟩ := HA6.out.2.2.2 (by omega)
                      obtain ⟨rfl, rfl⟩ : db = b' ∧ doff = off' := by simpa using h0
                      rw [hc' k hlt, HDK.out]
                    have HU := underhas_any HA6.out.1 hlt hn
                    rw [HST.out] at HU
                    have HUU : Hid (Calls Trym.prog 17 #[.pointer (some ⟨N + 7 + n, 0, none⟩), .int .i64 k] w6 fun e w' => e = .returned (.bool false) ∧ w' = w6) := HU
                    clear HU e1 hb6
                    go_wp2_with fail
                    refine Calls.mono HUU.out ?_
                    rintro e w7 ⟨rfl, rfl⟩
                    go_wp2_with fail
                    go_roundw
                    case rel => exact ⟨k + 1, by omega, by go_num, by rw [HCR.out, HST.out, HDK.out]; go_num, by rw [HCD.out, HST.out, HDK.out]; go_num, HB6.out⟩
                    case measure => simp [intOf]; omega
              · obtain rfl : k = n := by omega
                go_wp2_with fail
                refine (counts_root0 HSr.out).mono ?_
                rintro e w5 ⟨rfl, hb5⟩
                have HA5 : Hid (Aft w5 N k d G st nx wb sb da) := HAr3.out.below hb5
                have HB5 : Hid (Below w'.heap.size w' w5) := below_step HB3.out hb5
                rw [HM.out]
                clear hb5
                go_wp2_with fail
                refine (counts_dir0 HA5.out.1).mono ?_
                rintro e w6 ⟨rfl, hb6⟩
                have HA6 : Hid (Aft w6 N k d G st nx wb sb da) := HA5.out.below hb6
                have HB6 : Hid (Below w'.heap.size w' w6) := below_step HB5.out hb6
                clear hb6
                go_wp2_with fail
                refine (counts_root1 HA6.out.1).mono ?_
                rintro e w7 ⟨rfl, hb7⟩
                have HA7 : Hid (Aft w7 N k d G st nx wb sb da) := HA6.out.below hb7
                have HB7 : Hid (Below w'.heap.size w' w7) := below_step HB6.out hb7
                clear hb7
                go_wp2_with fail
                refine (counts_dir1 HA7.out.1).mono ?_
                rintro e w8 ⟨rfl, hb8⟩
                have HB8 : Hid (Below w'.heap.size w' w8) := below_step HB7.out hb8
                clear hb8
                go_wp2_with fail
                go_ret
                exact ⟨rfl, HB8.out⟩
end Go.Proofs.Qxb6618524aMods
