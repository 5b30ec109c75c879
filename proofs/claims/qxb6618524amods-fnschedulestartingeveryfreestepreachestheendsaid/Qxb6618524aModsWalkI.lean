/-
  THE WALK of FnScheduleStartingEveryFreeStepReachesTheEnd where next is the end, and whatever came in.
-/
import Derived.Test.Qxb6618524aModsWalkH
namespace Go.Proofs.Qxb6618524aMods
open Go.RowKit
set_option linter.unusedVariables false

set_option maxRecDepth 10000 in
set_option maxHeartbeats 6400000 in
theorem reach_end (ga da oa : Option Addr) (n gc dc m oc : Nat) (G d : Nat → Bool) (z : Nat → Int) (w : World) (hG : Bs w ga n G) (hd : Bs w da n d) (hz : Is w oa m z) (hn : n ≤ 65536) (hm : m ≤ 65536) :
    Calls Trym.prog 4 #[.slice ga n gc, .slice da n dc, .int .i64 n, .slice oa m oc] w fun e w' => e = .returned (.bool true) ∧ Below w.heap.size w w' := by
  have HG : Hid (Bs w ga n G) := hG
  have HD : Hid (Bs w da n d) := hd
  have HZ : Hid (Is w oa m z) := hz
  have hn0 : (0 : Int) ≤ (n : Int) := by omega
  clear hG hd hz
  go_enter Trym.func4, Trym.ntmps4
  go_wp2_with fail
  refine (fits10 _ _ _ _ _ _ _ _ _ _ w (by omega) (by omega) (by omega)).mono ?_
  rintro e w' ⟨⟨r, rfl⟩, rfl⟩
  cases r
  · go_wp2_with fail
    go_ret
    exact ⟨rfl, Below.refl _ _⟩
  go_wp2_with (first | (at_make; refine wpList_make_bools _ rfl (.tmp 66) (.tmp 66) rfl n rfl rfl hn ?_; intro w1 r1 b1 s1))
  have HS : Hid (Seen w' w1 n z G n 0) := ⟨r1, b1, s1, fun j hj => by omega⟩
  clear r1 b1 s1
  go_loopw [11] (fun i wr => ∃ k : Nat, k ≤ m ∧ i = .int .i64 k ∧ Seen w' wr n z G n k) (fun i _ => m - (intOf i).toNat)
  case atStart => exact ⟨0, Nat.zero_le _, rfl, HS.out⟩
  case round =>
    obtain ⟨k, hk, rfl, hs⟩ := hrel
    have HSr : Hid (Seen w' wr n z G n k) := hs
    have HB : Hid (Below w'.heap.size w' wr) := hs.below
    clear hs
    by_cases hlt : k < m
    · obtain ⟨ob, ooff, rfl, hcz⟩ := HZ.out (by omega)
      have c0 : wr.cell? ⟨ob, ooff + k, none⟩ = some (.int .i64 (z k)) := by
        have hbb : ob < w'.heap.size := World.block_lt_of_cell? w' ⟨ob, ooff + 0, none⟩ (hcz 0 (by omega))
        exact (HB.out.cell (by exact hbb)).trans (hcz k hlt)
      have hkb : (0 : Int) ≤ (k : Int) := by omega
      have hkm : (k : Int) < (m : Int) := by omega
      clear hcz
      by_cases a1 : z k < (n : Int)
      · go_wp2_with fail
        go_ret
        exact ⟨rfl, HB.out⟩
      · have a2 : (n : Int) ≤ z k := by omega
        go_wp2_with fail
        go_ret
        exact ⟨rfl, HB.out⟩
    · obtain rfl : m = k := by omega
      rename World => v
      have HGr : Hid (Bs v ga n G) := HG.out.below HB.out
      have HDr : Hid (Bs v da n d) := HD.out.below HB.out
      clear HG HD HZ HS
      go_wp2_with fail
      go_loop [13, 14] (fun f i => i = .int .i64 n ∧ f = .int .i64 0) (fun _ i => n - (intOf i).toNat)
      case atStart => exact ⟨rfl, rfl⟩
      case round =>
        obtain ⟨rfl, rfl⟩ := hrel
        by_cases hxm : m = 0
        rotate_left
        · have hxi : ((0 : Int) == (m : Int)) = false := by simp; omega
          go_wp2_with fail
          go_ret
          exact ⟨rfl, HB.out⟩
        subst hxm
        obtain ⟨N, HN⟩ : ∃ N, Hid (v.heap.size = N) := ⟨_, rfl⟩
        have HBd := build_any ga da n gc dc n G d v hn HGr.out HDr.out
        rw [HN.out] at HBd
        have HBD : Hid (Calls Trym.prog 6 #[.slice ga n gc, .slice da n dc, .int .i64 n] v fun e w' => e = .returned (.tuple #[.pointer (some ⟨N + 7 + n, 0, none⟩), .pointer (some ⟨N, 0, none⟩), .pointer (some ⟨N + 1, 0, none⟩), .slice (some ⟨N + 2, 0, none⟩) n n]) ∧ Sch w' N n d G (fun _ => false) n ∧ w'.heap.size = N + 8 + n ∧ Below N v w') := HBd
        clear HBd
        go_wp2_with fail
        refine Calls.mono HBD.out ?_
        rintro e w3 ⟨rfl, hS3, hz3, hb3⟩
        have HS3 : Hid (Sch w3 N n d G (fun _ => false) n) := hS3
        have HB3 : Hid (Below N v w3) := hb3
        have HG3 : Hid (Bs w3 ga n G) := HGr.out.below (by rw [HN.out]; exact hb3)
        clear hS3 hb3 HBD
        go_wp2_with (first | (at_make; refine wpList_make_bools_at _ (N + 8 + n) hz3 rfl (.tmp 127) (.tmp 127) rfl n rfl rfl hn ?_; intro w4 r4 b4 s4; obtain ⟨w5, hcp, r5, hg5, hs5⟩ := copy_bools w4 (N + 8 + n) n gc ga _ G r4 (HG3.out.below (by rw [hz3]; exact b4))))
        have HR : Hid (Run v w5 N n d G z n 0 n) := Run.start HN.out HS3.out hz3 HB3.out b4 s4 r5 hg5 (Nat.le_refl _) (fun h => absurd h (Nat.lt_irrefl _))
        have HBr : Hid (Below v.heap.size v w5) := by rw [HN.out]; exact HR.out.below
        have HBW : Hid (Below w'.heap.size w' w5) := below_step HB.out HBr.out
        have HA : Hid (Aft w5 N n d G (fun _ => false) n (N + 8 + n) w'.heap.size da) :=
          ⟨HR.out.sch, HR.out.want, HSr.out.row.of_block (HBr.out.block _ HSr.out.row.lt), HDr.out.below HBr.out⟩
        have P1 : Hid (Calls Trym.prog 9 #[.pointer (some ⟨N + 7 + n, 0, none⟩), .pointer (some ⟨N, 0, none⟩), .pointer (some ⟨N + 1, 0, none⟩), .slice (some ⟨N + 2, 0, none⟩) n n, .slice (some ⟨N + 8 + n, 0, none⟩) n n, .slice da n dc, .slice (some ⟨w'.heap.size, 0, none⟩) n n, .int .i64 n, .int .i64 0] w5 fun e w' => e = .returned (.bool true) ∧ Below w5.heap.size w5 w') :=
          after_any HA.out dc n 0 hn (Nat.le_refl _) (Nat.le_refl _) (fun k h1 h2 => by omega) (fun h => absurd h (Nat.lt_irrefl _)) (cnt_false n)
        clear HS3 hz3 HB3 b4 s4 r5 hg5 hs5 hcp r4 HG3
        go_wp2_with fail
        go_loop [20, 21] (fun p i => i = .int .i64 0 ∧ p = .int .i64 n) (fun _ i => 0)
        case atStart => exact ⟨rfl, rfl⟩
        case round =>
          obtain ⟨rfl, rfl⟩ := hrel
          go_wp2_with fail
          refine Calls.mono P1.out ?_
          rintro e w9 ⟨rfl, hb9⟩
          have HB9 : Hid (Below w'.heap.size w' w9) := below_step HBW.out hb9
          clear hb9 P1
          go_wp2_with fail
          go_ret
          exact ⟨rfl, HB9.out⟩

set_option maxRecDepth 10000 in
set_option maxHeartbeats 3200000 in
/-- FnScheduleStartingEveryFreeStepReachesTheEnd, whatever came in. -/
theorem reach_walk (ga da oa : Option Addr) (n gc nd dc m oc : Nat) (nx : Int) (G d : Nat → Bool) (z : Nat → Int) (w : World) (hG : Bs w ga n G) (hd : Bs w da nd d) (hz : Is w oa m z) (hn : n ≤ 9223372036854775807) (hnd : nd ≤ 9223372036854775807) (hm : m ≤ 9223372036854775807) :
    Calls Trym.prog 4 #[.slice ga n gc, .slice da nd dc, .int .i64 nx, .slice oa m oc] w fun e w' => e = .returned (.bool true) ∧ Below w.heap.size w w' := by
  have HG : Hid (Bs w ga n G) := hG
  have HD : Hid (Bs w da nd d) := hd
  have HZ : Hid (Is w oa m z) := hz
  clear hG hd hz
  by_cases a1 : 65536 < n
  · go_enter Trym.func4, Trym.ntmps4
    go_wp2_with fail
    refine (fits10 _ _ _ _ _ _ _ _ _ _ w (by omega) (by omega) (by omega)).mono ?_
    rintro e w' ⟨⟨r, rfl⟩, rfl⟩
    cases r
    · go_wp2_with fail
      go_ret
      exact ⟨rfl, Below.refl _ _⟩
    · go_wp2_with fail
      go_ret
      exact ⟨rfl, Below.refl _ _⟩
  by_cases a2 : 65536 < nd
  · go_enter Trym.func4, Trym.ntmps4
    go_wp2_with fail
    refine (fits10 _ _ _ _ _ _ _ _ _ _ w (by omega) (by omega) (by omega)).mono ?_
    rintro e w' ⟨⟨r, rfl⟩, rfl⟩
    cases r
    · go_wp2_with fail
      go_ret
      exact ⟨rfl, Below.refl _ _⟩
    · go_wp2_with fail
      go_ret
      exact ⟨rfl, Below.refl _ _⟩
  by_cases a2b : 65536 < m
  · go_enter Trym.func4, Trym.ntmps4
    go_wp2_with fail
    refine (fits10 _ _ _ _ _ _ _ _ _ _ w (by omega) (by omega) (by omega)).mono ?_
    rintro e w' ⟨⟨r, rfl⟩, rfl⟩
    cases r
    · go_wp2_with fail
      go_ret
      exact ⟨rfl, Below.refl _ _⟩
    · go_wp2_with fail
      go_ret
      exact ⟨rfl, Below.refl _ _⟩
  by_cases a3 : nd = n
  rotate_left
  · go_enter Trym.func4, Trym.ntmps4
    go_wp2_with fail
    refine (fits10 _ _ _ _ _ _ _ _ _ _ w (by omega) (by omega) (by omega)).mono ?_
    rintro e w' ⟨⟨r, rfl⟩, rfl⟩
    cases r
    · go_wp2_with fail
      go_ret
      exact ⟨rfl, Below.refl _ _⟩
    · go_wp2_with fail
      go_ret
      exact ⟨rfl, Below.refl _ _⟩
  subst a3
  by_cases a4 : nx < 0
  · go_enter Trym.func4, Trym.ntmps4
    go_wp2_with fail
    refine (fits10 _ _ _ _ _ _ _ _ _ _ w (by omega) (by omega) (by omega)).mono ?_
    rintro e w' ⟨⟨r, rfl⟩, rfl⟩
    cases r
    · go_wp2_with fail
      go_ret
      exact ⟨rfl, Below.refl _ _⟩
    · go_wp2_with fail
      go_ret
      exact ⟨rfl, Below.refl _ _⟩
  by_cases a5 : (nd : Int) < nx
  · go_enter Trym.func4, Trym.ntmps4
    go_wp2_with fail
    refine (fits10 _ _ _ _ _ _ _ _ _ _ w (by omega) (by omega) (by omega)).mono ?_
    rintro e w' ⟨⟨r, rfl⟩, rfl⟩
    cases r
    · go_wp2_with fail
      go_ret
      exact ⟨rfl, Below.refl _ _⟩
    · go_wp2_with fail
      go_ret
      exact ⟨rfl, Below.refl _ _⟩
  obtain ⟨nx, rfl⟩ := Int.eq_ofNat_of_zero_le (show 0 ≤ nx by omega)
  by_cases a6 : nx < nd
  rotate_left
  · obtain rfl : nd = nx := by omega
    exact reach_end ga da oa nd gc dc m oc G d z w HG.out HD.out HZ.out (by omega) (by omega)
  obtain ⟨gb, goff, rfl, hcG⟩ := HG.out (by omega)
  have hni : (nx : Int) < (nd : Int) := by omega
  have hn0 : (0 : Int) ≤ (nx : Int) := by omega
  have c3 := hcG nx a6
  cases g0 : G nx with
  | true =>
    rw [g0] at c3
    clear hcG g0
    go_enter Trym.func4, Trym.ntmps4
    go_wp2_with fail
    refine (fits10 _ _ _ _ _ _ _ _ _ _ w (by omega) (by omega) (by omega)).mono ?_
    rintro e w' ⟨⟨r, rfl⟩, rfl⟩
    cases r
    · go_wp2_with fail
      go_ret
      exact ⟨rfl, Below.refl _ _⟩
    · go_wp2_with fail
      go_ret
      exact ⟨rfl, Below.refl _ _⟩
  | false => exact reach_main _ da oa nd gc dc m oc nx G d z w HG.out HD.out HZ.out (by omega) (by omega) (by omega) a6 (fun _ => g0)
end Go.Proofs.Qxb6618524aMods
