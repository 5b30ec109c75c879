/-
  THE WALKS of ZZNewPlace, (place).add, ZZNext, ZZGiven.
-/
import Derived.Test.Qxb6618524aModsBase
namespace Go.Proofs.Qxb6618524aMods
open Go.RowKit
set_option linter.unusedVariables false

set_option maxHeartbeats 400000 in
theorem newplace_any (up : Option Addr) (w : World) :
    Calls Trym.prog 11 #[.pointer up] w fun e w' => e = .returned (.pointer (some ⟨w.heap.size, 0, none⟩)) ∧ w' = w.alloc (.cells #[.pointer up, .int .i64 0, .int .i64 0, .int .i64 0, .int .i64 0, .int .i64 0, .int .i64 0] 64) := by
  go_enter Trym.func11, Trym.ntmps11
  go_wp2
  go_ret
  exact ⟨rfl, rfl⟩

set_option maxHeartbeats 800000 in
theorem add_root (b r : Nat) (a i l : Int) (w : World) (hbr : ¬ b = r) (c0 : w.cell? ⟨b, 0, none⟩ = some (.pointer (some ⟨r, 0, none⟩))) (c1 : w.cell? ⟨b, 1, none⟩ = some (.int .i64 a)) (f1 : w.frozen? ⟨b, 1, none⟩ = false)
    (r0 : w.cell? ⟨r, 0, none⟩ = some (.pointer none)) (r2 : w.cell? ⟨r, 2, none⟩ = some (.int .i64 i)) (r3 : w.cell? ⟨r, 3, none⟩ = some (.int .i64 l)) (g2 : w.frozen? ⟨r, 2, none⟩ = false) (g3 : w.frozen? ⟨r, 3, none⟩ = false)
    (ha : 0 ≤ a) (ha' : a ≤ 65536) (hi : 0 ≤ i) (hi' : i ≤ 65536) (hl : 0 ≤ l) (hl' : l ≤ 65536) :
    Calls Trym.prog 18 #[.pointer (some ⟨b, 0, none⟩), .int .i64 0, .int .i64 1] w fun e w' => e = .returned (.tuple #[]) ∧ w' = (((w.setCell ⟨b, 1, none⟩ (.int .i64 (a + 1))).setCell ⟨r, 2, none⟩ (.int .i64 (i + 1))).setCell ⟨r, 3, none⟩ (.int .i64 (l + 1))).drew.drew.drew := by
  go_enter Trym.func18, Trym.ntmps18
  go_wp2
  go_region
  go_wp2
  go_region
  go_wp2
  refine wp_loop_rounds 2 ?_
  rw [rounds_succ]
  go_wp2
  go_region
  go_wp2
  rw [rounds_succ]
  go_wp2
  go_end0
  exact ⟨rfl, rfl⟩

set_option maxHeartbeats 1600000 in
theorem add_dir (b d r : Nat) (a i j l : Int) (w : World) (hbd : ¬ b = d) (hbr : ¬ b = r) (hdr : ¬ d = r) (c0 : w.cell? ⟨b, 0, none⟩ = some (.pointer (some ⟨d, 0, none⟩))) (c1 : w.cell? ⟨b, 1, none⟩ = some (.int .i64 a)) (f1 : w.frozen? ⟨b, 1, none⟩ = false)
    (d0 : w.cell? ⟨d, 0, none⟩ = some (.pointer (some ⟨r, 0, none⟩))) (d2 : w.cell? ⟨d, 2, none⟩ = some (.int .i64 i)) (d3 : w.cell? ⟨d, 3, none⟩ = some (.int .i64 j)) (e2 : w.frozen? ⟨d, 2, none⟩ = false) (e3 : w.frozen? ⟨d, 3, none⟩ = false)
    (r0 : w.cell? ⟨r, 0, none⟩ = some (.pointer none)) (r3 : w.cell? ⟨r, 3, none⟩ = some (.int .i64 l)) (g3 : w.frozen? ⟨r, 3, none⟩ = false)
    (ha : 0 ≤ a) (ha' : a ≤ 65536) (hi : 0 ≤ i) (hi' : i ≤ 65536) (hj : 0 ≤ j) (hj' : j ≤ 65536) (hl : 0 ≤ l) (hl' : l ≤ 65536) :
    Calls Trym.prog 18 #[.pointer (some ⟨b, 0, none⟩), .int .i64 0, .int .i64 1] w fun e w' => e = .returned (.tuple #[]) ∧ w' = ((((w.setCell ⟨b, 1, none⟩ (.int .i64 (a + 1))).setCell ⟨d, 2, none⟩ (.int .i64 (i + 1))).setCell ⟨d, 3, none⟩ (.int .i64 (j + 1))).setCell ⟨r, 3, none⟩ (.int .i64 (l + 1))).drew.drew.drew.drew := by
  go_enter Trym.func18, Trym.ntmps18
  go_wp2
  go_region
  go_wp2
  go_region
  go_wp2
  refine wp_loop_rounds 3 ?_
  rw [rounds_succ]
  go_wp2
  go_region
  go_wp2
  rw [rounds_succ]
  go_wp2
  go_region
  go_wp2
  rw [rounds_succ]
  go_wp2
  go_end0
  exact ⟨rfl, rfl⟩

set_option maxHeartbeats 400000 in
theorem next_any (s : Nat) (x : Int) (w : World) (c : w.cell? ⟨s, 2, none⟩ = some (.int .i64 x)) : Calls Trym.prog 8 #[.pointer (some ⟨s, 0, none⟩)] w fun e w' => e = .returned (.int .i64 x) ∧ w' = w := by
  go_enter Trym.func8, Trym.ntmps8
  go_wp2
  go_ret
  exact ⟨rfl, rfl⟩
set_option maxHeartbeats 400000 in
theorem given_any (s : Nat) (ao : Option Addr) (n c' : Nat) (w : World) (c : w.cell? ⟨s, 4, none⟩ = some (.slice ao n c')) : Calls Trym.prog 14 #[.pointer (some ⟨s, 0, none⟩)] w fun e w' => e = .returned (.slice ao n c') ∧ w' = w := by
  go_enter Trym.func14, Trym.ntmps14
  go_wp2
  go_ret
  exact ⟨rfl, rfl⟩
end Go.Proofs.Qxb6618524aMods
