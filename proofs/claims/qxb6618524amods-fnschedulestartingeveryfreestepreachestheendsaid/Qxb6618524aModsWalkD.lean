/-
  THE WALKS of ZZCounts, ZZUnderLen, ZZUnderHas.
-/
import Derived.Test.Qxb6618524aModsWalkB
namespace Go.Proofs.Qxb6618524aMods
open Go.RowKit
set_option linter.unusedVariables false

set_option maxHeartbeats 400000 in
theorem counts0 (b : Nat) (x y z : Int) (w : World) (c1 : w.cell? ⟨b, 1, none⟩ = some (.int .i64 x)) (c2 : w.cell? ⟨b, 2, none⟩ = some (.int .i64 y)) (c3 : w.cell? ⟨b, 3, none⟩ = some (.int .i64 z)) :
    Calls Trym.prog 16 #[.pointer (some ⟨b, 0, none⟩), .int .i64 0] w fun e w' => e = .returned (.tuple #[.int .i64 x, .int .i64 y, .int .i64 z]) ∧ Below w.heap.size w w' := by
  go_enter Trym.func16, Trym.ntmps16
  go_wp2
  go_quiet (fail)
  go_wp2
  go_ret3
  exact ⟨rfl, rfl, rfl, rfl, by simp, fun k hk => Below.heap_alloc _ _ _ hk⟩
set_option maxHeartbeats 400000 in
theorem counts1 (b : Nat) (x y z : Int) (w : World) (c1 : w.cell? ⟨b, 4, none⟩ = some (.int .i64 x)) (c2 : w.cell? ⟨b, 5, none⟩ = some (.int .i64 y)) (c3 : w.cell? ⟨b, 6, none⟩ = some (.int .i64 z)) :
    Calls Trym.prog 16 #[.pointer (some ⟨b, 0, none⟩), .int .i64 1] w fun e w' => e = .returned (.tuple #[.int .i64 x, .int .i64 y, .int .i64 z]) ∧ Below w.heap.size w w' := by
  go_enter Trym.func16, Trym.ntmps16
  go_wp2
  go_quiet (fail)
  go_wp2
  go_ret3
  exact ⟨rfl, rfl, rfl, rfl, by simp, fun k hk => Below.heap_alloc _ _ _ hk⟩

set_option maxHeartbeats 400000 in
theorem underlen_any {w : World} {N n : Nat} {d G st : Nat → Bool} {nx : Nat} (h : Sch w N n d G st nx) :
    Calls Trym.prog 15 #[.pointer (some ⟨N + 7 + n, 0, none⟩)] w fun e w' => e = .returned (.int .i64 (cnt st n : Nat)) ∧ w' = w := by
  obtain ⟨D, hS, hh, hz⟩ := h
  obtain ⟨g0, g1, g2, g4, g5, gf⟩ := hS.cells
  have hl := hS.under.len Trym.underlying43 3
  rw [hz] at hl
  clear hS hh hz g0 g1 g2 g4 gf
  go_enter Trym.func15, Trym.ntmps15
  go_wp2
  go_ret
  exact ⟨rfl, rfl⟩
theorem zero39 (w : World) : (zeroValue 39).run Trym.prog w = .ok .nilFunc w := by kernel_rfl
set_option maxHeartbeats 400000 in
theorem underhas_any {w : World} {N n : Nat} {d G st : Nat → Bool} {nx k : Nat} (h : Sch w N n d G st nx) (hk : k < n) (hn : n ≤ 65536) :
    Calls Trym.prog 17 #[.pointer (some ⟨N + 7 + n, 0, none⟩), .int .i64 k] w fun e w' => e = .returned (.bool (st k)) ∧ w' = w := by
  obtain ⟨D, hS, hh, hz⟩ := h
  obtain ⟨g0, g1, g2, g4, g5, gf⟩ := hS.cells
  obtain ⟨v, ps, hl, _⟩ := hS.under.look_ok keyed3 Trym.underlying43 (zero39 w) (zd := .nil) (zp := []) rfl (key := .int .i64 (k : Int)) (Maps.keyOf_int_mk Trym.underlying3 (WalkArith.wf_i64 (by omega)))
  rw [hh k hk] at hl
  clear hS hh hz g0 g1 g2 g4 gf
  go_enter Trym.func17, Trym.ntmps17
  go_wp2
  go_ret
  exact ⟨rfl, rfl⟩

theorem counts_place0 {w : World} {N n : Nat} {d G st : Nat → Bool} {nx k : Nat} (h : Sch w N n d G st nx) (hk : k < n) :
    Calls Trym.prog 16 #[.pointer (some ⟨N + 3 + k, 0, none⟩), .int .i64 0] w fun e w' => e = .returned (.tuple #[.int .i64 ((st k).toNat : Nat), .int .i64 0, .int .i64 0]) ∧ Below w.heap.size w w' := by
  obtain ⟨D, hS, _⟩ := h
  have p := hS.place k hk
  exact counts0 _ _ _ _ w (p.cell (show 1 < 7 by decide)) (p.cell (show 2 < 7 by decide)) (p.cell (show 3 < 7 by decide))
theorem counts_place1 {w : World} {N n : Nat} {d G st : Nat → Bool} {nx k : Nat} (h : Sch w N n d G st nx) (hk : k < n) :
    Calls Trym.prog 16 #[.pointer (some ⟨N + 3 + k, 0, none⟩), .int .i64 1] w fun e w' => e = .returned (.tuple #[.int .i64 0, .int .i64 0, .int .i64 0]) ∧ Below w.heap.size w w' := by
  obtain ⟨D, hS, _⟩ := h
  have p := hS.place k hk
  exact counts1 _ _ _ _ w (p.cell (show 4 < 7 by decide)) (p.cell (show 5 < 7 by decide)) (p.cell (show 6 < 7 by decide))
theorem counts_root0 {w : World} {N n : Nat} {d G st : Nat → Bool} {nx : Nat} (h : Sch w N n d G st nx) :
    Calls Trym.prog 16 #[.pointer (some ⟨N, 0, none⟩), .int .i64 0] w fun e w' => e = .returned (.tuple #[.int .i64 0, .int .i64 (cnt (fun k => st k && !d k) n : Nat), .int .i64 (cnt st n : Nat)]) ∧ Below w.heap.size w w' := by
  obtain ⟨D, hS, _⟩ := h
  exact counts0 _ _ _ _ w (hS.root.cell (show 1 < 7 by decide)) (hS.root.cell (show 2 < 7 by decide)) (hS.root.cell (show 3 < 7 by decide))
theorem counts_root1 {w : World} {N n : Nat} {d G st : Nat → Bool} {nx : Nat} (h : Sch w N n d G st nx) :
    Calls Trym.prog 16 #[.pointer (some ⟨N, 0, none⟩), .int .i64 1] w fun e w' => e = .returned (.tuple #[.int .i64 0, .int .i64 0, .int .i64 0]) ∧ Below w.heap.size w w' := by
  obtain ⟨D, hS, _⟩ := h
  exact counts1 _ _ _ _ w (hS.root.cell (show 4 < 7 by decide)) (hS.root.cell (show 5 < 7 by decide)) (hS.root.cell (show 6 < 7 by decide))
theorem counts_dir0 {w : World} {N n : Nat} {d G st : Nat → Bool} {nx : Nat} (h : Sch w N n d G st nx) :
    Calls Trym.prog 16 #[.pointer (some ⟨N + 1, 0, none⟩), .int .i64 0] w fun e w' => e = .returned (.tuple #[.int .i64 0, .int .i64 (cnt (fun k => st k && d k) n : Nat), .int .i64 (cnt (fun k => st k && d k) n : Nat)]) ∧ Below w.heap.size w w' := by
  obtain ⟨D, hS, _⟩ := h
  exact counts0 _ _ _ _ w (hS.dir.cell (show 1 < 7 by decide)) (hS.dir.cell (show 2 < 7 by decide)) (hS.dir.cell (show 3 < 7 by decide))
theorem counts_dir1 {w : World} {N n : Nat} {d G st : Nat → Bool} {nx : Nat} (h : Sch w N n d G st nx) :
    Calls Trym.prog 16 #[.pointer (some ⟨N + 1, 0, none⟩), .int .i64 1] w fun e w' => e = .returned (.tuple #[.int .i64 0, .int .i64 0, .int .i64 0]) ∧ Below w.heap.size w w' := by
  obtain ⟨D, hS, _⟩ := h
  exact counts1 _ _ _ _ w (hS.dir.cell (show 4 < 7 by decide)) (hS.dir.cell (show 5 < 7 by decide)) (hS.dir.cell (show 6 < 7 by decide))
end Go.Proofs.Qxb6618524aMods
