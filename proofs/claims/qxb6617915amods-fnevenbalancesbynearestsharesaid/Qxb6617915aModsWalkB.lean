/-
  THE WALK of zzEntries: it lays the headers of what came in, pair by pair, in a new row.
-/
import Derived.Test.Qxb6617915aModsWalkA
namespace Go.Proofs.Qxb6617915aMods
open Go.RowKit
theorem info41 : (Trym.prog.info? 41).map (fun i => (i.zero, i.size, i.bytes)) = some (some (.agg #[.slice none 0 0, .slice none 0 0]), 2, 48) := by kernel_rfl
theorem info3 : (Trym.prog.info? 3).map (fun i => (i.zero, i.size, i.bytes)) = some (some (.int .i64 0), 1, 8) := by kernel_rfl

/-- the first k of the row xs are the headers. -/
def Laid (xs : List Value) (k : Nat) (K V : Nat → Hd) : Prop :=
  ∀ j, j < k → xs[j * 2]? = some (.slice (K j).a (K j).n (K j).c) ∧ xs[j * 2 + 1]? = some (.slice (V j).a (V j).n (V j).c)
theorem laid_step {xs : List Value} {k n : Nat} {K V : Nat → Hd} (h : Laid xs k K V) (hk : k < n) (hl : xs.length = n * 2) :
    Laid ((xs.set (k * 2) (.slice (K k).a (K k).n (K k).c)).set (k * 2 + 1) (.slice (V k).a (V k).n (V k).c)) (k + 1) K V := by
  intro j hj
  rcases Nat.lt_succ_iff_lt_or_eq.1 hj with hj | rfl
  · obtain ⟨h1, h2⟩ := h j hj
    refine ⟨?_, ?_⟩
    · rw [List.getElem?_set_ne (by omega), List.getElem?_set_ne (by omega)]; exact h1
    · rw [List.getElem?_set_ne (by omega), List.getElem?_set_ne (by omega)]; exact h2
  · refine ⟨?_, ?_⟩
    · rw [List.getElem?_set_ne (by omega), List.getElem?_set_self (by omega)]
    · rw [List.getElem?_set_self (by simp; omega)]

set_option maxHeartbeats 800000 in
theorem entries_some (a0 : Addr) (n c : Nat) (K V : Nat → Hd) (w : World) (hn : n ≤ 1048576) (hE : Es w (some a0) n K V) :
    Calls Trym.prog 20 #[.slice (some a0) n c] w fun e w' => e = .returned (.slice (some ⟨w.heap.size, 0, none⟩) n n) ∧ Es w' (some ⟨w.heap.size, 0, none⟩) n K V ∧ Below w.heap.size w w' := by
  have q22 : ∀ (w : World) (a : Option Addr) (n c n' c' : Nat), (binOp .eql 22 (.slice a n c) (.slice none n' c')).run Trym.prog w = .ok (.bool a.isNone) w := fun w a n c n' c' => Lib.run_eql_slice_nil w _ _ a n c n' c' Trym.underlying22
  obtain ⟨i0, hi, hz0, hz1, hz2⟩ := info_parts info41
  go_enter Trym.func20, Trym.ntmps20
  go_wp2_with (at_make; refine wpList_make_full _ rfl _ _ 36 rfl w.heap.size 41 i0 (.agg #[.slice none 0 0, .slice none 0 0]) 2 Trym.underlying36 hi hz0 hz1 .i64 .i64 _ _ n rfl rfl rfl rfl ?c1 ?c2 ?c3 ?_)
  case c1 => rw [hz2]; omega
  case c2 => unfold maxLen; omega
  case c3 => exact Nat.le_refl _
  intro w1 hown hgrow
  have hb1 : Below w.heap.size w w1 := (Below.refl _ _).grown hgrow (Nat.le_refl _) (by simp)
  have hs1 : w.heap.size < w1.heap.size := (hown.lt w.heap.size rfl).2
  clear hgrow hi hz0 hz1 hz2 i0 q22
  go_wp2
  go_loopw [12] (fun i wr => ∃ k xs, k ≤ n ∧ i = .int .i64 k ∧ wr.ownsRow w.heap.size 41 2 (.slice (some ⟨w.heap.size, 0, none⟩) n n) n xs ∧ Laid xs k K V ∧ Below w.heap.size w wr) (fun i _ => n - (intOf i).toNat)
  case atStart => exact ⟨0, _, Nat.zero_le _, rfl, hown, fun j hj => absurd hj (Nat.not_lt_zero _), hb1⟩
  case round =>
    obtain ⟨k, xs, hk, rfl, hown, hl, hb⟩ := hrel
    have hlen : xs.length = n * 2 := hown.1
    by_cases hlt : k < n
    · obtain ⟨b, off, h0, hc⟩ := hE (by omega)
      obtain rfl := Option.some.inj h0
      obtain ⟨hc1, hc2⟩ := hc k hlt
      have hbb : b < w.heap.size := World.block_lt_of_cell? w ⟨b, off + k * 2, none⟩ hc1
      have g1 : wr.cell? ⟨b, off + k * 2, none⟩ = some (.slice (K k).a (K k).n (K k).c) := (hb.cell (by exact hbb)).trans hc1
      have g2 : wr.cell? ⟨b, off + k * 2 + 1, none⟩ = some (.slice (V k).a (V k).n (V k).c) := (hb.cell (by exact hbb)).trans hc2
      have o1 : wr.cell? ⟨w.heap.size, k * 2, none⟩ = some (xs[k * 2]'(by omega)) := by rw [hown.cellAt _ (by omega)]; simp
      have o2 : wr.cell? ⟨w.heap.size, k * 2 + 1, none⟩ = some (xs[k * 2 + 1]'(by omega)) := by rw [hown.cellAt _ (by omega)]; simp
      have f1 := hown.frozenAt (k * 2)
      have f2 := hown.frozenAt (k * 2 + 1)
      have hkb : (0 : Int) ≤ (k : Int) := by omega
      have hkn : (k : Int) < (n : Int) := by omega
      have HO : Hid (wr.ownsRow w.heap.size 41 2 (.slice (some ⟨w.heap.size, 0, none⟩) n n) n xs) := hown
      have HL : Hid (Laid xs k K V) := hl
      have HB : Hid (Below w.heap.size w wr) := hb
      clear hc hE hown hl hc1 hc2 h0 hb
      go_wp2
      go_region
      go_wp2
      go_roundw
      case rel => exact ⟨k + 1, _, by omega, by go_num, ((HO.out.stored (k * 2) _).1.stored (k * 2 + 1) _).1.drew, laid_step HL.out hlt hlen, ((HB.out.setCell (by exact Nat.le_refl _) _).setCell (by exact Nat.le_refl _) _).drew⟩
      case measure => simp [intOf]; omega
    · obtain rfl : k = n := by omega
      go_wp2
      go_ret
      refine ⟨rfl, fun _ => ⟨w.heap.size, 0, rfl, fun i hi => ?_⟩, hb⟩
      obtain ⟨h1, h2⟩ := hl i hi
      rw [Nat.zero_add, hown.cellAt _ (by omega), hown.cellAt _ (by omega)]
      exact ⟨h1, h2⟩

set_option maxHeartbeats 400000 in
theorem entries_nil (w : World) :
    Calls Trym.prog 20 #[.slice none 0 0] w fun e w' => e = .returned (.slice none 0 0) ∧ w' = w := by
  have q22 : ∀ (w : World) (a : Option Addr) (n c n' c' : Nat), (binOp .eql 22 (.slice a n c) (.slice none n' c')).run Trym.prog w = .ok (.bool a.isNone) w := fun w a n c n' c' => Lib.run_eql_slice_nil w _ _ a n c n' c' Trym.underlying22
  go_enter Trym.func20, Trym.ntmps20
  go_wp2
  go_ret
  exact ⟨rfl, rfl⟩

/-- zzEntries, whatever came in. -/
theorem entries_any (ao : Option Addr) (n c : Nat) (K V : Nat → Hd) (w : World) (hn : n ≤ 1048576) (h0 : ao = none → n = 0 ∧ c = 0) (hE : Es w ao n K V) :
    Calls Trym.prog 20 #[.slice ao n c] w fun e w' => ∃ ao' c', e = .returned (.slice ao' n c') ∧ (ao' = none → n = 0 ∧ c' = 0) ∧ Es w' ao' n K V ∧ Below w.heap.size w w' := by
  cases ao with
  | none =>
    obtain ⟨rfl, rfl⟩ := h0 rfl
    refine (entries_nil w).mono ?_
    rintro e w' ⟨rfl, rfl⟩
    exact ⟨none, 0, rfl, fun _ => ⟨rfl, rfl⟩, hE, Below.refl _ _⟩
  | some a0 =>
    refine (entries_some a0 n c K V w hn hE).mono ?_
    rintro e w' ⟨rfl, h1, h2⟩
    exact ⟨_, n, rfl, fun h => by simp at h, h1, h2⟩
end Go.Proofs.Qxb6617915aMods
