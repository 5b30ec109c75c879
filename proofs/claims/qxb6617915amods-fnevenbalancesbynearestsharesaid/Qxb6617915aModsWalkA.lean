/-
  THE WALKS of the small callees: (entry).size, zzEntriesBytes, the three zzBytes_ functions.
-/
import Derived.Test.Qxb6617915aModsBase
namespace Go.Proofs.Qxb6617915aMods
open Go.RowKit

/-- Some bool is handed back (a name, so that the walk does not part it). -/
def RetB (e : Ending) : Prop := ∃ r, e = .returned (.bool r)

set_option maxHeartbeats 400000 in
theorem size_any (ka va : Option Addr) (kn kc vn vc : Nat) (w : World) (h : kn + vn ≤ 9223372036854775000) :
    Calls Trym.prog 23 #[.agg #[.slice ka kn kc, .slice va vn vc]] w fun e w' => e = .returned (.int .i64 (16 + kn + vn)) ∧ w' = w.alloc (.cells #[.slice ka kn kc, .slice va vn vc] 41) := by
  go_enter Trym.func23, Trym.ntmps23
  go_wp2
  go_ret
  exact ⟨rfl, rfl⟩

set_option maxHeartbeats 400000 in
theorem bytes_any (ao : Option Addr) (n c : Nat) (K V : Nat → Hd) (w : World) (hn : n ≤ 9223372036854775807) (hE : Es w ao n K V) (hF : Fit n K V) :
    Calls Trym.prog 7 #[.slice ao n c] w fun e w' => (∃ t : Int, e = .returned (.int .i64 t) ∧ (t ≤ 1048576 → t = tot K V n)) ∧ ∃ q, w' = w.drewN q := by
  go_enter Trym.func7, Trym.ntmps7
  go_wp2
  go_loopw [3, 4] (fun t i wr => ∃ k q : Nat, k ≤ n ∧ i = .int .i64 k ∧ t = .int .i64 (tot K V k) ∧ tot K V k ≤ 1048576 ∧ wr = w.drewN q) (fun _ i _ => n - (intOf i).toNat)
  case atStart => exact ⟨0, 0, Nat.zero_le _, rfl, rfl, by simp [tot], rfl⟩
  case round =>
    obtain ⟨k, q, hk, rfl, rfl, ht, rfl⟩ := hrel
    by_cases hlt : k < n
    · obtain ⟨b, off, rfl, hc⟩ := hE (by omega)
      obtain ⟨hc1, hc2⟩ := hc k hlt
      obtain ⟨hf1, hf2⟩ := hF k hlt
      clear hc hE hF
      have hkb : (0 : Int) ≤ (k : Int) := by omega
      have hkn : (k : Int) < (n : Int) := by omega
      by_cases h1 : 1048576 < (K k).n
      · go_wp2
        go_ret
        exact ⟨⟨_, rfl, fun h => absurd h (by decide)⟩, _, rfl⟩
      · by_cases h2 : 1048576 < (V k).n
        · go_wp2
          go_ret
          exact ⟨⟨_, rfl, fun h => absurd h (by decide)⟩, _, rfl⟩
        · by_cases h3 : tot K V k + (48 + (K k).n + (V k).n) ≤ 1048576
          · go_wp2
            go_quiet (fail)
            go_wp2
            go_roundw
            case rel => exact ⟨k + 1, _, by omega, by go_num, by simp only [tot]; go_num, by simp only [tot]; omega, rfl⟩
            case measure => simp [intOf]; omega
          · go_wp2
            go_quiet (fail)
            go_wp2
            go_ret
            exact ⟨⟨_, rfl, fun h => absurd h (by simp; omega)⟩, _, rfl⟩
    · obtain rfl : k = n := by omega
      go_wp2
      go_ret
      exact ⟨⟨_, rfl, fun _ => rfl⟩, _, rfl⟩

set_option maxHeartbeats 1600000 in
theorem fits14 (ao : Option Addr) (n c : Nat) (x y : Int) (K V : Nat → Hd) (w : World) (hn : n ≤ 9223372036854775807) (hE : Es w ao n K V) (hF : Fit n K V) :
    Calls Trym.prog 14 #[.slice ao n c, .int .i64 x, .int .i64 y] w fun e w' => RetB e ∧ w' = w := by
  by_cases hbig : 1048576 < n
  · go_enter Trym.func14, Trym.ntmps14
    go_wp2
    go_ret
    exact ⟨⟨_, rfl⟩, rfl⟩
  go_enter Trym.func14, Trym.ntmps14
  go_wp2
  go_loop [7, 8] (fun z i => ∃ k m : Nat, k ≤ n ∧ i = .int .i64 k ∧ z = .int .i64 m ∧ m ≤ 1048576) (fun _ i => n - (intOf i).toNat)
  case atStart => exact ⟨0, n, Nat.zero_le _, rfl, by simp, by omega⟩
  case round =>
    obtain ⟨k, m, hk, rfl, rfl, hm⟩ := hrel
    by_cases hlt : k < n
    · obtain ⟨b, off, rfl, hc⟩ := hE (by omega)
      obtain ⟨hc1, hc2⟩ := hc k hlt
      obtain ⟨hf1, hf2⟩ := hF k hlt
      clear hc hE hF
      have hkb : (0 : Int) ≤ (k : Int) := by omega
      have hkn : (k : Int) < (n : Int) := by omega
      by_cases h1 : 1048576 < (K k).n
      · go_wp2
        refine wp_loop_rounds 1 ?_
        rw [rounds_succ]
        go_wp2
        go_ret
        exact ⟨⟨_, rfl⟩, rfl⟩
      by_cases h2 : 1048576 < m + (K k).n
      · go_wp2
        refine wp_loop_rounds 1 ?_
        rw [rounds_succ]
        go_wp2
        go_ret
        exact ⟨⟨_, rfl⟩, rfl⟩
      by_cases h3 : 1048576 < (V k).n
      · go_wp2
        refine wp_loop_rounds 2 ?_
        rw [rounds_succ]
        go_wp2
        rw [rounds_succ]
        go_wp2
        go_ret
        exact ⟨⟨_, rfl⟩, rfl⟩
      by_cases h4 : 1048576 < m + (K k).n + (V k).n
      · go_wp2
        refine wp_loop_rounds 2 ?_
        rw [rounds_succ]
        go_wp2
        rw [rounds_succ]
        go_wp2
        go_ret
        exact ⟨⟨_, rfl⟩, rfl⟩
      · go_wp2
        refine wp_loop_rounds 3 ?_
        rw [rounds_succ]
        go_wp2
        rw [rounds_succ]
        go_wp2
        rw [rounds_succ]
        go_wp2
        go_round
        case rel => exact ⟨k + 1, m + (K k).n + (V k).n, by omega, by go_num, by go_num, by omega⟩
        case measure => simp [intOf]; omega
    · go_wp2
      go_ret
      exact ⟨⟨_, rfl⟩, rfl⟩
set_option maxHeartbeats 1600000 in
theorem fits6 (ao : Option Addr) (n c : Nat) (x y : Int) (K V : Nat → Hd) (w : World) (hn : n ≤ 9223372036854775807) (hE : Es w ao n K V) (hF : Fit n K V) :
    Calls Trym.prog 6 #[.slice ao n c, .int .i64 x, .int .i64 y] w fun e w' => RetB e ∧ w' = w := by
  by_cases hbig : 1048576 < n
  · go_enter Trym.func6, Trym.ntmps6
    go_wp2
    go_ret
    exact ⟨⟨_, rfl⟩, rfl⟩
  go_enter Trym.func6, Trym.ntmps6
  go_wp2
  go_loop [7, 8] (fun z i => ∃ k m : Nat, k ≤ n ∧ i = .int .i64 k ∧ z = .int .i64 m ∧ m ≤ 1048576) (fun _ i => n - (intOf i).toNat)
  case atStart => exact ⟨0, n, Nat.zero_le _, rfl, by simp, by omega⟩
  case round =>
    obtain ⟨k, m, hk, rfl, rfl, hm⟩ := hrel
    by_cases hlt : k < n
    · obtain ⟨b, off, rfl, hc⟩ := hE (by omega)
      obtain ⟨hc1, hc2⟩ := hc k hlt
      obtain ⟨hf1, hf2⟩ := hF k hlt
      clear hc hE hF
      have hkb : (0 : Int) ≤ (k : Int) := by omega
      have hkn : (k : Int) < (n : Int) := by omega
      by_cases h1 : 1048576 < (K k).n
      · go_wp2
        refine wp_loop_rounds 1 ?_
        rw [rounds_succ]
        go_wp2
        go_ret
        exact ⟨⟨_, rfl⟩, rfl⟩
      by_cases h2 : 1048576 < m + (K k).n
      · go_wp2
        refine wp_loop_rounds 1 ?_
        rw [rounds_succ]
        go_wp2
        go_ret
        exact ⟨⟨_, rfl⟩, rfl⟩
      by_cases h3 : 1048576 < (V k).n
      · go_wp2
        refine wp_loop_rounds 2 ?_
        rw [rounds_succ]
        go_wp2
        rw [rounds_succ]
        go_wp2
        go_ret
        exact ⟨⟨_, rfl⟩, rfl⟩
      by_cases h4 : 1048576 < m + (K k).n + (V k).n
      · go_wp2
        refine wp_loop_rounds 2 ?_
        rw [rounds_succ]
        go_wp2
        rw [rounds_succ]
        go_wp2
        go_ret
        exact ⟨⟨_, rfl⟩, rfl⟩
      · go_wp2
        refine wp_loop_rounds 3 ?_
        rw [rounds_succ]
        go_wp2
        rw [rounds_succ]
        go_wp2
        rw [rounds_succ]
        go_wp2
        go_round
        case rel => exact ⟨k + 1, m + (K k).n + (V k).n, by omega, by go_num, by go_num, by omega⟩
        case measure => simp [intOf]; omega
    · go_wp2
      go_ret
      exact ⟨⟨_, rfl⟩, rfl⟩
set_option maxHeartbeats 1600000 in
theorem fits11 (ao : Option Addr) (n c : Nat) (x : Int) (K V : Nat → Hd) (w : World) (hn : n ≤ 9223372036854775807) (hE : Es w ao n K V) (hF : Fit n K V) :
    Calls Trym.prog 11 #[.slice ao n c, .int .i64 x] w fun e w' => RetB e ∧ w' = w := by
  by_cases hbig : 1048576 < n
  · go_enter Trym.func11, Trym.ntmps11
    go_wp2
    go_ret
    exact ⟨⟨_, rfl⟩, rfl⟩
  go_enter Trym.func11, Trym.ntmps11
  go_wp2
  go_loop [5, 6] (fun z i => ∃ k m : Nat, k ≤ n ∧ i = .int .i64 k ∧ z = .int .i64 m ∧ m ≤ 1048576) (fun _ i => n - (intOf i).toNat)
  case atStart => exact ⟨0, n, Nat.zero_le _, rfl, by simp, by omega⟩
  case round =>
    obtain ⟨k, m, hk, rfl, rfl, hm⟩ := hrel
    by_cases hlt : k < n
    · obtain ⟨b, off, rfl, hc⟩ := hE (by omega)
      obtain ⟨hc1, hc2⟩ := hc k hlt
      obtain ⟨hf1, hf2⟩ := hF k hlt
      clear hc hE hF
      have hkb : (0 : Int) ≤ (k : Int) := by omega
      have hkn : (k : Int) < (n : Int) := by omega
      by_cases h1 : 1048576 < (K k).n
      · go_wp2
        refine wp_loop_rounds 1 ?_
        rw [rounds_succ]
        go_wp2
        go_ret
        exact ⟨⟨_, rfl⟩, rfl⟩
      by_cases h2 : 1048576 < m + (K k).n
      · go_wp2
        refine wp_loop_rounds 1 ?_
        rw [rounds_succ]
        go_wp2
        go_ret
        exact ⟨⟨_, rfl⟩, rfl⟩
      by_cases h3 : 1048576 < (V k).n
      · go_wp2
        refine wp_loop_rounds 2 ?_
        rw [rounds_succ]
        go_wp2
        rw [rounds_succ]
        go_wp2
        go_ret
        exact ⟨⟨_, rfl⟩, rfl⟩
      by_cases h4 : 1048576 < m + (K k).n + (V k).n
      · go_wp2
        refine wp_loop_rounds 2 ?_
        rw [rounds_succ]
        go_wp2
        rw [rounds_succ]
        go_wp2
        go_ret
        exact ⟨⟨_, rfl⟩, rfl⟩
      · go_wp2
        refine wp_loop_rounds 3 ?_
        rw [rounds_succ]
        go_wp2
        rw [rounds_succ]
        go_wp2
        rw [rounds_succ]
        go_wp2
        go_round
        case rel => exact ⟨k + 1, m + (K k).n + (V k).n, by omega, by go_num, by go_num, by omega⟩
        case measure => simp [intOf]; omega
    · go_wp2
      go_ret
      exact ⟨⟨_, rfl⟩, rfl⟩
end Go.Proofs.Qxb6617915aMods
