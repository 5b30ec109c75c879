/-
  THE WALK of the law FnScheduleStartingEveryFreeStepReachesTheEnd.
-/
import Derived.Test.Qxb6618524aModsWalkG
namespace Go.Proofs.Qxb6618524aMods
open Go.RowKit
set_option linter.unusedVariables false

/-- 'make([]bool, n)' at a block that is known by another name. -/
theorem wpList_make_bools_at (w : World) (B : Nat) (hB : w.heap.size = B) {ops : Array Oper} {rest : List Oper} {o : Oper} {a : Act} {Q : Exit → Act → World → Prop}
    (hg : o.guard = none) (l c : Operand) (hop : o.op = Op.makeSlice 22 l c) (n : Nat) (hl : a.eval l = .int .i64 (n : Int)) (hc : a.eval c = .int .i64 (n : Int)) (hn : n ≤ 65536)
    (hK : ∀ w', w'.rowIs B 4 n (fun _ => .bool false) → Below B w w' → w'.heap.size = B + 1 → wpList Trym.prog ops Q rest (a.put o.dst (.slice (some ⟨B, 0, none⟩) n n)) w') :
    wpList Trym.prog ops Q (o :: rest) a w := by
  subst hB
  exact wpList_make_bools w hg l c hop n hl hc hn hK

/-- What the third loop has laid behind k of the order: q is the next. -/
structure Run (v wr : World) (N n : Nat) (d G : Nat → Bool) (z : Nat → Int) (nx k q : Nat) : Prop where
  sch : Sch wr N n d (gN G z k) (stN z k) q
  want : wr.rowIs (N + 8 + n) 4 n (fun i => .bool (gN G z k i))
  below : Below N v wr
  lo : nx ≤ q
  hi : q ≤ n
  given : ∀ j, nx ≤ j → j < q → gN G z k j = true
  free : q < n → gN G z k q = false
theorem Run.start {v w3 w4 w5 : World} {N n nx : Nat} {d G : Nat → Bool} {z : Nat → Int} (hv : v.heap.size = N) (hS : Sch w3 N n d G (fun _ => false) nx) (hz3 : w3.heap.size = N + 8 + n) (hb3 : Below N v w3) (b4 : Below (N + 8 + n) w3 w4) (s4 : w4.heap.size = N + 8 + n + 1)
    (r5 : w5.rowIs (N + 8 + n) 4 n (fun i => .bool (G i))) (g5 : w4.grownBy w5 (some (N + 8 + n))) (hnx : nx ≤ n) (h0 : nx < n → G nx = false) : Run v w5 N n d G z nx 0 nx := by
  have b5 : Below (N + 8 + n) w3 w5 := b4.grown g5 (by omega) (by intro j hj; simp at hj; omega)
  exact ⟨hS.below (by rw [hz3]; exact b5), r5, hb3.trans (b5.mono (by omega)), Nat.le_refl _, hnx, fun j h1 h2 => by omega, h0⟩
theorem Run.step {v wr w6 : World} {N n nx k q q' o : Nat} {d G : Nat → Bool} {z : Nat → Int} (h : Run v wr N n d G z nx k q) (hv : v.heap.size = N) (hk : z k = (o : Int)) (ho : o < n)
    (hS : Sch w6 N n d (upd (gN G z k) o) (upd (stN z k) o) q') (hO : Only N (N + 8 + n) wr w6) (l1 : q ≤ q') (l2 : q' ≤ n) (l3 : ∀ j, q ≤ j → j < q' → upd (gN G z k) o j = true) (l4 : q' < n → upd (gN G z k) o q' = false) :
    Run v (w6.setCell ⟨N + 8 + n, o, none⟩ (.bool true)) N n d G z nx (k + 1) q' := by
  have hN : N ≤ wr.heap.size := by have := h.below.size; omega
  refine ⟨?_, ?_, ?_, Nat.le_trans h.lo l1, l2, fun j h1 h2 => ?_, ?_⟩
  · rw [gN_succ hk, stN_succ hk]
    exact hS.kept (by simp) (fun j _ h2 => Below.heap_setCell _ _ _ _ (by show j ≠ N + 8 + n; omega))
  · rw [gN_succ hk]
    exact row_upd (hO.row h.want (.inr (Nat.le_refl _))) o
  · exact (h.below.trans (hO.below hN)).setCell (by show N ≤ N + 8 + n; omega) _
  · rw [gN_succ hk]
    rcases Nat.lt_or_ge j q with h' | h'
    · exact upd_mono (h.given j h1 h') o
    · exact l3 j h' h2
  · rw [gN_succ hk]; exact l4

set_option maxRecDepth 10000 in
set_option maxHeartbeats 6400000 in
theorem reach_main (ga da oa : Option Addr) (n gc dc m oc nx : Nat) (G d : Nat → Bool) (z : Nat → Int) (w : World) (hG : Bs w ga n G) (hd : Bs w da n d) (hz : Is w oa m z) (hn : n ≤ 65536) (hm : m ≤ 65536) (hnx : nx ≤ n) (hlt0 : nx < n) (h0 : nx < n → G nx = false) :
    Calls Trym.prog 4 #[.slice ga n gc, .slice da n dc, .int .i64 nx, .slice oa m oc] w fun e w' => e = .returned (.bool true) ∧ Below w.heap.size w w' := by
  have HG : Hid (Bs w ga n G) := hG
  have HD : Hid (Bs w da n d) := hd
  have HZ : Hid (Is w oa m z) := hz
  have H0 : Hid (nx < n → G nx = false) := h0
  obtain ⟨gb, goff, rfl, hcG⟩ := hG (by omega)
  have c3 : w.cell? ⟨gb, goff + nx, none⟩ = some (.bool false) := by rw [hcG nx hlt0, h0 hlt0]
  have hni : (nx : Int) < (n : Int) := by omega
  have hn0 : (0 : Int) ≤ (nx : Int) := by omega
  clear hG hd hz h0 hcG hlt0
  go_enter Trym.func4, Trym.ntmps4
  go_wp2_with fail
  refine (fits10 _ _ _ _ _ _ _ _ _ _ w (by omega) (by omega) (by omega)).mono ?_
  rintro e w' ⟨⟨r, rfl⟩, rfl⟩
  cases r
  · go_wp2_with fail
    go_ret
    exact ⟨rfl, Below.refl _ _⟩
  go_wp2_with (first | (at_make; refine wpList_make_bools _ rfl (.tmp 66) (.tmp 66) rfl n rfl rfl hn ?_; intro w1 r1 b1 s1))
  have HS : Hid (Seen w' w1 n z G nx 0) := ⟨r1, b1, s1, fun j hj => by omega⟩
  clear r1 b1 s1 c3
  go_loopw [11] (fun i wr => ∃ k : Nat, k ≤ m ∧ i = .int .i64 k ∧ Seen w' wr n z G nx k) (fun i _ => m - (intOf i).toNat)
  case atStart => exact ⟨0, Nat.zero_le _, rfl, HS.out⟩
  case round =>
    obtain ⟨k, hk, rfl, hs⟩ := hrel
    have HSr : Hid (Seen w' wr n z G nx k) := hs
    have HB : Hid (Below w'.heap.size w' wr) := hs.below
    clear hs
    by_cases hlt : k < m
    · obtain ⟨ob, ooff, rfl, hcz⟩ := HZ.out (by omega)
      have c0 : wr.cell? ⟨ob, ooff + k, none⟩ = some (.int .i64 (z k)) := by
        have hbb : ob < w'.heap.size := World.block_lt_of_cell? w' ⟨ob, ooff + 0, none⟩ (hcz 0 (by omega))
        exact (HB.out.cell (by exact hbb)).trans (hcz k hlt)
      have hkb : (0 : Int) ≤ (k : Int) := by omega
      have hkm : (k : Int) < (m : Int) := by omega
      clear hcz
      by_cases a1 : z k < (nx : Int)
      · go_wp2_with fail
        go_ret
        exact ⟨rfl, HB.out⟩
      by_cases a2 : (n : Int) ≤ z k
      · go_wp2_with fail
        go_ret
        exact ⟨rfl, HB.out⟩
      obtain ⟨o, ho⟩ := Int.eq_ofNat_of_zero_le (show 0 ≤ z k by omega)
      have HO : Hid (z k = (o : Int)) := ho
      rw [ho] at a1 a2 c0
      clear ho
      have ho1 : o < n := by omega
      have c1 : wr.cell? ⟨gb, goff + o, none⟩ = some (.bool (G o)) := by
        obtain ⟨b', off', h0, hc'⟩ := (HG.out.below HB.out) (by omega)
        obtain ⟨rfl, rfl⟩ : gb = b' ∧ goff = off' := by simpa using h0
        exact hc' o ho1
      have c2 : wr.cell? ⟨w'.heap.size, o, none⟩ = some (.bool (stN z k o)) := HSr.out.row.cell ho1
      have c4 := HSr.out.row.frozen o
      have hob : (0 : Int) ≤ (o : Int) := by omega
      have hon : (o : Int) < (n : Int) := by omega
      cases hgo : G o with
      | true =>
        rw [hgo] at c1
        clear hgo
        go_wp2_with fail
        go_ret
        exact ⟨rfl, HB.out⟩
      | false =>
        cases hso : stN z k o with
        | true =>
          rw [hgo] at c1
          rw [hso] at c2
          clear hgo hso
          go_wp2_with fail
          go_ret
          exact ⟨rfl, HB.out⟩
        | false =>
          have HST : Hid (Seen w' (wr.setCell ⟨w'.heap.size, o, none⟩ (.bool true)) n z G nx (k + 1)) := HSr.out.step HO.out (by omega) ho1 hgo hso
          rw [hgo] at c1
          rw [hso] at c2
          clear hgo hso
          go_wp2_with fail
          go_roundw
          case rel => exact ⟨k + 1, by omega, by go_num, HST.out⟩
          case measure => simp [intOf]; omega
    · obtain rfl : m = k := by omega
      rename World => v
      have HGr : Hid (Bs v (some ⟨gb, goff, none⟩) n G) := HG.out.below HB.out
      have HDr : Hid (Bs v da n d) := HD.out.below HB.out
      have HZr : Hid (Is v oa m z) := HZ.out.below HB.out
      clear HG HD HZ HS
      go_wp2_with fail
      go_loop [13, 14] (fun f i => ∃ k : Nat, nx ≤ k ∧ k ≤ n ∧ i = .int .i64 k ∧ f = .int .i64 ((cnt (fr G nx) k : Nat) : Int)) (fun _ i => n - (intOf i).toNat)
      case atStart => exact ⟨nx, Nat.le_refl _, hnx, rfl, by rw [fr_start]; rfl⟩
      case round =>
        obtain ⟨k, hk0, hk, rfl, rfl⟩ := hrel
        have hq := cnt_le (fr G nx) k
        by_cases hlt : k < n
        · obtain ⟨x, Hx⟩ : ∃ x, Hid (x = cnt (fr G nx) k) := ⟨_, rfl⟩
          rw [← Hx.out] at hq ⊢
          have c1 : v.cell? ⟨gb, goff + k, none⟩ = some (.bool (G k)) := by
            obtain ⟨b', off', h0, hc'⟩ := HGr.out (by omega)
            obtain ⟨rfl, rfl⟩ : gb = b' ∧ goff = off' := by simpa using h0
            exact hc' k hlt
          have hkb : (0 : Int) ≤ (k : Int) := by omega
          have hkn : (k : Int) < (n : Int) := by omega
          cases hgk : G k with
          | true =>
            have HF : Hid (cnt (fr G nx) (k + 1) = x) := by show _ = _; rw [fr_given hk0 hgk, Hx.out]
            rw [hgk] at c1
            clear hgk
            go_wp2_with fail
            go_round
            case rel => exact ⟨k + 1, by omega, by omega, by go_num, by rw [HF.out]⟩
            case measure => simp [intOf]; omega
          | false =>
            have HF : Hid (cnt (fr G nx) (k + 1) = x + 1) := by show _ = _; rw [fr_free hk0 hgk, Hx.out]
            rw [hgk] at c1
            clear hgk
            go_wp2_with fail
            go_round
            case rel => exact ⟨k + 1, by omega, by omega, by go_num, by rw [HF.out]; go_num⟩
            case measure => simp [intOf]; omega
        · obtain rfl : n = k := by omega
          obtain ⟨x, Hx⟩ : ∃ x, Hid (cnt (fr G nx) n = x) := ⟨_, rfl⟩
          rw [Hx.out] at hq ⊢
          by_cases hxm : m = x
          rotate_left
          · have hxi : ((x : Int) == (m : Int)) = false := by simp; omega
            go_wp2_with fail
            go_ret
            exact ⟨rfl, HB.out⟩
          subst hxm
          obtain ⟨N, HN⟩ : ∃ N, Hid (v.heap.size = N) := ⟨_, rfl⟩
          have HNW : Hid (w'.heap.size + 1 = N) := HSr.out.size.symm.trans HN.out
          have HBd := build_any (some ⟨gb, goff, none⟩) da n gc dc nx G d v hn HGr.out HDr.out
          rw [HN.out] at HBd
          have HBD : Hid (Calls Trym.prog 6 #[.slice (some ⟨gb, goff, none⟩) n gc, .slice da n dc, .int .i64 nx] v fun e w' => e = .returned (.tuple #[.pointer (some ⟨N + 7 + n, 0, none⟩), .pointer (some ⟨N, 0, none⟩), .pointer (some ⟨N + 1, 0, none⟩), .slice (some ⟨N + 2, 0, none⟩) n n]) ∧ Sch w' N n d G (fun _ => false) nx ∧ w'.heap.size = N + 8 + n ∧ Below N v w') := HBd
          clear HBd
          go_wp2_with fail
          refine Calls.mono HBD.out ?_
          rintro e w3 ⟨rfl, hS3, hz3, hb3⟩
          have HS3 : Hid (Sch w3 N n d G (fun _ => false) nx) := hS3
          have HB3 : Hid (Below N v w3) := hb3
          have HG3 : Hid (Bs w3 (some ⟨gb, goff, none⟩) n G) := HGr.out.below (by rw [HN.out]; exact hb3)
          clear hS3 hb3 HBD
          go_wp2_with (first | (at_make; refine wpList_make_bools_at _ (N + 8 + n) hz3 rfl (.tmp 127) (.tmp 127) rfl n rfl rfl hn ?_; intro w4 r4 b4 s4; obtain ⟨w5, hcp, r5, hg5, hs5⟩ := copy_bools w4 (N + 8 + n) n gc (some ⟨gb, goff, none⟩) _ G r4 (HG3.out.below (by rw [hz3]; exact b4))))
          have HR : Hid (Run v w5 N n d G z nx 0 nx) := Run.start HN.out HS3.out hz3 HB3.out b4 s4 r5 hg5 hnx H0.out
          clear HS3 hz3 HB3 b4 s4 r5 hg5 hs5 hcp r4 HG3
          go_wp2_with fail
          go_loopw [20, 21] (fun p i wv => ∃ k q : Nat, k ≤ m ∧ i = .int .i64 k ∧ p = .int .i64 q ∧ Run v wv N n d G z nx k q) (fun _ i _ => m - (intOf i).toNat)
          case atStart => exact ⟨0, nx, Nat.zero_le _, rfl, rfl, HR.out⟩
          case round =>
            obtain ⟨k, q, hk, rfl, rfl, hr⟩ := hrel
            have HRr : Hid (Run v wr N n d G z nx k q) := hr
            have HBr : Hid (Below v.heap.size v wr) := by rw [HN.out]; exact hr.below
            have hq1 := hr.lo
            have hq2 := hr.hi
            clear hr HR
            by_cases hlt : k < m
            · obtain ⟨o, ho, ho2, ho1, ho3, ho4⟩ := HSr.out.ord k hlt
              have HO : Hid (z k = (o : Int)) := ho
              obtain ⟨ob, ooff, rfl, hcz⟩ := (HZr.out.below HBr.out) (by omega)
              have c0 : wr.cell? ⟨ob, ooff + k, none⟩ = some (.int .i64 (o : Int)) := by rw [hcz k hlt, ho]
              have hkb : (0 : Int) ≤ (k : Int) := by omega
              have hkm : (k : Int) < (m : Int) := by omega
              have hob : (0 : Int) ≤ (o : Int) := by omega
              have hon : (o : Int) < (n : Int) := by omega
              have HST := zzstart_any HRr.out.sch ho1 ho4 hn hq2
              have HSTa : Hid (Calls Trym.prog 7 #[.pointer (some ⟨N + 7 + n, 0, none⟩), .int .i64 o] wr _) := HST
              clear hcz ho ho3 ho4 HST
              go_wp2_with fail
              refine Calls.mono HSTa.out ?_
              rintro e w6 ⟨rfl, q', hS6, hO6, l1, l2, l3, l4⟩
              have HR6 : Hid (Run v (w6.setCell ⟨N + 8 + n, o, none⟩ (.bool true)) N n d G z nx (k + 1) q') := HRr.out.step HN.out HO.out ho1 hS6 hO6 l1 l2 l3 l4
              have L3 : Hid (∀ j, q ≤ j → j < q' → upd (gN G z k) o j = true) := l3
              have o1 := (hO6.row HRr.out.want (.inr (Nat.le_refl _))).cell ho1
              have o2 := (hO6.row HRr.out.want (.inr (Nat.le_refl _))).frozen o
              clear hS6 hO6 l3 l4 HSTa c0
              go_wp2_with fail
              obtain ⟨w7, hw7⟩ : ∃ w7, w7 = w6.setCell ⟨N + 8 + n, o, none⟩ (.bool true) := ⟨_, rfl⟩
              rw [← hw7] at HR6 ⊢
              have x1 := HR6.out.sch.next
              clear hw7 o1 o2
              refine (next_any _ _ _ x1).mono ?_
              rintro e w8 ⟨rfl, rfl⟩
              have hl1 : (q : Int) ≤ (q' : Int) := by omega
              have hl2 : (q' : Int) ≤ (n : Int) := by omega
              go_wp2_with fail
              go_loop [24] (fun i => ∃ j : Nat, q ≤ j ∧ j ≤ q' ∧ i = .int .i64 j) (fun i => q' - (intOf i).toNat)
              case atStart => exact ⟨q, Nat.le_refl _, l1, rfl⟩
              case round =>
                obtain ⟨j, hj0, hj, rfl⟩ := hrel
                by_cases hlj : j < q'
                · have c1 : w8.cell? ⟨N + 8 + n, j, none⟩ = some (.bool true) := by rw [HR6.out.want.cell (by omega), gN_succ HO.out, L3.out j hj0 hlj]
                  have hjb : (0 : Int) ≤ (j : Int) := by omega
                  have hjn : (j : Int) < (n : Int) := by omega
                  go_wp2_with fail
                  go_round
                  case rel => exact ⟨j + 1, by omega, by omega, by go_num⟩
                  case measure => simp [intOf]; omega
                · obtain rfl : q' = j := by omega
                  have hcase : ((q' : Int) < (n : Int) ∧ w8.cell? ⟨N + 8 + n, q', none⟩ = some (.bool false)) ∨ ¬ (q' : Int) < (n : Int) := by
                    rcases Nat.lt_or_ge q' n with h | h
                    · exact .inl ⟨by omega, by rw [HR6.out.want.cell h, HR6.out.free h]⟩
                    · exact .inr (by omega)
                  have hqb : (0 : Int) ≤ (q' : Int) := by omega
                  rcases hcase with ⟨hqn, c5⟩ | hqn
                  · go_wp2_with fail
                    go_roundw
                    case rel => exact ⟨k + 1, q', by omega, by go_num, rfl, HR6.out⟩
                    case measure => simp [intOf]; omega
                  · go_wp2_with fail
                    go_roundw
                    case rel => exact ⟨k + 1, q', by omega, by go_num, rfl, HR6.out⟩
                    case measure => simp [intOf]; omega
            · obtain rfl : m = k := by omega
              obtain rfl : n = q := by
                rcases Nat.lt_or_ge q n with h | h
                · have e1 := HRr.out.free h
                  rw [HSr.out.ord.full Hx.out hq1 h] at e1
                  cases e1
                · omega
              have HBW : Hid (Below w'.heap.size w' wr) := below_step HB.out HBr.out
              have HA : Hid (Aft wr N n d (gN G z m) (stN z m) n (N + 8 + n) w'.heap.size da) :=
                ⟨HRr.out.sch, HRr.out.want, HSr.out.row.of_block (HBr.out.block _ HSr.out.row.lt), HDr.out.below HBr.out⟩
              have P1 : Hid (Calls Trym.prog 9 #[.pointer (some ⟨N + 7 + n, 0, none⟩), .pointer (some ⟨N, 0, none⟩), .pointer (some ⟨N + 1, 0, none⟩), .slice (some ⟨N + 2, 0, none⟩) n n, .slice (some ⟨N + 8 + n, 0, none⟩) n n, .slice da n dc, .slice (some ⟨w'.heap.size, 0, none⟩) n n, .int .i64 nx, .int .i64 m] wr fun e w' => e = .returned (.bool true) ∧ Below wr.heap.size wr w') :=
                after_any HA.out dc nx m hn HRr.out.lo (Nat.le_refl _) HRr.out.given (fun h => absurd h (Nat.lt_irrefl _)) HSr.out.ord.cnt
              go_wp2_with fail
              refine Calls.mono P1.out ?_
              rintro e w9 ⟨rfl, hb9⟩
              have HB9 : Hid (Below w'.heap.size w' w9) := below_step HBW.out hb9
              clear hb9 P1
              go_wp2_with fail
              go_ret
              exact ⟨rfl, HB9.out⟩
end Go.Proofs.Qxb6618524aMods
