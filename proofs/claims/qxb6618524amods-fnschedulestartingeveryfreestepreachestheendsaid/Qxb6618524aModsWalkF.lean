/-
  THE WALK of the law FnScheduleStartsCommute.
-/
import Derived.Test.Qxb6618524aModsWalkC
import Derived.Test.Qxb6618524aModsWalkE
namespace Go.Proofs.Qxb6618524aMods
open Go.RowKit
set_option linter.unusedVariables false

/-- Some bool is handed back. -/
def RetB (e : Ending) : Prop := ∃ r, e = .returned (.bool r)

set_option maxHeartbeats 800000 in
theorem fits5 (ga da : Option Addr) (n gc nd dc : Nat) (x y z : Int) (w : World) (h1 : n ≤ 9223372036854775807) (h2 : nd ≤ 9223372036854775807) :
    Calls Trym.prog 5 #[.slice ga n gc, .slice da nd dc, .int .i64 x, .int .i64 y, .int .i64 z] w fun e w' => RetB e ∧ w' = w := by
  by_cases a1 : 1048576 < n
  · go_enter Trym.func5, Trym.ntmps5
    go_wp2
    go_ret
    exact ⟨⟨_, rfl⟩, rfl⟩
  by_cases a2 : 1048576 < nd
  · go_enter Trym.func5, Trym.ntmps5
    go_wp2
    go_ret
    exact ⟨⟨_, rfl⟩, rfl⟩
  by_cases a3 : 1048576 < n + nd
  · go_enter Trym.func5, Trym.ntmps5
    go_wp2
    go_ret
    exact ⟨⟨_, rfl⟩, rfl⟩
  · go_enter Trym.func5, Trym.ntmps5
    go_wp2
    go_ret
    exact ⟨⟨_, rfl⟩, rfl⟩

/-- 'make([]bool, n)', the new world a letter. -/
theorem wpList_make_bools (w : World) {ops : Array Oper} {rest : List Oper} {o : Oper} {a : Act} {Q : Exit → Act → World → Prop}
    (hg : o.guard = none) (l c : Operand) (hop : o.op = Op.makeSlice 22 l c) (n : Nat) (hl : a.eval l = .int .i64 (n : Int)) (hc : a.eval c = .int .i64 (n : Int)) (hn : n ≤ 65536)
    (hK : ∀ w', w'.rowIs w.heap.size 4 n (fun _ => .bool false) → Below w.heap.size w w' → w'.heap.size = w.heap.size + 1 → wpList Trym.prog ops Q rest (a.put o.dst (.slice (some ⟨w.heap.size, 0, none⟩) n n)) w') :
    wpList Trym.prog ops Q (o :: rest) a w := by
  obtain ⟨i, hi, hz0, hz1, hz2⟩ := info_parts info4
  exact wpList_make_row w hg l c 22 hop 4 i (.bool false) Trym.underlying22 hi hz0 hz1 rfl .i64 .i64 n hl hc (by rw [hz2]; omega) (by omega)
    (hK _ (World.rowIs_made w (.bool false) n 4) ((Below.refl _ _).alloc (Nat.le_refl _) _) (by simp))

theorem cnt_false (n : Nat) : cnt (fun _ => false) n = 0 := by
  induction n with
  | zero => rfl
  | succ n ih => rw [cnt, ih]; rfl
theorem upd_comm (f : Nat → Bool) (a b : Nat) : upd (upd f b) a = upd (upd f a) b := by
  funext k; unfold upd
  by_cases h1 : k = a <;> by_cases h2 : k = b <;> simp [h1, h2]
theorem upd_mono {f : Nat → Bool} {k : Nat} (h : f k = true) (b : Nat) : upd f b k = true := by
  unfold upd; by_cases e : k = b <;> simp [e, h]
/-- The first step from nx on that is not given is one. -/
theorem nxt_one {G : Nat → Bool} {nx n r s : Nat} (hr : nx ≤ r) (hr1 : r ≤ n) (hr2 : ∀ k, nx ≤ k → k < r → G k = true) (hr3 : r < n → G r = false) (hs : nx ≤ s) (hs1 : s ≤ n) (hs2 : ∀ k, nx ≤ k → k < s → G k = true) (hs3 : s < n → G s = false) : r = s := by
  rcases Nat.lt_trichotomy r s with h | h | h
  · have h1 := hs2 r hr h; have h2 := hr3 (by omega); rw [h1] at h2; cases h2
  · exact h
  · have h1 := hr2 s hs h; have h2 := hs3 (by omega); rw [h1] at h2; cases h2
theorem Sch.next {w : World} {N n : Nat} {d G st : Nat → Bool} {nx : Nat} (h : Sch w N n d G st nx) : w.cell? ⟨N + 7 + n, 2, none⟩ = some (.int .i64 (nx : Int)) := by
  obtain ⟨D, hS, _⟩ := h; exact hS.cells.2.2.1
theorem row_upd {w : World} {g n : Nat} {f : Nat → Bool} (h : w.rowIs g 4 n (fun i => .bool (f i))) (a : Nat) : (w.setCell ⟨g, a, none⟩ (.bool true)).rowIs g 4 n (fun i => .bool (upd f a i)) :=
  (h.set a _).congr (fun j _ => by unfold upd; by_cases e : j = a <;> simp [e])

set_option maxRecDepth 10000 in
set_option maxHeartbeats 3200000 in
theorem commute_main (ga da : Option Addr) (n gc dc nx a b : Nat) (G d : Nat → Bool) (w : World) (hG : Bs w ga n G) (hd : Bs w da n d) (hn : n ≤ 65536) (hnx : nx ≤ n) (h0 : nx < n → G nx = false) (ha1 : nx ≤ a) (ha2 : a < n) (hb1 : nx ≤ b) (hb2 : b < n) (hab : ¬ a = b) (ga0 : G a = false) (gb0 : G b = false) :
    Calls Trym.prog 3 #[.slice ga n gc, .slice da n dc, .int .i64 nx, .int .i64 a, .int .i64 b] w fun e w' => e = .returned (.bool true) ∧ Below w.heap.size w w' := by
  obtain ⟨gb, goff, rfl, hcG⟩ := hG (by omega)
  have c1 : w.cell? ⟨gb, goff + a, none⟩ = some (.bool false) := by rw [hcG a ha2, ga0]
  have c2 : w.cell? ⟨gb, goff + b, none⟩ = some (.bool false) := by rw [hcG b hb2, gb0]
  have c3 : w.cell? ⟨gb, goff + nx, none⟩ = some (.bool false) := by rw [hcG nx (by omega), h0 (by omega)]
  have HG : Hid (Bs w (some ⟨gb, goff, none⟩) n G) := hG
  have HD : Hid (Bs w da n d) := hd
  have hni : (nx : Int) < (n : Int) := by omega
  have hai : (a : Int) < (n : Int) := by omega
  have hbi : (b : Int) < (n : Int) := by omega
  have hna : (nx : Int) ≤ (a : Int) := by omega
  have hnb : (nx : Int) ≤ (b : Int) := by omega
  have habi : ((a : Int) == (b : Int)) = false := by simp; omega
  clear hcG hG hd
  go_enter Trym.func3, Trym.ntmps3
  go_wp2_with fail
  refine (fits5 _ _ _ _ _ _ _ _ _ w (by omega) (by omega)).mono ?_
  rintro e w' ⟨⟨r, rfl⟩, rfl⟩
  cases r
  · go_wp2_with fail
    go_ret
    exact ⟨rfl, Below.refl _ _⟩
  go_wp2_with (first | (at_make; refine wpList_make_bools _ rfl (.tmp 94) (.tmp 94) rfl n rfl rfl hn ?_; intro w1 r1 b1 s1; obtain ⟨w2, hcp, r2, hg2, hs2⟩ := copy_bools w1 w'.heap.size n gc (some ⟨gb, goff, none⟩) _ G r1 (HG.out.below b1); have o1 := r2.cell ha2; have o2 := r2.cell hb2; have o3 := r2.frozen a; have o4 := r2.frozen b; have hz2 : w2.heap.size = w'.heap.size + 1 := by rw [hs2, s1]) | (at_make; refine wpList_make_bools _ rfl (.tmp 105) (.tmp 105) rfl n rfl rfl hn ?_; intro w3 r3 b3 s3; simp only [World.size_setCell, hz2] at r3 b3 s3; have q1 := r3.cell ha2; have q2 := r3.cell hb2; have q3 := r3.frozen a; have q4 := r3.frozen b))
  have hB2 : Below w'.heap.size w' w2 := b1.grown hg2 b1.size (by intro j hj; simp at hj; omega)
  obtain ⟨w4, hw4⟩ : ∃ w4, w4 = (w3.setCell ⟨w'.heap.size + 1, a, none⟩ (.bool true)).setCell ⟨w'.heap.size + 1, b, none⟩ (.bool true) := ⟨_, rfl⟩
  have hb4 : Below w'.heap.size w' w4 := by
    rw [hw4]
    refine ((((hB2.setCell (by exact Nat.le_refl _) _).setCell (by exact Nat.le_refl _) _).trans (b3.mono (by omega))).setCell (by exact Nat.le_succ _) _).setCell (by exact Nat.le_succ _) _
  have hz4 : w4.heap.size = w'.heap.size + 2 := by rw [hw4]; simp; omega
  have rW : w4.rowIs w'.heap.size 4 n (fun i => .bool (upd (upd G a) b i)) := by
    have h := (row_upd (row_upd r2 a) b).of_block (w' := w3) (b3.block _ (Nat.lt_succ_self _))
    rw [hw4]; exact (h.setOther (by show w'.heap.size ≠ w'.heap.size + 1; omega) _).setOther (by show w'.heap.size ≠ w'.heap.size + 1; omega) _
  have rS : w4.rowIs (w'.heap.size + 1) 4 n (fun i => .bool (upd (upd (fun _ => false) a) b i)) := by
    rw [hw4]; exact row_upd (f := upd (fun _ => false) a) (row_upd (f := fun _ => false) r3 a) b
  rw [← hw4]
  have HB4 : Hid (Below w'.heap.size w' w4) := hb4
  have HRW : Hid (w4.rowIs w'.heap.size 4 n (fun i => .bool (upd (upd G a) b i))) := rW
  have HRS : Hid (w4.rowIs (w'.heap.size + 1) 4 n (fun i => .bool (upd (upd (fun _ => false) a) b i))) := rS
  have HG4 : Hid (Bs w4 (some ⟨gb, goff, none⟩) n G) := HG.out.below hb4
  have HD4 : Hid (Bs w4 da n d) := HD.out.below hb4
  obtain ⟨N, HN⟩ : ∃ N, Hid (w4.heap.size = N) := ⟨_, rfl⟩
  have HNW : Hid (w'.heap.size + 2 = N) := hz4.symm.trans HN.out
  have HBd := build_any (some ⟨gb, goff, none⟩) da n gc dc nx G d w4 hn HG4.out HD4.out
  rw [HN.out] at HBd
  have HBD : Hid (Calls Trym.prog 6 #[.slice (some ⟨gb, goff, none⟩) n gc, .slice da n dc, .int .i64 nx] w4 fun e w' => e = .returned (.tuple #[.pointer (some ⟨N + 7 + n, 0, none⟩), .pointer (some ⟨N, 0, none⟩), .pointer (some ⟨N + 1, 0, none⟩), .slice (some ⟨N + 2, 0, none⟩) n n]) ∧ Sch w' N n d G (fun _ => false) nx ∧ w'.heap.size = N + 8 + n ∧ Below N w4 w') := HBd
  clear HBd hw4 hb4 hz4 rW rS r1 r2 r3 b1 b3 s1 s3 hg2 hs2 hcp o1 o2 o3 o4 q1 q2 q3 q4 hz2 hB2 c1 c2 c3 HG HD
  go_wp2_with fail
  refine Calls.mono HBD.out ?_
  rintro e w5 ⟨rfl, hS5, hz5, hb5⟩
  have HB5 : Hid (Below N w4 w5) := hb5
  have HST := zzstart_any hS5 ha2 rfl hn hnx
  have HSTa : Hid (Calls Trym.prog 7 #[.pointer (some ⟨N + 7 + n, 0, none⟩), .int .i64 a] w5 _) := HST
  clear hS5 hb5 HST HBD
  go_wp2_with fail
  refine Calls.mono HSTa.out ?_
  rintro e w6 ⟨rfl, nx1, hS6, hO6, l1, l2, l3, l4⟩
  have HST := zzstart_any hS6 hb2 (by rw [upd_other _ (by omega)]) hn l2
  have HSTb : Hid (Calls Trym.prog 7 #[.pointer (some ⟨N + 7 + n, 0, none⟩), .int .i64 b] w6 _) := HST
  have HB6 : Hid (Below N w4 w6) := HB5.out.trans (hO6.below (by omega))
  have L1 : Hid (nx ≤ nx1) := l1
  have L3 : Hid (∀ k, nx ≤ k → k < nx1 → upd G a k = true) := l3
  clear hS6 hO6 HST HSTa l1 l2 l3 l4 hz5 HB5
  go_wp2_with fail
  refine Calls.mono HSTb.out ?_
  rintro e w7 ⟨rfl, nx2, hS7, hO7, m1, m2, m3, m4⟩
  have HB7 : Hid (Below N w4 w7) := HB6.out.trans (hO7.below (by have := HB6.out.size; rw [HN.out] at this; exact this))
  have HS7 : Hid (Sch w7 N n d (upd (upd G a) b) (upd (upd (fun _ => false) a) b) nx2) := hS7
  have M1 : Hid (nx ≤ nx2 ∧ nx2 ≤ n ∧ (∀ k, nx ≤ k → k < nx2 → upd (upd G a) b k = true) ∧ (nx2 < n → upd (upd G a) b nx2 = false)) := by
    refine ⟨Nat.le_trans L1.out m1, m2, fun k h1 h2 => ?_, m4⟩
    rcases Nat.lt_or_ge k nx1 with h | h
    · exact upd_mono (L3.out k h1 h) b
    · exact m3 k h h2
  obtain ⟨N2, HN2⟩ : ∃ N, Hid (w7.heap.size = N) := ⟨_, rfl⟩
  have hNN2 : N + 8 + n ≤ N2 := by rw [← HN2.out]; exact hS7.size
  have HB7' : Hid (Below w4.heap.size w4 w7) := by rw [HN.out]; exact HB7.out
  have HBd := build_any (some ⟨gb, goff, none⟩) da n gc dc nx G d w7 hn (HG4.out.below HB7'.out) (HD4.out.below HB7'.out)
  rw [HN2.out] at HBd
  have HBD : Hid (Calls Trym.prog 6 #[.slice (some ⟨gb, goff, none⟩) n gc, .slice da n dc, .int .i64 nx] w7 fun e w' => e = .returned (.tuple #[.pointer (some ⟨N2 + 7 + n, 0, none⟩), .pointer (some ⟨N2, 0, none⟩), .pointer (some ⟨N2 + 1, 0, none⟩), .slice (some ⟨N2 + 2, 0, none⟩) n n]) ∧ Sch w' N2 n d G (fun _ => false) nx ∧ w'.heap.size = N2 + 8 + n ∧ Below N2 w7 w') := HBd
  clear HBd hS7 hO7 m1 m2 m3 m4 L1 L3 HSTb HB6 HB7
  go_wp2_with fail
  refine Calls.mono HBD.out ?_
  rintro e w8 ⟨rfl, hS8, hz8, hb8⟩
  have HB8 : Hid (Below N2 w7 w8) := hb8
  have HST := zzstart_any hS8 hb2 rfl hn hnx
  have HSTc : Hid (Calls Trym.prog 7 #[.pointer (some ⟨N2 + 7 + n, 0, none⟩), .int .i64 b] w8 _) := HST
  clear hS8 hb8 HST HBD
  go_wp2_with fail
  refine Calls.mono HSTc.out ?_
  rintro e w9 ⟨rfl, nx3, hS9, hO9, l1, l2, l3, l4⟩
  have HST := zzstart_any hS9 ha2 (by rw [upd_other _ (by omega)]) hn l2
  have HSTd : Hid (Calls Trym.prog 7 #[.pointer (some ⟨N2 + 7 + n, 0, none⟩), .int .i64 a] w9 _) := HST
  have HB9 : Hid (Below N2 w7 w9) := HB8.out.trans (hO9.below (by omega))
  have L1 : Hid (nx ≤ nx3) := l1
  have L3 : Hid (∀ k, nx ≤ k → k < nx3 → upd G b k = true) := l3
  clear hS9 hO9 HST HSTc l1 l2 l3 l4 hz8 HB8
  go_wp2_with fail
  refine Calls.mono HSTd.out ?_
  rintro e w10 ⟨rfl, nx4, hS10, hO10, m1, m2, m3, m4⟩
  have HB10 : Hid (Below N2 w7 w10) := HB9.out.trans (hO10.below (by have := HB9.out.size; rw [HN2.out] at this; exact this))
  have e1 : nx2 = nx4 := by
    rw [upd_comm G a b] at m3 m4
    refine nxt_one M1.out.1 M1.out.2.1 M1.out.2.2.1 M1.out.2.2.2 (Nat.le_trans L1.out m1) m2 (fun k h1 h2 => ?_) m4
    rcases Nat.lt_or_ge k nx3 with h | h
    · rw [← upd_comm G a b]; exact upd_mono (L3.out k h1 h) a
    · exact m3 k h h2
  subst e1
  have hb10' : Below w7.heap.size w7 w10 := by rw [HN2.out]; exact HB10.out
  have hS10' : Sch w10 N2 n d (upd (upd G a) b) (upd (upd (fun _ => false) a) b) nx2 := by rw [upd_comm G a b, upd_comm (fun _ => false) a b] at hS10; exact hS10
  have hSa : Sch w10 N n d (upd (upd G a) b) (upd (upd (fun _ => false) a) b) nx2 := HS7.out.below hb10'
  have hb410 : Below w4.heap.size w4 w10 := HB7'.out.trans (HB10.out.mono (by rw [HN.out]; omega))
  have HA1 : Hid (Aft w10 N n d (upd (upd G a) b) (upd (upd (fun _ => false) a) b) nx2 w'.heap.size (w'.heap.size + 1) da) :=
    ⟨hSa, HRW.out.of_block (hb410.block _ HRW.out.lt), HRS.out.of_block (hb410.block _ HRS.out.lt), HD4.out.below hb410⟩
  have HA2 : Hid (Aft w10 N2 n d (upd (upd G a) b) (upd (upd (fun _ => false) a) b) nx2 w'.heap.size (w'.heap.size + 1) da) :=
    ⟨hS10', HRW.out.of_block (hb410.block _ HRW.out.lt), HRS.out.of_block (hb410.block _ HRS.out.lt), HD4.out.below hb410⟩
  have HBW : Hid (Below w'.heap.size w' w10) := HB4.out.trans (hb410.mono HB4.out.size)
  have x1 := hSa.next
  have x2 := hS10'.next
  have HC2 : Hid (cnt (upd (upd (fun _ => false) a) b) n = 2) := by
    show _ = 2; rw [cnt_upd hb2 (by rw [upd_other _ (by omega)]), cnt_upd ha2 rfl, cnt_false]
  clear hS10 hS10' hSa hO10 m1 m2 m3 m4 L1 L3 HSTd HB9 HB10 hb10' hb410 HS7 HB7' HRW HRS HG4 HD4 HB4
  go_wp2_with fail
  refine (next_any _ _ _ x1).mono ?_
  rintro e w11 ⟨rfl, rfl⟩
  go_wp2_with fail
  refine (next_any _ _ _ x2).mono ?_
  rintro e w12 ⟨rfl, rfl⟩
  have P1 : Hid (Calls Trym.prog 9 #[.pointer (some ⟨N + 7 + n, 0, none⟩), .pointer (some ⟨N, 0, none⟩), .pointer (some ⟨N + 1, 0, none⟩), .slice (some ⟨N + 2, 0, none⟩) n n, .slice (some ⟨w'.heap.size, 0, none⟩) n n, .slice da n dc, .slice (some ⟨w'.heap.size + 1, 0, none⟩) n n, .int .i64 nx, .int .i64 2] w12 fun e w' => e = .returned (.bool true) ∧ Below w12.heap.size w12 w') :=
    after_any HA1.out dc nx 2 hn M1.out.1 M1.out.2.1 M1.out.2.2.1 M1.out.2.2.2 HC2.out
  clear x1 x2
  go_wp2_with fail
  refine Calls.mono P1.out ?_
  rintro e w13 ⟨rfl, hb13⟩
  have P2 : Hid (Calls Trym.prog 9 #[.pointer (some ⟨N2 + 7 + n, 0, none⟩), .pointer (some ⟨N2, 0, none⟩), .pointer (some ⟨N2 + 1, 0, none⟩), .slice (some ⟨N2 + 2, 0, none⟩) n n, .slice (some ⟨w'.heap.size, 0, none⟩) n n, .slice da n dc, .slice (some ⟨w'.heap.size + 1, 0, none⟩) n n, .int .i64 nx, .int .i64 2] w13 fun e w' => e = .returned (.bool true) ∧ Below w13.heap.size w13 w') :=
    after_any (HA2.out.below hb13) dc nx 2 hn M1.out.1 M1.out.2.1 M1.out.2.2.1 M1.out.2.2.2 HC2.out
  have HB13 : Hid (Below w'.heap.size w' w13) := below_step HBW.out hb13
  clear hb13 P1 HA1 HA2
  go_wp2_with fail
  refine Calls.mono P2.out ?_
  rintro e w14 ⟨rfl, hb14⟩
  have HB14 : Hid (Below w'.heap.size w' w14) := below_step HB13.out hb14
  clear hb14 P2
  go_wp2_with fail
  go_ret
  exact ⟨rfl, HB14.out⟩

set_option maxRecDepth 10000 in
set_option maxHeartbeats 3200000 in
/-- FnScheduleStartsCommute, whatever came in. -/
theorem commute_walk (ga da : Option Addr) (n gc nd dc : Nat) (nx a b : Int) (G d : Nat → Bool) (w : World) (hG : Bs w ga n G) (hd : Bs w da nd d) (hn : n ≤ 9223372036854775807) (hnd : nd ≤ 9223372036854775807) :
    Calls Trym.prog 3 #[.slice ga n gc, .slice da nd dc, .int .i64 nx, .int .i64 a, .int .i64 b] w fun e w' => e = .returned (.bool true) ∧ Below w.heap.size w w' := by
  have HG : Hid (Bs w ga n G) := hG
  have HD : Hid (Bs w da nd d) := hd
  clear hG hd
  by_cases a1 : 65536 < n
  · go_enter Trym.func3, Trym.ntmps3
    go_wp2_with fail
    refine (fits5 _ _ _ _ _ _ _ _ _ w (by omega) (by omega)).mono ?_
    rintro e w' ⟨⟨r, rfl⟩, rfl⟩
    cases r
    · go_wp2_with fail
      go_ret
      exact ⟨rfl, Below.refl _ _⟩
    · go_wp2_with fail
      go_ret
      exact ⟨rfl, Below.refl _ _⟩
  by_cases a2 : 65536 < nd
  · go_enter Trym.func3, Trym.ntmps3
    go_wp2_with fail
    refine (fits5 _ _ _ _ _ _ _ _ _ w (by omega) (by omega)).mono ?_
    rintro e w' ⟨⟨r, rfl⟩, rfl⟩
    cases r
    · go_wp2_with fail
      go_ret
      exact ⟨rfl, Below.refl _ _⟩
    · go_wp2_with fail
      go_ret
      exact ⟨rfl, Below.refl _ _⟩
  by_cases a3 : nd = n
  rotate_left
  · go_enter Trym.func3, Trym.ntmps3
    go_wp2_with fail
    refine (fits5 _ _ _ _ _ _ _ _ _ w (by omega) (by omega)).mono ?_
    rintro e w' ⟨⟨r, rfl⟩, rfl⟩
    cases r
    · go_wp2_with fail
      go_ret
      exact ⟨rfl, Below.refl _ _⟩
    · go_wp2_with fail
      go_ret
      exact ⟨rfl, Below.refl _ _⟩
  subst a3
  by_cases a4 : nx < 0
  · go_enter Trym.func3, Trym.ntmps3
    go_wp2_with fail
    refine (fits5 _ _ _ _ _ _ _ _ _ w (by omega) (by omega)).mono ?_
    rintro e w' ⟨⟨r, rfl⟩, rfl⟩
    cases r
    · go_wp2_with fail
      go_ret
      exact ⟨rfl, Below.refl _ _⟩
    · go_wp2_with fail
      go_ret
      exact ⟨rfl, Below.refl _ _⟩
  by_cases a5 : (nd : Int) < nx
  · go_enter Trym.func3, Trym.ntmps3
    go_wp2_with fail
    refine (fits5 _ _ _ _ _ _ _ _ _ w (by omega) (by omega)).mono ?_
    rintro e w' ⟨⟨r, rfl⟩, rfl⟩
    cases r
    · go_wp2_with fail
      go_ret
      exact ⟨rfl, Below.refl _ _⟩
    · go_wp2_with fail
      go_ret
      exact ⟨rfl, Below.refl _ _⟩
  obtain ⟨nx, rfl⟩ := Int.eq_ofNat_of_zero_le (show 0 ≤ nx by omega)
  by_cases a6 : nx < nd
  rotate_left
  · have a6' : ¬ (nx : Int) < (nd : Int) := by omega
    by_cases a7 : a < (nx : Int)
    · go_enter Trym.func3, Trym.ntmps3
      go_wp2_with fail
      refine (fits5 _ _ _ _ _ _ _ _ _ w (by omega) (by omega)).mono ?_
      rintro e w' ⟨⟨r, rfl⟩, rfl⟩
      cases r
      · go_wp2_with fail
        go_ret
        exact ⟨rfl, Below.refl _ _⟩
      · go_wp2_with fail
        go_ret
        exact ⟨rfl, Below.refl _ _⟩
    · have a8 : (nd : Int) ≤ a := by omega
      go_enter Trym.func3, Trym.ntmps3
      go_wp2_with fail
      refine (fits5 _ _ _ _ _ _ _ _ _ w (by omega) (by omega)).mono ?_
      rintro e w' ⟨⟨r, rfl⟩, rfl⟩
      cases r
      · go_wp2_with fail
        go_ret
        exact ⟨rfl, Below.refl _ _⟩
      · go_wp2_with fail
        go_ret
        exact ⟨rfl, Below.refl _ _⟩
  obtain ⟨gb, goff, rfl, hcG⟩ := HG.out (by omega)
  have hni : (nx : Int) < (nd : Int) := by omega
  have hn0 : (0 : Int) ≤ (nx : Int) := by omega
  have c3 := hcG nx a6
  cases g0 : G nx with
  | true =>
    rw [g0] at c3
    clear hcG g0
    go_enter Trym.func3, Trym.ntmps3
    go_wp2_with fail
    refine (fits5 _ _ _ _ _ _ _ _ _ w (by omega) (by omega)).mono ?_
    rintro e w' ⟨⟨r, rfl⟩, rfl⟩
    cases r
    · go_wp2_with fail
      go_ret
      exact ⟨rfl, Below.refl _ _⟩
    · go_wp2_with fail
      go_ret
      exact ⟨rfl, Below.refl _ _⟩
  | false =>
    rw [g0] at c3
    by_cases a7 : a < (nx : Int)
    · clear hcG g0
      go_enter Trym.func3, Trym.ntmps3
      go_wp2_with fail
      refine (fits5 _ _ _ _ _ _ _ _ _ w (by omega) (by omega)).mono ?_
      rintro e w' ⟨⟨r, rfl⟩, rfl⟩
      cases r
      · go_wp2_with fail
        go_ret
        exact ⟨rfl, Below.refl _ _⟩
      · go_wp2_with fail
        go_ret
        exact ⟨rfl, Below.refl _ _⟩
    by_cases a8 : (nd : Int) ≤ a
    · clear hcG g0
      go_enter Trym.func3, Trym.ntmps3
      go_wp2_with fail
      refine (fits5 _ _ _ _ _ _ _ _ _ w (by omega) (by omega)).mono ?_
      rintro e w' ⟨⟨r, rfl⟩, rfl⟩
      cases r
      · go_wp2_with fail
        go_ret
        exact ⟨rfl, Below.refl _ _⟩
      · go_wp2_with fail
        go_ret
        exact ⟨rfl, Below.refl _ _⟩
    obtain ⟨a, rfl⟩ := Int.eq_ofNat_of_zero_le (show 0 ≤ a by omega)
    by_cases a9 : b < (nx : Int)
    · clear hcG g0
      go_enter Trym.func3, Trym.ntmps3
      go_wp2_with fail
      refine (fits5 _ _ _ _ _ _ _ _ _ w (by omega) (by omega)).mono ?_
      rintro e w' ⟨⟨r, rfl⟩, rfl⟩
      cases r
      · go_wp2_with fail
        go_ret
        exact ⟨rfl, Below.refl _ _⟩
      · go_wp2_with fail
        go_ret
        exact ⟨rfl, Below.refl _ _⟩
    by_cases a10 : (nd : Int) ≤ b
    · clear hcG g0
      go_enter Trym.func3, Trym.ntmps3
      go_wp2_with fail
      refine (fits5 _ _ _ _ _ _ _ _ _ w (by omega) (by omega)).mono ?_
      rintro e w' ⟨⟨r, rfl⟩, rfl⟩
      cases r
      · go_wp2_with fail
        go_ret
        exact ⟨rfl, Below.refl _ _⟩
      · go_wp2_with fail
        go_ret
        exact ⟨rfl, Below.refl _ _⟩
    obtain ⟨b, rfl⟩ := Int.eq_ofNat_of_zero_le (show 0 ≤ b by omega)
    by_cases a11 : a = b
    · subst a11
      clear hcG g0
      go_enter Trym.func3, Trym.ntmps3
      go_wp2_with fail
      refine (fits5 _ _ _ _ _ _ _ _ _ w (by omega) (by omega)).mono ?_
      rintro e w' ⟨⟨r, rfl⟩, rfl⟩
      cases r
      · go_wp2_with fail
        go_ret
        exact ⟨rfl, Below.refl _ _⟩
      · go_wp2_with fail
        go_ret
        exact ⟨rfl, Below.refl _ _⟩
    have habi : ((a : Int) == (b : Int)) = false := by simp; omega
    have hai : (a : Int) < (nd : Int) := by omega
    have hbi : (b : Int) < (nd : Int) := by omega
    have ha0 : (0 : Int) ≤ (a : Int) := by omega
    have hb0 : (0 : Int) ≤ (b : Int) := by omega
    have c1 := hcG a (by omega)
    have c2 := hcG b (by omega)
    cases g1 : G a with
    | true =>
      rw [g1] at c1
      clear hcG g0 g1
      go_enter Trym.func3, Trym.ntmps3
      go_wp2_with fail
      refine (fits5 _ _ _ _ _ _ _ _ _ w (by omega) (by omega)).mono ?_
      rintro e w' ⟨⟨r, rfl⟩, rfl⟩
      cases r
      · go_wp2_with fail
        go_ret
        exact ⟨rfl, Below.refl _ _⟩
      · go_wp2_with fail
        go_ret
        exact ⟨rfl, Below.refl _ _⟩
    | false =>
      cases g2 : G b with
      | true =>
        rw [g1] at c1
        rw [g2] at c2
        clear hcG g0 g1 g2
        go_enter Trym.func3, Trym.ntmps3
        go_wp2_with fail
        refine (fits5 _ _ _ _ _ _ _ _ _ w (by omega) (by omega)).mono ?_
        rintro e w' ⟨⟨r, rfl⟩, rfl⟩
        cases r
        · go_wp2_with fail
          go_ret
          exact ⟨rfl, Below.refl _ _⟩
        · go_wp2_with fail
          go_ret
          exact ⟨rfl, Below.refl _ _⟩
      | false => exact commute_main _ da nd gc dc nx a b G d w HG.out HD.out (by omega) (by omega) (fun _ => g0) (by omega) (by omega) (by omega) (by omega) a11 g1 g2
end Go.Proofs.Qxb6618524aMods
