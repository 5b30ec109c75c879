/-
  THE WALKS of (schedule).start and ZZStart.
-/
import Derived.Test.Qxb6618524aModsWalkA
import Derived.Deep.RegionHeld3
import Derived.Deep.LoopGhost
namespace Go.Proofs.Qxb6618524aMods
open Go.RowKit
set_option linter.unusedVariables false

/-- One place counts one more. -/
def bump (A : Nat → Nat) (i : Nat) : Nat → Nat := fun k => if k = i then A i + 1 else A k
/-- The root counts one more in it, unless step i lies in the directory. -/
def rI (d : Nat → Bool) (i ir : Nat) : Nat := if d i then ir else ir + 1
/-- The directory counts one more, if step i lies in it. -/
def rD (d : Nat → Bool) (i jd : Nat) : Nat := if d i then jd + 1 else jd

theorem add_any {w : World} {N n : Nat} {d G : Nat → Bool} {A : Nat → Nat} {ir br jd : Nat} {D : DataW Unit} {m nx i : Nat} (h : Sx w N n d G A ir br jd D m nx) (hi : i < n) (b1 : A i ≤ 65536) (b2 : ir ≤ 65536) (b3 : br ≤ 65536) (b4 : jd ≤ 65536) :
    Calls Trym.prog 18 #[.pointer (some ⟨N + 3 + i, 0, none⟩), .int .i64 0, .int .i64 1] w fun e w' => e = .returned (.tuple #[]) ∧ Sx w' N n d G (bump A i) (rI d i ir) (br + 1) (rD d i jd) D m nx ∧ Only N (N + 8 + n) w w' := by
  have p := h.place i hi
  cases hd : d i with
  | false =>
    have c0 := p.cell (show 0 < 7 by decide)
    simp only [pf, hd] at c0
    refine (add_root (N + 3 + i) N (A i) ir br w (by omega) c0 (p.cell (show 1 < 7 by decide)) (p.frozen 1) (h.root.cell (show 0 < 7 by decide)) (h.root.cell (show 2 < 7 by decide)) (h.root.cell (show 3 < 7 by decide)) (h.root.frozen 2) (h.root.frozen 3) (by omega) (by omega) (by omega) (by omega) (by omega) (by omega)).mono ?_
    rintro e w' ⟨rfl, rfl⟩
    obtain ⟨h1, h2⟩ := h.add_root hi hd
    have e1 : rI d i ir = ir + 1 := by simp [rI, hd]
    have e2 : rD d i jd = jd := by simp [rD, hd]
    rw [e1, e2]
    exact ⟨rfl, h1.drew.drew.drew, h2.drew.drew.drew⟩
  | true =>
    have c0 := p.cell (show 0 < 7 by decide)
    simp only [pf, hd] at c0
    refine (add_dir (N + 3 + i) (N + 1) N (A i) jd jd br w (by omega) (by omega) (by omega) c0 (p.cell (show 1 < 7 by decide)) (p.frozen 1) (h.dir.cell (show 0 < 7 by decide)) (h.dir.cell (show 2 < 7 by decide)) (h.dir.cell (show 3 < 7 by decide)) (h.dir.frozen 2) (h.dir.frozen 3) (h.root.cell (show 0 < 7 by decide)) (h.root.cell (show 3 < 7 by decide)) (h.root.frozen 3) (by omega) (by omega) (by omega) (by omega) (by omega) (by omega) (by omega) (by omega)).mono ?_
    rintro e w' ⟨rfl, rfl⟩
    obtain ⟨h1, h2⟩ := h.add_dir hi hd
    have e1 : rI d i ir = ir := by simp [rI, hd]
    have e2 : rD d i jd = jd + 1 := by simp [rD, hd]
    rw [e1, e2]
    exact ⟨rfl, h1.drew.drew.drew.drew, h2.drew.drew.drew.drew⟩

theorem keyed3 : Maps.Keyed Trym.prog 3 := Maps.int_keyed Trym.underlying3

/-- The cells of a schedule that 'start' reads. -/
theorem Sx.cells {w : World} {N n : Nat} {d G : Nat → Bool} {A : Nat → Nat} {ir br jd : Nat} {D : DataW Unit} {m nx : Nat} (h : Sx w N n d G A ir br jd D m nx) :
    w.cell? ⟨N + 7 + n, 0, none⟩ = some (.slice (some ⟨N + 4 + n, 0, none⟩) n n) ∧ w.cell? ⟨N + 7 + n, 1, none⟩ = some (.slice (some ⟨N + 2, 0, none⟩) n n) ∧ w.cell? ⟨N + 7 + n, 2, none⟩ = some (.int .i64 (nx : Int)) ∧
    w.cell? ⟨N + 7 + n, 4, none⟩ = some (.slice (some ⟨N + 3 + n, 0, none⟩) n n) ∧ w.cell? ⟨N + 7 + n, 5, none⟩ = some (.map (some (N + 5 + n))) ∧ w.frozen? ⟨N + 7 + n, 2, none⟩ = false := by
  obtain ⟨f, hf, e0, e1, e2, e4, e5⟩ := h.sched
  exact ⟨by rw [hf.cell (by decide), e0], by rw [hf.cell (by decide), e1], by rw [hf.cell (by decide), e2], by rw [hf.cell (by decide), e4], by rw [hf.cell (by decide), e5], hf.frozen 2⟩

set_option maxRecDepth 10000 in
set_option maxHeartbeats 3200000 in
theorem start_any {w : World} {N n : Nat} {d G : Nat → Bool} {A : Nat → Nat} {ir br jd : Nat} {D : DataW Unit} {m nx i : Nat} (h : Sx w N n d G A ir br jd D m nx) (hi : i < n) (hn : n ≤ 65536) (b1 : A i ≤ 65536) (b2 : ir ≤ 65536) (b3 : br ≤ 65536) (b4 : jd ≤ 65536) (b5 : m ≤ 65536) (b6 : nx ≤ n) :
    Calls Trym.prog 13 #[.pointer (some ⟨N + 7 + n, 0, none⟩), .agg #[.int .i64 i, .nilIface, .nilFunc, .bool false]] w fun e w' => e = .returned (.tuple #[]) ∧
      ∃ nx', Sx w' N n d (upd G i) (bump A i) (rI d i ir) (br + 1) (rD d i jd) (D.put (.int .i64 (i : Int)) .nil) (m + 1) nx' ∧ Only N (N + 8 + n) w w' ∧ nx ≤ nx' ∧ nx' ≤ n ∧ (∀ k, nx ≤ k → k < nx' → upd G i k = true) ∧ (nx' < n → upd G i nx' = false) := by
  have hsz := h.size
  obtain ⟨J, HJ⟩ : ∃ J, Hid (J = w.heap.size) := ⟨_, rfl⟩
  have h0 := h.alloc (.cells #[.int .i64 i, .nilIface, .nilFunc, .bool false] 41)
  obtain ⟨w1, hrun, hm1, hg1⟩ := h0.drew.under.update keyed3 Trym.underlying43 (by unfold maxLen; omega) (key := .int .i64 (i : Int)) (val := .nilFunc) (d := .nil) (ps := []) (Maps.keyOf_int_mk Trym.underlying3 (WalkArith.wf_i64 (by omega))) rfl
  obtain ⟨h1, o1⟩ := h0.drew.put hm1 hg1
  have O1 : Hid (Only N (N + 8 + n) (w.alloc (.cells #[.int .i64 i, .nilIface, .nilFunc, .bool false] 41)) w1) := ⟨o1.os, o1.tape, o1.output, o1.size, o1.block⟩
  have j1 : w1.cell? ⟨w.heap.size, 0, none⟩ = some (.int .i64 (i : Int)) := by rw [O1.out.cell (by simp) (.inr (by exact hsz))]; simp
  have H1 : Hid (Sx w1 N n d G A ir br jd (D.put (.int .i64 (i : Int)) .nil) (m + 1) nx) := h1
  obtain ⟨c0, c1, c2, c4, c5, cf⟩ := h.cells
  obtain ⟨d0, d1, d2, d4, d5, df⟩ := h1.cells
  have q1 : w1.cell? ⟨N + 2, i, none⟩ = some (.pointer (some ⟨N + 3 + i, 0, none⟩)) := h1.places.cell hi
  have hib : (0 : Int) ≤ (i : Int) := by omega
  have hin : (i : Int) < (n : Int) := by omega
  have hss : N + 7 + n < w.heap.size := by omega
  have hw1 : w.heap.size < w1.heap.size := by have := O1.out.size; simp at this; omega
  clear h h0 h1 o1 hm1 hg1
  go_enter Trym.func13, Trym.ntmps13
  go_wp2
  go_region
  clear hrun c0 c1 c2 c4 c5 cf
  go_wp2
  go_region_held3 (fun w' => w'.cell? ⟨N + 7 + n, 1, none⟩ = some (.slice (some ⟨N + 2, 0, none⟩) n n) ∧ w'.cell? ⟨w.heap.size, 0, none⟩ = some (.int .i64 (i : Int)) ∧ w'.cell? ⟨N + 2, i, none⟩ = some (.pointer (some ⟨N + 3 + i, 0, none⟩))) (go_keep) (first | (go_at_call 18; refine (add_any H1.out.drew hi b1 b2 b3 b4).mono ?_; rintro e w2 ⟨rfl, h2, o2⟩; have k1 := h2.cells.2.1; have k2 := (o2.cell (a := ⟨w.heap.size, 0, none⟩) hw1 (.inr hsz)).trans j1; have k3 := h2.places.cell hi))
  have O2 : Hid (Only N (N + 8 + n) (w.alloc (.cells #[.int .i64 i, .nilIface, .nilFunc, .bool false] 41)) w2) := O1.out.trans ⟨o2.os, o2.tape, o2.output, o2.size, o2.block⟩
  have j2 : w2.cell? ⟨w.heap.size, 0, none⟩ = some (.int .i64 (i : Int)) := by rw [O2.out.cell (by simp) (.inr (by exact hsz))]; simp
  obtain ⟨e0, e1, e2, e4, e5, ef⟩ := h2.cells
  have q2 : w2.cell? ⟨N + 3 + n, i, none⟩ = some (.bool (G i)) := h2.given.cell hi
  have q3 : w2.frozen? ⟨N + 3 + n, i, none⟩ = false := h2.given.frozen i
  obtain ⟨h3, o3⟩ := h2.give hi
  have H3 : Hid (Sx (w2.setCell ⟨N + 3 + n, i, none⟩ (.bool true)) N n d (upd G i) (bump A i) (rI d i ir) (br + 1) (rD d i jd) (D.put (.int .i64 (i : Int)) .nil) (m + 1) nx) := h3
  have O3 : Hid (Only N (N + 8 + n) w (w2.setCell ⟨N + 3 + n, i, none⟩ (.bool true))) := ((Only.refl _ _ _).alloc _).trans (O2.out.trans o3)
  clear k1 k2 k3 h2 o2 h3 o3 d0 d1 d2 d4 d5 df j1 q1
  go_wp2
  go_region
  go_wp2
  go_loopg [28] (n - nx) (fun gk _ wr => ∃ x : Nat, nx ≤ x ∧ x ≤ n ∧ gk = n - x ∧ Sx wr N n d (upd G i) (bump A i) (rI d i ir) (br + 1) (rD d i jd) (D.put (.int .i64 (i : Int)) .nil) (m + 1) x ∧ Only N (N + 8 + n) w wr ∧ ∀ k, nx ≤ k → k < x → upd G i k = true)
  case atStart => exact ⟨nx, Nat.le_refl _, b6, rfl, H3.out.drew, O3.out.drew, fun k h1 h2 => by omega⟩
  case round =>
    obtain ⟨x, hx1, hx2, hgk, hS, hO, hall⟩ := hrel
    obtain ⟨g0, g1, g2, g4, g5, gf⟩ := hS.cells
    have HS : Hid (Sx wr N n d (upd G i) (bump A i) (rI d i ir) (br + 1) (rD d i jd) (D.put (.int .i64 (i : Int)) .nil) (m + 1) x) := hS
    have HO : Hid (Only N (N + 8 + n) w wr) := hO
    have HA : Hid (∀ k, nx ≤ k → k < x → upd G i k = true) := hall
    have HGK : Hid (gk = n - x) := hgk
    clear H3 O3 O1 O2 H1 hall hO hgk e0 e1 e2 e4 e5 ef j2 q2 q3 hib hin
    by_cases hxn : x < n
    · have hx0 : (0 : Int) ≤ (x : Int) := by omega
      have hxi : (x : Int) < (n : Int) := by omega
      cases hgx : upd G i x with
      | true =>
        have q4 : wr.cell? ⟨N + 3 + n, x, none⟩ = some (.bool true) := by rw [hS.given.cell hxn, hgx]
        have HX : Hid (upd G i x = true) := hgx
        clear hS hgx
        go_wp2
        go_quiet (fail)
        go_wp2
        go_roundg (n - (x + 1))
        case measure => have := HGK.out; omega
        case rel =>
          obtain ⟨h5, o5⟩ := HS.out.step
          refine ⟨x + 1, by omega, by omega, rfl, ?_, ?_, fun k h1 h2 => ?_⟩
          · exact h5.kept (Nat.le_refl _) (fun _ _ _ => rfl)
          · exact HO.out.trans ⟨o5.os, o5.tape, o5.output, o5.size, o5.block⟩
          · by_cases e : k = x
            · rw [e]; exact HX.out
            · exact HA.out k h1 (by omega)
      | false =>
        have q4 : wr.cell? ⟨N + 3 + n, x, none⟩ = some (.bool false) := by rw [hS.given.cell hxn, hgx]
        have HX : Hid (upd G i x = false) := hgx
        clear hS hgx
        go_wp2
        go_quiet (fail)
        go_wp2
        go_end0
        exact ⟨rfl, x, HS.out.drewN _, ⟨HO.out.os, HO.out.tape, HO.out.output, HO.out.size, HO.out.block⟩, hx1, hx2, HA.out, fun _ => HX.out⟩
    · have hxi : decide ((x : Int) < (n : Int)) = false := by simp; omega
      clear hS
      go_wp2
      go_quiet (fail)
      go_wp2
      go_end0
      exact ⟨rfl, x, HS.out.drewN _, ⟨HO.out.os, HO.out.tape, HO.out.output, HO.out.size, HO.out.block⟩, hx1, hx2, HA.out, fun h => absurd h hxn⟩

/-- What 'start' does, in the words of which steps are given and started. -/
theorem sch_of_start {w' : World} {N n : Nat} {d G st : Nat → Bool} {D : DataW Unit} {i nx' : Nat} (hi : i < n) (hst : st i = false) (hh : ∀ k : Nat, k < n → Maps.has D (.int .i64 (k : Int)) = st k) (hz : Maps.size D = cnt st n) (ht : Maps.Tidy D)
    (h : Sx w' N n d (upd G i) (bump (fun i => (st i).toNat) i) (rI d i (cnt (fun k => st k && !d k) n)) (cnt st n + 1) (rD d i (cnt (fun k => st k && d k) n)) (D.put (.int .i64 (i : Int)) .nil) (cnt st n + 1) nx') :
    Sch w' N n d (upd G i) (upd st i) nx' := by
  have e1 : bump (fun i => (st i).toNat) i = fun k => (upd st i k).toNat := by
    funext k; unfold bump upd; by_cases e : k = i
    · simp [e, hst]
    · simp [e]
  have e2 : rI d i (cnt (fun k => st k && !d k) n) = cnt (fun k => upd st i k && !d k) n := by
    have := cnt_and_upd (f := st) (d := fun k => !d k) hi hst
    rw [this]; unfold rI; cases d i <;> simp
  have e3 : rD d i (cnt (fun k => st k && d k) n) = cnt (fun k => upd st i k && d k) n := by
    rw [cnt_and_upd hi hst]; unfold rD; cases d i <;> simp
  rw [e1, e2, e3, ← cnt_upd hi hst] at h
  have hno : Maps.has D (.int .i64 (i : Int)) = false := by rw [hh i hi, hst]
  refine ⟨_, h, fun k hk => ?_, ?_⟩
  · by_cases e : k = i
    · subst e; rw [upd_same]; exact Maps.has_put_same ht.isMap (show WideAt.IsKeyLit (.int .i64 (k : Int)) from trivial) _
    · rw [upd_other _ e, ← hh k hk]
      exact Maps.has_put_other (by intro h'; apply e; injection h' with _ h'; omega) _
  · rw [cnt_upd hi hst, ← hz]
    rw [Maps.size_put ht, hno]; rfl

set_option maxHeartbeats 400000 in
theorem zzstart_any {w : World} {N n : Nat} {d G st : Nat → Bool} {nx i : Nat} (h : Sch w N n d G st nx) (hi : i < n) (hst : st i = false) (hn : n ≤ 65536) (hnx : nx ≤ n) :
    Calls Trym.prog 7 #[.pointer (some ⟨N + 7 + n, 0, none⟩), .int .i64 i] w fun e w' => e = .returned (.tuple #[]) ∧
      ∃ nx', Sch w' N n d (upd G i) (upd st i) nx' ∧ Only N (N + 8 + n) w w' ∧ nx ≤ nx' ∧ nx' ≤ n ∧ (∀ k, nx ≤ k → k < nx' → upd G i k = true) ∧ (nx' < n → upd G i nx' = false) := by
  obtain ⟨D, hS, hh, hz⟩ := h
  have c1 := cnt_le (fun k => st k && !d k) n
  have c2 := cnt_le st n
  have c3 := cnt_le (fun k => st k && d k) n
  have b1 : (st i).toNat ≤ 65536 := by rw [hst]; decide
  have ht : Maps.Tidy D := hS.under.tidy keyed3
  have HC := start_any hS hi hn b1 (by omega) (by omega) (by omega) (by omega) hnx
  have HX : Hid (∀ (w' : World) (nx' : Nat), Sx w' N n d (upd G i) (bump (fun i => (st i).toNat) i) (rI d i (cnt (fun k => st k && !d k) n)) (cnt st n + 1) (rD d i (cnt (fun k => st k && d k) n)) (D.put (.int .i64 (i : Int)) .nil) (cnt st n + 1) nx' → Sch w' N n d (upd G i) (upd st i) nx') := fun w' nx' h => sch_of_start hi hst hh hz ht h
  have HCC : Hid (Calls Trym.prog 13 #[.pointer (some ⟨N + 7 + n, 0, none⟩), .agg #[.int .i64 i, .nilIface, .nilFunc, .bool false]] w fun e w' => e = .returned (.tuple #[]) ∧
      ∃ nx', Sch w' N n d (upd G i) (upd st i) nx' ∧ Only N (N + 8 + n) w w' ∧ nx ≤ nx' ∧ nx' ≤ n ∧ (∀ k, nx ≤ k → k < nx' → upd G i k = true) ∧ (nx' < n → upd G i nx' = false)) :=
    HC.mono fun e w' ⟨h1, nx', h2, h3⟩ => ⟨h1, nx', HX.out w' nx' h2, h3⟩
  clear HC HX hS hh hz ht
  go_enter Trym.func7, Trym.ntmps7
  go_wp2_with fail
  refine Calls.mono HCC.out ?_
  rintro e w' ⟨rfl, nx', h1⟩
  have H1 : Hid _ := h1
  clear h1
  go_wp2_with fail
  go_end0
  exact ⟨rfl, nx', H1.out⟩
end Go.Proofs.Qxb6618524aMods
