/-
  THE WALKS of ZZNewSchedule and buildSchedule.
-/
import Derived.Test.Qxb6618524aModsWalkB
namespace Go.Proofs.Qxb6618524aMods
open Go.RowKit
set_option linter.unusedVariables false

set_option maxRecDepth 10000 in
set_option maxHeartbeats 800000 in
theorem newsched_any (pb gb n nx tb mb s : Nat) (w : World) (hn : n ≤ 65536) (ht : w.heap.size = tb) (hm : w.heap.size + 1 = mb) (hs : w.heap.size + 3 = s) :
    Calls Trym.prog 12 #[.slice (some ⟨pb, 0, none⟩) n n, .int .i64 nx, .slice (some ⟨gb, 0, none⟩) n n] w fun e w' => e = .returned (.pointer (some ⟨s, 0, none⟩)) ∧ w'.heap.size = s + 1 ∧ Below w.heap.size w w' ∧
      w'.ownsMap Trym.prog 3 fnElem mb 0 (.map []) ∧ ∃ f, w'.rowIs s 55 17 f ∧ f 0 = .slice (some ⟨tb, 0, none⟩) n n ∧ f 1 = .slice (some ⟨pb, 0, none⟩) n n ∧ f 2 = .int .i64 (nx : Int) ∧ f 4 = .slice (some ⟨gb, 0, none⟩) n n ∧ f 5 = .map (some mb) := by
  subst ht hm hs
  have hmm := @run_makeMap Trym.prog
  obtain ⟨cs, hmk⟩ := make_steps n hn
  go_enter Trym.func12, Trym.ntmps12
  go_wp2
  go_ret
  refine ⟨rfl, by simp, ?_, ?_, ?_⟩
  · exact ((((Below.refl _ _).alloc (Nat.le_refl _) _).alloc (by simp) _).alloc (by simp; omega) _).alloc (by simp; omega) _
  · have h := World.ownsMap_made (H := Unit) (w.alloc (.cells cs 91)) Trym.prog 3 fnElem
    simp only [World.size_alloc] at h
    exact (h.alloc _).alloc _
  · have r := World.rowIs_alloc (((w.alloc (Obj.cells cs 91)).alloc (Obj.map #[] 0)).alloc (Obj.map #[] 0)) #[Value.slice (some ⟨w.heap.size, 0, none⟩) n n, Value.slice (some ⟨pb, 0, none⟩) n n, Value.int IntKind.i64 nx, Value.int IntKind.i64 0, Value.slice (some ⟨gb, 0, none⟩) n n,
        Value.map (some (w.heap.size + 1)), Value.slice none 0 0, Value.map (some (w.heap.size + 1 + 1)), Value.int IntKind.i64 n, Value.nilIface, Value.int IntKind.i64 0, Value.int IntKind.i64 0, Value.int IntKind.i64 0, Value.int IntKind.i64 0, Value.int IntKind.i64 0, Value.string ⟨#[]⟩, Value.slice none 0 0] 55
        (fun i => (#[Value.slice (some ⟨w.heap.size, 0, none⟩) n n, Value.slice (some ⟨pb, 0, none⟩) n n, Value.int IntKind.i64 nx, Value.int IntKind.i64 0, Value.slice (some ⟨gb, 0, none⟩) n n,
        Value.map (some (w.heap.size + 1)), Value.slice none 0 0, Value.map (some (w.heap.size + 1 + 1)), Value.int IntKind.i64 n, Value.nilIface, Value.int IntKind.i64 0, Value.int IntKind.i64 0, Value.int IntKind.i64 0, Value.int IntKind.i64 0, Value.int IntKind.i64 0, Value.string ⟨#[]⟩, Value.slice none 0 0] : Array Value).getD i undef) (fun i hi => by simp only [Array.getD, hi]; simp)
    simp only [World.size_alloc] at r
    exact ⟨_, r, rfl, rfl, rfl, rfl, rfl⟩

/-- 'copy' of a slice of bools into a row of the call's own, of the same length. -/
theorem copy_bools (w : World) (g n c : Nat) (ao : Option Addr) (f : Nat → Value) (G : Nat → Bool) (hr : w.rowIs g 4 n f) (hs : Bs w ao n G) :
    ∃ w', (Builtin.copy_ #[22, 22] 3 #[.slice (some ⟨g, 0, none⟩) n n, .slice ao n c]).run Trym.prog w = .ok (.int .i64 (n : Int)) w' ∧ w'.rowIs g 4 n (fun i => .bool (G i)) ∧ w.grownBy w' (some g) ∧ w'.heap.size = w.heap.size := by
  rcases Nat.eq_zero_or_pos n with h0 | h0
  · subst h0
    refine ⟨w, run_copy_none (P := Trym.prog) w 22 22 3 4 (some ⟨g, 0, none⟩) ao 0 0 0 c Trym.underlying22 (by kernel_rfl) rfl, hr.congr (fun i hi => absurd hi (Nat.not_lt_zero _)), World.grownBy.refl _ _, rfl⟩
  · obtain ⟨b, off, rfl, hc⟩ := hs h0
    obtain ⟨cur, hg, hcs, _⟩ := hr
    have hl : ((List.range n).map (fun i => Value.bool (G i))).length = n := by simp
    have hrun := run_copy_row (P := Trym.prog) w 22 22 3 4 g 0 n n ⟨b, off, none⟩ n c cur 4 ((List.range n).map (fun i => Value.bool (G i))) Trym.underlying22 (by kernel_rfl) hg (by simp) (fun j v hv => by
      have hj : j < n := by have := (List.getElem?_eq_some_iff.1 hv).1; simpa using this
      rw [Addr.add_lit, hc j hj]
      simpa [hj] using hv) (by rw [hl, hcs]; omega) (fun v hv => by obtain ⟨i, _, rfl⟩ := List.mem_map.1 hv; rfl)
    rw [hl] at hrun
    refine ⟨_, hrun, ⟨_, setRow_heap w g cur _ 4 _ hg, ?_, fun i hi => ?_⟩, ⟨rfl, rfl, rfl, by simp [World.setRow], fun k _ hk => setRow_other w g k _ (fun e => hk (by rw [e]))⟩, by simp [World.setRow]⟩
    · simp [hcs]
    · have e : cur.toList.drop (0 + n) = [] := List.drop_eq_nil_of_le (by simp [hcs])
      rw [e]
      simp [hi]

/-- What buildSchedule has laid behind k steps. -/
structure Bld (w wr : World) (n k : Nat) (d : Nat → Bool) : Prop where
  size : wr.heap.size = w.heap.size + 3 + k
  below : Below w.heap.size w wr
  root : wr.rowIs w.heap.size 64 7 (pf none 0 0 0)
  dir : wr.rowIs (w.heap.size + 1) 64 7 (pf (some ⟨w.heap.size, 0, none⟩) 0 0 0)
  places : wr.rowIs (w.heap.size + 2) 25 n (fun i => if i < k then .pointer (some ⟨w.heap.size + 3 + i, 0, none⟩) else .pointer none)
  place : ∀ i, i < k → wr.rowIs (w.heap.size + 3 + i) 64 7 (pf (some ⟨if d i then w.heap.size + 1 else w.heap.size, 0, none⟩) 0 0 0)
theorem row_place (w : World) (up : Option Addr) : (w.alloc (.cells #[.pointer up, .int .i64 0, .int .i64 0, .int .i64 0, .int .i64 0, .int .i64 0, .int .i64 0] 64)).rowIs w.heap.size 64 7 (pf up 0 0 0) :=
  World.rowIs_alloc w _ 64 _ (fun i hi => by
    match i, hi with
    | 0, _ => rfl
    | 1, _ => rfl
    | 2, _ => rfl
    | 3, _ => rfl
    | 4, _ => rfl
    | 5, _ => rfl
    | 6, _ => rfl)
theorem Bld.step {w wr : World} {n k : Nat} {d : Nat → Bool} (h : Bld w wr n k d) (hk : k < n) (up : Nat) (hup : up = if d k then w.heap.size + 1 else w.heap.size) :
    Bld w ((wr.setCell ⟨w.heap.size + 2, k, none⟩ (.pointer (some ⟨wr.heap.size, 0, none⟩))).alloc (.cells #[.pointer (some ⟨up, 0, none⟩), .int .i64 0, .int .i64 0, .int .i64 0, .int .i64 0, .int .i64 0, .int .i64 0] 64)) n (k + 1) d := by
  have hs := h.size
  have hs2 : (wr.setCell ⟨w.heap.size + 2, k, none⟩ (.pointer (some ⟨wr.heap.size, 0, none⟩))).heap.size = wr.heap.size := by simp
  refine ⟨by simp; omega, (h.below.setCell (by show _ ≤ w.heap.size + 2; omega) _).alloc (by rw [hs2]; omega) _, (h.root.setOther (by show w.heap.size ≠ w.heap.size + 2; omega) _).alloc _, (h.dir.setOther (by show w.heap.size + 1 ≠ w.heap.size + 2; omega) _).alloc _, ?_, fun i hi => ?_⟩
  · refine ((h.places.set k _).alloc _).congr (fun j hj => ?_)
    by_cases e : j = k
    · subst e; rw [if_pos rfl, if_pos (by omega), hs]
    · rw [if_neg e]
      by_cases e2 : j < k
      · rw [if_pos e2, if_pos (by omega)]
      · rw [if_neg e2, if_neg (by omega)]
  · by_cases e : i = k
    · subst e
      have r := row_place (wr.setCell ⟨w.heap.size + 2, i, none⟩ (.pointer (some ⟨wr.heap.size, 0, none⟩))) (some ⟨up, 0, none⟩)
      rw [hs2, hs] at r
      rw [← hup]; rw [hs]; exact r
    · exact ((h.place i (by omega)).setOther (by show w.heap.size + 3 + i ≠ w.heap.size + 2; omega) _).alloc _
theorem Bld.start (w : World) (n : Nat) (d : Nat → Bool) :
    Bld w (((w.alloc (.cells #[.pointer none, .int .i64 0, .int .i64 0, .int .i64 0, .int .i64 0, .int .i64 0, .int .i64 0] 64)).alloc (.cells #[.pointer (some ⟨w.heap.size, 0, none⟩), .int .i64 0, .int .i64 0, .int .i64 0, .int .i64 0, .int .i64 0, .int .i64 0] 64)).alloc (.cells (madeCells #[.pointer none] n) 25)) n 0 d := by
  refine ⟨by simp, (((Below.refl _ _).alloc (Nat.le_refl _) _).alloc (by simp) _).alloc (by simp; omega) _, ((row_place w none).alloc _).alloc _, ?_, ?_, fun i hi => absurd hi (Nat.not_lt_zero _)⟩
  · have r := row_place (w.alloc (.cells #[.pointer none, .int .i64 0, .int .i64 0, .int .i64 0, .int .i64 0, .int .i64 0, .int .i64 0] 64)) (some ⟨w.heap.size, 0, none⟩)
    simp only [World.size_alloc] at r
    exact r.alloc _
  · have r := World.rowIs_made ((w.alloc (.cells #[.pointer none, .int .i64 0, .int .i64 0, .int .i64 0, .int .i64 0, .int .i64 0, .int .i64 0] 64)).alloc (.cells #[.pointer (some ⟨w.heap.size, 0, none⟩), .int .i64 0, .int .i64 0, .int .i64 0, .int .i64 0, .int .i64 0, .int .i64 0] 64)) (.pointer none) n 25
    simp only [World.size_alloc] at r
    exact r.congr (fun i _ => by simp)

set_option maxRecDepth 10000 in
set_option maxHeartbeats 1600000 in
theorem build_any (ga da : Option Addr) (n gc dc nx : Nat) (G d : Nat → Bool) (w : World) (hn : n ≤ 65536) (hG : Bs w ga n G) (hd : Bs w da n d) :
    Calls Trym.prog 6 #[.slice ga n gc, .slice da n dc, .int .i64 nx] w fun e w' => e = .returned (.tuple #[.pointer (some ⟨w.heap.size + 7 + n, 0, none⟩), .pointer (some ⟨w.heap.size, 0, none⟩), .pointer (some ⟨w.heap.size + 1, 0, none⟩), .slice (some ⟨w.heap.size + 2, 0, none⟩) n n]) ∧
      Sch w' w.heap.size n d G (fun _ => false) nx ∧ w'.heap.size = w.heap.size + 8 + n ∧ Below w.heap.size w w' := by
  have hmk26 := run_make_row' (P := Trym.prog) 26 25 (.pointer none) 8 Trym.underlying26 info25 rfl .i64 .i64 n (by omega) (by omega)
  have hmk22 := run_make_row' (P := Trym.prog) 22 4 (.bool false) 1 Trym.underlying22 info4 rfl .i64 .i64 n (by omega) (by omega)
  have HG : Hid (Bs w ga n G) := hG
  have HD : Hid (Bs w da n d) := hd
  clear hG hd
  go_enter Trym.func6, Trym.ntmps6
  go_wp2_with (go_at_call 11; refine (newplace_any _ _).mono ?_; rintro e w' ⟨rfl, rfl⟩)
  have HS : Hid _ := Bld.start w n d
  go_loopw [13] (fun i wr => ∃ k : Nat, k ≤ n ∧ i = .int .i64 k ∧ Bld w wr n k d) (fun i _ => n - (intOf i).toNat)
  case atStart => exact ⟨0, Nat.zero_le _, rfl, HS.out⟩
  case round =>
    obtain ⟨k, hk, rfl, hB⟩ := hrel
    have hsz := hB.size
    by_cases hlt : k < n
    · obtain ⟨b, off, rfl, hc⟩ := HD.out (by omega)
      have hbb : b < w.heap.size := World.block_lt_of_cell? w ⟨b, off + 0, none⟩ (hc 0 (by omega))
      have g1 : wr.cell? ⟨b, off + k, none⟩ = some (.bool (d k)) := (hB.below.cell (by exact hbb)).trans (hc k hlt)
      have hkb : (0 : Int) ≤ (k : Int) := by omega
      have hkn : (k : Int) < (n : Int) := by omega
      obtain ⟨u, o1, f1⟩ : ∃ u, wr.cell? ⟨w.heap.size + 1 + 1, k, none⟩ = some u ∧ wr.frozen? ⟨w.heap.size + 1 + 1, k, none⟩ = false := ⟨_, hB.places.cell hlt, hB.places.frozen k⟩
      have HB : Hid (Bld w wr n k d) := hB
      clear hc hB hmk26 hmk22
      have HSZ : Hid (wr.heap.size = w.heap.size + 3 + k) := hsz
      have hlt2 : w.heap.size + 1 + 1 < wr.heap.size := by omega
      clear hsz
      cases hdk : d k with
      | true =>
        rw [hdk] at g1
        have HST : Hid _ := HB.out.step hlt (w.heap.size + 1) (by rw [hdk]; rfl)
        clear hdk
        go_wp2_with (go_at_call 11; refine (newplace_any _ _).mono ?_; rintro e w' ⟨rfl, rfl⟩)
        go_roundw
        case rel => exact ⟨k + 1, by omega, by go_num, HST.out⟩
        case measure => simp [intOf]; omega
      | false =>
        rw [hdk] at g1
        have HST : Hid _ := HB.out.step hlt w.heap.size (by rw [hdk]; rfl)
        clear hdk
        go_wp2_with (go_at_call 11; refine (newplace_any _ _).mono ?_; rintro e w' ⟨rfl, rfl⟩)
        go_roundw
        case rel => exact ⟨k + 1, by omega, by go_num, HST.out⟩
        case measure => simp [intOf]; omega
    · obtain rfl : k = n := by omega
      have r1 := World.rowIs_made wr (.bool false) k 4
      rw [hsz] at r1
      have hb1 : Below w.heap.size w (wr.alloc (.cells (madeCells #[.bool false] k) 4)) := hB.below.alloc (by omega) _
      obtain ⟨w2, hcp, r2, hg2, hs2⟩ := copy_bools (wr.alloc (.cells (madeCells #[.bool false] k) 4)) (w.heap.size + 3 + k) k gc ga _ G r1 (fun h0 => by
        obtain ⟨b, off, rfl, hc⟩ := HG.out h0
        have hbb : b < w.heap.size := World.block_lt_of_cell? w ⟨b, off + 0, none⟩ (hc 0 h0)
        exact ⟨b, off, rfl, fun i hi => (hb1.cell (by exact hbb)).trans (hc i hi)⟩)
      have hz2 : w2.heap.size = w.heap.size + 4 + k := by rw [hs2]; simp; omega
      have hkeep : ∀ j, j < w.heap.size + 3 + k → w2.heap[j]? = wr.heap[j]? := fun j hj => by
        rw [hg2.block j (by simp; omega) (by simp; omega)]; exact Below.heap_alloc _ _ _ (by omega)
      have hb2 : Below w.heap.size w w2 := hb1.grown hg2 (by simp; omega) (by intro j hj; simp at hj; omega)
      have HB : Hid (Bld w wr k k d) := hB
      have HN := newsched_any (w.heap.size + 1 + 1) (w.heap.size + 3 + k) k nx (w.heap.size + 4 + k) (w.heap.size + 5 + k) (w.heap.size + 7 + k) w2 hn hz2 (by omega) (by omega)
      have HNN : Hid (Calls Trym.prog 12 #[.slice (some ⟨w.heap.size + 1 + 1, 0, none⟩) k k, .int .i64 nx, .slice (some ⟨w.heap.size + 3 + k, 0, none⟩) k k] w2 fun e w' => e = .returned (.pointer (some ⟨w.heap.size + 7 + k, 0, none⟩)) ∧ Sch w' w.heap.size k d G (fun _ => false) nx ∧ w'.heap.size = w.heap.size + 8 + k ∧ Below w.heap.size w w') := by
        refine HN.mono fun e w' ⟨h1, h2, h3, h4, f, h5, h6⟩ => ⟨h1, ?_, by omega, hb2.trans (h3.mono hb2.size)⟩
        have hkeep' : ∀ j, j < w.heap.size + 3 + k → w'.heap[j]? = wr.heap[j]? := fun j hj => (h3.block j (by omega)).trans (hkeep j hj)
        have z : ∀ p : Nat → Bool, cnt (fun j => false && p j) k = 0 := fun p => by
          have : ∀ m, cnt (fun j => false && p j) m = 0 := fun m => by
            induction m with
            | zero => rfl
            | succ m ih => rw [cnt, ih]; rfl
          exact this k
        have z0 : cnt (fun _ => false) k = 0 := by have := z (fun _ => true); simpa using this
        refine ⟨.map [], ?_, fun j _ => rfl, by rw [z0]; rfl⟩
        rw [z, z, z0]
        exact ⟨by omega, HB.out.root.of_block (hkeep' _ (by omega)), HB.out.dir.of_block (hkeep' _ (by omega)), (HB.out.places.of_block (hkeep' _ (by omega))).congr (fun i hi => by rw [if_pos hi]), fun i hi => (HB.out.place i hi).of_block (hkeep' _ (by omega)), r2.of_block (h3.block _ (by omega)), h4, ⟨f, h5, h6⟩⟩
      clear HN hkeep hb1 hb2 r1 r2 hg2 hB HB HS HG HD
      go_wp2_with fail
      refine Calls.mono HNN.out ?_
      rintro e w3 ⟨rfl, hq⟩
      have HQ : Hid _ := hq
      clear hq
      go_wp2_with fail
      refine bodyPost_ret (v := .tuple #[.pointer (some ⟨w.heap.size + 7 + k, 0, none⟩), .pointer (some ⟨w.heap.size, 0, none⟩), .pointer (some ⟨w.heap.size + 1, 0, none⟩), .slice (some ⟨w.heap.size + 2, 0, none⟩) k k]) (by simp [results, Trym.results6, go_sem]) rfl ⟨rfl, HQ.out⟩
end Go.Proofs.Qxb6618524aMods
