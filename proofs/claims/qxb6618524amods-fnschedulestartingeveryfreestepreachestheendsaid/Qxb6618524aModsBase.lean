/-
  THE VIEW OF MEMORY that the walks of this seat share: the blocks that buildSchedule lays, from block N on, and what they hold.
-/
import Derived.Test.Qxb6618524aModsRows
import Derived.WalkKit
import Derived.WalkSpells
import Derived.Deep.QuietTactic
import Derived.BigQuiet
import Derived.Handy
import Derived.Deep.OwnRows
import Derived.Laws.CopyOwn
import Derived.Maps.OwnSet
import Derived.Laws.EntriesVeiled
namespace Go.Proofs.Qxb6618524aMods
open Go.RowKit

/-- A slice of bools that came in (nothing is said where n is 0). -/
def Bs (w : World) (ao : Option Addr) (n : Nat) (G : Nat → Bool) : Prop :=
  0 < n → ∃ b off, ao = some ⟨b, off, none⟩ ∧ ∀ i, i < n → w.cell? ⟨b, off + i, none⟩ = some (.bool (G i))
theorem Bs.below {w w' : World} {ao : Option Addr} {n : Nat} {G : Nat → Bool} (h : Bs w ao n G) (hb : Below w.heap.size w w') : Bs w' ao n G := by
  intro hn
  obtain ⟨b, off, rfl, hc⟩ := h hn
  have hbb : b < w.heap.size := World.block_lt_of_cell? w ⟨b, off + 0, none⟩ (hc 0 hn)
  exact ⟨b, off, rfl, fun i hi => (hb.cell (by exact hbb)).trans (hc i hi)⟩

/-- How many of the first n are true. -/
def cnt (f : Nat → Bool) : Nat → Nat
  | 0 => 0
  | k + 1 => cnt f k + (f k).toNat
theorem cnt_le (f : Nat → Bool) (n : Nat) : cnt f n ≤ n := by
  induction n with
  | zero => exact Nat.le_refl _
  | succ n ih => have : (f n).toNat ≤ 1 := by cases f n <;> decide
                 rw [cnt]; omega
theorem cnt_congr {f g : Nat → Bool} {n : Nat} (h : ∀ k, k < n → f k = g k) : cnt f n = cnt g n := by
  induction n with
  | zero => rfl
  | succ n ih => rw [cnt, cnt, ih (fun k hk => h k (by omega)), h n (by omega)]
/-- One index turned to true. -/
def upd (f : Nat → Bool) (i : Nat) : Nat → Bool := fun k => if k = i then true else f k
theorem upd_same (f : Nat → Bool) (i : Nat) : upd f i i = true := by simp [upd]
theorem upd_other (f : Nat → Bool) {i k : Nat} (h : k ≠ i) : upd f i k = f k := by simp [upd, h]
theorem cnt_and_upd {f d : Nat → Bool} {i n : Nat} (hi : i < n) (hf : f i = false) : cnt (fun k => upd f i k && d k) n = cnt (fun k => f k && d k) n + (d i).toNat := by
  induction n with
  | zero => omega
  | succ n ih =>
    rw [cnt, cnt]
    by_cases e : i = n
    · subst e
      have h1 : cnt (fun k => upd f i k && d k) i = cnt (fun k => f k && d k) i := cnt_congr (fun k hk => by show (upd f i k && d k) = _; rw [upd_other f (by omega)])
      rw [h1]; simp [upd, hf]
    · rw [ih (by omega)]
      have : upd f i n = f n := upd_other f (by omega)
      simp only [this]; omega
theorem cnt_upd {f : Nat → Bool} {i n : Nat} (hi : i < n) (hf : f i = false) : cnt (upd f i) n = cnt f n + 1 := by
  have h := cnt_and_upd (d := fun _ => true) hi hf
  simpa using h

/-- A place's cells. -/
def pf (up : Option Addr) (a i l : Nat) : Nat → Value
  | 0 => .pointer up
  | 1 => .int .i64 (a : Int)
  | 2 => .int .i64 (i : Int)
  | 3 => .int .i64 (l : Int)
  | _ => .int .i64 0
/-- An element of the map 'under' is a function: it is not looked into. -/
def fnElem : Value → Option (DataW Unit × List MemPlace) := fun _ => some (.nil, [])
/-- The schedule's cells that are read. -/
def Sf (N n nx : Nat) (f : Nat → Value) : Prop :=
  f 0 = .slice (some ⟨N + 4 + n, 0, none⟩) n n ∧ f 1 = .slice (some ⟨N + 2, 0, none⟩) n n ∧ f 2 = .int .i64 (nx : Int) ∧ f 4 = .slice (some ⟨N + 3 + n, 0, none⟩) n n ∧ f 5 = .map (some (N + 5 + n))

/-- The schedule of n steps that lies from block N on, cell by cell: d: which steps lie in the directory; G: which are given; A: what each place counts at itself; ir, br: what the root counts in and below it; jd: the directory (both counts); D: what the map 'under' reads as, m: at most how many it holds; nx: the next. -/
structure Sx (w : World) (N n : Nat) (d G : Nat → Bool) (A : Nat → Nat) (ir br jd : Nat) (D : DataW Unit) (m nx : Nat) : Prop where
  size : N + 8 + n ≤ w.heap.size
  root : w.rowIs N 64 7 (pf none 0 ir br)
  dir : w.rowIs (N + 1) 64 7 (pf (some ⟨N, 0, none⟩) 0 jd jd)
  places : w.rowIs (N + 2) 25 n (fun i => .pointer (some ⟨N + 3 + i, 0, none⟩))
  place : ∀ i, i < n → w.rowIs (N + 3 + i) 64 7 (pf (some ⟨if d i then N + 1 else N, 0, none⟩) (A i) 0 0)
  given : w.rowIs (N + 3 + n) 4 n (fun i => .bool (G i))
  under : w.ownsMap Trym.prog 3 fnElem (N + 5 + n) m D
  sched : ∃ f, w.rowIs (N + 7 + n) 55 17 f ∧ Sf N n nx f
/-- .. where st says which steps are started. -/
def Sch (w : World) (N n : Nat) (d G st : Nat → Bool) (nx : Nat) : Prop :=
  ∃ D, Sx w N n d G (fun i => (st i).toNat) (cnt (fun k => st k && !d k) n) (cnt st n) (cnt (fun k => st k && d k) n) D (cnt st n) nx ∧ (∀ k : Nat, k < n → Maps.has D (.int .i64 (k : Int)) = st k) ∧ Maps.size D = cnt st n

/-- Outside the blocks from N to M the world is as it was. -/
structure Only (N M : Nat) (w w' : World) : Prop where
  os : w'.os = w.os
  tape : w'.tape = w.tape
  output : w'.output = w.output
  size : w.heap.size ≤ w'.heap.size
  block : ∀ k, k < w.heap.size → (k < N ∨ M ≤ k) → w'.heap[k]? = w.heap[k]?
theorem Only.refl (N M : Nat) (w : World) : Only N M w w := ⟨rfl, rfl, rfl, Nat.le_refl _, fun _ _ _ => rfl⟩
theorem Only.trans {N M : Nat} {a b c : World} (h : Only N M a b) (k : Only N M b c) : Only N M a c :=
  ⟨k.os.trans h.os, k.tape.trans h.tape, k.output.trans h.output, Nat.le_trans h.size k.size, fun i hi ho => (k.block i (Nat.lt_of_lt_of_le hi h.size) ho).trans (h.block i hi ho)⟩
theorem Only.setCell {N M : Nat} {a w : World} (h : Only N M a w) {p : Addr} (h1 : N ≤ p.block) (h2 : p.block < M) (u : Value) : Only N M a (w.setCell p u) :=
  h.trans ⟨rfl, rfl, rfl, by simp [World.setCell], fun k _ ho => Below.heap_setCell _ _ _ _ (by omega)⟩
theorem Only.alloc {N M : Nat} {a w : World} (h : Only N M a w) (o : Obj) : Only N M a (w.alloc o) :=
  h.trans ⟨rfl, rfl, rfl, by simp, fun k hk _ => Below.heap_alloc _ _ _ hk⟩
theorem Only.drew {N M : Nat} {a w : World} (h : Only N M a w) : Only N M a w.drew := ⟨h.os, h.tape, h.output, h.size, h.block⟩
theorem Only.below {N M : Nat} {w w' : World} (h : Only N M w w') (hN : N ≤ w.heap.size) : Below N w w' := ⟨h.os, h.tape, h.output, h.size, fun k hk => h.block k (by omega) (.inl hk)⟩
theorem Only.cell {N M : Nat} {w w' : World} (h : Only N M w w') {a : Addr} (h1 : a.block < w.heap.size) (h2 : a.block < N ∨ M ≤ a.block) : w'.cell? a = w.cell? a := World.cell?_of_block (w := w) (h.block _ h1 h2)
theorem Only.row {N M : Nat} {w w' : World} (h : Only N M w w') {b : Nat} {t : TypeId} {n : Nat} {f : Nat → Value} (hr : w.rowIs b t n f) (h2 : b < N ∨ M ≤ b) : w'.rowIs b t n f := hr.of_block (h.block _ hr.lt h2)

/-- The schedule stays as it is where its blocks do. -/
theorem Sx.kept {w w' : World} {N n : Nat} {d G : Nat → Bool} {A : Nat → Nat} {ir br jd : Nat} {D : DataW Unit} {m nx : Nat} (h : Sx w N n d G A ir br jd D m nx) (hs : w.heap.size ≤ w'.heap.size) (hb : ∀ k, N ≤ k → k < N + 8 + n → w'.heap[k]? = w.heap[k]?) : Sx w' N n d G A ir br jd D m nx := by
  obtain ⟨h1, h2, h3, h4, h5, h6, hD, ⟨f, hf, hf2⟩⟩ := h
  refine ⟨by omega, h2.of_block (hb _ (by omega) (by omega)), h3.of_block (hb _ (by omega) (by omega)), h4.of_block (hb _ (by omega) (by omega)), fun i hi => (h5 i hi).of_block (hb _ (by omega) (by omega)), h6.of_block (hb _ (by omega) (by omega)), ?_, ⟨f, hf.of_block (hb _ (by omega) (by omega)), hf2⟩⟩
  obtain ⟨es, clock, e1, e2⟩ := hD
  exact ⟨es, clock, (hb _ (by omega) (by omega)).trans e1, e2⟩
theorem Sx.drewN {w : World} {N n : Nat} {d G : Nat → Bool} {A : Nat → Nat} {ir br jd : Nat} {D : DataW Unit} {m nx : Nat} (h : Sx w N n d G A ir br jd D m nx) (q : Nat) : Sx (w.drewN q) N n d G A ir br jd D m nx := h.kept (Nat.le_refl _) (fun _ _ _ => rfl)
theorem Sx.drew {w : World} {N n : Nat} {d G : Nat → Bool} {A : Nat → Nat} {ir br jd : Nat} {D : DataW Unit} {m nx : Nat} (h : Sx w N n d G A ir br jd D m nx) : Sx w.drew N n d G A ir br jd D m nx := h.kept (Nat.le_refl _) (fun _ _ _ => rfl)
theorem Sx.alloc {w : World} {N n : Nat} {d G : Nat → Bool} {A : Nat → Nat} {ir br jd : Nat} {D : DataW Unit} {m nx : Nat} (h : Sx w N n d G A ir br jd D m nx) (o : Obj) : Sx (w.alloc o) N n d G A ir br jd D m nx :=
  h.kept (by simp) (fun k _ h2 => Below.heap_alloc _ _ _ (by have := h.size; omega))
theorem Sch.kept {w w' : World} {N n : Nat} {d G st : Nat → Bool} {nx : Nat} (h : Sch w N n d G st nx) (hs : w.heap.size ≤ w'.heap.size) (hb : ∀ k, N ≤ k → k < N + 8 + n → w'.heap[k]? = w.heap[k]?) : Sch w' N n d G st nx := by
  obtain ⟨D, h1, h2⟩ := h
  exact ⟨D, h1.kept hs hb, h2⟩
theorem Sch.size {w : World} {N n : Nat} {d G st : Nat → Bool} {nx : Nat} (h : Sch w N n d G st nx) : N + 8 + n ≤ w.heap.size := by
  obtain ⟨D, h1, h2⟩ := h
  exact h1.size
theorem Sch.only {w w' : World} {N n N' M' : Nat} {d G st : Nat → Bool} {nx : Nat} (h : Sch w N n d G st nx) (ho : Only N' M' w w') (hd : N + 8 + n ≤ N' ∨ M' ≤ N) : Sch w' N n d G st nx :=
  h.kept ho.size (fun k h1 h2 => ho.block k (by have := h.size; omega) (by omega))
theorem Sch.below {w w' : World} {N n : Nat} {d G st : Nat → Bool} {nx : Nat} (h : Sch w N n d G st nx) (hb : Below w.heap.size w w') : Sch w' N n d G st nx :=
  h.kept hb.size (fun k _ h2 => hb.block k (by have := h.size; omega))

/-! What each step of 'start' does. -/
section
variable {w : World} {N n : Nat} {d G : Nat → Bool} {A : Nat → Nat} {ir br jd : Nat} {D : DataW Unit} {m nx : Nat}
theorem Sx.put {w' : World} {D' : DataW Unit} (h : Sx w N n d G A ir br jd D m nx) (h1 : w'.ownsMap Trym.prog 3 fnElem (N + 5 + n) (m + 1) D') (h2 : w.grownBy w' (some (N + 5 + n))) : Sx w' N n d G A ir br jd D' (m + 1) nx ∧ Only N (N + 8 + n) w w' := by
  have hb : ∀ k, k < w.heap.size → ¬ k = N + 5 + n → w'.heap[k]? = w.heap[k]? := fun k h3 h4 => h2.block k h3 (fun e => h4 (by simpa using e))
  have hsz := h.size
  obtain ⟨f, hf, hf2⟩ := h.sched
  exact ⟨⟨Nat.le_trans hsz h2.size, h.root.of_block (hb _ (by omega) (by omega)), h.dir.of_block (hb _ (by omega) (by omega)), h.places.of_block (hb _ (by omega) (by omega)), fun i hi => (h.place i hi).of_block (hb _ (by omega) (by omega)), h.given.of_block (hb _ (by omega) (by omega)), h1, ⟨f, hf.of_block (hb _ (by omega) (by omega)), hf2⟩⟩,
    ⟨h2.os, h2.tape, h2.output, h2.size, fun k h3 h4 => hb k h3 (by omega)⟩⟩
theorem Sx.add_root (h : Sx w N n d G A ir br jd D m nx) {i : Nat} (hi : i < n) (hd : d i = false) :
    Sx (((w.setCell ⟨N + 3 + i, 1, none⟩ (.int .i64 ((A i : Int) + 1))).setCell ⟨N, 2, none⟩ (.int .i64 ((ir : Int) + 1))).setCell ⟨N, 3, none⟩ (.int .i64 ((br : Int) + 1))) N n d G (fun k => if k = i then A i + 1 else A k) (ir + 1) (br + 1) jd D m nx ∧
    Only N (N + 8 + n) w (((w.setCell ⟨N + 3 + i, 1, none⟩ (.int .i64 ((A i : Int) + 1))).setCell ⟨N, 2, none⟩ (.int .i64 ((ir : Int) + 1))).setCell ⟨N, 3, none⟩ (.int .i64 ((br : Int) + 1))) := by
  have hsz := h.size
  obtain ⟨f, hf, hf2⟩ := h.sched
  refine ⟨⟨by simpa using hsz, ?_, ?_, ?_, fun k hk => ?_, ?_, ?_, ⟨f, ?_, hf2⟩⟩, (((Only.refl _ _ _).setCell (by show N ≤ N + 3 + i; omega) (by show N + 3 + i < _; omega) _).setCell (by show N ≤ N; omega) (by show N < _; omega) _).setCell (by show N ≤ N; omega) (by show N < _; omega) _⟩
  · refine ((((h.root.setOther (by show N ≠ N + 3 + i; omega) _).set 2 _).set 3 _)).congr (fun j hj => ?_)
    match j, hj with
    | 0, _ => rfl
    | 1, _ => rfl
    | 2, _ => rfl
    | 3, _ => rfl
    | 4, _ => rfl
    | 5, _ => rfl
    | 6, _ => rfl
  · exact ((h.dir.setOther (by show N + 1 ≠ N + 3 + i; omega) _).setOther (by show N + 1 ≠ N; omega) _).setOther (by show N + 1 ≠ N; omega) _
  · exact ((h.places.setOther (by show N + 2 ≠ N + 3 + i; omega) _).setOther (by show N + 2 ≠ N; omega) _).setOther (by show N + 2 ≠ N; omega) _
  · by_cases e : k = i
    · subst e
      refine ((((h.place k hk).set 1 _).setOther (by show N + 3 + k ≠ N; omega) _).setOther (by show N + 3 + k ≠ N; omega) _).congr (fun j hj => ?_)
      match j, hj with
      | 0, _ => rfl
      | 1, _ => simp [pf]
      | 2, _ => rfl
      | 3, _ => rfl
      | 4, _ => rfl
      | 5, _ => rfl
      | 6, _ => rfl
    · rw [if_neg e]
      exact (((h.place k hk).setOther (by show N + 3 + k ≠ N + 3 + i; omega) _).setOther (by show N + 3 + k ≠ N; omega) _).setOther (by show N + 3 + k ≠ N; omega) _
  · exact ((h.given.setOther (by show N + 3 + n ≠ N + 3 + i; omega) _).setOther (by show N + 3 + n ≠ N; omega) _).setOther (by show N + 3 + n ≠ N; omega) _
  · exact ((h.under.setCell (by show N + 5 + n ≠ N + 3 + i; omega) _).setCell (by show N + 5 + n ≠ N; omega) _).setCell (by show N + 5 + n ≠ N; omega) _
  · exact ((hf.setOther (by show N + 7 + n ≠ N + 3 + i; omega) _).setOther (by show N + 7 + n ≠ N; omega) _).setOther (by show N + 7 + n ≠ N; omega) _
theorem Sx.add_dir (h : Sx w N n d G A ir br jd D m nx) {i : Nat} (hi : i < n) (hd : d i = true) :
    Sx ((((w.setCell ⟨N + 3 + i, 1, none⟩ (.int .i64 ((A i : Int) + 1))).setCell ⟨N + 1, 2, none⟩ (.int .i64 ((jd : Int) + 1))).setCell ⟨N + 1, 3, none⟩ (.int .i64 ((jd : Int) + 1))).setCell ⟨N, 3, none⟩ (.int .i64 ((br : Int) + 1))) N n d G (fun k => if k = i then A i + 1 else A k) ir (br + 1) (jd + 1) D m nx ∧
    Only N (N + 8 + n) w ((((w.setCell ⟨N + 3 + i, 1, none⟩ (.int .i64 ((A i : Int) + 1))).setCell ⟨N + 1, 2, none⟩ (.int .i64 ((jd : Int) + 1))).setCell ⟨N + 1, 3, none⟩ (.int .i64 ((jd : Int) + 1))).setCell ⟨N, 3, none⟩ (.int .i64 ((br : Int) + 1))) := by
  have hsz := h.size
  obtain ⟨f, hf, hf2⟩ := h.sched
  refine ⟨⟨by simpa using hsz, ?_, ?_, ?_, fun k hk => ?_, ?_, ?_, ⟨f, ?_, hf2⟩⟩, ((((Only.refl _ _ _).setCell (by show N ≤ N + 3 + i; omega) (by show N + 3 + i < _; omega) _).setCell (by show N ≤ N + 1; omega) (by show N + 1 < _; omega) _).setCell (by show N ≤ N + 1; omega) (by show N + 1 < _; omega) _).setCell (by show N ≤ N; omega) (by show N < _; omega) _⟩
  · refine ((((h.root.setOther (by show N ≠ N + 3 + i; omega) _).setOther (by show N ≠ N + 1; omega) _).setOther (by show N ≠ N + 1; omega) _).set 3 _).congr (fun j hj => ?_)
    match j, hj with
    | 0, _ => rfl
    | 1, _ => rfl
    | 2, _ => rfl
    | 3, _ => rfl
    | 4, _ => rfl
    | 5, _ => rfl
    | 6, _ => rfl
  · refine ((((h.dir.setOther (by show N + 1 ≠ N + 3 + i; omega) _).set 2 _).set 3 _).setOther (by show N + 1 ≠ N; omega) _).congr (fun j hj => ?_)
    match j, hj with
    | 0, _ => rfl
    | 1, _ => rfl
    | 2, _ => rfl
    | 3, _ => rfl
    | 4, _ => rfl
    | 5, _ => rfl
    | 6, _ => rfl
  · exact (((h.places.setOther (by show N + 2 ≠ N + 3 + i; omega) _).setOther (by show N + 2 ≠ N + 1; omega) _).setOther (by show N + 2 ≠ N + 1; omega) _).setOther (by show N + 2 ≠ N; omega) _
  · by_cases e : k = i
    · subst e
      refine (((((h.place k hk).set 1 _).setOther (by show N + 3 + k ≠ N + 1; omega) _).setOther (by show N + 3 + k ≠ N + 1; omega) _).setOther (by show N + 3 + k ≠ N; omega) _).congr (fun j hj => ?_)
      match j, hj with
      | 0, _ => rfl
      | 1, _ => simp [pf]
      | 2, _ => rfl
      | 3, _ => rfl
      | 4, _ => rfl
      | 5, _ => rfl
      | 6, _ => rfl
    · rw [if_neg e]
      exact ((((h.place k hk).setOther (by show N + 3 + k ≠ N + 3 + i; omega) _).setOther (by show N + 3 + k ≠ N + 1; omega) _).setOther (by show N + 3 + k ≠ N + 1; omega) _).setOther (by show N + 3 + k ≠ N; omega) _
  · exact (((h.given.setOther (by show N + 3 + n ≠ N + 3 + i; omega) _).setOther (by show N + 3 + n ≠ N + 1; omega) _).setOther (by show N + 3 + n ≠ N + 1; omega) _).setOther (by show N + 3 + n ≠ N; omega) _
  · exact (((h.under.setCell (by show N + 5 + n ≠ N + 3 + i; omega) _).setCell (by show N + 5 + n ≠ N + 1; omega) _).setCell (by show N + 5 + n ≠ N + 1; omega) _).setCell (by show N + 5 + n ≠ N; omega) _
  · exact (((hf.setOther (by show N + 7 + n ≠ N + 3 + i; omega) _).setOther (by show N + 7 + n ≠ N + 1; omega) _).setOther (by show N + 7 + n ≠ N + 1; omega) _).setOther (by show N + 7 + n ≠ N; omega) _
theorem Sx.give (h : Sx w N n d G A ir br jd D m nx) {i : Nat} (hi : i < n) :
    Sx (w.setCell ⟨N + 3 + n, i, none⟩ (.bool true)) N n d (upd G i) A ir br jd D m nx ∧ Only N (N + 8 + n) w (w.setCell ⟨N + 3 + n, i, none⟩ (.bool true)) := by
  have hsz := h.size
  obtain ⟨f, hf, hf2⟩ := h.sched
  refine ⟨⟨by simpa using hsz, h.root.setOther (by show N ≠ N + 3 + n; omega) _, h.dir.setOther (by show N + 1 ≠ N + 3 + n; omega) _, h.places.setOther (by show N + 2 ≠ N + 3 + n; omega) _, fun k hk => (h.place k hk).setOther (by show N + 3 + k ≠ N + 3 + n; omega) _, ?_, h.under.setCell (by show N + 5 + n ≠ N + 3 + n; omega) _, ⟨f, hf.setOther (by show N + 7 + n ≠ N + 3 + n; omega) _, hf2⟩⟩,
    (Only.refl _ _ _).setCell (by show N ≤ N + 3 + n; omega) (by show N + 3 + n < _; omega) _⟩
  refine (h.given.set i _).congr (fun j hj => ?_)
  unfold upd; split <;> rfl
theorem Sx.step (h : Sx w N n d G A ir br jd D m nx) :
    Sx (w.setCell ⟨N + 7 + n, 2, none⟩ (.int .i64 ((nx : Int) + 1))) N n d G A ir br jd D m (nx + 1) ∧ Only N (N + 8 + n) w (w.setCell ⟨N + 7 + n, 2, none⟩ (.int .i64 ((nx : Int) + 1))) := by
  have hsz := h.size
  obtain ⟨f, hf, e0, e1, e2, e4, e5⟩ := h.sched
  exact ⟨⟨by simpa using hsz, h.root.setOther (by show N ≠ N + 7 + n; omega) _, h.dir.setOther (by show N + 1 ≠ N + 7 + n; omega) _, h.places.setOther (by show N + 2 ≠ N + 7 + n; omega) _, fun k hk => (h.place k hk).setOther (by show N + 3 + k ≠ N + 7 + n; omega) _, h.given.setOther (by show N + 3 + n ≠ N + 7 + n; omega) _, h.under.setCell (by show N + 5 + n ≠ N + 7 + n; omega) _, ⟨_, hf.set 2 _, e0, e1, rfl, e4, e5⟩⟩,
    (Only.refl _ _ _).setCell (by show N ≤ N + 7 + n; omega) (by show N + 7 + n < _; omega) _⟩
end

theorem info91 : ((Trym.prog.info? 91).map (fun i => (i.zero.isSome, decide (i.bytes ≤ 1000)))) = some (true, true) := by kernel_rfl
theorem info4 : (Trym.prog.info? 4).map (fun i => (i.zero, i.size, i.bytes)) = some (some (.bool false), 1, 1) := by kernel_rfl
theorem info25 : (Trym.prog.info? 25).map (fun i => (i.zero, i.size, i.bytes)) = some (some (.pointer none), 1, 8) := by kernel_rfl
theorem make_steps (n : Nat) (hn : n ≤ 65536) : ∃ cs : Array Value, ∀ w : World, (Instr.makeSlice 42 (.int .i64 (n : Int)) (.int .i64 (n : Int))).run Trym.prog w = .ok (.slice (some ⟨w.heap.size, 0, none⟩) n n) (w.alloc (.cells cs 91)) := by
  obtain ⟨i, hi, hzz⟩ := Option.map_eq_some_iff.1 info91
  simp only [Prod.mk.injEq, decide_eq_true_eq] at hzz
  obtain ⟨z, hz⟩ := Option.isSome_iff_exists.1 hzz.1
  have hb : i.bytes ≤ 1000 := hzz.2
  refine ⟨madeCells z.cells (n * i.size), fun w => ?_⟩
  have hb2 : i.bytes * n ≤ 1000 * 65536 := Nat.mul_le_mul hb hn
  have hb3 : (i.bytes : Int) * (n : Int) ≤ 281474976710656 := by
    have h : ((i.bytes * n : Nat) : Int) ≤ 281474976710656 := by omega
    rwa [Int.natCast_mul] at h
  have hr := run_make (P := Trym.prog) w 42 91 i z Trym.underlying42 hi hz .i64 .i64 n n (by omega) (Int.le_refl _) hb3 (by omega)
  simpa using hr
end Go.Proofs.Qxb6618524aMods
