/-
  THE WALK of pack: what each way of the round does to the call's own memory is a lemma outside the walk.
-/
import Derived.Test.Qxb6617915aModsWalkB
import Derived.Test.Qxb6617915aModsPlain
import Derived.Deep.AppendLies
namespace Go.Proofs.Qxb6617915aMods
open Go.RowKit Plain
/-- The bytes of entry k. -/
def sz (K V : Nat → Hd) (k : Nat) : Nat := 16 + (K k).n + (V k).n
theorem tot_le (K V : Nat → Hd) {k n : Nat} (h : k ≤ n) : tot K V k ≤ tot K V n := by
  induction n with
  | zero => simp [show k = 0 by omega]
  | succ n ih =>
    rcases Nat.lt_or_eq_of_le h with h | rfl
    · have := ih (by omega); have e : tot K V (n + 1) = tot K V n + (48 + (K n).n + (V n).n) := rfl; omega
    · exact Nat.le_refl _
theorem sm_le (K V : Nat → Hd) (n : Nat) : sm (sz K V) n ≤ tot K V n := by
  induction n with
  | zero => exact Nat.le_refl _
  | succ n ih => have e : tot K V (n + 1) = tot K V n + (48 + (K n).n + (V n).n) := rfl; have e' : sm (sz K V) (n + 1) = sm (sz K V) n + (16 + (K n).n + (V n).n) := rfl; omega
theorem tot_n (K V : Nat → Hd) (n : Nat) : n * 48 ≤ tot K V n := by
  induction n with
  | zero => exact Nat.le_refl _
  | succ n ih => have e : tot K V (n + 1) = tot K V n + (48 + (K n).n + (V n).n) := rfl; omega
/-- Counts as cells. -/
def ints (cs : List Nat) : List Value := cs.map fun (x : Nat) => Value.int .i64 (x : Int)
theorem ints_length (cs : List Nat) : (ints cs).length = cs.length := by simp [ints]
theorem ints_at (cs : List Nat) (i : Nat) (h : i < cs.length) : (ints cs)[i]? = some (.int .i64 ((cs.getD i 0 : Nat) : Int)) := by simp [ints, h]
theorem ints_set (cs : List Nat) (i x : Nat) : (ints cs).set i (.int .i64 (x : Int)) = ints (cs.set i x) := by simp [ints, List.map_set]
theorem mem_le_sum (l : List Nat) : ∀ x ∈ l, x ≤ l.sum := by
  induction l with
  | nil => simp
  | cons a l ih =>
    intro x hx
    rcases List.mem_cons.1 hx with rfl | hx
    · simp
    · have := ih x hx; simp; omega
theorem getD_le_sum (l : List Nat) (i : Nat) : l.getD i 0 ≤ l.sum := by
  by_cases h : i < l.length
  · have := mem_le_sum l l[i] (List.getElem_mem h)
    simpa [h] using this
  · simp [h]

theorem news3 (wr : World) (o1 o2 : Obj) (v : Value) : (((wr.alloc o1).alloc o2).alloc (.cells #[v] 3)).heap[wr.heap.size + 1 + 1]? = some (.cells #[v] 3) := by
  have h := heap_alloc_new ((wr.alloc o1).alloc o2) (.cells #[v] 3)
  have e : ((wr.alloc o1).alloc o2).heap.size = wr.heap.size + 1 + 1 := by simp
  rw [e] at h; exact h

/-- Behind the append of a 0 to what was owned: what the rest of the round reads; what it leaves. -/
theorem new_facts {w wr w1 : World} {v : Value} {cs : List Nat} {g cap : Nat} {x y : Value} {o2 o3 : Obj}
    (hown : wr.ownsRow w.heap.size 3 1 v cs.length (ints cs)) (hb : Below w.heap.size w wr)
    (hown1 : w1.ownsRow w.heap.size 3 1 (.slice (some ⟨g, 0, none⟩) (cs.length + 1) cap) (cs.length + 1) (ints cs ++ [.int .i64 0]))
    (hgrow : (((wr.alloc (.cells #[x, y] 41)).alloc o2).alloc o3).grownBy w1 v.ownBlock) (hat : v.ownBlock = some g ∨ g = wr.heap.size + 1 + 1 + 1) :
    w1.cell? ⟨wr.heap.size, 0, none⟩ = some x ∧ w1.cell? ⟨wr.heap.size, 1, none⟩ = some y ∧ ¬ wr.heap.size = g ∧ w1.cell? ⟨g, cs.length, none⟩ = some (.int .i64 0) ∧ w1.frozen? ⟨g, cs.length, none⟩ = false ∧
    ∀ o4, ((w1.setCell ⟨g, cs.length, none⟩ (.int .i64 1)).alloc o4).ownsRow w.heap.size 3 1 (.slice (some ⟨g, 0, none⟩) (cs.length + 1) cap) (cs ++ [1]).length (ints (cs ++ [1])) ∧
      Below w.heap.size w ((w1.setCell ⟨g, cs.length, none⟩ (.int .i64 1)).alloc o4) := by
  have hlt : ∀ k, v.ownBlock = some k → w.heap.size ≤ k ∧ k < wr.heap.size := hown.lt
  have hne : some wr.heap.size ≠ v.ownBlock := fun e => by have := (hlt _ e.symm).2; omega
  have hz : (((wr.alloc (.cells #[x, y] 41)).alloc o2).alloc o3).heap.size = wr.heap.size + 1 + 1 + 1 := by simp
  have hb0 := hb.size
  have hg : w.heap.size ≤ g := by
    rcases hat with h | h
    · exact (hlt g h).1
    · omega
  have hgw : g < w1.heap.size := (hown1.lt g rfl).2
  have hw1 : w.heap.size ≤ w1.heap.size := by have := hgrow.size; omega
  refine ⟨?_, ?_, ?_, ?_, hown1.frozenAt _, fun o4 => ⟨?_, ?_⟩⟩
  · rw [hgrow.cell_far ⟨wr.heap.size, 0, none⟩ (by rw [hz]; show wr.heap.size < _; omega) hne]; simp [go_sem, World.cell?_alloc_past]
  · rw [hgrow.cell_far ⟨wr.heap.size, 1, none⟩ (by rw [hz]; show wr.heap.size < _; omega) hne]; simp [go_sem, World.cell?_alloc_past]
  · intro e
    rcases hat with h | h
    · have := (hlt g h).2; omega
    · omega
  · rw [hown1.cellAt _ (by omega)]; simp [ints]
  · have h := ((hown1.stored cs.length (.int .i64 1)).1).alloc o4
    have e : (ints cs ++ [Value.int .i64 0]).set cs.length (.int .i64 1) = ints (cs ++ [1]) := by
      rw [List.set_append_right _ _ (by rw [ints_length]; exact Nat.le_refl _), ints_length]
      simp [ints]
    rw [e] at h
    simpa using h
  · exact ((((((hb.alloc hb0 _).alloc (by simp; omega) _).alloc (by simp; omega) _).grown hgrow (by rw [hz]; omega) (fun k hk => (hlt k hk).1)).setCell (by exact hg) _).alloc (by simpa using hw1) _)

/-- Without an append: the last count goes up. -/
theorem old_facts {w wr : World} {cs : List Nat} {g cap : Nat}
    (hown : wr.ownsRow w.heap.size 3 1 (.slice (some ⟨g, 0, none⟩) cs.length cap) cs.length (ints cs)) (hb : Below w.heap.size w wr) (hc : 0 < cs.length) :
    wr.cell? ⟨g, cs.length - 1, none⟩ = some (.int .i64 ((cs.getD (cs.length - 1) 0 : Nat) : Int)) ∧ wr.frozen? ⟨g, cs.length - 1, none⟩ = false ∧ g < wr.heap.size ∧
    ∀ o1 o2 o4, ((((wr.setCell ⟨g, cs.length - 1, none⟩ (.int .i64 ((cs.getD (cs.length - 1) 0 : Nat) + 1 : Int))).alloc o1).alloc o2).alloc o4).ownsRow w.heap.size 3 1 (.slice (some ⟨g, 0, none⟩) cs.length cap) (inc cs).length (ints (inc cs)) ∧
      Below w.heap.size w ((((wr.setCell ⟨g, cs.length - 1, none⟩ (.int .i64 ((cs.getD (cs.length - 1) 0 : Nat) + 1 : Int))).alloc o1).alloc o2).alloc o4) := by
  have hlt := hown.lt g rfl
  have hb0 := hb.size
  refine ⟨?_, hown.frozenAt _, hlt.2, fun o1 o2 o4 => ⟨?_, ?_⟩⟩
  · rw [hown.cellAt _ (by omega), ints_at cs _ (by omega)]
  · have h := (((hown.stored (cs.length - 1) (.int .i64 ((cs.getD (cs.length - 1) 0 : Nat) + 1 : Int))).1.alloc o1).alloc o2).alloc o4
    have e : (ints cs).set (cs.length - 1) (.int .i64 ((cs.getD (cs.length - 1) 0 : Nat) + 1 : Int)) = ints (inc cs) := by
      unfold inc; rw [← ints_set]; simp
    rw [e] at h
    rw [inc_length]; exact h
  · exact (((hb.setCell (by exact hlt.1) _).alloc (by simp; omega) _).alloc (by simp; omega) _).alloc (by simp; omega) _

/-- What pack hands back, as the callers want it. -/
def Counts (B : Nat) (w' : World) (v : Value) (cs : List Nat) : Prop :=
  w'.ownsRow B 3 1 v cs.length (ints cs) ∧ ((v = .slice none 0 0 ∧ cs = []) ∨ (∃ g cap, v = .slice (some ⟨g, 0, none⟩) cs.length cap) ∧ 0 < cs.length)

set_option maxHeartbeats 1600000 in
theorem pack_any (ao : Option Addr) (n c : Nat) (K V : Nat → Hd) (p : Int) (w : World) (hT : tot K V n ≤ 1048576) (hE : Es w ao n K V) (hp1 : -9223372036854775808 ≤ p) (hp2 : p ≤ 9223372036854775807 - tot K V n) :
    Calls Trym.prog 21 #[.slice ao n c, .int .i64 p] w fun e w' => ∃ v, e = .returned v ∧ Counts w.heap.size w' v (pk (sz K V) p n).1 ∧ Below w.heap.size w w' := by
  have hn : n ≤ 1048576 := by have := tot_n K V n; omega
  obtain ⟨i0, hi, hz0, hz1, hz2⟩ := info_parts info3
  go_enter Trym.func21, Trym.ntmps21
  go_wp2
  go_loopw [5, 6, 12] (fun v t i wr => ∃ k : Nat, k ≤ n ∧ i = .int .i64 k ∧ t = .int .i64 (pk (sz K V) p k).2 ∧ wr.ownsRow w.heap.size 3 1 v (pk (sz K V) p k).1.length (ints (pk (sz K V) p k).1) ∧ ((v = .slice none 0 0 ∧ k = 0) ∨ (∃ g cap, v = .slice (some ⟨g, 0, none⟩) (pk (sz K V) p k).1.length cap) ∧ 0 < k) ∧ Below w.heap.size w wr) (fun _ _ i _ => n - (intOf i).toNat)
  case atStart => exact ⟨0, Nat.zero_le _, rfl, rfl, by exact World.ownsRow_nil _ _ _ _, .inl ⟨rfl, rfl⟩, Below.refl _ _⟩
  case round =>
    obtain ⟨k, hk, rfl, rfl, hown, hnil, hb⟩ := hrel
    by_cases hlt : k < n
    · obtain ⟨b, off, rfl, hc⟩ := hE (by omega)
      obtain ⟨hc1, hc2⟩ := hc k hlt
      have hbb : b < w.heap.size := World.block_lt_of_cell? w ⟨b, off + k * 2, none⟩ hc1
      have g1 : wr.cell? ⟨b, off + k * 2, none⟩ = some (.slice (K k).a (K k).n (K k).c) := (hb.cell (by exact hbb)).trans hc1
      have g2 : wr.cell? ⟨b, off + k * 2 + 1, none⟩ = some (.slice (V k).a (V k).n (V k).c) := (hb.cell (by exact hbb)).trans hc2
      have hkb : (0 : Int) ≤ (k : Int) := by omega
      have hkn : (k : Int) < (n : Int) := by omega
      have ht1 : tot K V k + (48 + (K k).n + (V k).n) ≤ tot K V n := tot_le K V (show k + 1 ≤ n by omega)
      have hs := sm_le K V k
      have hsum := (pk_sum (sz K V) p k).1
      have hlen := pk_length_le (sz K V) p k
      have hq : (k = 0 ∧ pk (sz K V) p k = ([], p)) ∨ (0 < k ∧ 16 ≤ (pk (sz K V) p k).2 ∧ (pk (sz K V) p k).2 ≤ 16 + sm (sz K V) k ∧ 0 < (pk (sz K V) p k).1.length) := by
        cases k with
        | zero => exact .inl ⟨rfl, rfl⟩
        | succ j => have := pk_pos (sz K V) p j; exact .inr ⟨by omega, this.2.1, this.2.2, this.1⟩
      obtain ⟨P, hP⟩ : ∃ P, P = pk (sz K V) p k := ⟨_, rfl⟩
      have hS : ((sz K V k : Nat) : Int) = 16 + (K k).n + (V k).n := by unfold sz; omega
      have HN : Hid (p ≤ P.2 + (16 + (K k).n + (V k).n) → pk (sz K V) p (k + 1) = (P.1 ++ [1], (16 + (16 + (K k).n + (V k).n) : Int))) := fun h => by
        rw [← hS] at h ⊢; subst hP; exact pk_new h
      have HD : Hid (¬ p ≤ P.2 + (16 + (K k).n + (V k).n) → pk (sz K V) p (k + 1) = (inc P.1, P.2 + (16 + (K k).n + (V k).n))) := fun h => by
        rw [← hS] at h ⊢; subst hP; exact pk_old h
      rw [← hP] at hown hlen hsum hq hnil ⊢
      clear hP hS hc hE hc1 hc2
      have HSum : Hid (P.1.sum = k) := hsum
      clear hsum
      rcases hnil with ⟨rfl, hk0⟩ | ⟨⟨g, cap, rfl⟩, hk0⟩
      · obtain rfl : P = ([], p) := by
          rcases hq with h | h
          · exact h.2
          · omega
        clear hk0
        have hnew : p ≤ p + (16 + (K k).n + (V k).n) := by omega
        have HE := HN.out hnew
        have HE' : Hid (pk (sz K V) p (k + 1) = ([1], (16 + (16 + (K k).n + (V k).n) : Int))) := HE
        clear HE HN HD hq HSum
        go_wp2_with fail
        refine (size_any (K k).a (V k).a (K k).n (K k).c (V k).n (V k).c _ (by omega)).mono ?_
        rintro e w' ⟨rfl, rfl⟩
        go_wp2_with (at_builtin; refine wpList_append_lies _ rfl (.tmp 22) (.tmp 23) 25 rfl w.heap.size 3 i0 (.int .i64 0) 1 8 Trym.underlying25 hi hz0 hz1 hz2 rfl (by decide) _ 0 [] rfl (((hown.alloc _).alloc _).alloc _) ⟨wr.heap.size + 1 + 1, 0, none⟩ 1 1 [.int .i64 0] rfl rfl ?c1 ?c2 (by decide) ?c3 ?c4 ?c5 (wr.heap.size + 1 + 1 + 1) ?c6 ?_)
        case c1 => exact World.news_of_block (news3 wr _ _ _)
        case c2 => intro u hu; simp at hu; subst hu; rfl
        case c3 => unfold maxLen; omega
        case c4 => omega
        case c5 => have := hb.size; simp; omega
        case c6 => simp
        intro g' cap' w1 hown1 hgrow hat hlt1
        obtain ⟨e1, e2, hne, o1, f1, hend⟩ := new_facts (cs := []) hown hb hown1 hgrow hat
        have o1' : w1.cell? ⟨g', 0, none⟩ = some (.int .i64 0) := o1
        have f1' : w1.frozen? ⟨g', 0, none⟩ = false := f1
        have HF : Hid (∀ o4, ((w1.setCell ⟨g', 0, none⟩ (.int .i64 1)).alloc o4).ownsRow w.heap.size 3 1 (.slice (some ⟨g', 0, none⟩) 1 cap') 1 (ints [1]) ∧ Below w.heap.size w ((w1.setCell ⟨g', 0, none⟩ (.int .i64 1)).alloc o4)) := hend
        clear hend hown1 hgrow hat hown o1 f1
        go_wp2_with fail
        refine (size_any (K k).a (V k).a (K k).n (K k).c (V k).n (V k).c _ (by omega)).mono ?_
        rintro e w' ⟨rfl, rfl⟩
        go_wp2_with fail
        go_roundw
        case rel => exact ⟨k + 1, by omega, by go_num, by rw [HE'.out], by rw [HE'.out]; exact (HF.out _).1, by rw [HE'.out]; exact .inr ⟨⟨_, _, rfl⟩, by omega⟩, (HF.out _).2⟩
        case measure => simp [intOf]; omega
      · obtain ⟨hq1, hq2, hq3⟩ : 16 ≤ P.2 ∧ P.2 ≤ 16 + sm (sz K V) k ∧ 0 < P.1.length := by
          rcases hq with h | h
          · omega
          · exact h.2
        clear hq
        by_cases hnew : p ≤ P.2 + (16 + (K k).n + (V k).n)
        · have HE : Hid _ := HN.out hnew
          clear HN HD HSum
          go_wp2_with fail
          refine (size_any (K k).a (V k).a (K k).n (K k).c (V k).n (V k).c _ (by omega)).mono ?_
          rintro e w' ⟨rfl, rfl⟩
          go_wp2_with (at_builtin; refine wpList_append_lies _ rfl (.tmp 22) (.tmp 23) 25 rfl w.heap.size 3 i0 (.int .i64 0) 1 8 Trym.underlying25 hi hz0 hz1 hz2 rfl (by decide) _ P.1.length (ints P.1) rfl (((hown.alloc _).alloc _).alloc _) ⟨wr.heap.size + 1 + 1, 0, none⟩ 1 1 [.int .i64 0] rfl rfl ?d1 ?d2 (by decide) ?d3 ?d4 ?d5 (wr.heap.size + 1 + 1 + 1) ?d6 ?_)
          case d1 => exact World.news_of_block (news3 wr _ _ _)
          case d2 => intro u hu; simp at hu; subst hu; rfl
          case d3 => unfold maxLen; omega
          case d4 => omega
          case d5 => have := hb.size; simp; omega
          case d6 => simp
          intro g' cap' w1 hown1 hgrow hat hlt1
          obtain ⟨e1, e2, hne, o1, f1, hend⟩ := new_facts hown hb hown1 hgrow hat
          have HF : Hid _ := hend
          clear hend hown1 hgrow hat hown
          go_wp2_with fail
          refine (size_any (K k).a (V k).a (K k).n (K k).c (V k).n (V k).c _ (by omega)).mono ?_
          rintro e w' ⟨rfl, rfl⟩
          go_wp2_with fail
          go_roundw
          case rel => exact ⟨k + 1, by omega, by go_num, by rw [HE.out], by rw [HE.out]; exact (HF.out _).1, by rw [HE.out]; exact .inr ⟨⟨g', cap', by simp⟩, by omega⟩, (HF.out _).2⟩
          case measure => simp [intOf]; omega
        · have HE : Hid _ := HD.out hnew
          have hx : P.1.getD (P.1.length - 1) 0 ≤ k := by have := getD_le_sum P.1 (P.1.length - 1); have := HSum.out; omega
          clear HN HD HSum
          obtain ⟨o1, f1, hgl, hend⟩ := old_facts hown hb hq3
          have HF : Hid _ := hend
          clear hend hown
          obtain ⟨x, HX⟩ : ∃ x, Hid (x = P.1.getD (P.1.length - 1) 0) := ⟨_, rfl⟩
          have hx' : x ≤ k := by rw [HX.out]; exact hx
          have o1' : wr.cell? ⟨g, P.1.length - 1, none⟩ = some (.int .i64 (x : Int)) := by rw [HX.out]; exact o1
          have HF' : Hid (∀ o1 o2 o4, ((((wr.setCell ⟨g, P.1.length - 1, none⟩ (.int .i64 ((x : Int) + 1))).alloc o1).alloc o2).alloc o4).ownsRow w.heap.size 3 1 (.slice (some ⟨g, 0, none⟩) P.1.length cap) (inc P.1).length (ints (inc P.1)) ∧
              Below w.heap.size w ((((wr.setCell ⟨g, P.1.length - 1, none⟩ (.int .i64 ((x : Int) + 1))).alloc o1).alloc o2).alloc o4)) := by rw [HX.out]; exact HF.out
          clear o1 hx HF HX
          have hnew' : P.2 + (16 + (K k).n + (V k).n) < p := by omega
          go_wp2_with fail
          refine (size_any (K k).a (V k).a (K k).n (K k).c (V k).n (V k).c _ (by omega)).mono ?_
          rintro e w' ⟨rfl, rfl⟩
          go_wp2_with fail
          refine (size_any (K k).a (V k).a (K k).n (K k).c (V k).n (V k).c _ (by omega)).mono ?_
          rintro e w' ⟨rfl, rfl⟩
          go_wp2_with fail
          go_roundw
          case rel => exact ⟨k + 1, by omega, by go_num, by rw [HE.out], by rw [HE.out]; exact (HF'.out _ _ _).1, by rw [HE.out]; exact .inr ⟨⟨_, _, by rw [inc_length]⟩, by omega⟩, (HF'.out _ _ _).2⟩
          case measure => simp [intOf]; omega
    · obtain rfl : k = n := by omega
      have HO : Hid _ := hown
      have HNl : Hid _ := hnil
      clear hown hnil hE
      go_wp2
      go_ret
      refine ⟨_, rfl, ⟨HO.out, ?_⟩, hb⟩
      rcases HNl.out with ⟨h, h0⟩ | ⟨h, h0⟩
      · left; subst h0; exact ⟨h, rfl⟩
      · right; refine ⟨h, ?_⟩
        cases k with
        | zero => omega
        | succ j => exact (pk_pos (sz K V) p j).1
end Go.Proofs.Qxb6617915aMods
