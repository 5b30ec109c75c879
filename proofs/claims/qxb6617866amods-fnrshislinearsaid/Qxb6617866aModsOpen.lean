/-
  AN ARRAY OF FOUR WORDS BY VALUE: opened and shut, once for both laws.
-/
import Derived.Test.Qxb6617866aModsWalkA
import Derived.ProofKit
namespace Go.Proofs.Qxb6617866aMods
open Go.ChangeShapes Go.WideShapes Go.ChangeAt Go.RowKit

theorem own : ownKnob Trym.prog.godebug = none := by kernel_rfl
theorem cells22 : Trym.prog.cellsOf 22 = 1 := by kernel_rfl
theorem cells23 : Trym.prog.cellsOf 23 = 4 := by kernel_rfl
theorem word_of_wf {x : Int} (h : (Lit.int .u64 x).wf = true) : Word x := by
  simp [Lit.wf, IntKind.min, IntKind.max, IntKind.signed, IntKind.bits] at h
  exact ⟨by omega, by omega⟩
theorem list4 {α : Type} (l : List α) (h : (⟨l⟩ : Array α).size = 4) : ∃ a b c d, l = [a, b, c, d] := by
  match l, h with
  | [a, b, c, d], _ => exact ⟨a, b, c, d, rfl⟩
theorem open_arr {W : World} {base : Nat} {v : Value} {H : Type} {enc : TypeId × Value → H} {d : DataW H} {p : List MemPlace} {sp : Nat → Bool} {b : Bool}
    (hv : Value.okWide Trym.prog W .any base 23 v) (h : DataW.Trod enc Trym.prog W 0 sp b 23 v d p) :
    ∃ x0 x1 x2 x3 : Int, v = .agg #[.int .u64 x0, .int .u64 x1, .int .u64 x2, .int .u64 x3] ∧
      d = DataW.agg [.lit (.int .u64 x0), .lit (.int .u64 x1), .lit (.int .u64 x2), .lit (.int .u64 x3)] ∧ p = [] ∧
      (Lit.int .u64 x0).wf = true ∧ (Lit.int .u64 x1).wf = true ∧ (Lit.int .u64 x2).wf = true ∧ (Lit.int .u64 x3).wf = true := by
  obtain ⟨cs, rfl, hsz, _⟩ : ∃ cs, v = .agg cs ∧ cs.size = Trym.prog.cellsOf 23 ∧ Row.okWide Trym.prog W .any base 23 cs := by
    simpa [Value.okWide, Trym.underlying23] using hv
  rw [cells23] at hsz
  obtain ⟨l⟩ := cs
  obtain ⟨c0, c1, c2, c3, rfl⟩ := list4 l hsz
  obtain ⟨fuel, hf⟩ := h
  obtain ⟨y0, y1, y2, y3, m, hx, hy0, hy1, hy2, hy3⟩ := trod_array4 Trym.underlying23 cells22 hf
  obtain ⟨x0, e0, rfl, w0⟩ := DataW.trod_int Trym.underlying22 hy0
  obtain ⟨x1, e1, rfl, w1⟩ := DataW.trod_int Trym.underlying22 hy1
  obtain ⟨x2, e2, rfl, w2⟩ := DataW.trod_int Trym.underlying22 hy2
  obtain ⟨x3, e3, rfl, w3⟩ := DataW.trod_int Trym.underlying22 hy3
  simp at e0 e1 e2 e3
  subst e0 e1 e2 e3
  simp only [Prod.mk.injEq] at hx
  obtain ⟨rfl, rfl⟩ := hx
  exact ⟨x0, x1, x2, x3, rfl, rfl, rfl, w0, w1, w2, w3⟩
theorem shut_arr {W : World} {H : Type} {enc : TypeId × Value → H} {sp : Nat → Bool} {x0 x1 x2 x3 : Int}
    (w0 : (Lit.int .u64 x0).wf = true) (w1 : (Lit.int .u64 x1).wf = true) (w2 : (Lit.int .u64 x2).wf = true) (w3 : (Lit.int .u64 x3).wf = true) :
    DataW.Trod enc Trym.prog W 0 sp true 23 (.agg #[.int .u64 x0, .int .u64 x1, .int .u64 x2, .int .u64 x3]) (DataW.agg [.lit (.int .u64 x0), .lit (.int .u64 x1), .lit (.int .u64 x2), .lit (.int .u64 x3)]) [] :=
  ⟨2, by simp [DataW.trod, Value.cells, Trym.underlying23, Trym.underlying22, cells23, cells22, w0, w1, w2, w3, show List.range 4 = [0, 1, 2, 3] from rfl]⟩
end Go.Proofs.Qxb6617866aMods
