/-
  What a slice of extents that came in reads as.
-/
import Derived.Test.Qxb6602224aCanon
import Derived.ProofKit
import Derived.OpenShut
import Derived.Deep.SlicePairs
namespace Go.Proofs.Qxb6602224a.Own
open Go.ChangeShapes Go.WideShapes Go.ChangeAt Go.RowKit

theorem cells42 : Try.prog.cellsOf 42 = 2 := by kernel_rfl
theorem cells2 : Try.prog.cellsOf 2 = 1 := by kernel_rfl
theorem cells5 : Try.prog.cellsOf 5 = 1 := by kernel_rfl

theorem cells_range (f : Nat → Int × Int) (n : Nat) : ∀ j u, (cells ((List.range n).map f))[j]? = some u → ∃ i, i < n ∧ ((j = i * 2 ∧ u = .int .i64 (f i).1) ∨ (j = i * 2 + 1 ∧ u = .int .i64 (f i).2)) := by
  intro j u hu
  have hj : j < n * 2 := by
    have := (List.getElem?_eq_some_iff.1 hu).1
    rw [cells_length] at this; simpa using this
  have hg : ∀ i, i < n → ((List.range n).map f).getD i (0, 0) = f i := fun i hi => by simp [List.getD, hi]
  rcases Nat.mod_two_eq_zero_or_one j with h | h
  · refine ⟨j / 2, by omega, .inl ⟨by omega, ?_⟩⟩
    have := cells_at0 ((List.range n).map f) (j / 2) (by simp; omega)
    rw [show j / 2 * 2 = j by omega, hu, hg _ (by omega)] at this
    exact Option.some.inj this
  · refine ⟨j / 2, by omega, .inr ⟨by omega, ?_⟩⟩
    have := cells_at1 ((List.range n).map f) (j / 2) (by simp; omega)
    rw [show j / 2 * 2 + 1 = j by omega, hu, hg _ (by omega)] at this
    exact Option.some.inj this

theorem open_exts {H : Type} {enc : TypeId × Value → H} {W : World} {fuel : Nat} {a0 : Option Addr} {len cap : Nat} {x : DataW H × List MemPlace}
    (hf : DataW.trod enc Try.prog W 0 (fun _ => true) true fuel 25 (Value.slice a0 len cap).cells.toList = some x) :
    ∃ es, Rd 2 W a0 len cap (cells es) ∧ Wf es ∧ len ≤ maxLen := by
  rcases Deep.open_slice_pairs Try.underlying25 Try.underlying42 cells42 rfl rfl cells2 cells2 hf with ⟨hcs, _⟩ | ⟨a, l, c, m, n, V0, V1, D0, D1, P0, P1, hcs, _, hl, hm, hmm, _, hx⟩
  · simp [Value.cells] at hcs
    obtain ⟨rfl, rfl, rfl⟩ := hcs
    exact ⟨[], ⟨rfl, Nat.le_refl _, fun _ => ⟨rfl, rfl⟩, fun ad h => (by cases h)⟩, fun i => by simp [I64], Nat.zero_le _⟩
  · simp [Value.cells] at hcs
    obtain ⟨rfl, rfl, rfl⟩ := hcs
    have hlm : len ≤ m := by rw [hmm]; simp; exact hl
    obtain ⟨f, hf'⟩ := Deep.choose_lt (α := Int × Int) (n := len) (p := fun i p => V0 i = .int .i64 p.1 ∧ V1 i = .int .i64 p.2 ∧ I64 p.1 ∧ I64 p.2) (fun i hi => by
      obtain ⟨_, _, t0, t1⟩ := hx i (by omega)
      obtain ⟨n0, e0, _, w0⟩ := DataW.trod_int Try.underlying2 t0
      obtain ⟨n1, e1, _, w1⟩ := DataW.trod_int Try.underlying2 t1
      simp at e0 e1
      exact ⟨(n0, n1), e0, e1, bounds_i64 w0, bounds_i64 w1⟩)
    refine ⟨(List.range len).map f, ⟨by rw [cells_length]; simp, hl, fun h => (by cases h), fun ad had j u hu => ?_⟩, fun i => ?_, by omega⟩
    · cases had
      obtain ⟨i, hi, h⟩ := cells_range f len j u hu
      obtain ⟨q0, q1, _, _⟩ := hx i (by omega)
      rcases h with ⟨rfl, rfl⟩ | ⟨rfl, rfl⟩
      · rw [q0, (hf' i hi).1]
      · rw [q1, (hf' i hi).2.1]
    · by_cases hi : i < len
      · have e : ((List.range len).map f).getD i (0, 0) = f i := by simp [List.getD, hi]
        rw [e]; exact ⟨(hf' i hi).2.2.1, (hf' i hi).2.2.2⟩
      · have e : ((List.range len).map f).getD i (0, 0) = (0, 0) := by simp [List.getD, hi]
        rw [e]; simp [I64]
end Go.Proofs.Qxb6602224a.Own
