/-
  The walk of canonical.
-/
import Derived.Test.Qxb6602224aAppE
namespace Go.Proofs.Qxb6602224a.Own
open Go.RowKit

/-- the extents' numbers are int64s -/
def I64 (x : Int) : Prop := -9223372036854775808 ≤ x ∧ x ≤ 9223372036854775807
def Wf (es : List (Int × Int)) : Prop := ∀ i, I64 (es.getD i (0, 0)).1 ∧ I64 (es.getD i (0, 0)).2
/-- one extent is sound -/
def okE (a b : Int) : Prop := 0 < b ∧ 0 ≤ a ∧ a ≤ 9223372036854775807 - b
/-- it starts behind the one before -/
def goodAt (es : List (Int × Int)) (i : Nat) : Prop := okE (es.getD i (0, 0)).1 (es.getD i (0, 0)).2 ∧ (0 < i → wrap64 ((es.getD (i - 1) (0, 0)).1 + (es.getD (i - 1) (0, 0)).2) < (es.getD i (0, 0)).1)
def Canon (es : List (Int × Int)) : Prop := ∀ i, i < es.length → goodAt es i

/-- what canonical answers -/
def Says (e : Ending) (es : List (Int × Int)) : Prop := ∃ r, e = .returned (.bool r) ∧ (r = true ↔ Canon es)
theorem says_no {es : List (Int × Int)} {k : Nat} (hk : k < es.length) (h : ¬ goodAt es k) : Says (.returned (.bool false)) es :=
  ⟨false, rfl, by simp; exact fun hc => h (hc k hk)⟩
theorem says_yes {es : List (Int × Int)} (h : ∀ j, j < es.length → goodAt es j) : Says (.returned (.bool true)) es := ⟨true, rfl, by simp; exact h⟩
theorem grown_alloc {w w' : World} {row : Option Nat} (h : w.grownBy w' row) (o : Obj) : w.grownBy (w'.alloc o) row :=
  ⟨h.os, h.tape, h.output, Nat.le_trans h.size (by simp), fun k hk hn => (Below.heap_alloc w' o k (Nat.lt_of_lt_of_le hk h.size)).trans (h.block k hk hn)⟩
theorem grown_drewN {w w' : World} {row : Option Nat} (h : w.grownBy w' row) (n : Nat) : w.grownBy (w'.drewN n) row := ⟨h.os, h.tape, h.output, h.size, h.block⟩

/-- what stands at a place of a slice of the call's own, the box of x behind it -/
theorem canon_rows (B g c n : Nat) (es : List (Int × Int)) (w : World) (h : Has w B (.slice (some ⟨g, 0, none⟩) es.length c) es) (hl : es.length = n) (hn : n ≤ 10485760) (hg : g < w.heap.size) (hw : Wf es) :
    Calls Try.prog 15 #[.slice (some ⟨g, 0, none⟩) n c] w fun e w' => Says e es ∧ w.grownBy w' none := by
  have a0 : ∀ k, k < n → w.cell? ⟨g, k * 2, none⟩ = some (.int .i64 (es.getD k (0, 0)).1) := fun k hk => h.cell0 k (by omega)
  have a1 : ∀ k, k < n → w.cell? ⟨g, k * 2 + 1, none⟩ = some (.int .i64 (es.getD k (0, 0)).2) := fun k hk => h.cell1 k (by omega)
  have A0 : Hid (∀ k, k < n → w.cell? ⟨g, k * 2, none⟩ = some (.int .i64 (es.getD k (0, 0)).1)) := a0
  have A1 : Hid (∀ k, k < n → w.cell? ⟨g, k * 2 + 1, none⟩ = some (.int .i64 (es.getD k (0, 0)).2)) := a1
  have HL : Hid (es.length = n) := hl
  have HW : Hid (Wf es) := hw
  clear h hl a0 a1 hw
  go_enter Try.func15, Try.ntmps15
  go_wp2
  go_loopw [3] (fun i wr => ∃ k : Nat, k ≤ n ∧ i = .int .i64 k ∧ (∀ j, j < k → goodAt es j) ∧ w.grownBy wr none) (fun i _ => n - (intOf i).toNat)
  case atStart => exact ⟨0, Nat.zero_le _, rfl, fun j h => absurd h (Nat.not_lt_zero _), World.grownBy.refl _ _⟩
  case round =>
    obtain ⟨k, hk, rfl, hgood, hgr⟩ := hrel
    have HG : Hid (∀ j, j < k → goodAt es j) := hgood
    have KG : Hid (w.grownBy wr none) := hgr
    have hsz : w.heap.size ≤ wr.heap.size := hgr.size
    have hgw : g < wr.heap.size := by omega
    clear hgood hgr
    by_cases hlt : k < n
    · obtain ⟨a, b, hab⟩ : ∃ a b, es.getD k (0, 0) = (a, b) := ⟨_, _, rfl⟩
      have c0 : wr.cell? ⟨g, k * 2, none⟩ = some (.int .i64 a) := by
        have := KG.out.cell (A0.out k hlt) (by simp)
        rw [hab] at this; exact this
      have c1 : wr.cell? ⟨g, k * 2 + 1, none⟩ = some (.int .i64 b) := by
        have := KG.out.cell (A1.out k hlt) (by simp)
        rw [hab] at this; exact this
      have hI := HW.out k
      rw [hab] at hI
      have HAB : Hid (es.getD k (0, 0) = (a, b)) := hab
      obtain ⟨⟨a1, a2⟩, b1, b2⟩ := hI
      clear hab
      by_cases h1 : 0 < b
      · by_cases h2 : 0 ≤ a
        · by_cases h3 : a ≤ 9223372036854775807 - b
          · by_cases hk0 : 0 < k
            · obtain ⟨x, y, hxy⟩ : ∃ x y, es.getD (k - 1) (0, 0) = (x, y) := ⟨_, _, rfl⟩
              have HXY : Hid (es.getD (k - 1) (0, 0) = (x, y)) := hxy
              have p0 : ∀ o, (wr.alloc o).cell? ⟨g, (k - 1) * 2, none⟩ = some (.int .i64 x) := fun o => by
                have := KG.out.cell (A0.out (k - 1) (by omega)) (by simp)
                rw [hxy] at this; exact alloc_cell this o
              have p1 : ∀ o, (wr.alloc o).cell? ⟨g, (k - 1) * 2 + 1, none⟩ = some (.int .i64 y) := fun o => by
                have := KG.out.cell (A1.out (k - 1) (by omega)) (by simp)
                rw [hxy] at this; exact alloc_cell this o
              clear hxy
              by_cases h4 : wrap64 (x + y) < a
              · go_wp2
                go_quiet (fail)
                go_wp2
                go_roundw
                case rel =>
                  refine ⟨k + 1, by omega, by go_num, fun j hj => ?_, grown_drewN (grown_alloc KG.out _) _⟩
                  by_cases hjk : j < k
                  · exact HG.out j hjk
                  · obtain rfl : j = k := by omega
                    exact ⟨by rw [HAB.out]; exact ⟨h1, h2, h3⟩, fun _ => by rw [HAB.out, HXY.out]; exact h4⟩
                case measure => simp [intOf]; omega
              · go_wp2
                go_quiet (fail)
                go_wp2
                go_ret
                exact ⟨says_no (by rw [HL.out]; exact hlt) (fun h => by have := h.2 hk0; rw [HAB.out, HXY.out] at this; exact absurd this (by simp only; omega)), grown_drewN (grown_alloc KG.out _) _⟩
            · obtain rfl : k = 0 := by omega
              have hd : decide ((0 : Int) < ((0 : Nat) : Int)) = false := by decide
              go_wp2
              go_quiet (fail)
              go_wp2
              go_roundw
              case rel =>
                refine ⟨0 + 1, by omega, by go_num, fun j hj => ?_, grown_drewN (grown_alloc KG.out _) _⟩
                obtain rfl : j = 0 := by omega
                exact ⟨by rw [HAB.out]; exact ⟨h1, h2, h3⟩, fun h => absurd h (Nat.lt_irrefl _)⟩
              case measure => simp [intOf]; omega
          · go_wp2
            go_ret
            exact ⟨says_no (by rw [HL.out]; exact hlt) (fun h => by have := h.1.2.2; rw [HAB.out] at this; exact absurd this (by simp only; omega)), grown_alloc KG.out _⟩
        · go_wp2
          go_ret
          exact ⟨says_no (by rw [HL.out]; exact hlt) (fun h => by have := h.1.2.1; rw [HAB.out] at this; exact absurd this (by simp only; omega)), grown_alloc KG.out _⟩
      · go_wp2
        go_ret
        exact ⟨says_no (by rw [HL.out]; exact hlt) (fun h => by have := h.1.1; rw [HAB.out] at this; exact absurd this (by simp only; omega)), grown_alloc KG.out _⟩
    · go_wp2
      go_ret
      exact ⟨says_yes (fun j hj => HG.out j (by rw [HL.out] at hj; omega)), KG.out⟩

theorem canon_zero (ao : Option Addr) (c : Nat) (w : World) :
    Calls Try.prog 15 #[.slice ao 0 c] w fun e w' => Says e [] ∧ w.grownBy w' none := by
  go_enter Try.func15, Try.ntmps15
  go_wp2
  go_loopw [3] (fun i wr => i = .int .i64 0 ∧ wr = w) (fun _ _ => 0)
  case atStart => exact ⟨rfl, rfl⟩
  case round =>
    obtain ⟨rfl, rfl⟩ := hrel
    go_wp2
    go_ret
    exact ⟨says_yes (fun j hj => absurd hj (Nat.not_lt_zero _)), World.grownBy.refl _ _⟩

theorem canon_has (B : Nat) (v : Value) (es : List (Int × Int)) (w : World) (h : Has w B v es) (hn : es.length ≤ 10485760) (hw : Wf es) :
    Calls Try.prog 15 #[v] w fun e w' => Says e es ∧ w.grownBy w' none := by
  rcases h.cases with ⟨rfl, rfl⟩ | ⟨g, c, rfl, _, hg, _, _⟩
  · exact canon_zero none 0 w
  · exact canon_rows B g c es.length es w h rfl hn hg hw
end Go.Proofs.Qxb6602224a.Own
