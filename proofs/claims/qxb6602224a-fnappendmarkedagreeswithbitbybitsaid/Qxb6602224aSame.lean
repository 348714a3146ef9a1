/-
  The walk of sameExtents, at two slices that hold the same.
-/
import Derived.Test.Qxb6602224aAppE
namespace Go.Proofs.Qxb6602224a.Own
open Go.RowKit

theorem same_zero (ao bo : Option Addr) (c d : Nat) (w : World) :
    Calls Try.prog 18 #[.slice ao 0 c, .slice bo 0 d] w fun e w' => e = .returned (.bool true) ∧ ∃ k, w' = w.drewN k := by
  go_enter Try.func18, Try.ntmps18
  go_wp2
  go_loopw [5] (fun i wr => i = .int .i64 0 ∧ wr = w) (fun _ _ => 0)
  case atStart => exact ⟨rfl, rfl⟩
  case round =>
    obtain ⟨rfl, rfl⟩ := hrel
    go_wp2
    go_ret
    exact ⟨rfl, 0, rfl⟩

theorem same_rows (B C g1 g2 c d n : Nat) (es : List (Int × Int)) (w : World) (h1 : Has w B (.slice (some ⟨g1, 0, none⟩) es.length c) es) (h2 : Has w C (.slice (some ⟨g2, 0, none⟩) es.length d) es) (hl : es.length = n) (hn : n ≤ 10485760) :
    Calls Try.prog 18 #[.slice (some ⟨g1, 0, none⟩) n c, .slice (some ⟨g2, 0, none⟩) n d] w fun e w' => e = .returned (.bool true) ∧ ∃ k, w' = w.drewN k := by
  have a0 : ∀ k, k < n → w.cell? ⟨g1, k * 2, none⟩ = some (.int .i64 (es.getD k (0, 0)).1) := fun k hk => h1.cell0 k (by omega)
  have a1 : ∀ k, k < n → w.cell? ⟨g1, k * 2 + 1, none⟩ = some (.int .i64 (es.getD k (0, 0)).2) := fun k hk => h1.cell1 k (by omega)
  have b0 : ∀ k, k < n → w.cell? ⟨g2, k * 2, none⟩ = some (.int .i64 (es.getD k (0, 0)).1) := fun k hk => h2.cell0 k (by omega)
  have b1 : ∀ k, k < n → w.cell? ⟨g2, k * 2 + 1, none⟩ = some (.int .i64 (es.getD k (0, 0)).2) := fun k hk => h2.cell1 k (by omega)
  clear h1 h2 hl
  go_enter Try.func18, Try.ntmps18
  go_wp2
  go_loopw [5] (fun i wr => ∃ k : Nat, k ≤ n ∧ i = .int .i64 k ∧ ∃ q, wr = w.drewN q) (fun i _ => n - (intOf i).toNat)
  case atStart => exact ⟨0, Nat.zero_le _, rfl, 0, rfl⟩
  case round =>
    obtain ⟨k, hk, rfl, q, rfl⟩ := hrel
    by_cases hlt : k < n
    · have x0 := a0 k hlt
      have x1 := a1 k hlt
      have y0 := b0 k hlt
      have y1 := b1 k hlt
      clear a0 a1 b0 b1
      go_wp2
      go_quiet (fail)
      go_wp2
      go_roundw
      case rel => exact ⟨k + 1, by omega, by go_num, _, rfl⟩
      case measure => simp [intOf]; omega
    · go_wp2
      go_ret
      exact ⟨rfl, _, rfl⟩

theorem same_has (B C : Nat) (v u : Value) (es : List (Int × Int)) (w : World) (h1 : Has w B v es) (h2 : Has w C u es) (hn : es.length ≤ 10485760) :
    Calls Try.prog 18 #[v, u] w fun e w' => e = .returned (.bool true) ∧ ∃ k, w' = w.drewN k := by
  obtain ⟨ao, c, rfl, hr, had⟩ := h1.shape
  obtain ⟨bo, d, rfl, hs, hbd⟩ := h2.shape
  by_cases hz : es.length = 0
  · rw [hz]; exact same_zero ao bo c d w
  · cases ao with
    | none => have := (hr.nil rfl).1; omega
    | some ad =>
      cases bo with
      | none => have := (hs.nil rfl).1; omega
      | some bd =>
        rw [(had ad rfl).1] at h1 ⊢
        rw [(hbd bd rfl).1] at h2 ⊢
        exact same_rows B C _ _ c d es.length es w h1 h2 rfl hn
end Go.Proofs.Qxb6602224a.Own
