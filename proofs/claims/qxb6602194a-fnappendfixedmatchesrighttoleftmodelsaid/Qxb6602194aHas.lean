/-
  'Has': what the helpers leave, in one word; the clone of whatever slice; the bound on the lengths.
-/
import Derived.Test.Qxb6602194aFixed
namespace Go.Proofs.Qxb6602194a.Own
open Go.RowKit

theorem Has.keptNone {w w' : World} {B : Nat} {v : Value} {xs : List Int} (h : Has w B v xs) (hg : w.grownBy w' none) : Has w' B v xs :=
  World.ownsRow.kept h hg (by cases hv : v.ownBlock <;> simp)
theorem Has.step {w w' : World} {B : Nat} {x v v' : Value} {xs : List Int} (h : Has w B x xs) (hs : Step w v w' v') (hne : ∀ g, x.ownBlock = some g → v.ownBlock ≠ some g) : Has w' B x xs :=
  hs.ownsRow h hne
theorem Has.shape {w : World} {B : Nat} {v : Value} {xs : List Int} (h : Has w B v xs) :
    ∃ ao c, v = .slice ao xs.length c ∧ Rd w ao xs.length c (xs.map (.int .u8)) ∧ ∀ ad, ao = some ad → ad = ⟨ad.block, 0, none⟩ ∧ B ≤ ad.block ∧ ad.block < w.heap.size := by
  obtain ⟨ao, c, hv, hr, had, _⟩ := rd_of_owns h
  refine ⟨ao, c, hv, hr, fun ad h' => ?_⟩
  obtain ⟨h1, h2, h3, h4⟩ := had ad h'
  refine ⟨?_, h3, (World.ownsRow.lt h ad.block h4).2⟩
  cases ad; simp at h1 h2; simp [h1, h2]
theorem Has.nil (w : World) (B : Nat) : Has w B (.slice none 0 0) [] := World.ownsRow_nil _ _ _ _
theorem Rd.keptNone {w w' : World} {ao : Option Addr} {n c : Nat} {xs : List Value} (h : Rd w ao n c xs) (hg : w.grownBy w' none) : Rd w' ao n c xs :=
  ⟨h.len, h.le, h.nil, fun ad had j u hu => hg.cell (h.cell ad had j u hu) (by simp)⟩

/-- zzClone, of whatever slice -/
theorem clone_any (ao : Option Addr) (n c : Nat) (xs : List Int) (w : World) (h : Rd w ao n c (xs.map (.int .u8))) (hn : n ≤ 1048576) :
    Calls Try.prog 8 #[.slice ao n c] w fun e w' => ∃ ao', e = .returned (.slice ao' n n) ∧ Has w' w.heap.size (.slice ao' n n) xs ∧ Rd w' ao' n n (xs.map (.int .u8)) ∧ (∀ ad, ao' = some ad → ad = ⟨w.heap.size, 0, none⟩) ∧ w.grownBy w' none := by
  have hl : xs.length = n := by simpa using h.len
  cases ao with
  | none =>
    obtain ⟨rfl, rfl⟩ := h.nil rfl
    have : xs = [] := List.eq_nil_of_length_eq_zero hl
    subst this
    refine (clone_nil w).mono ?_
    rintro e w' ⟨rfl, rfl⟩
    exact ⟨none, rfl, Has.nil _ _, ⟨rfl, Nat.le_refl _, fun _ => ⟨rfl, rfl⟩, fun ad h => (by cases h)⟩, fun ad h => (by cases h), World.grownBy.refl _ _⟩
  | some ad =>
    refine (clone_some ad n c xs w h hn).mono ?_
    rintro e w' ⟨rfl, h1, h2⟩
    refine ⟨_, rfl, by unfold Has; rw [hl]; exact h1, ⟨by simpa using hl, Nat.le_refl _, fun h => (by cases h), fun ad' had' => ?_⟩, fun ad' h' => (by cases h'; rfl), h2⟩
    cases had'
    exact h1.cells rfl

theorem fixed_pos (neg : Bool) (ds : List Int) (p : Nat) : 0 < (fixed neg ds p).length := by
  unfold fixed whole
  split
  · simp; omega
  · simp; omega
theorem fixed_le (neg : Bool) (ds : List Int) (p : Nat) (hp : p ≤ 65536) (hd : ds.length ≤ 1048576) : (fixed neg ds p).length ≤ 2228227 := by
  unfold fixed whole frac sgn
  split <;> split <;> split <;> simp <;> omega

/-- zzEqual of two slices of the call's own that hold the same bytes -/
theorem equal_has (B C : Nat) (v u : Value) (xs : List Int) (w : World) (h1 : Has w B v xs) (h2 : Has w C u xs) (hpos : 0 < xs.length) (hle : xs.length ≤ 140737488355328) :
    Calls Try.prog 12 #[v, u] w fun e w' => e = .returned (.bool true) ∧ ∃ k, w' = w.drewN k := by
  obtain ⟨ao, c, rfl, hr, had⟩ := h1.shape
  obtain ⟨bo, d, rfl, hs, hbd⟩ := h2.shape
  cases ao with
  | none => have := (hr.nil rfl).1; omega
  | some ad =>
    cases bo with
    | none => have := (hs.nil rfl).1; omega
    | some bd =>
      rw [(had ad rfl).1] at hr ⊢
      rw [(hbd bd rfl).1] at hs ⊢
      exact equal_any _ _ _ _ _ xs w hr hs hle

theorem zzK_yes (a0 a2 : Option Addr) (n c m d : Nat) (b : Bool) (p : Int) (w : World) (h : n + m ≤ 1048576) :
    Calls Try.prog 13 #[.slice a0 n c, .bool b, .slice a2 m d, .int .i32 p] w fun e w' => e = .returned (.bool true) ∧ w' = w := by
  have h1 : n ≤ 1048576 := by omega
  have h2 : m ≤ 1048576 := by omega
  go_enter Try.func13, Try.ntmps13
  go_wp2
  go_ret
  exact ⟨rfl, rfl⟩
theorem zzK_no (a0 a2 : Option Addr) (n c m d : Nat) (b : Bool) (p : Int) (w : World) (hn : n ≤ maxLen) (hm : m ≤ maxLen) (h : 1048576 < n + m) :
    Calls Try.prog 13 #[.slice a0 n c, .bool b, .slice a2 m d, .int .i32 p] w fun e w' => e = .returned (.bool false) ∧ w' = w := by
  unfold maxLen at hn hm
  by_cases h1 : n ≤ 1048576
  · by_cases h2 : m ≤ 1048576
    · go_enter Try.func13, Try.ntmps13
      go_wp2
      go_ret
      exact ⟨rfl, rfl⟩
    · go_enter Try.func13, Try.ntmps13
      go_wp2
      go_ret
      exact ⟨rfl, rfl⟩
  · go_enter Try.func13, Try.ntmps13
    go_wp2
    go_ret
    exact ⟨rfl, rfl⟩
theorem zzM_yes (a0 a2 : Option Addr) (n c m d : Nat) (b : Bool) (p : Int) (w : World) (h : n + m ≤ 1048576) :
    Calls Try.prog 7 #[.slice a0 n c, .bool b, .slice a2 m d, .int .i32 p] w fun e w' => e = .returned (.bool true) ∧ w' = w := by
  have h1 : n ≤ 1048576 := by omega
  have h2 : m ≤ 1048576 := by omega
  go_enter Try.func7, Try.ntmps7
  go_wp2
  go_ret
  exact ⟨rfl, rfl⟩
theorem zzM_no (a0 a2 : Option Addr) (n c m d : Nat) (b : Bool) (p : Int) (w : World) (hn : n ≤ maxLen) (hm : m ≤ maxLen) (h : 1048576 < n + m) :
    Calls Try.prog 7 #[.slice a0 n c, .bool b, .slice a2 m d, .int .i32 p] w fun e w' => e = .returned (.bool false) ∧ w' = w := by
  unfold maxLen at hn hm
  by_cases h1 : n ≤ 1048576
  · by_cases h2 : m ≤ 1048576
    · go_enter Try.func7, Try.ntmps7
      go_wp2
      go_ret
      exact ⟨rfl, rfl⟩
    · go_enter Try.func7, Try.ntmps7
      go_wp2
      go_ret
      exact ⟨rfl, rfl⟩
  · go_enter Try.func7, Try.ntmps7
    go_wp2
    go_ret
    exact ⟨rfl, rfl⟩
end Go.Proofs.Qxb6602194a.Own
