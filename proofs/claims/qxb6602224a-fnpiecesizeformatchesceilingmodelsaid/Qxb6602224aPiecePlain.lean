/-
  The piece sizes: the plain law.
-/
import Derived.WalkKit
namespace Go.Proofs.Qxb6602224a.Piece
/-- the nine powers of two from 2^16 to 2^24 -/
def Pw (s : Int) : Prop := s = 65536 ∨ s = 131072 ∨ s = 262144 ∨ s = 524288 ∨ s = 1048576 ∨ s = 2097152 ∨ s = 4194304 ∨ s = 8388608 ∨ s = 16777216
theorem Pw.first : Pw 65536 := .inl rfl
theorem Pw.bounds {s : Int} (h : Pw s) : 65536 ≤ s ∧ s ≤ 16777216 := by unfold Pw at h; omega
theorem Pw.double {s : Int} (h : Pw s) (hs : s < 16777216) : Pw (s * 2) := by unfold Pw at h ⊢; omega
/-- what PieceSizeFor gives for u -/
def Fits (u s : Int) : Prop := Pw s ∧ (s = 65536 ∨ s * 524288 < u) ∧ (s = 16777216 ∨ u ≤ s * 1048576)
theorem Fits.unique {u s p : Int} (h : Fits u s) (k : Fits u p) : s = p := by
  obtain ⟨a, b, c⟩ := h
  obtain ⟨a', b', c'⟩ := k
  unfold Pw at a a'
  rcases a with rfl | rfl | rfl | rfl | rfl | rfl | rfl | rfl | rfl <;> omega
theorem bits_done {x k : Nat} (h : 0 = x / 2 ^ k) : x < 2 ^ k := by
  rcases (Nat.div_eq_zero_iff).1 h.symm with h' | h'
  · have := Nat.two_pow_pos k; omega
  · exact h'
theorem bits_le {x k q : Nat} (h : q = x / 2 ^ k) (hq : 0 < q) : 2 ^ k ≤ x := by
  have : 0 < x / 2 ^ k := by omega
  exact (Nat.div_pos_iff.1 this).2
theorem bits_lt {x k q : Nat} (h : q = x / 2 ^ k) (hq : 0 < q) (hx : x < 18446744073709551616) : k < 64 := by
  have h1 := bits_le h hq
  have h2 : 2 ^ k < 2 ^ 64 := by omega
  exact (Nat.pow_lt_pow_iff_right (by decide)).1 h2
theorem bits_half {x k q : Nat} (h : q = x / 2 ^ k) : q / 2 = x / 2 ^ (k + 1) := by
  rw [h, Nat.div_div_eq_div_mul, Nat.pow_succ]
/-- a number of bits below 44 that is told by its power -/
theorem bits_k {x k : Nat} (h1 : k = 0 ∨ 2 ^ (k - 1) ≤ x) (hx : x < 8796093022208) : k ≤ 43 := by
  rcases h1 with h | h
  · omega
  · have h2 : 2 ^ (k - 1) < 2 ^ 43 := by omega
    have := (Nat.pow_lt_pow_iff_right (by decide)).1 h2
    omega
theorem pw_of_k {k : Nat} (h1 : 17 ≤ k) (h2 : k ≤ 24) : Pw ((2 : Int) ^ k) := by
  have : k = 17 ∨ k = 18 ∨ k = 19 ∨ k = 20 ∨ k = 21 ∨ k = 22 ∨ k = 23 ∨ k = 24 := by omega
  unfold Pw
  rcases this with rfl | rfl | rfl | rfl | rfl | rfl | rfl | rfl <;> decide
/-- the model's power fits -/
theorem model_fits {u : Int} {x k : Nat} (hx : (x : Int) = (u - 1) / 1048576) (hlo : 65536 ≤ x) (h1 : x < 2 ^ k) (h2 : k = 0 ∨ 2 ^ (k - 1) ≤ x) :
    ((2 : Int) ^ k ≤ 16777216 → Fits u ((2 : Int) ^ k)) ∧ (16777216 < (2 : Int) ^ k → Fits u 16777216) := by
  have e : ((2 ^ k : Nat) : Int) = (2 : Int) ^ k := by simp
  have hk : 17 ≤ k := by
    have h3 : 2 ^ 16 < 2 ^ k := by omega
    have := (Nat.pow_lt_pow_iff_right (by decide)).1 h3
    omega
  have h2' : 2 ^ (k - 1) ≤ x := by rcases h2 with h | h; omega; exact h
  have e2 : 2 ^ k = 2 * 2 ^ (k - 1) := by
    obtain ⟨j, rfl⟩ : ∃ j, k = j + 1 := ⟨k - 1, by omega⟩
    rw [Nat.pow_succ]; simp; omega
  rw [← e]
  generalize hP : 2 ^ k = P at *
  generalize hQ : 2 ^ (k - 1) = Q at *
  constructor
  · intro hle
    have hk2 : k ≤ 24 := by
      have h3 : 2 ^ k ≤ 2 ^ 24 := by omega
      exact (Nat.pow_le_pow_iff_right (by decide)).1 h3
    refine ⟨by rw [e]; exact pw_of_k hk hk2, .inr (by omega), .inr (by omega)⟩
  · intro hgt
    have hQ2 : 16777216 ≤ Q := by
      have h3 : 2 ^ 24 < 2 ^ k := by omega
      have h4 := (Nat.pow_lt_pow_iff_right (by decide)).1 h3
      have h5 : 2 ^ 24 ≤ 2 ^ (k - 1) := (Nat.pow_le_pow_iff_right (by decide)).2 (by omega)
      omega
    refine ⟨by unfold Pw; omega, .inr (by omega), .inl rfl⟩
end Go.Proofs.Qxb6602224a.Piece
