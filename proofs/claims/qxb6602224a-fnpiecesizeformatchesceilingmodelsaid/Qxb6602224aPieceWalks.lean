/-
  The walks of PieceSizeFor and of its model.
-/
import Derived.Test.Qxb6602224aRows
import Derived.Test.Qxb6602224aPiecePlain
import Derived.WalkKit
import Derived.WalkLawsBesides
import Derived.Deep.QuietTactic
import Derived.BigQuiet
import Derived.Outline
namespace Go.Proofs.Qxb6602224a.Piece
open Go.RowKit

theorem piece_any (u : Int) (w : World) :
    Calls Try.prog 11 #[.int .i64 u] w fun e w' => ∃ s, e = .returned (.int .i64 s) ∧ Fits u s ∧ w' = w := by
  go_enter Try.func11, Try.ntmps11
  go_wp2
  go_loop [3] (fun i => ∃ s : Int, i = .int .i64 s ∧ Pw s ∧ (s = 65536 ∨ s * 524288 < u)) (fun i => (16777216 - intOf i).toNat)
  case atStart => exact ⟨65536, rfl, Pw.first, .inl rfl⟩
  case round =>
    obtain ⟨s, rfl, hp, hu⟩ := hrel
    obtain ⟨h1, h2⟩ := hp.bounds
    have HP : Hid (Pw s) := hp
    have HU : Hid (s = 65536 ∨ s * 524288 < u) := hu
    clear hp hu
    by_cases hlt : s < 16777216
    · by_cases hgt : s * 1048576 < u
      · go_wp2
        go_round
        case rel => exact ⟨s * 2, rfl, HP.out.double hlt, .inr (by omega)⟩
        case measure => simp [intOf]; omega
      · go_wp2
        go_ret
        exact ⟨s, rfl, ⟨HP.out, HU.out, .inr (by omega)⟩, rfl⟩
    · go_wp2
      go_ret
      exact ⟨s, rfl, ⟨HP.out, HU.out, .inl (by omega)⟩, rfl⟩

theorem pw_and {s : Int} (h : Pw s) : (bits BinOp.and IntKind.i64 s (s - 1) != 0) = false := by
  unfold Pw at h
  rcases h with rfl | rfl | rfl | rfl | rfl | rfl | rfl | rfl | rfl <;> decide +kernel

theorem least_any (u : Int) (w : World) :
    Calls Try.prog 4 #[.int .i64 u] w fun e w' => e = .returned (.bool true) ∧ w' = w := by
  go_enter Try.func4, Try.ntmps4
  go_wp2_with fail
  refine (piece_any u w).mono ?_
  rintro e w' ⟨s, rfl, hf, rfl⟩
  obtain ⟨hp, hlo, hhi⟩ := hf
  obtain ⟨h1, h2⟩ := hp.bounds
  have hb := pw_and hp
  have HP : Hid (Pw s) := hp
  clear hp
  go_wp2
  all_goals
    go_ret
    exact ⟨rfl, rfl⟩

/-- bitLen: the number of bits -/
theorem bitLen_any (x : Nat) (w : World) (hx : x < 18446744073709551616) :
    Calls Try.prog 25 #[.int .u64 x] w fun e w' => ∃ k : Nat, e = .returned (.int .u64 k) ∧ x < 2 ^ k ∧ (k = 0 ∨ 2 ^ (k - 1) ≤ x) ∧ w' = w := by
  go_enter Try.func25, Try.ntmps25
  go_wp2
  go_loop [0, 3] (fun y i => ∃ k : Nat, k ≤ 64 ∧ i = .int .u64 k ∧ y = .int .u64 (x / 2 ^ k : Nat) ∧ (k = 0 ∨ 2 ^ (k - 1) ≤ x)) (fun y _ => (intOf y).toNat)
  case atStart => exact ⟨0, by omega, rfl, by simp, .inl rfl⟩
  case round =>
    obtain ⟨k, hk, rfl, rfl, hh⟩ := hrel
    obtain ⟨q, hq⟩ : ∃ q : Nat, q = x / 2 ^ k := ⟨_, rfl⟩
    have hqx : q ≤ x := by rw [hq]; exact Nat.div_le_self _ _
    rw [← hq]
    have HQ : Hid (q = x / 2 ^ k) := hq
    have HH : Hid (k = 0 ∨ 2 ^ (k - 1) ≤ x) := hh
    clear hq hh
    by_cases h0 : q = 0
    · subst h0
      go_wp2
      go_ret
      refine ⟨k, rfl, ?_, HH.out, rfl⟩
      exact bits_done HQ.out
    · have hpos : 0 < q := by omega
      have hlt : k < 64 := bits_lt HQ.out hpos hx
      clear h0
      go_wp2
      go_round
      case rel => exact ⟨k + 1, by omega, by go_num, by rw [← bits_half HQ.out]; go_num, .inr (bits_le HQ.out hpos)⟩
      case measure => simp [intOf]; omega

theorem wrap_pow {k : Nat} (h : k ≤ 43) : wrap64 ((2 : Int) ^ k) = (2 : Int) ^ k := by
  have e : ((2 ^ k : Nat) : Int) = (2 : Int) ^ k := by simp
  have h1 : 2 ^ k ≤ 2 ^ 43 := Nat.pow_le_pow_right (by decide) h
  rw [← e]
  generalize 2 ^ k = P at h1 ⊢
  exact IntWalk.wrap64_in _ ⟨by omega, by omega⟩

theorem model_any (u : Int) (w : World) (hu : u ≤ 9223372036854775807) :
    Calls Try.prog 12 #[.int .i64 u] w fun e w' => ∃ s, e = .returned (.int .i64 s) ∧ Fits u s ∧ w' = w := by
  by_cases h0 : u ≤ 0
  · go_enter Try.func12, Try.ntmps12
    go_wp2
    go_ret
    exact ⟨65536, rfl, ⟨Pw.first, .inl rfl, .inr (by omega)⟩, rfl⟩
  · obtain ⟨x, hx⟩ : ∃ x : Nat, (x : Int) = (u - 1) / 1048576 := ⟨((u - 1) / 1048576).toNat, by omega⟩
    by_cases h1 : x < 65536
    · have HX : Hid ((x : Int) = (u - 1) / 1048576) := hx
      go_enter Try.func12, Try.ntmps12
      go_wp2
      go_ret
      exact ⟨65536, rfl, ⟨Pw.first, .inl rfl, .inr (by have := HX.out; omega)⟩, rfl⟩
    · go_enter Try.func12, Try.ntmps12
      go_wp2_with fail
      rw [← hx]
      refine (bitLen_any x w (by omega)).mono ?_
      rintro e w' ⟨k, rfl, hk1, hk2, rfl⟩
      have hk : k ≤ 43 := bits_k hk2 (by omega)
      have HM := model_fits hx (by omega) hk1 hk2
      have HN : Hid (((2 : Int) ^ k ≤ 16777216 → Fits u ((2 : Int) ^ k)) ∧ (16777216 < (2 : Int) ^ k → Fits u 16777216)) := HM
      clear HM hk1 hk2
      have HW : Hid (wrap64 ((2 : Int) ^ k) = (2 : Int) ^ k) := wrap_pow hk
      go_wp2
      · go_ret
        have ht : 16777216 < wrap64 ((2 : Int) ^ k) := by assumption
        rw [HW.out] at ht
        exact ⟨16777216, rfl, HN.out.2 ht, rfl⟩
      · go_ret
        have ht : wrap64 ((2 : Int) ^ k) ≤ 16777216 := by assumption
        rw [HW.out] at ht
        exact ⟨_, rfl, by rw [HW.out]; exact HN.out.1 ht, rfl⟩

theorem ceiling_any (u : Int) (w : World) (hu : u ≤ 9223372036854775807) :
    Calls Try.prog 3 #[.int .i64 u] w fun e w' => e = .returned (.bool true) ∧ w' = w := by
  go_enter Try.func3, Try.ntmps3
  go_wp2_with fail
  refine (piece_any u w).mono ?_
  rintro e w' ⟨s, rfl, hf, rfl⟩
  have HF : Hid (Fits u s) := hf
  clear hf
  go_wp2_with fail
  refine (model_any u w' hu).mono ?_
  rintro e w' ⟨p, rfl, hf, rfl⟩
  obtain rfl : s = p := HF.out.unique hf
  clear hf
  go_wp2
  go_ret
  exact ⟨by simp, rfl⟩
end Go.Proofs.Qxb6602224a.Piece
