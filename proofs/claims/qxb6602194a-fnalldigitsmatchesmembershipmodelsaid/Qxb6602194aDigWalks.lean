/-
  The walks of allDigits and of its model zzDigitsModel.
-/
import Derived.Test.Qxb6602194aRows
import Derived.Test.Qxb6602194aDigPlain
import Derived.WalkKit
import Derived.WalkLawsBesides
import Derived.Deep.QuietTactic
import Derived.BigQuiet
import Derived.Outline
namespace Go.Proofs.Qxb6602194a.Dig
open Go.RowKit

theorem ret_bool {a b : Bool} (h : a = b) : Ending.returned (.bool a) = .returned (.bool b) := by rw [h]

theorem isEmpty_of (s : ByteArray) : s.toList.isEmpty = decide (s.size = 0) := by
  rw [ByteArray.toList_eq, Bool.eq_iff_iff, List.isEmpty_iff, ← List.length_eq_zero_iff]
  simp

set_option maxHeartbeats 400000 in
theorem allDigits_any (s : ByteArray) (w : World) (hs : s.size ≤ maxLen) :
    Calls Try.prog 20 #[.string s] w fun e w' => e = .returned (.bool (adB s.data.toList)) ∧ w' = w := by
  unfold maxLen at hs
  by_cases h0 : s.size = 0
  · have he : s.toList.isEmpty = true := by rw [isEmpty_of]; simp [h0]
    have HA : Hid (adB s.data.toList = false) := by
      rw [ByteArray.toList_eq] at he
      unfold adB; rw [he]; rfl
    go_enter Try.func20, Try.ntmps20
    go_wp2
    go_ret
    exact ⟨ret_bool HA.out.symm, rfl⟩
  · have he : s.toList.isEmpty = false := by rw [isEmpty_of]; simp [h0]
    go_enter Try.func20, Try.ntmps20
    go_wp2
    go_loop [3] (fun i => ∃ k : Nat, k ≤ s.size ∧ i = .int .i64 k ∧ (s.data.toList.take k).all isDig = true) (fun i => s.size - (intOf i).toNat)
    case atStart => exact ⟨0, Nat.zero_le _, rfl, rfl⟩
    case round =>
      obtain ⟨k, hk, rfl, ha⟩ := hrel
      have HA : Hid ((s.data.toList.take k).all isDig = true) := ha
      clear ha
      by_cases hlt : k < s.size
      · have hI : Hid (isDig s[k] = decide (48 ≤ (s[k].toNat : Int) ∧ (s[k].toNat : Int) ≤ 57)) := isDig_iff _
        go_wp2
        · go_ret
          refine ⟨ret_bool (adB_no s k hlt ?_).symm, rfl⟩
          rw [hI.out]; exact decide_eq_false (by omega)
        · go_round
          case rel =>
            refine ⟨k + 1, by omega, by go_num, ?_⟩
            rw [take_snoc s k hlt, all_snoc, HA.out, hI.out]
            simp only [Bool.true_and, decide_eq_true_eq]; assumption
          case measure => simp [intOf]; omega
        · go_ret
          refine ⟨ret_bool (adB_no s k hlt ?_).symm, rfl⟩
          rw [hI.out]; exact decide_eq_false (by omega)
      · go_wp2
        go_ret
        have hk' : k = s.size := by omega
        exact ⟨ret_bool (adB_yes s h0 (by rw [← hk']; exact HA.out)).symm, rfl⟩

set_option maxHeartbeats 400000 in
theorem digitsModel_any (s : ByteArray) (w : World) (hs : s.size ≤ maxLen) :
    Calls Try.prog 16 #[.string s] w fun e w' => e = .returned (.bool (adB s.data.toList)) ∧ ∃ n, w' = w.drewN n := by
  unfold maxLen at hs
  go_enter Try.func16, Try.ntmps16
  go_wp2
  go_loopw [3, 4] (fun f i wr => ∃ k : Nat, k ≤ s.size ∧ i = .int .i64 k ∧ f = .int .i64 (dig (s.data.toList.take k)) ∧ ∃ n, wr = w.drewN n) (fun _ i _ => s.size - (intOf i).toNat)
  case atStart => exact ⟨0, Nat.zero_le _, rfl, rfl, 0, rfl⟩
  case round =>
    obtain ⟨k, hk, rfl, rfl, n, rfl⟩ := hrel
    have hd := dig_le (s.data.toList.take k)
    have hl : (s.data.toList.take k).length ≤ k := List.length_take_le _ _
    by_cases hlt : k < s.size
    · go_wp2
      go_loopw [5, 6] (fun f i wr => ∃ j : Nat, j ≤ 10 ∧ i = .int .i64 j ∧ f = .bool (decide (48 ≤ (s[k].toNat : Int) ∧ (s[k].toNat : Int) < 48 + j)) ∧ ∃ n, wr = w.drewN n) (fun _ i _ => 10 - (intOf i).toNat)
      case atStart => exact ⟨0, Nat.zero_le _, rfl, val_bool (by symm; exact decide_eq_false (by omega)), n, rfl⟩
      case round =>
        obtain ⟨j, hj, rfl, rfl, n, rfl⟩ := hrel
        by_cases hj10 : j < 10
        · go_wp2
          go_quiet (fail)
          go_wp2
          · go_roundw
            case rel => exact ⟨j + 1, by omega, by go_num, val_bool (in_yes _ j _ (lit_at j hj10 _) ‹_›), _, rfl⟩
            case measure => simp [intOf]; omega
          · go_roundw
            case rel => exact ⟨j + 1, by omega, by go_num, val_bool (in_no _ j _ (lit_at j hj10 _) ‹_›), _, rfl⟩
            case measure => simp [intOf]; omega
        · go_wp2
          · go_roundw
            case rel =>
              have hh := dig_hit s k hlt (by rw [isDig_iff]; exact decide_eq_true (by omega))
              exact ⟨k + 1, by omega, by go_num, val_int (by rw [hh]; omega), _, rfl⟩
            case measure => simp [intOf]; omega
          · go_roundw
            case rel =>
              have hh := dig_miss s k hlt (by rw [isDig_iff]; exact decide_eq_false (by omega))
              exact ⟨k + 1, by omega, by go_num, val_int (by rw [hh]), _, rfl⟩
            case measure => simp [intOf]; omega
    · go_wp2
      · go_ret
        exact ⟨ret_bool (end_yes s k (by omega) ‹_›), _, rfl⟩
      · go_ret
        exact ⟨ret_bool (end_no s ‹_›), _, rfl⟩
end Go.Proofs.Qxb6602194a.Dig
