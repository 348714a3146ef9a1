/-
  The plain law of allDigits: no Go in sight.
-/
import Derived.WalkKit
namespace Go.Proofs.Qxb6602194a.Dig
/-- is this byte an ASCII digit? -/
def isDig (c : UInt8) : Bool := 48 ≤ c && c ≤ 57
/-- one or more bytes, digits all -/
def adB (l : List UInt8) : Bool := !l.isEmpty && l.all isDig
/-- how many digits are there? -/
def dig (l : List UInt8) : Nat := l.countP isDig

theorem dig_le (l : List UInt8) : dig l ≤ l.length := List.countP_le_length
theorem take_snoc (s : ByteArray) (k : Nat) (h : k < s.size) : s.data.toList.take (k + 1) = s.data.toList.take k ++ [s[k]] := by
  rw [List.take_succ_eq_append_getElem (by simpa using h)]; rfl
theorem isDig_iff (c : UInt8) : isDig c = decide (48 ≤ (c.toNat : Int) ∧ (c.toNat : Int) ≤ 57) := by
  unfold isDig
  rw [Bool.eq_iff_iff]; simp [UInt8.le_iff_toNat_le]; omega
theorem dig_snoc (l : List UInt8) (c : UInt8) : dig (l ++ [c]) = dig l + if isDig c then 1 else 0 := by
  unfold dig
  simp [List.countP_append, List.countP_cons]
theorem all_snoc (l : List UInt8) (c : UInt8) : (l ++ [c]).all isDig = (l.all isDig && isDig c) := by simp
theorem dig_all (l : List UInt8) : dig l = l.length ↔ l.all isDig = true := by
  unfold dig
  rw [List.countP_eq_length]; simp
/-- a byte that is no digit among the first k + 1: not all are digits -/
theorem adB_no (s : ByteArray) (k : Nat) (h : k < s.size) (hd : isDig s[k] = false) : adB s.data.toList = false := by
  unfold adB
  have : s.data.toList.all isDig = false := by
    rw [List.all_eq_false]
    exact ⟨s[k], by exact List.getElem_mem (l := s.data.toList) (by simpa using h), by simp [hd]⟩
  simp [this]
theorem adB_yes (s : ByteArray) (h : s.size ≠ 0) (ha : (s.data.toList.take s.size).all isDig = true) : adB s.data.toList = true := by
  unfold adB
  rw [List.take_of_length_le (by simp)] at ha
  have : s.data.toList ≠ [] := by
    intro e; have := congrArg List.length e; simp at this; exact h (by simp [this])
  have h2 : s.data.toList.isEmpty = false := List.isEmpty_eq_false_iff.2 this
  rw [ha, h2]; rfl
theorem adB_count (s : ByteArray) (n : Nat) (hn : n = dig (s.data.toList.take s.size)) : adB s.data.toList = (decide (0 < s.size) && decide (n = s.size)) := by
  subst hn
  rw [List.take_of_length_le (by simp)]
  have e : s.size = s.data.toList.length := by simp
  rw [e]
  unfold adB
  have := dig_all s.data.toList
  by_cases h : s.data.toList = []
  · simp [h]
  · have h0 : 0 < s.data.toList.length := by
      rcases Nat.eq_zero_or_pos s.data.toList.length with h' | h'
      · exact absurd (List.length_eq_zero_iff.1 h') h
      · exact h'
    rw [Bool.eq_iff_iff]
    simp only [Bool.and_eq_true, decide_eq_true_eq, Bool.not_eq_true', List.isEmpty_eq_false_iff]
    constructor
    · rintro ⟨_, h2⟩; exact ⟨h0, this.2 h2⟩
    · rintro ⟨_, h2⟩; exact ⟨h, this.1 h2⟩
/-- the j-th byte of the text 0123456789 is 48 + j -/
theorem lit_at (j : Nat) (hj : j < 10) (h : j < (ByteArray.mk #[48, 49, 50, 51, 52, 53, 54, 55, 56, 57]).size) : (((ByteArray.mk #[48, 49, 50, 51, 52, 53, 54, 55, 56, 57])[j]'h).toNat : Int) = 48 + j := by
  match j, hj with
  | 0, _ => rfl
  | 1, _ => rfl
  | 2, _ => rfl
  | 3, _ => rfl
  | 4, _ => rfl
  | 5, _ => rfl
  | 6, _ => rfl
  | 7, _ => rfl
  | 8, _ => rfl
  | 9, _ => rfl
theorem in_yes (c : Int) (j : Nat) (x : Int) (hx : x = 48 + j) (h : (c == x) = true) : true = decide (48 ≤ c ∧ c < 48 + ((j + 1 : Nat) : Int)) := by
  have : c = x := by simpa using h
  symm; exact decide_eq_true (by omega)
theorem in_no (c : Int) (j : Nat) (x : Int) (hx : x = 48 + j) (h : (c == x) = false) : decide (48 ≤ c ∧ c < 48 + (j : Int)) = decide (48 ≤ c ∧ c < 48 + ((j + 1 : Nat) : Int)) := by
  have : c ≠ x := by simpa using h
  rw [Bool.eq_iff_iff]; simp only [decide_eq_true_eq]; omega
theorem val_bool {a b : Bool} (h : a = b) : Value.bool a = Value.bool b := by rw [h]
theorem val_int {k : IntKind} {a b : Int} (h : a = b) : Value.int k a = Value.int k b := by rw [h]
theorem dig_hit (s : ByteArray) (k : Nat) (h : k < s.size) (hd : isDig s[k] = true) : dig (s.data.toList.take (k + 1)) = dig (s.data.toList.take k) + 1 := by
  rw [take_snoc s k h, dig_snoc, hd]; rfl
theorem dig_miss (s : ByteArray) (k : Nat) (h : k < s.size) (hd : isDig s[k] = false) : dig (s.data.toList.take (k + 1)) = dig (s.data.toList.take k) := by
  rw [take_snoc s k h, dig_snoc, hd]; rfl
theorem end_yes (s : ByteArray) (k : Nat) (h : k = s.size) (h0 : 0 < s.size) : (((dig (s.data.toList.take k) : Nat) : Int) == (s.size : Int)) = adB s.data.toList := by
  subst h
  rw [adB_count s _ rfl, Bool.eq_iff_iff]
  simp [h0]
  omega
theorem end_no (s : ByteArray) (h0 : ¬ 0 < s.size) : false = adB s.data.toList := by
  rw [adB_count s _ rfl]; simp [h0]
end Go.Proofs.Qxb6602194a.Dig
