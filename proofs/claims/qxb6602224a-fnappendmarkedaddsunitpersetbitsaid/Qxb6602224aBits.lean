/-
  Marked bits, plainly: bit by bit against runs.
-/
import Derived.Test.Qxb6602224aAppE
namespace Go.Proofs.Qxb6602224a.Own
open Go.RowKit

/-- bit r of the byte x, as Go reckons it -/
def bitB (x : Int) (r : Nat) : Bool := bits BinOp.and IntKind.u8 (x / 2 ^ r) 1 != 0
def bit (bs : List Int) (i : Nat) : Bool := bitB (bs.getD (i / 8) 0) (i % 8)
theorem bitB_zero (r : Nat) : bitB 0 r = false := by
  unfold bitB; rw [Int.zero_ediv]; decide
theorem bitB_full (r : Nat) (h : r < 8) : bitB 255 r = true := by
  have : r = 0 ∨ r = 1 ∨ r = 2 ∨ r = 3 ∨ r = 4 ∨ r = 5 ∨ r = 6 ∨ r = 7 := by omega
  rcases this with rfl | rfl | rfl | rfl | rfl | rfl | rfl | rfl <;> decide

/-- where unit i starts -/
def at_ (off unit : Int) (i : Nat) : Int := wrap64 (off + wrap64 ((i : Int) * unit))
/-- how long k units are -/
def len_ (unit : Int) (k : Nat) : Int := wrap64 ((k : Int) * unit)

/-- bit by bit -/
def bitE (bs : List Int) (off unit : Int) (es : List (Int × Int)) : Nat → List (Int × Int)
  | 0 => es
  | k + 1 => if bit bs k then appE (bitE bs off unit es k) (at_ off unit k) unit else bitE bs off unit es k

theorem wrap_wrap_add (a b : Int) : wrap64 (wrap64 a + b) = wrap64 (a + b) := by unfold wrap64; omega
theorem wrap_add_wrap (a b : Int) : wrap64 (a + wrap64 b) = wrap64 (a + b) := by unfold wrap64; omega
theorem at_len (off unit : Int) (s k : Nat) (h : s ≤ k) : wrap64 (at_ off unit s + len_ unit (k - s)) = at_ off unit k := by
  unfold at_ len_
  rw [wrap_wrap_add, wrap_add_wrap, wrap_add_wrap]
  have e : ((k - s : Nat) : Int) = (k : Int) - s := by omega
  rw [e, Int.sub_mul]
  have e2 : off + wrap64 ((s : Int) * unit) + ((k : Int) * unit - (s : Int) * unit) = wrap64 ((s : Int) * unit) + (off + (k : Int) * unit - (s : Int) * unit) := by omega
  rw [e2, wrap_wrap_add]
  congr 1; omega
theorem len_succ (unit : Int) (s k : Nat) (h : s ≤ k) : wrap64 (len_ unit (k - s) + unit) = len_ unit (k + 1 - s) := by
  unfold len_
  rw [wrap_wrap_add]
  have e : ((k + 1 - s : Nat) : Int) = ((k - s : Nat) : Int) + 1 := by omega
  rw [e, Int.add_mul, Int.one_mul]

theorem lastE_append (es : List (Int × Int)) (p : Int × Int) : lastE (es ++ [p]) = p := by
  unfold lastE; simp [List.getD]
theorem lastE_set (es : List (Int × Int)) (p : Int × Int) (h : 0 < es.length) : lastE (es.set (es.length - 1) p) = p := by
  unfold lastE; rw [List.length_set]; simp [List.getD, show es.length - 1 < es.length by omega]
theorem set_last_append (es : List (Int × Int)) (p q : Int × Int) : (es ++ [p]).set ((es ++ [p]).length - 1) q = es ++ [q] := by
  rw [List.length_append, List.length_singleton, Nat.add_sub_cancel, List.set_append_right _ _ (Nat.le_refl _), Nat.sub_self]; rfl

/-- a run that grows by one unit -/
theorem run_grows (cur : List (Int × Int)) (off unit : Int) (s k : Nat) (h : s ≤ k) :
    appE (appE cur (at_ off unit s) (len_ unit (k - s))) (at_ off unit k) unit = appE cur (at_ off unit s) (len_ unit (k + 1 - s)) := by
  by_cases hj : joins cur (at_ off unit s) = true
  · have hpos : 0 < cur.length := by unfold joins at hj; simp at hj; omega
    have hjo : wrap64 ((lastE cur).1 + (lastE cur).2) = at_ off unit s := by unfold joins at hj; simp at hj; exact hj.2
    have e1 : ∀ L, appE cur (at_ off unit s) L = cur.set (cur.length - 1) ((lastE cur).1, wrap64 ((lastE cur).2 + L)) := fun L => by unfold appE; rw [if_pos hj]
    rw [e1, e1]
    have hj2 : joins (cur.set (cur.length - 1) ((lastE cur).1, wrap64 ((lastE cur).2 + len_ unit (k - s)))) (at_ off unit k) = true := by
      unfold joins
      rw [lastE_set _ _ hpos, List.length_set]
      simp only [hpos, decide_true, Bool.true_and, beq_iff_eq]
      rw [wrap_add_wrap, ← Int.add_assoc, ← wrap_wrap_add, hjo, at_len off unit s k h]
    unfold appE
    rw [if_pos hj2, lastE_set _ _ hpos, List.length_set, List.set_set]
    simp only
    rw [wrap_wrap_add, ← len_succ unit s k h, wrap_add_wrap, Int.add_assoc]
  · have e1 : ∀ L, appE cur (at_ off unit s) L = cur ++ [(at_ off unit s, L)] := fun L => by unfold appE; rw [if_neg hj]
    rw [e1, e1]
    have hj2 : joins (cur ++ [(at_ off unit s, len_ unit (k - s))]) (at_ off unit k) = true := by
      unfold joins
      rw [lastE_append]
      simp only [List.length_append, List.length_singleton, beq_iff_eq, Bool.and_eq_true, decide_eq_true_eq]
      exact ⟨by omega, at_len off unit s k h⟩
    unfold appE
    rw [if_pos hj2, lastE_append, set_last_append]
    simp only
    rw [len_succ unit s k h]

/-- the state of AppendMarked's loop at place k: what is written, and the run that is open -/
def Pend (bs : List Int) (off unit : Int) (es cur : List (Int × Int)) (inn : Bool) (s k : Nat) : Prop :=
  if inn then s < k ∧ appE cur (at_ off unit s) (len_ unit (k - s)) = bitE bs off unit es k else cur = bitE bs off unit es k

section
variable {bs : List Int} {off unit : Int} {es cur : List (Int × Int)} {s k : Nat}
theorem pend_start : Pend bs off unit es es false 0 0 := by unfold Pend; simp [bitE]
/-- a set bit goes on with the run -/
theorem pend_on (h : Pend bs off unit es cur true s k) (hb : bit bs k = true) : Pend bs off unit es cur true s (k + 1) := by
  unfold Pend at h ⊢
  simp only [if_true] at h ⊢
  refine ⟨by omega, ?_⟩
  show _ = (if bit bs k then appE (bitE bs off unit es k) (at_ off unit k) unit else bitE bs off unit es k)
  rw [hb, if_pos rfl, ← h.2, run_grows cur off unit s k (by omega)]
/-- a set bit opens a run -/
theorem pend_open {t : Nat} (hu : wrap64 unit = unit) (h : Pend bs off unit es cur false t k) (hb : bit bs k = true) : Pend bs off unit es cur true k (k + 1) := by
  unfold Pend at h ⊢
  simp only [if_true] at ⊢
  simp only [Bool.false_eq_true, if_false] at h
  refine ⟨by omega, ?_⟩
  show _ = (if bit bs k then appE (bitE bs off unit es k) (at_ off unit k) unit else bitE bs off unit es k)
  rw [hb, if_pos rfl, ← h]
  congr 1
  unfold len_
  rw [show k + 1 - k = 1 by omega]
  simp [hu]
/-- a clear bit, no run -/
theorem pend_off {t : Nat} (h : Pend bs off unit es cur false t k) (hb : bit bs k = false) : Pend bs off unit es cur false t (k + 1) := by
  unfold Pend at h ⊢
  simp only [Bool.false_eq_true, if_false] at h ⊢
  show _ = (if bit bs k then appE (bitE bs off unit es k) (at_ off unit k) unit else bitE bs off unit es k)
  rw [hb, if_neg (by simp)]; exact h
/-- the run is shut -/
theorem pend_shut {t : Nat} (h : Pend bs off unit es cur true s k) : Pend bs off unit es (appE cur (at_ off unit s) (len_ unit (k - s))) false t k := by
  unfold Pend at h ⊢
  simp only [if_true] at h
  simp only [Bool.false_eq_true, if_false]
  exact h.2
/-- a whole byte of the same kind -/
theorem pend_many {inn : Bool} (h : Pend bs off unit es cur inn s k) (j : Nat) (hb : ∀ i, k ≤ i → i < k + j → bit bs i = inn) : Pend bs off unit es cur inn s (k + j) := by
  induction j with
  | zero => exact h
  | succ j ih =>
    have := ih (fun i h1 h2 => hb i h1 (by omega))
    have hk := hb (k + j) (by omega) (by omega)
    cases inn
    · exact pend_off this hk
    · exact pend_on this hk
theorem pend_done {t : Nat} (h : Pend bs off unit es cur false t k) : cur = bitE bs off unit es k := by
  unfold Pend at h
  simpa using h
end

/-- the bits of one byte -/
theorem byte_bits (bs : List Int) (i x : Nat) (hi : i % 8 = 0) (inn : Bool) (hx : bs.getD (i / 8) 0 = (x : Int)) (h : (x = 0 ∧ inn = false) ∨ (x = 255 ∧ inn = true)) : ∀ j, i ≤ j → j < i + 8 → bit bs j = inn := by
  intro j h1 h2
  unfold bit
  rw [show j / 8 = i / 8 by omega, hx]
  rcases h with ⟨rfl, rfl⟩ | ⟨rfl, rfl⟩
  · exact bitB_zero _
  · exact bitB_full _ (by omega)
theorem appE_length (es : List (Int × Int)) (o l : Int) : (appE es o l).length ≤ es.length + 1 := by
  unfold appE; split <;> simp
theorem bitE_length (bs : List Int) (off unit : Int) (es : List (Int × Int)) (k : Nat) : (bitE bs off unit es k).length ≤ es.length + k := by
  induction k with
  | zero => exact Nat.le_refl _
  | succ k ih =>
    show (if bit bs k then appE (bitE bs off unit es k) (at_ off unit k) unit else bitE bs off unit es k).length ≤ _
    split
    · have := appE_length (bitE bs off unit es k) (at_ off unit k) unit; omega
    · omega
end Go.Proofs.Qxb6602224a.Own
