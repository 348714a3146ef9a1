/-
  What AppendMarked leaves of the old extents; how their lengths add up.
-/
import Derived.Test.Qxb6602224aCanonPlain
import Derived.Test.Qxb6602224aBits
namespace Go.Proofs.Qxb6602224a.Own
open Go.RowKit

/-- the first m extents of cur are those of es, but that the last of them may have grown -/
structure Keeps (es cur : List (Int × Int)) : Prop where
  len : es.length ≤ cur.length
  same : ∀ i, i + 1 < es.length → cur.getD i (0, 0) = es.getD i (0, 0)
  last : 0 < es.length → (cur.getD (es.length - 1) (0, 0)).1 = (es.getD (es.length - 1) (0, 0)).1
theorem Keeps.refl (es : List (Int × Int)) : Keeps es es := ⟨Nat.le_refl _, fun _ _ => rfl, fun _ => rfl⟩
theorem Keeps.appE {es cur : List (Int × Int)} (h : Keeps es cur) (o l : Int) : Keeps es (appE cur o l) := by
  have hl := h.len
  unfold Own.appE
  split
  · rename_i hj
    have hpos : 0 < cur.length := by unfold joins at hj; simp at hj; omega
    refine ⟨by simpa using hl, fun i hi => ?_, fun h0 => ?_⟩
    · rw [getD_set _ _ (by omega), if_neg (by omega)]; exact h.same i hi
    · rw [getD_set _ _ (by omega)]
      split
      · rename_i e
        rw [← h.last h0, e]; rfl
      · exact h.last h0
  · refine ⟨by simp; omega, fun i hi => ?_, fun h0 => ?_⟩
    · rw [getD_append, if_pos (by omega)]; exact h.same i hi
    · rw [getD_append, if_pos (by omega)]; exact h.last h0
theorem keeps_bitE (bs : List Int) (off unit : Int) (es : List (Int × Int)) (k : Nat) : Keeps es (bitE bs off unit es k) := by
  induction k with
  | zero => exact Keeps.refl es
  | succ k ih =>
    show Keeps es (if bit bs k then _ else _)
    split
    · exact ih.appE _ _
    · exact ih

/-- the lengths of the first k extents, added up -/
def sumTo (es : List (Int × Int)) : Nat → Int
  | 0 => 0
  | k + 1 => sumTo es k + (es.getD k (0, 0)).2
/-- the set bits among the first k -/
def cnt (bs : List Int) : Nat → Nat
  | 0 => 0
  | k + 1 => cnt bs k + if bit bs k then 1 else 0
theorem cnt_le (bs : List Int) (k : Nat) : cnt bs k ≤ k := by
  induction k with
  | zero => exact Nat.le_refl _
  | succ k ih => show cnt bs k + (if bit bs k then 1 else 0) ≤ _; split <;> omega
theorem sumTo_congr {es fs : List (Int × Int)} (k : Nat) (h : ∀ i, i < k → (es.getD i (0, 0)).2 = (fs.getD i (0, 0)).2) : sumTo es k = sumTo fs k := by
  induction k with
  | zero => rfl
  | succ k ih =>
    show sumTo es k + _ = sumTo fs k + _
    rw [ih (fun i hi => h i (by omega)), h k (by omega)]
theorem sum_step (es : List (Int × Int)) (k : Nat) : wrap64 (wrap64 (sumTo es k) + (es.getD k (0, 0)).2) = wrap64 (sumTo es (k + 1)) := by
  rw [wrap_wrap_add]; rfl
theorem sum_appE (es : List (Int × Int)) (o l : Int) : wrap64 (sumTo (appE es o l) (appE es o l).length) = wrap64 (sumTo es es.length + l) := by
  unfold appE
  split
  · rename_i hj
    have hpos : 0 < es.length := by unfold joins at hj; simp at hj; omega
    obtain ⟨n, hn⟩ : ∃ n, es.length = n + 1 := ⟨es.length - 1, by omega⟩
    rw [List.length_set, hn, Nat.add_sub_cancel]
    show wrap64 (sumTo _ n + _) = wrap64 (sumTo es n + _ + l)
    rw [getD_set _ _ (by omega), if_pos rfl, sumTo_congr (fs := es) n (fun i hi => by rw [getD_set _ _ (by omega), if_neg (by omega)])]
    simp only
    rw [wrap_add_wrap]
    have e : lastE es = es.getD n (0, 0) := by unfold lastE; rw [hn, Nat.add_sub_cancel]
    rw [e]
    congr 1; omega
  · rw [List.length_append, List.length_singleton]
    show wrap64 (sumTo _ es.length + _) = _
    rw [getD_append, if_neg (Nat.lt_irrefl _), if_pos rfl, sumTo_congr (fs := es) es.length (fun i hi => by rw [getD_append, if_pos hi])]
theorem sum_bitE (bs : List Int) (off unit : Int) (es : List (Int × Int)) (k : Nat) : wrap64 (sumTo (bitE bs off unit es k) (bitE bs off unit es k).length) = wrap64 (sumTo es es.length + (cnt bs k : Int) * unit) := by
  induction k with
  | zero => show wrap64 (sumTo es es.length) = wrap64 (sumTo es es.length + ((0 : Nat) : Int) * unit); simp
  | succ k ih =>
    have e1 : bitE bs off unit es (k + 1) = if bit bs k then appE (bitE bs off unit es k) (at_ off unit k) unit else bitE bs off unit es k := rfl
    have e2 : cnt bs (k + 1) = cnt bs k + if bit bs k then 1 else 0 := rfl
    rw [e1, e2]
    cases hb : bit bs k
    · simpa using ih
    · simp only [if_true]
      rw [sum_appE, ← wrap_wrap_add, ih, wrap_wrap_add]
      congr 1
      rw [show ((cnt bs k + 1 : Nat) : Int) = (cnt bs k : Int) + 1 by omega, Int.add_mul, Int.one_mul]; omega
/-- the law's last line -/
theorem sums_meet (bs : List Int) (off unit : Int) (es : List (Int × Int)) (n : Nat) :
    (wrap64 (wrap64 (sumTo (bitE bs off unit es n) (bitE bs off unit es n).length) - wrap64 (sumTo es es.length)) == wrap64 ((cnt bs n : Int) * unit)) = true := by
  rw [sum_bitE, beq_iff_eq]
  unfold wrap64; omega
end Go.Proofs.Qxb6602224a.Own
