/-
  The plain law: AppendExtent keeps the canonical form, and is what the coalescer gives.
-/
import Derived.Test.Qxb6602224aCoal
namespace Go.Proofs.Qxb6602224a.Own
open Go.RowKit

theorem wrap_in {x : Int} (h1 : -9223372036854775808 ≤ x) (h2 : x ≤ 9223372036854775807) : wrap64 x = x := IntWalk.wrap64_in _ ⟨h1, h2⟩
theorem wrap_I64 (x : Int) : I64 (wrap64 x) := by
  unfold I64 wrap64; omega

theorem getD_append {es : List (Int × Int)} {p : Int × Int} (i : Nat) : (es ++ [p]).getD i (0, 0) = if i < es.length then es.getD i (0, 0) else if i = es.length then p else (0, 0) := by
  by_cases h1 : i < es.length
  · rw [if_pos h1]; simp [List.getD, List.getElem?_append_left h1]
  · rw [if_neg h1]
    by_cases h2 : i = es.length
    · rw [if_pos h2]; subst h2; simp [List.getD]
    · rw [if_neg h2]
      have : es.length + 1 ≤ i := by omega
      simp [List.getD, List.getElem?_eq_none (l := es ++ [p]) (i := i) (by simp; omega)]
theorem getD_set {es : List (Int × Int)} {p : Int × Int} (k i : Nat) (hk : k < es.length) : (es.set k p).getD i (0, 0) = if i = k then p else es.getD i (0, 0) := by
  by_cases h : i = k
  · subst h; simp [List.getD, hk]
  · have h' : k ≠ i := fun e => h e.symm
    simp [List.getD, List.getElem?_set_ne h', h]

theorem wf_appE {es : List (Int × Int)} {o l : Int} (hw : Wf es) (ho : I64 o) (hl : I64 l) : Wf (appE es o l) := by
  intro i
  unfold appE
  split
  · rename_i hj
    have hpos : 0 < es.length := by unfold joins at hj; simp at hj; omega
    rw [getD_set _ _ (by omega)]
    split
    · exact ⟨(hw _).1, wrap_I64 _⟩
    · exact hw i
  · rw [getD_append]
    split
    · exact hw i
    · split
      · exact ⟨ho, hl⟩
      · exact ⟨⟨by decide, by decide⟩, by decide, by decide⟩

theorem canon_appE {es : List (Int × Int)} {o l : Int} (hc : Canon es) (hl : 0 < l) (ho : 0 ≤ o) (hol : o ≤ 9223372036854775807 - l) (hend : 0 < es.length → wrap64 ((lastE es).1 + (lastE es).2) ≤ o) : Canon (appE es o l) := by
  intro i hi
  by_cases hj : joins es o = true
  · have hpos : 0 < es.length := by unfold joins at hj; simp at hj; omega
    have hjo : wrap64 ((lastE es).1 + (lastE es).2) = o := by unfold joins at hj; simp at hj; exact hj.2
    have hlast := hc (es.length - 1) (by omega)
    unfold appE at hi ⊢
    rw [if_pos hj] at hi ⊢
    rw [List.length_set] at hi
    unfold goodAt
    rw [getD_set _ _ (by omega), getD_set _ _ (by omega)]
    have hok := hlast.1
    unfold okE at hok
    have e1 : wrap64 ((lastE es).1 + (lastE es).2) = (lastE es).1 + (lastE es).2 := by
      unfold lastE; exact wrap_in (by omega) (by omega)
    rw [e1] at hjo
    by_cases h : i = es.length - 1
    · rw [if_pos h]
      have e2 : wrap64 ((lastE es).2 + l) = (lastE es).2 + l := by
        unfold lastE at hjo ⊢; exact wrap_in (by omega) (by omega)
      rw [e2]
      refine ⟨?_, fun h0 => ?_⟩
      · unfold okE; unfold lastE at hjo ⊢; simp only; omega
      · rw [if_neg (by omega)]
        have := hlast.2 (by omega)
        rw [h]; exact this
    · rw [if_neg h]
      refine ⟨(hc i (by omega)).1, fun h0 => ?_⟩
      rw [if_neg (by omega)]
      exact (hc i (by omega)).2 h0
  · unfold appE at hi ⊢
    rw [if_neg hj] at hi ⊢
    rw [List.length_append, List.length_singleton] at hi
    unfold goodAt
    rw [getD_append, getD_append]
    by_cases h : i < es.length
    · rw [if_pos h]
      refine ⟨(hc i h).1, fun h0 => ?_⟩
      rw [if_pos (by omega)]
      exact (hc i h).2 h0
    · have hi' : i = es.length := by omega
      rw [if_neg h, if_pos hi']
      refine ⟨⟨hl, ho, hol⟩, fun h0 => ?_⟩
      rw [if_pos (by omega), hi']
      have h1 := hend (by omega)
      have h2 : wrap64 ((lastE es).1 + (lastE es).2) ≠ o := by
        intro e; apply hj; unfold joins; simp [e]; omega
      show wrap64 ((lastE es).1 + (lastE es).2) < o
      omega

theorem coal_canon {es : List (Int × Int)} (hc : Canon es) (k : Nat) (hk : k ≤ es.length) : coal (es.take k) = es.take k := by
  induction k with
  | zero => simp [coal]
  | succ k ih =>
    rw [coal_take es k hk, ih (by omega)]
    have hlen : (es.take k).length = k := by simp; omega
    have e : es.take (k + 1) = es.take k ++ [es.getD k (0, 0)] := by
      rw [List.take_succ_eq_append_getElem (by omega)]
      have : k < es.length := by omega
      simp [List.getD, this]
    unfold coStep
    rw [if_neg, e]
    rintro ⟨h1, h2⟩
    rw [hlen] at h1
    have h3 := (hc k (by omega)).2 h1
    have e2 : lastE (es.take k) = es.getD (k - 1) (0, 0) := by
      unfold lastE; rw [hlen]
      simp [List.getD, show k - 1 < k by omega]
    rw [e2] at h2
    omega

theorem coal_appE {es : List (Int × Int)} {o l : Int} (hc : Canon es) (hl : 0 < l) (ho : 0 ≤ o) (hol : o ≤ 9223372036854775807 - l) (hend : 0 < es.length → wrap64 ((lastE es).1 + (lastE es).2) ≤ o) : coal (es ++ [(o, l)]) = appE es o l := by
  have e0 : coal es = es := by
    have := coal_canon hc es.length (Nat.le_refl _)
    rwa [List.take_of_length_le (Nat.le_refl _)] at this
  have e1 : coal (es ++ [(o, l)]) = coStep es (o, l) := by
    have := e0
    unfold coal at this ⊢
    rw [List.foldl_append, this]; rfl
  rw [e1]
  by_cases hj : joins es o = true
  · have hpos : 0 < es.length := by unfold joins at hj; simp at hj; omega
    have hjo : wrap64 ((lastE es).1 + (lastE es).2) = o := by unfold joins at hj; simp at hj; exact hj.2
    have hok := (hc (es.length - 1) (by omega)).1
    unfold okE at hok
    have e2 : wrap64 ((lastE es).1 + (lastE es).2) = (lastE es).1 + (lastE es).2 := by
      unfold lastE; exact wrap_in (by omega) (by omega)
    unfold coStep appE
    rw [if_pos hj, if_pos ⟨hpos, by simp only; omega⟩]
    have e3 : wrap64 (o + l) = o + l := wrap_in (by omega) (by omega)
    rw [if_neg (by simp only; omega)]
    simp only
    rw [e3]
    congr 2
    rw [e2] at hjo
    congr 1
    omega
  · unfold coStep appE
    rw [if_neg hj, if_neg]
    rintro ⟨h1, h2⟩
    have h3 := hend h1
    apply hj
    unfold joins
    simp only at h2
    simp; omega
end Go.Proofs.Qxb6602224a.Own
