/-
  The walks of zzReverse and zzAppendModel.
-/
import Derived.Test.Qxb6602194aHas
namespace Go.Proofs.Qxb6602194a.Own
open Go.RowKit

/-- the row of zzReverse behind k rounds -/
def revd (xs : List Int) (k : Nat) : List Int := xs.reverse.take k ++ List.replicate (xs.length - k) 0
theorem revd_length (xs : List Int) (k : Nat) (h : k ≤ xs.length) : (revd xs k).length = xs.length := by simp [revd]; omega
theorem revd_zero (xs : List Int) : revd xs 0 = List.replicate xs.length 0 := by simp [revd]
theorem revd_all (xs : List Int) : revd xs xs.length = xs.reverse := by
  unfold revd; rw [List.take_of_length_le (by simp)]; simp
theorem revd_set (xs : List Int) (k : Nat) (h : k < xs.length) : (revd xs k).set k (xs.getD (xs.length - 1 - k) 0) = revd xs (k + 1) := by
  unfold revd
  have e1 : (xs.reverse.take k).length = k := by simp; omega
  rw [List.set_append_right _ _ (by omega), e1, Nat.sub_self]
  obtain ⟨m, hm⟩ : ∃ m, xs.length - k = m + 1 := ⟨xs.length - k - 1, by omega⟩
  rw [hm, show xs.length - (k + 1) = m by omega, List.replicate_succ, List.set_cons_zero]
  rw [List.take_succ_eq_append_getElem (by simpa using h), List.append_assoc]
  congr 1
  have : xs.length - 1 - k < xs.length := by omega
  simp [List.getElem_reverse, List.getD, this]

theorem rev_step {w wr w2 : World} {n k : Nat} {xs : List Int} (hl : xs.length = n) (hk : k < n)
    (hS : w2.ownsRow w.heap.size 5 1 (.slice (some ⟨w.heap.size, 0, none⟩) n n) n (((revd xs k).map (.int .u8)).set k (.int .u8 (xs.getD (n - 1 - k) 0)))) (hg2 : wr.grownBy w2 (some w.heap.size)) (hg : w.grownBy wr none) :
    Has w2 w.heap.size (.slice (some ⟨w.heap.size, 0, none⟩) n n) (revd xs (k + 1)) ∧ w.grownBy w2 none := by
  constructor
  · unfold Has
    rw [revd_length xs (k + 1) (by omega), hl, ← revd_set xs k (by omega), hl, List.map_set]
    exact hS
  · have := hg.size
    exact ⟨hg2.os.trans hg.os, hg2.tape.trans hg.tape, hg2.output.trans hg.output, Nat.le_trans hg.size hg2.size, fun b hb hn => (hg2.block b (by omega) (by simp; omega)).trans (hg.block b hb hn)⟩

set_option maxHeartbeats 400000 in
theorem reverse_any (g n c : Nat) (xs : List Int) (w : World) (h : Rd w (some ⟨g, 0, none⟩) n c (xs.map (.int .u8))) (hn : n ≤ 10485760) :
    Calls Try.prog 18 #[.slice (some ⟨g, 0, none⟩) n c] w fun e w' => ∃ v', e = .returned v' ∧ Has w' w.heap.size v' xs.reverse ∧ w.grownBy w' none := by
  obtain ⟨i0, hi, hz0, hz1, hz2⟩ := info_parts info5
  have hl : xs.length = n := by simpa using h.len
  go_enter Try.func18, Try.ntmps18
  go_wp2_with (at_make; refine wpList_make_full _ rfl _ _ 22 rfl w.heap.size 5 i0 (.int .u8 0) 1 Try.underlying22 hi hz0 hz1 _ _ _ _ n rfl rfl (by omega) (by omega) (by rw [hz2]; omega) (by unfold maxLen; omega) (Nat.le_refl _) ?_)
  intro w1 hown hgrow
  have H1 : Hid (Has w1 w.heap.size (.slice (some ⟨w.heap.size, 0, none⟩) n n) (revd xs 0)) := by
    unfold Hid Has
    rw [revd_zero, hl]
    simpa [Value.cells, toList_madeCells_one] using hown
  have HL : Hid (xs.length = n) := hl
  have HG : Hid (w.grownBy w1 none) := hgrow
  have HR : Hid (Rd w (some ⟨g, 0, none⟩) n c (xs.map (.int .u8))) := h
  clear hown hl hgrow h
  go_wp2_with fail
  go_loopw [4] (fun i wr => ∃ k : Nat, k ≤ n ∧ i = .int .i64 k ∧ Has wr w.heap.size (.slice (some ⟨w.heap.size, 0, none⟩) n n) (revd xs k) ∧ w.grownBy wr none) (fun i _ => n - (intOf i).toNat)
  case atStart => exact ⟨0, Nat.zero_le _, rfl, H1.out, HG.out⟩
  case round =>
    obtain ⟨k, hk, rfl, hh, hgr⟩ := hrel
    have KH : Hid (Has wr w.heap.size (.slice (some ⟨w.heap.size, 0, none⟩) n n) (revd xs k)) := hh
    have KG : Hid (w.grownBy wr none) := hgr
    clear hh hgr
    by_cases hlt : k < n
    · have c1 : wr.cell? ⟨g, n - 1 - k, none⟩ = some (.int .u8 (xs.getD (n - 1 - k) 0)) := by
        have := (HR.out.keptNone KG.out).cell _ rfl (n - 1 - k) (.int .u8 (xs.getD (n - 1 - k) 0)) (by
          have e := HL.out
          have : n - 1 - k < xs.length := by omega
          simp [List.getD, this])
        simpa [Addr.add_lit] using this
      have hown' : wr.ownsRow w.heap.size 5 1 (.slice (some ⟨w.heap.size, 0, none⟩) n n) n ((revd xs k).map (.int .u8)) := by
        have := KH.out
        unfold Has at this
        rwa [revd_length xs k (by rw [HL.out]; exact hk), HL.out] at this
      have f1 := hown'.frozenAt k
      have c2 : wr.cell? ⟨w.heap.size, k, none⟩ = some (.int .u8 ((revd xs k).getD k 0)) := by
        rw [hown'.cellAt k (by omega)]
        have : k < (revd xs k).length := by rw [revd_length xs k (by rw [HL.out]; exact hk), HL.out]; exact hlt
        simp [List.getD, this]
      have hst := hown'.stored k (.int .u8 (xs.getD (n - 1 - k) 0))
      have KS := hst
      have HS : Hid ((wr.setCell ⟨w.heap.size, k, none⟩ (.int .u8 (xs.getD (n - 1 - k) 0))).ownsRow w.heap.size 5 1 (.slice (some ⟨w.heap.size, 0, none⟩) n n) n (((revd xs k).map (.int .u8)).set k (.int .u8 (xs.getD (n - 1 - k) 0))) ∧ wr.grownBy (wr.setCell ⟨w.heap.size, k, none⟩ (.int .u8 (xs.getD (n - 1 - k) 0))) (some w.heap.size)) := hst
      clear hst KS hown'
      go_wp2
      go_roundw
      case rel =>
        have R := rev_step HL.out hlt HS.out.1 HS.out.2 KG.out
        exact ⟨k + 1, by omega, by go_num, R.1, R.2⟩
      case measure => simp [intOf]; omega
    · go_wp2
      go_ret
      have ek : k = n := by omega
      refine ⟨_, rfl, ?_, KG.out⟩
      have := KH.out
      rw [ek, ← HL.out, revd_all] at this
      rw [HL.out] at this
      exact this

/-- what the first loop of zzAppendModel has gathered behind i rounds, from the end -/
def back (ds : List Int) (i : Nat) : List Int := (List.replicate (i - ds.length) 48 ++ ds.drop (ds.length - i)).reverse
theorem back_zero (ds : List Int) : back ds 0 = [] := by simp [back]
theorem back_digit (ds : List Int) (i : Nat) (h : i < ds.length) : back ds (i + 1) = back ds i ++ [ds.getD (ds.length - i - 1) 0] := by
  unfold back
  rw [show i + 1 - ds.length = 0 by omega, show i - ds.length = 0 by omega]
  have e : ds.drop (ds.length - (i + 1)) = ds.getD (ds.length - i - 1) 0 :: ds.drop (ds.length - i) := by
    rw [show ds.length - (i + 1) = ds.length - i - 1 by omega, List.drop_eq_getElem_cons (by omega), show ds.length - i - 1 + 1 = ds.length - i by omega]
    congr 1
    have : ds.length - i - 1 < ds.length := by omega
    simp [List.getD, this]
  rw [e]; simp
theorem back_zeros (ds : List Int) (i : Nat) (h : ds.length ≤ i) : back ds (i + 1) = back ds i ++ [48] := by
  unfold back
  rw [show i + 1 - ds.length = (i - ds.length) + 1 by omega, show ds.length - (i + 1) = 0 by omega, show ds.length - i = 0 by omega, List.replicate_succ]
  simp
theorem back_length (ds : List Int) (i : Nat) : (back ds i).length = i := by
  unfold back; simp; omega
/-- what the second loop adds, from place k on -/
def rest (ds : List Int) (m k : Nat) : List Int := ((ds.take m).drop k).reverse
theorem rest_start (ds : List Int) (m : Nat) : rest ds m m = [] := by
  unfold rest; rw [List.drop_eq_nil_of_le (by simp; omega)]; rfl
theorem rest_step (ds : List Int) (m k : Nat) (h : k < m) (hm : m ≤ ds.length) : rest ds m k = rest ds m (k + 1) ++ [ds.getD k 0] := by
  unfold rest
  rw [List.drop_eq_getElem_cons (by simp; omega)]
  have : k < ds.length := by omega
  simp [List.getD, this]
theorem rest_length (ds : List Int) (m k : Nat) : (rest ds m k).length ≤ ds.length := by
  unfold rest; simp; omega
theorem rest_len0 (ds : List Int) (m : Nat) : (rest ds m 0).length = min m ds.length := by
  unfold rest; simp
theorem model_fixed (neg : Bool) (ds : List Int) (p : Nat) : (back ds p ++ ((if 0 < p then [46] else []) ++ ((if ds.length ≤ p then [48] else []) ++ (rest ds (ds.length - p) 0 ++ sgn neg)))).reverse = fixed neg ds p := by
  unfold back rest fixed whole frac
  have hs : (sgn neg).reverse = sgn neg := by unfold sgn; split <;> rfl
  simp only [List.reverse_append, List.reverse_reverse, hs, List.drop_zero]
  by_cases hp : p = 0
  · subst hp
    by_cases hd : ds.length ≤ 0
    · have : ds = [] := List.eq_nil_of_length_eq_zero (by omega)
      simp [this]
    · simp [hd]
  · have hp' : 0 < p := by omega
    by_cases hd : ds.length ≤ p
    · simp [hp, hp', hd, show ds.length - p = 0 by omega]
    · simp [hp, hp', hd, show p - ds.length = 0 by omega]
end Go.Proofs.Qxb6602194a.Own
