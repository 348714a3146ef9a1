/-
  The walk of zzAppendModel.
-/
import Derived.Test.Qxb6602194aModel
namespace Go.Proofs.Qxb6602194a.Own
open Go.RowKit

theorem step_below {B : Nat} {w wr w2 : World} {v v2 : Value} {xs : List Int} (h : Below B w wr) (hB : B ≤ w.heap.size) (hh : Has wr B v xs) (hs : Step wr v w2 v2) : Below B w w2 :=
  h.trans (hs.below (Nat.le_trans hB h.size) (fun g hg => (World.ownsRow.lt hh g hg).1))
theorem grown_of_below {w w' : World} (h : Below w.heap.size w w') : w.grownBy w' none := ⟨h.os, h.tape, h.output, h.size, fun k hk _ => h.block k hk⟩
theorem below_of_grown {w w' : World} (h : w.grownBy w' none) : Below w.heap.size w w' := ⟨h.os, h.tape, h.output, h.size, fun k hk => h.block k hk (by simp)⟩

/-- zzReverse of what the call owns -/
theorem reverse_has (B : Nat) (v : Value) (xs : List Int) (w : World) (h : Has w B v xs) (hpos : 0 < xs.length) (hle : xs.length ≤ 10485760) :
    Calls Try.prog 18 #[v] w fun e w' => ∃ v', e = .returned v' ∧ Has w' w.heap.size v' xs.reverse ∧ w.grownBy w' none := by
  obtain ⟨ao, c, rfl, hr, had⟩ := h.shape
  cases ao with
  | none => have := (hr.nil rfl).1; omega
  | some ad =>
    rw [(had ad rfl).1] at hr ⊢
    exact reverse_any _ _ _ xs w hr hle
theorem Has.mono {w : World} {B B' : Nat} {v : Value} {xs : List Int} (h : Has w B v xs) (hB : B' ≤ B) : Has w B' v xs := owns_mono h hB

set_option maxHeartbeats 1600000 in
theorem model_some (g n c p : Nat) (ds : List Int) (neg : Bool) (w : World) (h : Rd w (some ⟨g, 0, none⟩) n c (ds.map (.int .u8))) (hn : n ≤ 1048576) (hp : p ≤ 65536) (hg : g < w.heap.size) :
    Calls Try.prog 10 #[.bool neg, .slice (some ⟨g, 0, none⟩) n c, .int .i32 p] w fun e w' => ∃ v', e = .returned v' ∧ Has w' w.heap.size v' (fixed neg ds p) ∧ w.grownBy w' none := by
  obtain ⟨i0, hi, hz0, hz1, hz2⟩ := info_parts info5
  have hl : ds.length = n := by simpa using h.len
  have hcell : ∀ k, k < n → w.cell? ⟨g, k, none⟩ = some (.int .u8 (ds.getD k 0)) := fun k hk => by
    have := h.cell _ rfl k (.int .u8 (ds.getD k 0)) (by simp [List.getD, hl, hk])
    simpa [Addr.add_lit] using this
  have HC : Hid (∀ k, k < n → w.cell? ⟨g, k, none⟩ = some (.int .u8 (ds.getD k 0))) := hcell
  have HL : Hid (ds.length = n) := hl
  clear hcell hl h
  go_enter Try.func10, Try.ntmps10
  go_wp2_with (at_make; refine wpList_make_own _ rfl _ _ 22 rfl w.heap.size 5 i0 (.int .u8 0) 1 Try.underlying22 hi hz0 hz1 _ _ _ (n + p + 3) rfl rfl (by omega) (by rw [hz2]; omega) (by unfold maxLen; omega) (Nat.le_refl _) ?_)
  intro w1 hown hgrow
  have H1 : Hid (Has w1 w.heap.size (.slice (some ⟨w.heap.size, 0, none⟩) 0 (n + p + 3)) (back ds 0)) := by
    unfold Hid Has; rw [back_zero]; exact hown
  have HG : Hid (Below w.heap.size w w1) := (Below.refl _ _).grown hgrow (Nat.le_refl _) (by simp)
  clear hown hgrow
  go_wp2_with fail
  go_loopw [7, 8, 9] (fun v k i wr => ∃ j : Nat, j ≤ p ∧ i = .int .i32 j ∧ k = .int .i64 (n - j : Nat) ∧ Has wr w.heap.size v (back ds j) ∧ Below w.heap.size w wr) (fun _ _ i _ => p - (intOf i).toNat)
  case atStart => exact ⟨0, Nat.zero_le _, rfl, rfl, H1.out, HG.out⟩
  case round =>
    obtain ⟨j, hj, rfl, rfl, hh, hb⟩ := hrel
    have KB : Hid (Below w.heap.size w wr) := hb
    have hsz := hb.size
    clear hb
    by_cases hlt : j < p
    · by_cases hd : j < n
      · have c1 : wr.cell? ⟨g, n - j - 1, none⟩ = some (.int .u8 (ds.getD (n - j - 1) 0)) := (KB.out.cell (by exact hg)).trans (HC.out _ (by omega))
        have hpos : 0 < n - j := by omega
        go_wp2_with (at_builtin; refine app1 _ rfl (.tmp 28) (.tmp 33) rfl w.heap.size _ _ _ rfl hh rfl (by rw [back_length]; omega) hsz ?_)
        intro v2 w2 hh2 hst2
        go_wp2
        go_roundw
        case rel => exact ⟨j + 1, by omega, by go_num, by go_num, hh2.congr (by rw [back_digit ds j (by rw [HL.out]; exact hd), HL.out]; simp), step_below KB.out (Nat.le_refl _) hh hst2⟩
        case measure => simp [intOf]; omega
      · have hz : n - j = 0 := by omega
        go_wp2_with (at_builtin; refine app1 _ rfl (.tmp 35) (.tmp 36) rfl w.heap.size _ _ _ rfl hh rfl (by rw [back_length]; omega) hsz ?_)
        intro v2 w2 hh2 hst2
        go_wp2
        go_roundw
        case rel => exact ⟨j + 1, by omega, by go_num, by go_num, hh2.congr (by rw [back_zeros ds j (by rw [HL.out]; omega)]), step_below KB.out (Nat.le_refl _) hh hst2⟩
        case measure => simp [intOf]; omega
    · have hj' : p = j := by omega
      subst hj'
      by_cases hp0 : 0 < p
      · by_cases hnp : n ≤ p
        · skip
          go_wp2_with (at_builtin; refine app1 _ rfl (.tmp 40) (.tmp 41) rfl w.heap.size _ _ _ rfl hh rfl (by rw [back_length]; omega) hsz ?_)
          intro vd wd hhd hstd
          have KD : Hid (Below w.heap.size w wd) := step_below KB.out (Nat.le_refl _) hh hstd
          have hszd := KD.out.size
          clear hstd hh
          go_wp2_with (at_builtin; refine app1 _ rfl (.tmp 45) (.tmp 46) rfl w.heap.size _ _ _ rfl hhd rfl (by simp [back_length]; omega) hszd ?_)
          intro vz wz hhz hstz
          have KZ : Hid (Below w.heap.size w wz) := step_below KD.out (Nat.le_refl _) hhd hstz
          have hszz := KZ.out.size
          clear hstz hhd
          obtain ⟨L, hL, hhL⟩ : ∃ L : List Int, L = back ds p ++ ([46] ++ [48]) ∧ Has wz w.heap.size vz L := ⟨_, rfl, hhz.congr (by simp)⟩
          have hLl : L.length ≤ 65538 := by rw [hL]; simp [back_length]; omega
          have hLp : 0 < L.length := by rw [hL]; simp
          have HQ : Hid (L = back ds p ++ ([46] ++ [48])) := hL
          have KB2 : Hid (Below w.heap.size w wz) := KZ.out
          clear hL
          go_wp2_with fail
          go_loopw [7, 8] (fun v k wr => ∃ q : Nat, q ≤ n - p ∧ k = .int .i64 q ∧ Has wr w.heap.size v (L ++ rest ds (n - p) q) ∧ Below w.heap.size w wr) (fun _ k _ => (intOf k).toNat)
          case atStart => exact ⟨n - p, Nat.le_refl _, by go_num, hhL.congr (by rw [rest_start]; simp), KB2.out⟩
          case round =>
            obtain ⟨q, hq, rfl, hhq, hbq⟩ := hrel
            have KQ : Hid (Below w.heap.size w wr) := hbq
            have hszq := hbq.size
            have hrl : (rest ds (n - p) q).length ≤ n := by rw [← HL.out]; exact rest_length _ _ _
            clear hbq hhL
            by_cases hq0 : 0 < q
            · exact absurd hq0 (by omega)
            · obtain rfl : q = 0 := by omega
              obtain ⟨M, hM, hhM⟩ : ∃ M : List Int, M = L ++ rest ds (n - p) 0 ∧ Has wr w.heap.size _ M := ⟨_, rfl, hhq⟩
              have E : ∀ S : List Int, S = sgn neg → (M ++ S).reverse = fixed neg ds p := fun S hS => by
                rw [hM, HQ.out, hS, ← model_fixed neg ds p, HL.out]
                simp [hp0, hnp]
              have hMp : 0 < M.length := by rw [hM, List.length_append]; omega
              have hMl : M.length ≤ 1114114 := by rw [hM, List.length_append]; omega
              have HE : Hid (∀ S : List Int, S = sgn neg → (M ++ S).reverse = fixed neg ds p) := E
              clear E hM hhq
              cases neg
              · go_wp2_with fail
                refine (reverse_has _ _ _ _ hhM hMp (by omega)).mono ?_
                rintro e w5 ⟨v5, rfl, hh5, hg5⟩
                go_wp2_with fail
                go_ret
                exact ⟨v5, rfl, (hh5.congr (by have := HE.out [] rfl; simpa using this)).mono hszq, grown_of_below (KQ.out.trans ((below_of_grown hg5).mono hszq))⟩
              · go_wp2_with (at_builtin; refine app1 _ rfl (.tmp 60) (.tmp 61) rfl w.heap.size _ _ _ rfl hhM rfl (by omega) hszq ?_)
                intro v4 w4 hh4 hst4
                have KB4 : Hid (Below w.heap.size w w4) := step_below KQ.out (Nat.le_refl _) hhM hst4
                clear hst4
                go_wp2_with fail
                refine (reverse_has _ _ _ _ hh4 (by simp only [List.length_append, List.length_cons]; omega) (by simp only [List.length_append, List.length_cons, List.length_nil]; omega)).mono ?_
                rintro e w5 ⟨v5, rfl, hh5, hg5⟩
                have hs4 := KB4.out.size
                go_wp2_with fail
                go_ret
                exact ⟨v5, rfl, (hh5.congr (HE.out [45] rfl)).mono hs4, grown_of_below (KB4.out.trans ((below_of_grown hg5).mono hs4))⟩
        · have hz : (((n - p : Nat) : Int) == 0) = false := by simp; omega
          go_wp2_with (at_builtin; refine app1 _ rfl (.tmp 40) (.tmp 41) rfl w.heap.size _ _ _ rfl hh rfl (by rw [back_length]; omega) hsz ?_)
          intro vd wd hhd hstd
          have KD : Hid (Below w.heap.size w wd) := step_below KB.out (Nat.le_refl _) hh hstd
          have hszd := KD.out.size
          clear hstd hh
          obtain ⟨L, hL, hhL⟩ : ∃ L : List Int, L = back ds p ++ ([46] ++ ([] : List Int)) ∧ Has wd w.heap.size vd L := ⟨_, rfl, hhd.congr (by simp)⟩
          have hLl : L.length ≤ 65538 := by rw [hL]; simp [back_length]; omega
          have hLp : 0 < L.length := by rw [hL]; simp
          have HQ : Hid (L = back ds p ++ ([46] ++ ([] : List Int))) := hL
          have KB2 : Hid (Below w.heap.size w wd) := KD.out
          clear hL
          go_wp2_with fail
          go_loopw [7, 8] (fun v k wr => ∃ q : Nat, q ≤ n - p ∧ k = .int .i64 q ∧ Has wr w.heap.size v (L ++ rest ds (n - p) q) ∧ Below w.heap.size w wr) (fun _ k _ => (intOf k).toNat)
          case atStart => exact ⟨n - p, Nat.le_refl _, by go_num, hhL.congr (by rw [rest_start]; simp), KB2.out⟩
          case round =>
            obtain ⟨q, hq, rfl, hhq, hbq⟩ := hrel
            have KQ : Hid (Below w.heap.size w wr) := hbq
            have hszq := hbq.size
            have hrl : (rest ds (n - p) q).length ≤ n := by rw [← HL.out]; exact rest_length _ _ _
            clear hbq hhL
            by_cases hq0 : 0 < q
            · have c1 : wr.cell? ⟨g, q - 1, none⟩ = some (.int .u8 (ds.getD (q - 1) 0)) := (KQ.out.cell (by exact hg)).trans (HC.out _ (by omega))
              go_wp2_with (at_builtin; refine app1 _ rfl (.tmp 52) (.tmp 57) rfl w.heap.size _ _ _ rfl hhq rfl (by rw [List.length_append]; omega) hszq ?_)
              intro v3 w3 hh3 hst3
              go_wp2
              go_roundw
              case rel =>
                refine ⟨q - 1, by omega, by go_num, hh3.congr ?_, step_below KQ.out (Nat.le_refl _) hhq hst3⟩
                rw [rest_step ds (n - p) (q - 1) (by omega) (by rw [HL.out]; omega), show q - 1 + 1 = q by omega]; simp
              case measure => simp [intOf]; omega
            · obtain rfl : q = 0 := by omega
              obtain ⟨M, hM, hhM⟩ : ∃ M : List Int, M = L ++ rest ds (n - p) 0 ∧ Has wr w.heap.size _ M := ⟨_, rfl, hhq⟩
              have E : ∀ S : List Int, S = sgn neg → (M ++ S).reverse = fixed neg ds p := fun S hS => by
                rw [hM, HQ.out, hS, ← model_fixed neg ds p, HL.out]
                simp [hp0, hnp]
              have hMp : 0 < M.length := by rw [hM, List.length_append]; omega
              have hMl : M.length ≤ 1114114 := by rw [hM, List.length_append]; omega
              have HE : Hid (∀ S : List Int, S = sgn neg → (M ++ S).reverse = fixed neg ds p) := E
              clear E hM hhq
              cases neg
              · go_wp2_with fail
                refine (reverse_has _ _ _ _ hhM hMp (by omega)).mono ?_
                rintro e w5 ⟨v5, rfl, hh5, hg5⟩
                go_wp2_with fail
                go_ret
                exact ⟨v5, rfl, (hh5.congr (by have := HE.out [] rfl; simpa using this)).mono hszq, grown_of_below (KQ.out.trans ((below_of_grown hg5).mono hszq))⟩
              · go_wp2_with (at_builtin; refine app1 _ rfl (.tmp 60) (.tmp 61) rfl w.heap.size _ _ _ rfl hhM rfl (by omega) hszq ?_)
                intro v4 w4 hh4 hst4
                have KB4 : Hid (Below w.heap.size w w4) := step_below KQ.out (Nat.le_refl _) hhM hst4
                clear hst4
                go_wp2_with fail
                refine (reverse_has _ _ _ _ hh4 (by simp only [List.length_append, List.length_cons]; omega) (by simp only [List.length_append, List.length_cons, List.length_nil]; omega)).mono ?_
                rintro e w5 ⟨v5, rfl, hh5, hg5⟩
                have hs4 := KB4.out.size
                go_wp2_with fail
                go_ret
                exact ⟨v5, rfl, (hh5.congr (HE.out [45] rfl)).mono hs4, grown_of_below (KB4.out.trans ((below_of_grown hg5).mono hs4))⟩
      · by_cases hnp : n ≤ p
        · skip
          go_wp2_with (at_builtin; refine app1 _ rfl (.tmp 45) (.tmp 46) rfl w.heap.size _ _ _ rfl hh rfl (by simp [back_length]; omega) hsz ?_)
          intro vz wz hhz hstz
          have KZ : Hid (Below w.heap.size w wz) := step_below KB.out (Nat.le_refl _) hh hstz
          have hszz := KZ.out.size
          clear hstz hh
          obtain ⟨L, hL, hhL⟩ : ∃ L : List Int, L = back ds p ++ (([] : List Int) ++ [48]) ∧ Has wz w.heap.size vz L := ⟨_, rfl, hhz.congr (by simp)⟩
          have hLl : L.length ≤ 65538 := by rw [hL]; simp [back_length]; omega
          have hLp : 0 < L.length := by rw [hL]; simp
          have HQ : Hid (L = back ds p ++ (([] : List Int) ++ [48])) := hL
          have KB2 : Hid (Below w.heap.size w wz) := KZ.out
          clear hL
          go_wp2_with fail
          go_loopw [7, 8] (fun v k wr => ∃ q : Nat, q ≤ n - p ∧ k = .int .i64 q ∧ Has wr w.heap.size v (L ++ rest ds (n - p) q) ∧ Below w.heap.size w wr) (fun _ k _ => (intOf k).toNat)
          case atStart => exact ⟨n - p, Nat.le_refl _, by go_num, hhL.congr (by rw [rest_start]; simp), KB2.out⟩
          case round =>
            obtain ⟨q, hq, rfl, hhq, hbq⟩ := hrel
            have KQ : Hid (Below w.heap.size w wr) := hbq
            have hszq := hbq.size
            have hrl : (rest ds (n - p) q).length ≤ n := by rw [← HL.out]; exact rest_length _ _ _
            clear hbq hhL
            by_cases hq0 : 0 < q
            · exact absurd hq0 (by omega)
            · obtain rfl : q = 0 := by omega
              obtain ⟨M, hM, hhM⟩ : ∃ M : List Int, M = L ++ rest ds (n - p) 0 ∧ Has wr w.heap.size _ M := ⟨_, rfl, hhq⟩
              have E : ∀ S : List Int, S = sgn neg → (M ++ S).reverse = fixed neg ds p := fun S hS => by
                rw [hM, HQ.out, hS, ← model_fixed neg ds p, HL.out]
                simp [hp0, hnp]
              have hMp : 0 < M.length := by rw [hM, List.length_append]; omega
              have hMl : M.length ≤ 1114114 := by rw [hM, List.length_append]; omega
              have HE : Hid (∀ S : List Int, S = sgn neg → (M ++ S).reverse = fixed neg ds p) := E
              clear E hM hhq
              cases neg
              · go_wp2_with fail
                refine (reverse_has _ _ _ _ hhM hMp (by omega)).mono ?_
                rintro e w5 ⟨v5, rfl, hh5, hg5⟩
                go_wp2_with fail
                go_ret
                exact ⟨v5, rfl, (hh5.congr (by have := HE.out [] rfl; simpa using this)).mono hszq, grown_of_below (KQ.out.trans ((below_of_grown hg5).mono hszq))⟩
              · go_wp2_with (at_builtin; refine app1 _ rfl (.tmp 60) (.tmp 61) rfl w.heap.size _ _ _ rfl hhM rfl (by omega) hszq ?_)
                intro v4 w4 hh4 hst4
                have KB4 : Hid (Below w.heap.size w w4) := step_below KQ.out (Nat.le_refl _) hhM hst4
                clear hst4
                go_wp2_with fail
                refine (reverse_has _ _ _ _ hh4 (by simp only [List.length_append, List.length_cons]; omega) (by simp only [List.length_append, List.length_cons, List.length_nil]; omega)).mono ?_
                rintro e w5 ⟨v5, rfl, hh5, hg5⟩
                have hs4 := KB4.out.size
                go_wp2_with fail
                go_ret
                exact ⟨v5, rfl, (hh5.congr (HE.out [45] rfl)).mono hs4, grown_of_below (KB4.out.trans ((below_of_grown hg5).mono hs4))⟩
        · have hz : (((n - p : Nat) : Int) == 0) = false := by simp; omega
          obtain ⟨L, hL, hhL⟩ : ∃ L : List Int, L = back ds p ++ (([] : List Int) ++ ([] : List Int)) ∧ Has wr w.heap.size _ L := ⟨_, rfl, hh.congr (by simp)⟩
          have hLl : L.length ≤ 65538 := by rw [hL]; simp [back_length]; omega
          have hLp : 0 < (rest ds (n - p) 0).length := by rw [rest_len0, HL.out]; omega
          have HQ : Hid (L = back ds p ++ (([] : List Int) ++ ([] : List Int))) := hL
          have KB2 : Hid (Below w.heap.size w wr) := KB.out
          clear hL
          go_wp2_with fail
          go_loopw [7, 8] (fun v k wr => ∃ q : Nat, q ≤ n - p ∧ k = .int .i64 q ∧ Has wr w.heap.size v (L ++ rest ds (n - p) q) ∧ Below w.heap.size w wr) (fun _ k _ => (intOf k).toNat)
          case atStart => exact ⟨n - p, Nat.le_refl _, by go_num, hhL.congr (by rw [rest_start]; simp), KB2.out⟩
          case round =>
            obtain ⟨q, hq, rfl, hhq, hbq⟩ := hrel
            have KQ : Hid (Below w.heap.size w wr) := hbq
            have hszq := hbq.size
            have hrl : (rest ds (n - p) q).length ≤ n := by rw [← HL.out]; exact rest_length _ _ _
            clear hbq hhL
            by_cases hq0 : 0 < q
            · have c1 : wr.cell? ⟨g, q - 1, none⟩ = some (.int .u8 (ds.getD (q - 1) 0)) := (KQ.out.cell (by exact hg)).trans (HC.out _ (by omega))
              go_wp2_with (at_builtin; refine app1 _ rfl (.tmp 52) (.tmp 57) rfl w.heap.size _ _ _ rfl hhq rfl (by rw [List.length_append]; omega) hszq ?_)
              intro v3 w3 hh3 hst3
              go_wp2
              go_roundw
              case rel =>
                refine ⟨q - 1, by omega, by go_num, hh3.congr ?_, step_below KQ.out (Nat.le_refl _) hhq hst3⟩
                rw [rest_step ds (n - p) (q - 1) (by omega) (by rw [HL.out]; omega), show q - 1 + 1 = q by omega]; simp
              case measure => simp [intOf]; omega
            · obtain rfl : q = 0 := by omega
              obtain ⟨M, hM, hhM⟩ : ∃ M : List Int, M = L ++ rest ds (n - p) 0 ∧ Has wr w.heap.size _ M := ⟨_, rfl, hhq⟩
              have E : ∀ S : List Int, S = sgn neg → (M ++ S).reverse = fixed neg ds p := fun S hS => by
                rw [hM, HQ.out, hS, ← model_fixed neg ds p, HL.out]
                simp [hp0, hnp]
              have hMp : 0 < M.length := by rw [hM, List.length_append]; omega
              have hMl : M.length ≤ 1114114 := by rw [hM, List.length_append]; omega
              have HE : Hid (∀ S : List Int, S = sgn neg → (M ++ S).reverse = fixed neg ds p) := E
              clear E hM hhq
              cases neg
              · go_wp2_with fail
                refine (reverse_has _ _ _ _ hhM hMp (by omega)).mono ?_
                rintro e w5 ⟨v5, rfl, hh5, hg5⟩
                go_wp2_with fail
                go_ret
                exact ⟨v5, rfl, (hh5.congr (by have := HE.out [] rfl; simpa using this)).mono hszq, grown_of_below (KQ.out.trans ((below_of_grown hg5).mono hszq))⟩
              · go_wp2_with (at_builtin; refine app1 _ rfl (.tmp 60) (.tmp 61) rfl w.heap.size _ _ _ rfl hhM rfl (by omega) hszq ?_)
                intro v4 w4 hh4 hst4
                have KB4 : Hid (Below w.heap.size w w4) := step_below KQ.out (Nat.le_refl _) hhM hst4
                clear hst4
                go_wp2_with fail
                refine (reverse_has _ _ _ _ hh4 (by simp only [List.length_append, List.length_cons]; omega) (by simp only [List.length_append, List.length_cons, List.length_nil]; omega)).mono ?_
                rintro e w5 ⟨v5, rfl, hh5, hg5⟩
                have hs4 := KB4.out.size
                go_wp2_with fail
                go_ret
                exact ⟨v5, rfl, (hh5.congr (HE.out [45] rfl)).mono hs4, grown_of_below (KB4.out.trans ((below_of_grown hg5).mono hs4))⟩

set_option maxHeartbeats 1600000 in
theorem model_nil (ao : Option Addr) (c p : Nat) (neg : Bool) (w : World) (hp : p ≤ 65536) :
    Calls Try.prog 10 #[.bool neg, .slice ao 0 c, .int .i32 p] w fun e w' => ∃ v', e = .returned v' ∧ Has w' w.heap.size v' (fixed neg [] p) ∧ w.grownBy w' none := by
  obtain ⟨i0, hi, hz0, hz1, hz2⟩ := info_parts info5
  obtain ⟨ds, hds⟩ : ∃ ds : List Int, ds = [] := ⟨_, rfl⟩
  rw [← hds]
  have HL : Hid (ds.length = 0) := by rw [hds]; rfl
  clear hds
  go_enter Try.func10, Try.ntmps10
  go_wp2_with (at_make; refine wpList_make_own _ rfl _ _ 22 rfl w.heap.size 5 i0 (.int .u8 0) 1 Try.underlying22 hi hz0 hz1 _ _ _ (p + 3) rfl rfl (by omega) (by rw [hz2]; omega) (by unfold maxLen; omega) (Nat.le_refl _) ?_)
  intro w1 hown hgrow
  have H1 : Hid (Has w1 w.heap.size (.slice (some ⟨w.heap.size, 0, none⟩) 0 (p + 3)) (back ds 0)) := by
    unfold Hid Has; rw [back_zero]; exact hown
  have HG : Hid (Below w.heap.size w w1) := (Below.refl _ _).grown hgrow (Nat.le_refl _) (by simp)
  clear hown hgrow
  go_wp2_with fail
  go_loopw [7, 8, 9] (fun v k i wr => ∃ j : Nat, j ≤ p ∧ i = .int .i32 j ∧ k = .int .i64 0 ∧ Has wr w.heap.size v (back ds j) ∧ Below w.heap.size w wr) (fun _ _ i _ => p - (intOf i).toNat)
  case atStart => exact ⟨0, Nat.zero_le _, rfl, rfl, H1.out, HG.out⟩
  case round =>
    obtain ⟨j, hj, rfl, rfl, hh, hb⟩ := hrel
    have KB : Hid (Below w.heap.size w wr) := hb
    have hsz := hb.size
    clear hb
    by_cases hlt : j < p
    · go_wp2_with (at_builtin; refine app1 _ rfl (.tmp 35) (.tmp 36) rfl w.heap.size _ _ _ rfl hh rfl (by rw [back_length]; omega) hsz ?_)
      intro v2 w2 hh2 hst2
      go_wp2
      go_roundw
      case rel => exact ⟨j + 1, by omega, by go_num, by go_num, hh2.congr (by rw [back_zeros ds j (by rw [HL.out]; omega)]), step_below KB.out (Nat.le_refl _) hh hst2⟩
      case measure => simp [intOf]; omega
    · have hj' : p = j := by omega
      subst hj'
      by_cases hp0 : 0 < p
      · skip
        go_wp2_with (at_builtin; refine app1 _ rfl (.tmp 40) (.tmp 41) rfl w.heap.size _ _ _ rfl hh rfl (by rw [back_length]; omega) hsz ?_)
        intro vd wd hhd hstd
        have KD : Hid (Below w.heap.size w wd) := step_below KB.out (Nat.le_refl _) hh hstd
        have hszd := KD.out.size
        clear hstd hh
        go_wp2_with (at_builtin; refine app1 _ rfl (.tmp 45) (.tmp 46) rfl w.heap.size _ _ _ rfl hhd rfl (by simp [back_length]; omega) hszd ?_)
        intro vz wz hhz hstz
        have KZ : Hid (Below w.heap.size w wz) := step_below KD.out (Nat.le_refl _) hhd hstz
        have hszz := KZ.out.size
        clear hstz hhd
        obtain ⟨L, hL, hhL⟩ : ∃ L : List Int, L = back ds p ++ ([46] ++ [48]) ∧ Has wz w.heap.size vz L := ⟨_, rfl, hhz.congr (by simp)⟩
        have hLl : L.length ≤ 65538 := by rw [hL]; simp [back_length]; omega
        have hLp : 0 < L.length := by rw [hL]; simp
        have HQ : Hid (L = back ds p ++ ([46] ++ [48])) := hL
        have KB2 : Hid (Below w.heap.size w wz) := KZ.out
        clear hL
        go_wp2_with fail
        go_loopw [7, 8] (fun v k wr => ∃ q : Nat, q ≤ 0 ∧ k = .int .i64 q ∧ Has wr w.heap.size v (L ++ rest ds 0 q) ∧ Below w.heap.size w wr) (fun _ k _ => (intOf k).toNat)
        case atStart => exact ⟨0, Nat.le_refl _, rfl, hhL.congr (by rw [rest_start]; simp), KB2.out⟩
        case round =>
          obtain ⟨q, hq, rfl, hhq, hbq⟩ := hrel
          have KQ : Hid (Below w.heap.size w wr) := hbq
          have hszq := hbq.size
          have hrl : (rest ds 0 q).length ≤ 0 := by simp [rest]
          clear hbq hhL
          by_cases hq0 : 0 < q
          · exact absurd hq0 (by omega)
          · obtain rfl : q = 0 := by omega
            obtain ⟨M, hM, hhM⟩ : ∃ M : List Int, M = L ++ rest ds 0 0 ∧ Has wr w.heap.size _ M := ⟨_, rfl, hhq⟩
            have E : ∀ S : List Int, S = sgn neg → (M ++ S).reverse = fixed neg ds p := fun S hS => by
              rw [hM, HQ.out, hS, ← model_fixed neg ds p, HL.out, Nat.zero_sub]
              simp [hp0]
            have hMp : 0 < M.length := by rw [hM, List.length_append]; omega
            have hMl : M.length ≤ 1114114 := by rw [hM, List.length_append]; omega
            have HE : Hid (∀ S : List Int, S = sgn neg → (M ++ S).reverse = fixed neg ds p) := E
            clear E hM hhq
            cases neg
            · go_wp2_with fail
              refine (reverse_has _ _ _ _ hhM hMp (by omega)).mono ?_
              rintro e w5 ⟨v5, rfl, hh5, hg5⟩
              go_wp2_with fail
              go_ret
              exact ⟨v5, rfl, (hh5.congr (by have := HE.out [] rfl; simpa using this)).mono hszq, grown_of_below (KQ.out.trans ((below_of_grown hg5).mono hszq))⟩
            · go_wp2_with (at_builtin; refine app1 _ rfl (.tmp 60) (.tmp 61) rfl w.heap.size _ _ _ rfl hhM rfl (by omega) hszq ?_)
              intro v4 w4 hh4 hst4
              have KB4 : Hid (Below w.heap.size w w4) := step_below KQ.out (Nat.le_refl _) hhM hst4
              clear hst4
              go_wp2_with fail
              refine (reverse_has _ _ _ _ hh4 (by simp only [List.length_append, List.length_cons]; omega) (by simp only [List.length_append, List.length_cons, List.length_nil]; omega)).mono ?_
              rintro e w5 ⟨v5, rfl, hh5, hg5⟩
              have hs4 := KB4.out.size
              go_wp2_with fail
              go_ret
              exact ⟨v5, rfl, (hh5.congr (HE.out [45] rfl)).mono hs4, grown_of_below (KB4.out.trans ((below_of_grown hg5).mono hs4))⟩
      · skip
        go_wp2_with (at_builtin; refine app1 _ rfl (.tmp 45) (.tmp 46) rfl w.heap.size _ _ _ rfl hh rfl (by simp [back_length]; omega) hsz ?_)
        intro vz wz hhz hstz
        have KZ : Hid (Below w.heap.size w wz) := step_below KB.out (Nat.le_refl _) hh hstz
        have hszz := KZ.out.size
        clear hstz hh
        obtain ⟨L, hL, hhL⟩ : ∃ L : List Int, L = back ds p ++ (([] : List Int) ++ [48]) ∧ Has wz w.heap.size vz L := ⟨_, rfl, hhz.congr (by simp)⟩
        have hLl : L.length ≤ 65538 := by rw [hL]; simp [back_length]; omega
        have hLp : 0 < L.length := by rw [hL]; simp
        have HQ : Hid (L = back ds p ++ (([] : List Int) ++ [48])) := hL
        have KB2 : Hid (Below w.heap.size w wz) := KZ.out
        clear hL
        go_wp2_with fail
        go_loopw [7, 8] (fun v k wr => ∃ q : Nat, q ≤ 0 ∧ k = .int .i64 q ∧ Has wr w.heap.size v (L ++ rest ds 0 q) ∧ Below w.heap.size w wr) (fun _ k _ => (intOf k).toNat)
        case atStart => exact ⟨0, Nat.le_refl _, rfl, hhL.congr (by rw [rest_start]; simp), KB2.out⟩
        case round =>
          obtain ⟨q, hq, rfl, hhq, hbq⟩ := hrel
          have KQ : Hid (Below w.heap.size w wr) := hbq
          have hszq := hbq.size
          have hrl : (rest ds 0 q).length ≤ 0 := by simp [rest]
          clear hbq hhL
          by_cases hq0 : 0 < q
          · exact absurd hq0 (by omega)
          · obtain rfl : q = 0 := by omega
            obtain ⟨M, hM, hhM⟩ : ∃ M : List Int, M = L ++ rest ds 0 0 ∧ Has wr w.heap.size _ M := ⟨_, rfl, hhq⟩
            have E : ∀ S : List Int, S = sgn neg → (M ++ S).reverse = fixed neg ds p := fun S hS => by
              rw [hM, HQ.out, hS, ← model_fixed neg ds p, HL.out, Nat.zero_sub]
              simp [hp0]
            have hMp : 0 < M.length := by rw [hM, List.length_append]; omega
            have hMl : M.length ≤ 1114114 := by rw [hM, List.length_append]; omega
            have HE : Hid (∀ S : List Int, S = sgn neg → (M ++ S).reverse = fixed neg ds p) := E
            clear E hM hhq
            cases neg
            · go_wp2_with fail
              refine (reverse_has _ _ _ _ hhM hMp (by omega)).mono ?_
              rintro e w5 ⟨v5, rfl, hh5, hg5⟩
              go_wp2_with fail
              go_ret
              exact ⟨v5, rfl, (hh5.congr (by have := HE.out [] rfl; simpa using this)).mono hszq, grown_of_below (KQ.out.trans ((below_of_grown hg5).mono hszq))⟩
            · go_wp2_with (at_builtin; refine app1 _ rfl (.tmp 60) (.tmp 61) rfl w.heap.size _ _ _ rfl hhM rfl (by omega) hszq ?_)
              intro v4 w4 hh4 hst4
              have KB4 : Hid (Below w.heap.size w w4) := step_below KQ.out (Nat.le_refl _) hhM hst4
              clear hst4
              go_wp2_with fail
              refine (reverse_has _ _ _ _ hh4 (by simp only [List.length_append, List.length_cons]; omega) (by simp only [List.length_append, List.length_cons, List.length_nil]; omega)).mono ?_
              rintro e w5 ⟨v5, rfl, hh5, hg5⟩
              have hs4 := KB4.out.size
              go_wp2_with fail
              go_ret
              exact ⟨v5, rfl, (hh5.congr (HE.out [45] rfl)).mono hs4, grown_of_below (KB4.out.trans ((below_of_grown hg5).mono hs4))⟩

/-- zzAppendModel, whatever digits -/
theorem model_any (ao : Option Addr) (n c p : Nat) (ds : List Int) (neg : Bool) (w : World) (h : Rd w ao n c (ds.map (.int .u8))) (hn : n ≤ 1048576) (hp : p ≤ 65536) (hao : ∀ ad, ao = some ad → ad = ⟨ad.block, 0, none⟩ ∧ ad.block < w.heap.size) :
    Calls Try.prog 10 #[.bool neg, .slice ao n c, .int .i32 p] w fun e w' => ∃ v', e = .returned v' ∧ Has w' w.heap.size v' (fixed neg ds p) ∧ w.grownBy w' none := by
  cases ao with
  | none =>
    obtain ⟨rfl, rfl⟩ := h.nil rfl
    have hd : ds = [] := List.eq_nil_of_length_eq_zero (by simpa using h.len)
    rw [hd]
    exact model_nil none 0 p neg w hp
  | some ad =>
    obtain ⟨had, hlt⟩ := hao ad rfl
    rw [had] at h ⊢
    exact model_some ad.block n c p ds neg w h hn hp hlt
end Go.Proofs.Qxb6602194a.Own
