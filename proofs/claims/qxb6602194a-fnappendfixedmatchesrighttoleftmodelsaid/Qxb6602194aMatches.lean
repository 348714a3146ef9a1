/-
  The walk of FnAppendFixedMatchesRightToLeftModel, out of the contracts.
-/
import Derived.Test.Qxb6602194aModelWalk
namespace Go.Proofs.Qxb6602194a.Own
open Go.RowKit

theorem matches_big (a0 a2 : Option Addr) (n c m d : Nat) (b : Bool) (p : Int) (w : World) (hn : n ≤ maxLen) (hm : m ≤ maxLen) (h : 1048576 < n + m) :
    Calls Try.prog 3 #[.slice a0 n c, .bool b, .slice a2 m d, .int .i32 p] w fun e w' => e = .returned (.bool true) ∧ w' = w := by
  go_enter Try.func3, Try.ntmps3
  go_wp2_with fail
  refine (zzM_no _ _ _ _ _ _ _ _ _ hn hm h).mono ?_
  rintro e w' ⟨rfl, rfl⟩
  go_wp2
  go_ret
  exact ⟨rfl, rfl⟩

theorem matches_out (a0 a2 : Option Addr) (n c m d : Nat) (b : Bool) (p : Int) (w : World) (h : n + m ≤ 1048576) (hp : p < 0 ∨ 65536 < p) :
    Calls Try.prog 3 #[.slice a0 n c, .bool b, .slice a2 m d, .int .i32 p] w fun e w' => e = .returned (.bool true) ∧ w' = w := by
  have h1 : n ≤ 1048576 := by omega
  have h2 : m ≤ 1048576 := by omega
  rcases hp with hp | hp
  · go_enter Try.func3, Try.ntmps3
    go_wp2_with fail
    refine (zzM_yes _ _ _ _ _ _ _ _ _ h).mono ?_
    rintro e w' ⟨rfl, rfl⟩
    go_wp2
    go_ret
    exact ⟨rfl, rfl⟩
  · have hp' : ¬ p < 0 := by omega
    go_enter Try.func3, Try.ntmps3
    go_wp2_with fail
    refine (zzM_yes _ _ _ _ _ _ _ _ _ h).mono ?_
    rintro e w' ⟨rfl, rfl⟩
    go_wp2
    go_ret
    exact ⟨rfl, rfl⟩

theorem matches_in (a0 a2 : Option Addr) (n c m d p : Nat) (xs ds : List Int) (b : Bool) (w : World) (h0 : Rd w a0 n c (xs.map (.int .u8))) (h2 : Rd w a2 m d (ds.map (.int .u8))) (h : n + m ≤ 1048576) (hp : p ≤ 65536) :
    Calls Try.prog 3 #[.slice a0 n c, .bool b, .slice a2 m d, .int .i32 p] w fun e w' => e = .returned (.bool true) ∧ Below w.heap.size w w' := by
  have g1 : n ≤ 1048576 := by omega
  have g2 : m ≤ 1048576 := by omega
  have hlx : xs.length = n := by simpa using h0.len
  have hld : ds.length = m := by simpa using h2.len
  have HX : Hid (xs.length = n) := hlx
  have HD : Hid (ds.length = m) := hld
  clear hlx hld
  go_enter Try.func3, Try.ntmps3
  go_wp2_with fail
  refine (zzM_yes _ _ _ _ _ _ _ _ _ h).mono ?_
  rintro e w' ⟨rfl, rfl⟩
  go_wp2_with fail
  refine (clone_any _ _ _ xs _ h0 g1).mono ?_
  rintro e w1 ⟨o0, rfl, hx1, hr1, had1, hgr1⟩
  have h2' := h2.keptNone hgr1
  go_wp2_with fail
  refine (clone_any _ _ _ ds _ h2' g2).mono ?_
  rintro e w2 ⟨o2, rfl, hx2, hr2, had2, hgr2⟩
  -- what is known of the two clones in w2
  have hs1 := hgr1.size
  have hs2 := hgr2.size
  have hb1 : ∀ ad, o0 = some ad → ad.block = w'.heap.size := fun ad h => by rw [had1 ad h]
  have hb2 : ∀ ad, o2 = some ad → ad = ⟨w1.heap.size, 0, none⟩ := had2
  have hlt1 : ∀ ad, o0 = some ad → ad.block < w1.heap.size := fun ad h => by
    obtain ⟨ao, c', e, _, hh⟩ := hx1.shape
    simp only [Value.slice.injEq] at e
    exact (hh ad (e.1 ▸ h)).2.2
  have hlt2 : ∀ ad, o2 = some ad → ad.block < w2.heap.size := fun ad h => by
    obtain ⟨ao, c', e, _, hh⟩ := hx2.shape
    simp only [Value.slice.injEq] at e
    exact (hh ad (e.1 ▸ h)).2.2
  have own1 : ∀ g, (Value.slice o0 n n).ownBlock = some g → w'.heap.size = g ∧ g < w1.heap.size := fun g hg => by
    cases o0 with
    | none => cases hg
    | some ad => simp [Value.ownBlock] at hg; subst hg; exact ⟨(hb1 ad rfl).symm, hlt1 ad rfl⟩
  have own2 : ∀ g, (Value.slice o2 m m).ownBlock = some g → w1.heap.size ≤ g ∧ g < w2.heap.size := fun g hg => by
    cases o2 with
    | none => cases hg
    | some ad => simp [Value.ownBlock] at hg; subst hg; exact ⟨by rw [hb2 ad rfl]; exact Nat.le_refl _, hlt2 ad rfl⟩
  have K0 : Hid (Has w2 w'.heap.size (.slice o0 n n) xs) := hx1.keptNone hgr2
  have K1 : Hid (Rd w2 o0 n n (xs.map (.int .u8))) := hr1.keptNone hgr2
  have K2 : Hid (Rd w2 o2 m m (ds.map (.int .u8))) := hr2
  have KB : Hid (Below w'.heap.size w' w2) := ((Below.refl _ _).grown hgr1 (Nat.le_refl _) (by simp)).grown hgr2 hs1 (by simp)
  have HO1 : Hid (∀ g, (Value.slice o0 n n).ownBlock = some g → w'.heap.size = g ∧ g < w1.heap.size) := own1
  have HO2 : Hid (∀ ad, o2 = some ad → ad = ⟨w1.heap.size, 0, none⟩) := hb2
  have HO3 : Hid (∀ ad, o2 = some ad → ad.block < w2.heap.size) := hlt2
  have HO4 : Hid (∀ ad, o0 = some ad → ad.block < w1.heap.size) := hlt1
  clear hx1 hr1 had1 hgr1 h2' hx2 hr2 had2 hgr2 hb1 hb2 hlt1 hlt2 own1 own2 h0 h2
  go_wp2_with fail
  refine (model_any o2 m m p ds b w2 K2.out g2 hp (fun ad h => ⟨by rw [HO2.out ad h], HO3.out ad h⟩)).mono ?_
  rintro e w3 ⟨v3, rfl, hx3, hgr3⟩
  obtain ⟨o3, c3, rfl, hr3, had3⟩ := hx3.shape
  have hs3 := hgr3.size
  have hle3 : (fixed b ds p).length ≤ 2228227 := fixed_le b ds p hp (by rw [HD.out]; exact g2)
  have hpos3 := fixed_pos b ds p
  have K01 : Hid (Has w3 w'.heap.size (.slice o0 n n) xs) := K0.out.keptNone hgr3
  have K11 : Hid (Rd w3 o0 n n (xs.map (.int .u8))) := K1.out.keptNone hgr3
  have K21 : Hid (Rd w3 o2 m m (ds.map (.int .u8))) := K2.out.keptNone hgr3
  have KB1 : Hid (Below w'.heap.size w' w3) := KB.out.grown hgr3 (by omega) (by simp)
  have K3 : Hid (Rd w3 o3 (fixed b ds p).length c3 ((fixed b ds p).map (.int .u8))) := hr3
  have HO5 : Hid (∀ ad, o3 = some ad → ad = ⟨ad.block, 0, none⟩ ∧ w2.heap.size ≤ ad.block ∧ ad.block < w3.heap.size) := had3
  clear hgr3 hx3 hr3 had3 K0 K1 K2 KB
  go_wp2_with fail
  refine (concat_any o0 o3 n n (fixed b ds p).length c3 xs (fixed b ds p) w3 K11.out K3.out (by omega) (by omega) (fun ad h => by have := HO4.out ad h; omega) (fun ad h => (HO5.out ad h).2.2)).mono ?_
  rintro e w4 ⟨v4, rfl, hx4, hgr4⟩
  have hs4 := hgr4.size
  have K4 : Hid (Has w4 w3.heap.size v4 (xs ++ fixed b ds p)) := by
    unfold Hid Has; rw [List.length_append, HX.out]; exact hx4
  have K02 : Hid (Has w4 w'.heap.size (.slice o0 n n) xs) := K01.out.keptNone hgr4
  have K22 : Hid (Rd w4 o2 m m (ds.map (.int .u8))) := K21.out.keptNone hgr4
  have KB2 : Hid (Below w'.heap.size w' w4) := KB1.out.grown hgr4 (by omega) (by simp)
  clear hx4 hgr4 K01 K11 K21 KB1
  go_wp2_with fail
  refine (zzfixed_any w'.heap.size (.slice o0 n n) xs o2 m m p ds w4 b K02.out (by omega) (by rw [HX.out]; omega) hp g2 K22.out (fun ad h => ⟨by rw [HO2.out ad h], fun hg => by have := HO1.out _ hg; rw [HO2.out ad h] at this; simp at this⟩)).mono ?_
  rintro e w5 ⟨v5, rfl, hx5, hst5⟩
  have K5 : Hid (Has w5 w'.heap.size v5 (xs ++ fixed b ds p)) := hx5
  have K42 : Hid (Has w5 w3.heap.size v4 (xs ++ fixed b ds p)) := K4.out.step hst5 (fun g hg h => by
    have h1 := HO1.out g h
    have h2 := (World.ownsRow.lt K4.out g hg).1
    omega)
  have KB3 : Hid (Below w'.heap.size w' w5) := KB2.out.trans (hst5.below (by omega) (fun g h => by have := HO1.out g h; omega))
  clear hx5 hst5 K02 K22 KB2
  go_wp2_with fail
  refine (equal_has _ _ v5 v4 (xs ++ fixed b ds p) w5 K5.out K42.out (by simp; omega) (by rw [List.length_append, HX.out]; omega)).mono ?_
  rintro e w6 ⟨rfl, k, hw6⟩
  have H6 : Hid (w6 = w5.drewN k) := hw6
  clear hw6
  go_wp2
  go_ret
  exact ⟨rfl, by rw [H6.out]; exact below_drewN KB3.out k⟩
end Go.Proofs.Qxb6602194a.Own
