/-
  The walk of FnAppendMarkedAddsUnitPerSetBit, out of the contracts.
-/
import Derived.Test.Qxb6602224aMarked
import Derived.Test.Qxb6602224aSums
import Derived.Test.Qxb6602224aCanonPlain
import Derived.WalkSpells
namespace Go.Proofs.Qxb6602224a.Own
open Go.RowKit

theorem val_int {k : IntKind} {a b : Int} (h : a = b) : Value.int k a = Value.int k b := by rw [h]
theorem wrap_zero : wrap64 0 = 0 := by unfold wrap64; decide
theorem drewN_two (w : World) (a b : Nat) : (w.drewN a).drewN b = w.drewN (a + b) := by unfold World.drewN; simp only [Nat.add_assoc]
theorem exts_at {w : World} {a : Option Addr} {n c : Nat} {es : List (Int × Int)} (h : Rd 2 w a n c (cells es)) (k : Nat) (hk : k < es.length) :
    ∃ b o, a = some ⟨b, o, none⟩ ∧ w.cell? ⟨b, o + k * 2, none⟩ = some (.int .i64 (es.getD k (0, 0)).1) ∧ w.cell? ⟨b, o + k * 2 + 1, none⟩ = some (.int .i64 (es.getD k (0, 0)).2) := by
  have hl := h.len
  rw [cells_length] at hl
  cases a with
  | none => have := (h.nil rfl).1; omega
  | some ad =>
    obtain ⟨b, o, spot⟩ := ad
    have hsp : spot = none := by
      have := h.cell _ rfl 0 _ (cells_at0 es 0 (by omega))
      simpa [Addr.add] using World.cell?_spot this
    subst hsp
    refine ⟨b, o, rfl, ?_, ?_⟩
    · have := h.cell _ rfl (k * 2) _ (cells_at0 es k hk)
      simpa [Addr.add_lit] using this
    · have := h.cell _ rfl (k * 2 + 1) _ (cells_at1 es k hk)
      simpa [Addr.add_lit, Nat.add_assoc] using this

theorem ad_zz_yes (a0 a1 : Option Addr) (n0 c0 m c1 : Nat) (n off unit : Int) (w : World) (h : n0 + m ≤ 1048576) :
    Calls Try.prog 24 #[.slice a0 n0 c0, .slice a1 m c1, .int .u64 n, .int .i64 off, .int .i64 unit] w fun e w' => e = .returned (.bool true) ∧ w' = w := by
  have h1 : n0 ≤ 1048576 := by omega
  have h2 : m ≤ 1048576 := by omega
  go_enter Try.func24, Try.ntmps24
  go_wp2
  go_ret
  exact ⟨rfl, rfl⟩
theorem ad_zz_no (a0 a1 : Option Addr) (n0 c0 m c1 : Nat) (n off unit : Int) (w : World) (hn : n0 ≤ maxLen) (hm : m ≤ maxLen) (h : 1048576 < n0 + m) :
    Calls Try.prog 24 #[.slice a0 n0 c0, .slice a1 m c1, .int .u64 n, .int .i64 off, .int .i64 unit] w fun e w' => e = .returned (.bool false) ∧ w' = w := by
  unfold maxLen at hn hm
  by_cases h1 : n0 ≤ 1048576
  · by_cases h2 : m ≤ 1048576
    · go_enter Try.func24, Try.ntmps24
      go_wp2
      go_ret
      exact ⟨rfl, rfl⟩
    · go_enter Try.func24, Try.ntmps24
      go_wp2
      go_ret
      exact ⟨rfl, rfl⟩
  · go_enter Try.func24, Try.ntmps24
    go_wp2
    go_ret
    exact ⟨rfl, rfl⟩

set_option maxRecDepth 100000 in
theorem ad_big (a0 a1 : Option Addr) (n0 c0 m c1 : Nat) (n off unit : Int) (w : World) (hn : n0 ≤ maxLen) (hm : m ≤ maxLen) (h : 1048576 < n0 + m) :
    Calls Try.prog 10 #[.slice a0 n0 c0, .slice a1 m c1, .int .u64 n, .int .i64 off, .int .i64 unit] w fun e w' => e = .returned (.bool true) ∧ w' = w := by
  go_enter Try.func10, Try.ntmps10
  go_wp2_with fail
  refine (ad_zz_no _ _ _ _ _ _ _ _ _ _ hn hm h).mono ?_
  rintro e w' ⟨rfl, rfl⟩
  go_wp2
  go_ret
  exact ⟨rfl, rfl⟩
set_option maxRecDepth 100000 in
theorem ad_out (a0 a1 : Option Addr) (n0 c0 m c1 : Nat) (n off unit : Int) (w : World) (h : n0 + m ≤ 1048576) (hn0 : 0 ≤ n) (hb : 65536 < n0 ∨ 1048576 < 16 * n0 + m ∨ 8 * (m : Int) < n ∨ 65536 < n) :
    Calls Try.prog 10 #[.slice a0 n0 c0, .slice a1 m c1, .int .u64 n, .int .i64 off, .int .i64 unit] w fun e w' => e = .returned (.bool true) ∧ w' = w := by
  have h1 : n0 ≤ 1048576 := by omega
  have h2 : m ≤ 1048576 := by omega
  by_cases b1 : 65536 < n0
  · go_enter Try.func10, Try.ntmps10
    go_wp2_with fail
    refine (ad_zz_yes _ _ _ _ _ _ _ _ _ _ h).mono ?_
    rintro e w' ⟨rfl, rfl⟩
    go_wp2
    go_ret
    exact ⟨rfl, rfl⟩
  · by_cases b2 : 1048576 < 16 * n0 + m
    · go_enter Try.func10, Try.ntmps10
      go_wp2_with fail
      refine (ad_zz_yes _ _ _ _ _ _ _ _ _ _ h).mono ?_
      rintro e w' ⟨rfl, rfl⟩
      go_wp2
      go_ret
      exact ⟨rfl, rfl⟩
    · by_cases b3 : 8 * (m : Int) < n
      · go_enter Try.func10, Try.ntmps10
        go_wp2_with fail
        refine (ad_zz_yes _ _ _ _ _ _ _ _ _ _ h).mono ?_
        rintro e w' ⟨rfl, rfl⟩
        go_wp2
        go_ret
        exact ⟨rfl, rfl⟩
      · have b4 : 65536 < n := by omega
        clear hb
        go_enter Try.func10, Try.ntmps10
        go_wp2_with fail
        refine (ad_zz_yes _ _ _ _ _ _ _ _ _ _ h).mono ?_
        rintro e w' ⟨rfl, rfl⟩
        go_wp2
        go_ret
        exact ⟨rfl, rfl⟩

set_option maxRecDepth 100000 in
set_option maxHeartbeats 3200000 in
theorem ad_nil (a0 : Option Addr) (n0 c0 : Nat) (es : List (Int × Int)) (off unit : Int) (w : World) (hr : Rd 2 w a0 n0 c0 (cells es)) (hn0 : n0 ≤ 65536) (hu : wrap64 unit = unit) :
    Calls Try.prog 10 #[.slice a0 n0 c0, .slice none 0 0, .int .u64 ((0 : Nat) : Int), .int .i64 off, .int .i64 unit] w fun e w' => e = .returned (.bool true) ∧ Below w.heap.size w w' := by
  have q : ∀ (w : World) (a : Option Addr) (n c n' c' : Nat), (binOp .neq 36 (.slice a n c) (.slice none n' c')).run Try.prog w = .ok (.bool (!a.isNone)) w := fun w a n c n' c' => run_neq_slice_nil_any w _ _ a n c n' c' Try.underlying36
  have hle : es.length = n0 := by have := hr.len; rw [cells_length] at this; omega
  have HLE : Hid (es.length = n0) := hle
  have HR : Hid (Rd 2 w a0 n0 c0 (cells es)) := hr
  have HU : Hid (wrap64 unit = unit) := hu
  clear hle hr hu
  go_enter Try.func10, Try.ntmps10
  go_wp2_with fail
  refine (ad_zz_yes _ _ _ _ _ _ _ _ _ _ (by omega)).mono ?_
  rintro e w1 ⟨rfl, rfl⟩
  go_wp2_with fail
  have HRw : Hid (Rd 2 w1 a0 n0 c0 (cells es)) := HR
  refine (toImage_any _ _ _ es _ HR.out (by omega)).mono ?_
  rintro e w2 ⟨v2, rfl, hx2, hg2⟩
  have hs2 := hg2.size
  have K2 : Hid (Has w2 w1.heap.size v2 es) := hx2
  have KB2 : Hid (Below w1.heap.size w1 w2) := below_of_grown hg2
  clear hx2 hg2
  go_wp2_with fail
  refine (marked_any w1.heap.size 0 0 0 none v2 es [] off unit w2 K2.out hs2 (by rw [HLE.out]; omega) ⟨rfl, Nat.le_refl _, fun _ => ⟨rfl, rfl⟩, fun ad h => (by cases h)⟩ (fun ad h => (by cases h)) (by omega) (by omega) (by omega) HU.out).mono ?_
  rintro e w3 ⟨v3, rfl, hx3, hst3⟩
  have KB3 : Hid (Below w1.heap.size w1 w3) := KB2.out.trans (hst3.below KB2.out.size (fun g h => by have := (K2.out.lt h).1; omega))
  have HR3 : Hid (Rd 2 w3 a0 n0 c0 (cells es)) := HRw.out.keptNone (grown_of_below KB3.out)
  obtain ⟨got, hgot⟩ : ∃ got, got = bitE [] off unit es 0 := ⟨_, rfl⟩
  obtain ⟨L, hL⟩ : ∃ L, L = got.length := ⟨_, rfl⟩
  rw [← hgot] at hx3
  have KP : Hid (Keeps es got) := by rw [hgot]; exact keeps_bitE _ _ _ _ _
  have hLm : n0 ≤ L := by rw [hL, ← HLE.out]; exact KP.out.len
  have hLb : L ≤ 131072 := by
    have := bitE_length [] off unit es 0
    rw [← hgot, ← hL, HLE.out] at this; omega
  have FG : Hid (∃ ao cc, v3 = .slice ao L cc ∧ ∀ k, k < L → ∃ g, ao = some ⟨g, 0, none⟩ ∧ w3.cell? ⟨g, k * 2, none⟩ = some (.int .i64 (got.getD k (0, 0)).1) ∧ w3.cell? ⟨g, k * 2 + 1, none⟩ = some (.int .i64 (got.getD k (0, 0)).2)) := by
    rcases hx3.cases with ⟨rfl, hnil⟩ | ⟨g, cc, rfl, _, _, _, _⟩
    · exact ⟨none, 0, by rw [hL, hnil]; rfl, fun k hk => absurd hk (by rw [hL, hnil]; simp)⟩
    · exact ⟨some ⟨g, 0, none⟩, cc, by rw [hL], fun k hk => ⟨g, rfl, hx3.cell0 k (by omega), hx3.cell1 k (by omega)⟩⟩
  have FE : Hid (∀ k, k < n0 → ∃ b o, a0 = some ⟨b, o, none⟩ ∧ w3.cell? ⟨b, o + k * 2, none⟩ = some (.int .i64 (es.getD k (0, 0)).1) ∧ w3.cell? ⟨b, o + k * 2 + 1, none⟩ = some (.int .i64 (es.getD k (0, 0)).2)) := fun k hk => exts_at HR3.out k (by rw [HLE.out]; exact hk)
  have HGT : Hid (got = bitE [] off unit es 0) := hgot
  have HLL : Hid (L = got.length) := hL
  clear hx3 hst3 hgot hL K2
  obtain ⟨ao, cc, rfl, hFG⟩ := FG.out
  have FG' : Hid (∀ k, k < L → ∃ g, ao = some ⟨g, 0, none⟩ ∧ w3.cell? ⟨g, k * 2, none⟩ = some (.int .i64 (got.getD k (0, 0)).1) ∧ w3.cell? ⟨g, k * 2 + 1, none⟩ = some (.int .i64 (got.getD k (0, 0)).2)) := hFG
  clear hFG FG
  have hLd : decide ((L : Int) < (n0 : Int)) = false := decide_eq_false (by omega)
  have hLd2 : decide (L < n0) = false := decide_eq_false (by omega)
  go_wp2_with fail
  go_loopw [14] (fun i wr => ∃ k : Nat, k ≤ n0 ∧ i = .int .i64 k ∧ ∃ q, wr = w3.drewN q) (fun i _ => n0 - (intOf i).toNat)
  case atStart => exact ⟨0, Nat.zero_le _, rfl, 0, rfl⟩
  case round =>
    obtain ⟨k, hk, rfl, q1, rfl⟩ := hrel
    by_cases hlt : k + 1 < n0
    · obtain ⟨g, hg, x0, x1⟩ := FG'.out k (by omega)
      obtain ⟨b, o, hb, y0, y1⟩ := FE.out k (by omega)
      rw [KP.out.same k (by rw [HLE.out]; exact hlt)] at x0 x1
      subst hg
      subst hb
      go_wp2
      go_quiet (fail)
      go_wp2
      go_roundw
      case rel => exact ⟨k + 1, by omega, by go_num, _, rfl⟩
      case measure => simp [intOf]; omega
    · by_cases hm0 : 0 < n0
      · obtain ⟨g, hg, x0, x1⟩ := FG'.out (n0 - 1) (by omega)
        obtain ⟨b, o, hb, y0, y1⟩ := FE.out (n0 - 1) (by omega)
        have hlast : (got.getD (n0 - 1) (0, 0)).1 = (es.getD (n0 - 1) (0, 0)).1 := by
          have := KP.out.last (by rw [HLE.out]; exact hm0)
          rwa [HLE.out] at this
        rw [hlast] at x0
        subst hg
        subst hb
        clear x1 y1 hlast
        go_wp2
        go_quiet (fail)
        clear x0 y0
        go_wp2
        go_loopw [15, 18] (fun s i wr => ∃ k : Nat, k ≤ n0 ∧ i = .int .i64 k ∧ s = .int .i64 (wrap64 (sumTo es k)) ∧ ∃ q, wr = w3.drewN q) (fun _ i _ => n0 - (intOf i).toNat)
        case atStart => exact ⟨0, Nat.zero_le _, rfl, val_int wrap_zero.symm, _, by first | rfl | exact drewN_two _ _ _⟩
        case round =>
          clear hk hlt
          obtain ⟨k, hk, rfl, rfl, q2, rfl⟩ := hrel
          by_cases hlt : k < n0
          · obtain ⟨b, o, hb, y0, y1⟩ := FE.out k hlt
            cases hb
            have hI := sum_step es k
            have HI : Hid (wrap64 (wrap64 (sumTo es k) + (es.getD k (0, 0)).2) = wrap64 (sumTo es (k + 1))) := hI
            clear hI y0
            go_wp2
            go_roundw
            case rel => exact ⟨k + 1, by omega, by go_num, val_int HI.out, _, rfl⟩
            case measure => simp [intOf]; omega
          · have ek : k = n0 := by omega
            have HEK : Hid (k = n0) := ek
            clear ek
            go_wp2
            go_loopw [16, 19] (fun s i wr => ∃ k : Nat, k ≤ L ∧ i = .int .i64 k ∧ s = .int .i64 (wrap64 (sumTo got k)) ∧ ∃ q, wr = w3.drewN q) (fun _ i _ => L - (intOf i).toNat)
            case atStart => exact ⟨0, Nat.zero_le _, rfl, val_int wrap_zero.symm, _, by first | rfl | exact drewN_two _ _ _⟩
            case round =>
              obtain ⟨j, hj, rfl, rfl, q3, rfl⟩ := hrel
              by_cases hlj : j < L
              · obtain ⟨g, hg, x0, x1⟩ := FG'.out j hlj
                cases hg
                have HI : Hid (wrap64 (wrap64 (sumTo got j) + (got.getD j (0, 0)).2) = wrap64 (sumTo got (j + 1))) := sum_step got j
                clear x0
                go_wp2
                go_roundw
                case rel => exact ⟨j + 1, by omega, by go_num, val_int HI.out, _, rfl⟩
                case measure => simp [intOf]; omega
              · have HEJ : Hid (j = L) := show j = L by omega
                go_wp2
                go_loopw [17, 20] (fun s i wr => ∃ k : Nat, k ≤ 0 ∧ i = .int .u64 k ∧ s = .int .i64 (cnt [] k : Nat) ∧ ∃ q, wr = w3.drewN q) (fun _ i _ => 0 - (intOf i).toNat)
                case atStart => exact ⟨0, Nat.zero_le _, rfl, rfl, _, rfl⟩
                case round =>
                  obtain ⟨z, hz, rfl, rfl, q4, rfl⟩ := hrel
                  by_cases hlz : z < 0
                  · exact absurd hlz (Nat.not_lt_zero _)
                  · have HEZ : Hid (z = 0) := show z = 0 by omega
                    have hcb := cnt_le [] z
                    go_wp2
                    go_ret
                    refine ⟨ret_bool ?_, below_drewN KB3.out _⟩
                    rw [HEK.out, HEJ.out, HEZ.out, HLL.out, HGT.out, ← HLE.out]
                    exact sums_meet [] off unit es 0
      · have hd : decide ((0 : Int) < (n0 : Int)) = false := decide_eq_false (by omega)
        go_wp2
        go_quiet (fail)
        go_wp2
        go_loopw [15, 18] (fun s i wr => ∃ k : Nat, k ≤ n0 ∧ i = .int .i64 k ∧ s = .int .i64 (wrap64 (sumTo es k)) ∧ ∃ q, wr = w3.drewN q) (fun _ i _ => n0 - (intOf i).toNat)
        case atStart => exact ⟨0, Nat.zero_le _, rfl, val_int wrap_zero.symm, _, by first | rfl | exact drewN_two _ _ _⟩
        case round =>
          clear hk hlt
          obtain ⟨k, hk, rfl, rfl, q2, rfl⟩ := hrel
          by_cases hlt : k < n0
          · exact absurd hlt (by omega)
          · have ek : k = n0 := by omega
            have HEK : Hid (k = n0) := ek
            clear ek
            go_wp2
            go_loopw [16, 19] (fun s i wr => ∃ k : Nat, k ≤ L ∧ i = .int .i64 k ∧ s = .int .i64 (wrap64 (sumTo got k)) ∧ ∃ q, wr = w3.drewN q) (fun _ i _ => L - (intOf i).toNat)
            case atStart => exact ⟨0, Nat.zero_le _, rfl, val_int wrap_zero.symm, _, by first | rfl | exact drewN_two _ _ _⟩
            case round =>
              obtain ⟨j, hj, rfl, rfl, q3, rfl⟩ := hrel
              by_cases hlj : j < L
              · obtain ⟨g, hg, x0, x1⟩ := FG'.out j hlj
                cases hg
                have HI : Hid (wrap64 (wrap64 (sumTo got j) + (got.getD j (0, 0)).2) = wrap64 (sumTo got (j + 1))) := sum_step got j
                clear x0
                go_wp2
                go_roundw
                case rel => exact ⟨j + 1, by omega, by go_num, val_int HI.out, _, rfl⟩
                case measure => simp [intOf]; omega
              · have HEJ : Hid (j = L) := show j = L by omega
                go_wp2
                go_loopw [17, 20] (fun s i wr => ∃ k : Nat, k ≤ 0 ∧ i = .int .u64 k ∧ s = .int .i64 (cnt [] k : Nat) ∧ ∃ q, wr = w3.drewN q) (fun _ i _ => 0 - (intOf i).toNat)
                case atStart => exact ⟨0, Nat.zero_le _, rfl, rfl, _, rfl⟩
                case round =>
                  obtain ⟨z, hz, rfl, rfl, q4, rfl⟩ := hrel
                  by_cases hlz : z < 0
                  · exact absurd hlz (Nat.not_lt_zero _)
                  · have HEZ : Hid (z = 0) := show z = 0 by omega
                    have hcb := cnt_le [] z
                    go_wp2
                    go_ret
                    refine ⟨ret_bool ?_, below_drewN KB3.out _⟩
                    rw [HEK.out, HEJ.out, HEZ.out, HLL.out, HGT.out, ← HLE.out]
                    exact sums_meet [] off unit es 0

set_option maxRecDepth 100000 in
set_option maxHeartbeats 3200000 in
theorem ad_some (a0 : Option Addr) (n0 c0 : Nat) (es : List (Int × Int)) (ad : Addr) (m c1 n : Nat) (bs : List Int) (off unit : Int) (w : World) (hr : Rd 2 w a0 n0 c0 (cells es)) (hbm : Rd 1 w (some ad) m c1 (bs.map (.int .u8))) (hn0 : n0 ≤ 65536) (hm : 16 * n0 + m ≤ 1048576) (hn : n ≤ 8 * m) (hn2 : n ≤ 65536) (hu : wrap64 unit = unit) :
    Calls Try.prog 10 #[.slice a0 n0 c0, .slice (some ad) m c1, .int .u64 n, .int .i64 off, .int .i64 unit] w fun e w' => e = .returned (.bool true) ∧ Below w.heap.size w w' := by
  have q : ∀ (w : World) (a : Option Addr) (n c n' c' : Nat), (binOp .neq 36 (.slice a n c) (.slice none n' c')).run Try.prog w = .ok (.bool (!a.isNone)) w := fun w a n c n' c' => run_neq_slice_nil_any w _ _ a n c n' c' Try.underlying36
  obtain ⟨i0, hi, hz0, hz1, hz2⟩ := info_parts info5
  have hle : es.length = n0 := by have := hr.len; rw [cells_length] at this; omega
  have HLE : Hid (es.length = n0) := hle
  have HR0 : Hid (Rd 2 w a0 n0 c0 (cells es)) := hr
  have HU : Hid (wrap64 unit = unit) := hu
  have HBM : Hid (Rd 1 w (some ad) m c1 (bs.map (.int .u8))) := hbm
  have hm2 : m ≤ 1048576 := by omega
  clear hle hr hu hbm
  go_enter Try.func10, Try.ntmps10
  go_wp2_with fail
  refine (ad_zz_yes _ _ _ _ _ _ _ _ _ _ (by omega)).mono ?_
  rintro e w0 ⟨rfl, rfl⟩
  go_wp2_with (at_make; refine wpList_make_full _ rfl _ _ 36 rfl w0.heap.size 5 i0 (.int .u8 0) 1 Try.underlying36 hi hz0 hz1 _ _ _ _ m rfl rfl (by omega) (by omega) (by rw [hz2]; omega) (by unfold maxLen; omega) (Nat.le_refl _) ?_)
  intro wm hown hgrow
  have hcell : ∀ j u, (bs.map (Value.int .u8))[j]? = some u → wm.cell? (ad.add j) = some u := fun j u hu => hgrow.cell (HBM.out.cell ad rfl j u hu) (by simp)
  obtain ⟨cur, hg, hcs⟩ : ∃ cur, wm.heap[w0.heap.size]? = some (.cells cur 5 (0, 0)) ∧ cur.size = m := by
    rcases hown.2 with ⟨h', _⟩ | ⟨g', cap', cur, h', _, hg, _, _, hcs, _⟩
    · simp at h'
    · simp only [Value.slice.injEq, Option.some.injEq, Addr.mk.injEq, and_true, true_and] at h'
      obtain ⟨rfl, rfl⟩ := h'
      exact ⟨cur, hg, by simpa using hcs⟩
  have hl : (bs.map (Value.int .u8)).length = m := by simpa using HBM.out.len
  have hcp := fun ty => run_copy_row (P := Try.prog) wm 36 36 ty 5 w0.heap.size 0 m m ad m c1 cur 5 (bs.map (Value.int .u8)) Try.underlying36 size5 hg (by simpa using hl) hcell (by simp at hl; simp [hl, hcs]) (ints_oneCell _ _)
  have EC := clone_end hgrow hg hcs hl rfl (by unfold maxLen; omega)
  have HEC : Hid ((wm.setRow w0.heap.size (bs.map (Value.int .u8) ++ cur.toList.drop m).toArray).ownsRow w0.heap.size 5 1 (.slice (some ⟨w0.heap.size, 0, none⟩) m m) m (bs.map (Value.int .u8)) ∧ w0.grownBy (wm.setRow w0.heap.size (bs.map (Value.int .u8) ++ cur.toList.drop m).toArray) none) := EC
  have hl2 : bs.length = m := by simpa using hl
  have HLB : Hid (bs.length = m) := hl2
  clear EC hcell hg hcs hl hl2 hown hgrow
  go_wp2_with fail
  obtain ⟨w1, hw1⟩ : ∃ w1, w1 = wm.setRow w0.heap.size (List.map (Value.int IntKind.u8) bs ++ List.drop bs.length cur.toList).toArray := ⟨_, rfl⟩
  rw [← hw1]
  have HW : Hid (w1.ownsRow w0.heap.size 5 1 (.slice (some ⟨w0.heap.size, 0, none⟩) m m) m (bs.map (Value.int .u8)) ∧ w0.grownBy w1 none) := by
    rw [hw1, HLB.out]; exact HEC.out
  have HR : Hid (Rd 2 w1 a0 n0 c0 (cells es)) := HR0.out.keptNone HW.out.2
  have HBR : Hid (Rd 1 w1 (some ⟨w0.heap.size, 0, none⟩) m m (bs.map (.int .u8))) := ⟨HW.out.1.1, Nat.le_refl _, fun h => (by cases h), fun ad' had' => by cases had'; exact HW.out.1.cells rfl⟩
  have KB1 : Hid (Below w0.heap.size w0 w1) := below_of_grown HW.out.2
  have hs01 : w0.heap.size < w1.heap.size := (HW.out.1.lt _ rfl).2
  have HRZ := HR0
  clear hcp HEC hw1 HR0
  have HRw : Hid (Rd 2 w0 a0 n0 c0 (cells es)) := HRZ.out
  refine (toImage_any _ _ _ es _ HR.out (by omega)).mono ?_
  rintro e w2 ⟨v2, rfl, hx2, hg2⟩
  have hs2 := hg2.size
  have K2 : Hid (Has w2 w1.heap.size v2 es) := hx2
  have KB2 : Hid (Below w0.heap.size w0 w2) := KB1.out.grown hg2 (by omega) (by simp)
  have HB2 : Hid (Rd 1 w2 (some ⟨w0.heap.size, 0, none⟩) m m (bs.map (.int .u8))) := HBR.out.keptNone hg2
  clear hx2 hg2
  go_wp2_with fail
  refine (marked_any w1.heap.size m m n (some ⟨w0.heap.size, 0, none⟩) v2 es bs off unit w2 K2.out hs2 (by rw [HLE.out]; omega) HB2.out (fun ad h => by cases h; exact ⟨rfl, fun e => by have := (K2.out.lt e).1; simp at this; omega⟩) hn hn2 hm2 HU.out).mono ?_
  rintro e w3 ⟨v3, rfl, hx3, hst3⟩
  have KB3 : Hid (Below w0.heap.size w0 w3) := KB2.out.trans (hst3.below KB2.out.size (fun g h => by have := (K2.out.lt h).1; omega))
  have HR3 : Hid (Rd 2 w3 a0 n0 c0 (cells es)) := HRw.out.keptNone (grown_of_below KB3.out)
  have HB3 : Hid (Rd 1 w3 (some ⟨w0.heap.size, 0, none⟩) m m (bs.map (.int .u8))) := HB2.out.step hst3 (fun ad h e => by cases h; have := (K2.out.lt e.symm).1; simp at this; omega)
  obtain ⟨got, hgot⟩ : ∃ got, got = bitE bs off unit es n := ⟨_, rfl⟩
  obtain ⟨L, hL⟩ : ∃ L, L = got.length := ⟨_, rfl⟩
  rw [← hgot] at hx3
  have KP : Hid (Keeps es got) := by rw [hgot]; exact keeps_bitE _ _ _ _ _
  have hLm : n0 ≤ L := by rw [hL, ← HLE.out]; exact KP.out.len
  have hLb : L ≤ 131072 := by
    have := bitE_length bs off unit es n
    rw [← hgot, ← hL, HLE.out] at this; omega
  have FG : Hid (∃ ao cc, v3 = .slice ao L cc ∧ ∀ k, k < L → ∃ g, ao = some ⟨g, 0, none⟩ ∧ w3.cell? ⟨g, k * 2, none⟩ = some (.int .i64 (got.getD k (0, 0)).1) ∧ w3.cell? ⟨g, k * 2 + 1, none⟩ = some (.int .i64 (got.getD k (0, 0)).2)) := by
    rcases hx3.cases with ⟨rfl, hnil⟩ | ⟨g, cc, rfl, _, _, _, _⟩
    · exact ⟨none, 0, by rw [hL, hnil]; rfl, fun k hk => absurd hk (by rw [hL, hnil]; simp)⟩
    · exact ⟨some ⟨g, 0, none⟩, cc, by rw [hL], fun k hk => ⟨g, rfl, hx3.cell0 k (by omega), hx3.cell1 k (by omega)⟩⟩
  have FE : Hid (∀ k, k < n0 → ∃ b o, a0 = some ⟨b, o, none⟩ ∧ w3.cell? ⟨b, o + k * 2, none⟩ = some (.int .i64 (es.getD k (0, 0)).1) ∧ w3.cell? ⟨b, o + k * 2 + 1, none⟩ = some (.int .i64 (es.getD k (0, 0)).2)) := fun k hk => exts_at HR3.out k (by rw [HLE.out]; exact hk)
  have HGT : Hid (got = bitE bs off unit es n) := hgot
  have HLL : Hid (L = got.length) := hL
  clear hx3 hst3 hgot hL K2
  obtain ⟨ao, cc, rfl, hFG⟩ := FG.out
  have FG' : Hid (∀ k, k < L → ∃ g, ao = some ⟨g, 0, none⟩ ∧ w3.cell? ⟨g, k * 2, none⟩ = some (.int .i64 (got.getD k (0, 0)).1) ∧ w3.cell? ⟨g, k * 2 + 1, none⟩ = some (.int .i64 (got.getD k (0, 0)).2)) := hFG
  clear hFG FG
  have hLd : decide ((L : Int) < (n0 : Int)) = false := decide_eq_false (by omega)
  have hLd2 : decide (L < n0) = false := decide_eq_false (by omega)
  go_wp2_with fail
  go_loopw [14] (fun i wr => ∃ k : Nat, k ≤ n0 ∧ i = .int .i64 k ∧ ∃ q, wr = w3.drewN q) (fun i _ => n0 - (intOf i).toNat)
  case atStart => exact ⟨0, Nat.zero_le _, rfl, 0, rfl⟩
  case round =>
    obtain ⟨k, hk, rfl, q1, rfl⟩ := hrel
    by_cases hlt : k + 1 < n0
    · obtain ⟨g, hg, x0, x1⟩ := FG'.out k (by omega)
      obtain ⟨b, o, hb, y0, y1⟩ := FE.out k (by omega)
      rw [KP.out.same k (by rw [HLE.out]; exact hlt)] at x0 x1
      subst hg
      subst hb
      go_wp2
      go_quiet (fail)
      go_wp2
      go_roundw
      case rel => exact ⟨k + 1, by omega, by go_num, _, rfl⟩
      case measure => simp [intOf]; omega
    · by_cases hm0 : 0 < n0
      · obtain ⟨g, hg, x0, x1⟩ := FG'.out (n0 - 1) (by omega)
        obtain ⟨b, o, hb, y0, y1⟩ := FE.out (n0 - 1) (by omega)
        have hlast : (got.getD (n0 - 1) (0, 0)).1 = (es.getD (n0 - 1) (0, 0)).1 := by
          have := KP.out.last (by rw [HLE.out]; exact hm0)
          rwa [HLE.out] at this
        rw [hlast] at x0
        subst hg
        subst hb
        clear x1 y1 hlast
        go_wp2
        go_quiet (fail)
        clear x0 y0
        go_wp2
        go_loopw [15, 18] (fun s i wr => ∃ k : Nat, k ≤ n0 ∧ i = .int .i64 k ∧ s = .int .i64 (wrap64 (sumTo es k)) ∧ ∃ q, wr = w3.drewN q) (fun _ i _ => n0 - (intOf i).toNat)
        case atStart => exact ⟨0, Nat.zero_le _, rfl, val_int wrap_zero.symm, _, by first | rfl | exact drewN_two _ _ _⟩
        case round =>
          clear hk hlt
          obtain ⟨k, hk, rfl, rfl, q2, rfl⟩ := hrel
          by_cases hlt : k < n0
          · obtain ⟨b, o, hb, y0, y1⟩ := FE.out k hlt
            cases hb
            have hI := sum_step es k
            have HI : Hid (wrap64 (wrap64 (sumTo es k) + (es.getD k (0, 0)).2) = wrap64 (sumTo es (k + 1))) := hI
            clear hI y0
            go_wp2
            go_roundw
            case rel => exact ⟨k + 1, by omega, by go_num, val_int HI.out, _, rfl⟩
            case measure => simp [intOf]; omega
          · have ek : k = n0 := by omega
            have HEK : Hid (k = n0) := ek
            clear ek
            go_wp2
            go_loopw [16, 19] (fun s i wr => ∃ k : Nat, k ≤ L ∧ i = .int .i64 k ∧ s = .int .i64 (wrap64 (sumTo got k)) ∧ ∃ q, wr = w3.drewN q) (fun _ i _ => L - (intOf i).toNat)
            case atStart => exact ⟨0, Nat.zero_le _, rfl, val_int wrap_zero.symm, _, by first | rfl | exact drewN_two _ _ _⟩
            case round =>
              obtain ⟨j, hj, rfl, rfl, q3, rfl⟩ := hrel
              by_cases hlj : j < L
              · obtain ⟨g, hg, x0, x1⟩ := FG'.out j hlj
                cases hg
                have HI : Hid (wrap64 (wrap64 (sumTo got j) + (got.getD j (0, 0)).2) = wrap64 (sumTo got (j + 1))) := sum_step got j
                clear x0
                go_wp2
                go_roundw
                case rel => exact ⟨j + 1, by omega, by go_num, val_int HI.out, _, rfl⟩
                case measure => simp [intOf]; omega
              · have HEJ : Hid (j = L) := show j = L by omega
                go_wp2
                go_loopw [17, 20] (fun s i wr => ∃ k : Nat, k ≤ n ∧ i = .int .u64 k ∧ s = .int .i64 (cnt bs k : Nat) ∧ ∃ q, wr = w3.drewN q) (fun _ i _ => n - (intOf i).toNat)
                case atStart => exact ⟨0, Nat.zero_le _, rfl, rfl, _, rfl⟩
                case round =>
                  obtain ⟨z, hz, rfl, rfl, q4, rfl⟩ := hrel
                  by_cases hlz : z < n
                  · obtain ⟨β, hβ⟩ : ∃ β, bit bs z = β := ⟨_, rfl⟩
                    have HBT : Hid (bit bs z = β) := hβ
                    have hcb := cnt_le bs z
                    go_wp2_with fail
                    refine (marked_row w0.heap.size m m z bs _ (HB3.out.keptNone (grown_drewN (World.grownBy.refl _ _) _)) (by omega) hm2).mono ?_
                    rintro e wz ⟨rfl, rfl⟩
                    rw [hβ]
                    clear hβ
                    cases β
                    · go_wp2_with fail
                      go_roundw
                      case rel => exact ⟨z + 1, by omega, by go_num, val_int (by show ((cnt bs z : Nat) : Int) = ((cnt bs z + if bit bs z then 1 else 0 : Nat) : Int); rw [HBT.out]; simp), _, rfl⟩
                      case measure => simp [intOf]; omega
                    · go_wp2_with fail
                      go_roundw
                      case rel => exact ⟨z + 1, by omega, by go_num, val_int (by show ((cnt bs z : Nat) : Int) + 1 = ((cnt bs z + if bit bs z then 1 else 0 : Nat) : Int); rw [HBT.out]; simp), _, rfl⟩
                      case measure => simp [intOf]; omega
                  · have HEZ : Hid (z = n) := show z = n by omega
                    have hcb := cnt_le bs z
                    go_wp2
                    go_ret
                    refine ⟨ret_bool ?_, below_drewN KB3.out _⟩
                    rw [HEK.out, HEJ.out, HEZ.out, HLL.out, HGT.out, ← HLE.out]
                    exact sums_meet bs off unit es n
      · have hd : decide ((0 : Int) < (n0 : Int)) = false := decide_eq_false (by omega)
        go_wp2
        go_quiet (fail)
        go_wp2
        go_loopw [15, 18] (fun s i wr => ∃ k : Nat, k ≤ n0 ∧ i = .int .i64 k ∧ s = .int .i64 (wrap64 (sumTo es k)) ∧ ∃ q, wr = w3.drewN q) (fun _ i _ => n0 - (intOf i).toNat)
        case atStart => exact ⟨0, Nat.zero_le _, rfl, val_int wrap_zero.symm, _, by first | rfl | exact drewN_two _ _ _⟩
        case round =>
          clear hk hlt
          obtain ⟨k, hk, rfl, rfl, q2, rfl⟩ := hrel
          by_cases hlt : k < n0
          · exact absurd hlt (by omega)
          · have ek : k = n0 := by omega
            have HEK : Hid (k = n0) := ek
            clear ek
            go_wp2
            go_loopw [16, 19] (fun s i wr => ∃ k : Nat, k ≤ L ∧ i = .int .i64 k ∧ s = .int .i64 (wrap64 (sumTo got k)) ∧ ∃ q, wr = w3.drewN q) (fun _ i _ => L - (intOf i).toNat)
            case atStart => exact ⟨0, Nat.zero_le _, rfl, val_int wrap_zero.symm, _, by first | rfl | exact drewN_two _ _ _⟩
            case round =>
              obtain ⟨j, hj, rfl, rfl, q3, rfl⟩ := hrel
              by_cases hlj : j < L
              · obtain ⟨g, hg, x0, x1⟩ := FG'.out j hlj
                cases hg
                have HI : Hid (wrap64 (wrap64 (sumTo got j) + (got.getD j (0, 0)).2) = wrap64 (sumTo got (j + 1))) := sum_step got j
                clear x0
                go_wp2
                go_roundw
                case rel => exact ⟨j + 1, by omega, by go_num, val_int HI.out, _, rfl⟩
                case measure => simp [intOf]; omega
              · have HEJ : Hid (j = L) := show j = L by omega
                go_wp2
                go_loopw [17, 20] (fun s i wr => ∃ k : Nat, k ≤ n ∧ i = .int .u64 k ∧ s = .int .i64 (cnt bs k : Nat) ∧ ∃ q, wr = w3.drewN q) (fun _ i _ => n - (intOf i).toNat)
                case atStart => exact ⟨0, Nat.zero_le _, rfl, rfl, _, rfl⟩
                case round =>
                  obtain ⟨z, hz, rfl, rfl, q4, rfl⟩ := hrel
                  by_cases hlz : z < n
                  · obtain ⟨β, hβ⟩ : ∃ β, bit bs z = β := ⟨_, rfl⟩
                    have HBT : Hid (bit bs z = β) := hβ
                    have hcb := cnt_le bs z
                    go_wp2_with fail
                    refine (marked_row w0.heap.size m m z bs _ (HB3.out.keptNone (grown_drewN (World.grownBy.refl _ _) _)) (by omega) hm2).mono ?_
                    rintro e wz ⟨rfl, rfl⟩
                    rw [hβ]
                    clear hβ
                    cases β
                    · go_wp2_with fail
                      go_roundw
                      case rel => exact ⟨z + 1, by omega, by go_num, val_int (by show ((cnt bs z : Nat) : Int) = ((cnt bs z + if bit bs z then 1 else 0 : Nat) : Int); rw [HBT.out]; simp), _, rfl⟩
                      case measure => simp [intOf]; omega
                    · go_wp2_with fail
                      go_roundw
                      case rel => exact ⟨z + 1, by omega, by go_num, val_int (by show ((cnt bs z : Nat) : Int) + 1 = ((cnt bs z + if bit bs z then 1 else 0 : Nat) : Int); rw [HBT.out]; simp), _, rfl⟩
                      case measure => simp [intOf]; omega
                  · have HEZ : Hid (z = n) := show z = n by omega
                    have hcb := cnt_le bs z
                    go_wp2
                    go_ret
                    refine ⟨ret_bool ?_, below_drewN KB3.out _⟩
                    rw [HEK.out, HEJ.out, HEZ.out, HLL.out, HGT.out, ← HLE.out]
                    exact sums_meet bs off unit es n
end Go.Proofs.Qxb6602224a.Own
