/-
  The walk of FnAppendMarkedAgreesWithBitByBit, out of the contracts.
-/
import Derived.Test.Qxb6602224aMarked
import Derived.Test.Qxb6602224aSame
import Derived.Test.Qxb6602224aCanonPlain
import Derived.WalkSpells
namespace Go.Proofs.Qxb6602224a.Own
open Go.RowKit

theorem ag_zz_yes (a0 a1 : Option Addr) (n0 c0 m c1 : Nat) (n off unit : Int) (w : World) (h : n0 + m ≤ 1048576) :
    Calls Try.prog 20 #[.slice a0 n0 c0, .slice a1 m c1, .int .u64 n, .int .i64 off, .int .i64 unit] w fun e w' => e = .returned (.bool true) ∧ w' = w := by
  have h1 : n0 ≤ 1048576 := by omega
  have h2 : m ≤ 1048576 := by omega
  go_enter Try.func20, Try.ntmps20
  go_wp2
  go_ret
  exact ⟨rfl, rfl⟩
theorem ag_zz_no (a0 a1 : Option Addr) (n0 c0 m c1 : Nat) (n off unit : Int) (w : World) (hn : n0 ≤ maxLen) (hm : m ≤ maxLen) (h : 1048576 < n0 + m) :
    Calls Try.prog 20 #[.slice a0 n0 c0, .slice a1 m c1, .int .u64 n, .int .i64 off, .int .i64 unit] w fun e w' => e = .returned (.bool false) ∧ w' = w := by
  unfold maxLen at hn hm
  by_cases h1 : n0 ≤ 1048576
  · by_cases h2 : m ≤ 1048576
    · go_enter Try.func20, Try.ntmps20
      go_wp2
      go_ret
      exact ⟨rfl, rfl⟩
    · go_enter Try.func20, Try.ntmps20
      go_wp2
      go_ret
      exact ⟨rfl, rfl⟩
  · go_enter Try.func20, Try.ntmps20
    go_wp2
    go_ret
    exact ⟨rfl, rfl⟩

theorem ag_big (a0 a1 : Option Addr) (n0 c0 m c1 : Nat) (n off unit : Int) (w : World) (hn : n0 ≤ maxLen) (hm : m ≤ maxLen) (h : 1048576 < n0 + m) :
    Calls Try.prog 8 #[.slice a0 n0 c0, .slice a1 m c1, .int .u64 n, .int .i64 off, .int .i64 unit] w fun e w' => e = .returned (.bool true) ∧ w' = w := by
  go_enter Try.func8, Try.ntmps8
  go_wp2_with fail
  refine (ag_zz_no _ _ _ _ _ _ _ _ _ _ hn hm h).mono ?_
  rintro e w' ⟨rfl, rfl⟩
  go_wp2
  go_ret
  exact ⟨rfl, rfl⟩
theorem ag_out (a0 a1 : Option Addr) (n0 c0 m c1 : Nat) (n off unit : Int) (w : World) (h : n0 + m ≤ 1048576) (hn0 : 0 ≤ n) (hb : 65536 < n0 ∨ 1048576 < 16 * n0 + m ∨ 8 * (m : Int) < n ∨ 65536 < n) :
    Calls Try.prog 8 #[.slice a0 n0 c0, .slice a1 m c1, .int .u64 n, .int .i64 off, .int .i64 unit] w fun e w' => e = .returned (.bool true) ∧ w' = w := by
  have h1 : n0 ≤ 1048576 := by omega
  have h2 : m ≤ 1048576 := by omega
  by_cases b1 : 65536 < n0
  · go_enter Try.func8, Try.ntmps8
    go_wp2_with fail
    refine (ag_zz_yes _ _ _ _ _ _ _ _ _ _ h).mono ?_
    rintro e w' ⟨rfl, rfl⟩
    go_wp2
    go_ret
    exact ⟨rfl, rfl⟩
  · by_cases b2 : 1048576 < 16 * n0 + m
    · go_enter Try.func8, Try.ntmps8
      go_wp2_with fail
      refine (ag_zz_yes _ _ _ _ _ _ _ _ _ _ h).mono ?_
      rintro e w' ⟨rfl, rfl⟩
      go_wp2
      go_ret
      exact ⟨rfl, rfl⟩
    · by_cases b3 : 8 * (m : Int) < n
      · go_enter Try.func8, Try.ntmps8
        go_wp2_with fail
        refine (ag_zz_yes _ _ _ _ _ _ _ _ _ _ h).mono ?_
        rintro e w' ⟨rfl, rfl⟩
        go_wp2
        go_ret
        exact ⟨rfl, rfl⟩
      · have b4 : 65536 < n := by omega
        clear hb
        go_enter Try.func8, Try.ntmps8
        go_wp2_with fail
        refine (ag_zz_yes _ _ _ _ _ _ _ _ _ _ h).mono ?_
        rintro e w' ⟨rfl, rfl⟩
        go_wp2
        go_ret
        exact ⟨rfl, rfl⟩

set_option maxHeartbeats 1600000 in
theorem ag_nil (a0 : Option Addr) (n0 c0 : Nat) (es : List (Int × Int)) (off unit : Int) (w : World) (hr : Rd 2 w a0 n0 c0 (cells es)) (hn0 : n0 ≤ 65536) (hu : wrap64 unit = unit) :
    Calls Try.prog 8 #[.slice a0 n0 c0, .slice none 0 0, .int .u64 ((0 : Nat) : Int), .int .i64 off, .int .i64 unit] w fun e w' => e = .returned (.bool true) ∧ Below w.heap.size w w' := by
  have q : ∀ (w : World) (a : Option Addr) (n c n' c' : Nat), (binOp .neq 36 (.slice a n c) (.slice none n' c')).run Try.prog w = .ok (.bool (!a.isNone)) w := fun w a n c n' c' => run_neq_slice_nil_any w _ _ a n c n' c' Try.underlying36
  have hle : es.length = n0 := by have := hr.len; rw [cells_length] at this; omega
  have HLE : Hid (es.length = n0) := hle
  have HR : Hid (Rd 2 w a0 n0 c0 (cells es)) := hr
  have HU : Hid (wrap64 unit = unit) := hu
  clear hle hr hu
  go_enter Try.func8, Try.ntmps8
  go_wp2_with fail
  refine (ag_zz_yes _ _ _ _ _ _ _ _ _ _ (by omega)).mono ?_
  rintro e w1 ⟨rfl, rfl⟩
  go_wp2_with fail
  refine (toImage_any _ _ _ es _ HR.out (by omega)).mono ?_
  rintro e w2 ⟨v2, rfl, hx2, hg2⟩
  have hs2 := hg2.size
  have K2 : Hid (Has w2 w1.heap.size v2 es) := hx2
  have KB2 : Hid (Below w1.heap.size w1 w2) := below_of_grown hg2
  have HR2 : Hid (Rd 2 w2 a0 n0 c0 (cells es)) := HR.out.keptNone hg2
  clear hx2 hg2
  go_wp2_with fail
  refine (marked_any w1.heap.size 0 0 0 none v2 es [] off unit w2 K2.out hs2 (by rw [HLE.out]; omega) ⟨rfl, Nat.le_refl _, fun _ => ⟨rfl, rfl⟩, fun ad h => (by cases h)⟩ (fun ad h => (by cases h)) (by omega) (by omega) (by omega) HU.out).mono ?_
  rintro e w3 ⟨v3, rfl, hx3, hst3⟩
  have hs3 := hst3.grown.size
  have K3 : Hid (Has w3 w1.heap.size v3 (bitE [] off unit es 0)) := hx3
  have KB3 : Hid (Below w1.heap.size w1 w3) := KB2.out.trans (hst3.below KB2.out.size (fun g h => by have := (K2.out.lt h).1; omega))
  have HR3 : Hid (Rd 2 w3 a0 n0 c0 (cells es)) := HR.out.keptNone (grown_of_below KB3.out)
  clear hx3 hst3 K2 HR2
  go_wp2_with fail
  refine (toImage_any _ _ _ es _ HR3.out (by omega)).mono ?_
  rintro e w4 ⟨v4, rfl, hx4, hg4⟩
  have hs4 := hg4.size
  have K4 : Hid (Has w4 w3.heap.size v4 (bitE [] off unit es 0)) := hx4
  have K34 : Hid (Has w4 w1.heap.size v3 (bitE [] off unit es 0)) := K3.out.keptNone hg4
  have KB4 : Hid (Below w1.heap.size w1 w4) := KB3.out.grown hg4 KB3.out.size (by simp)
  clear hx4 hg4
  go_wp2_with fail
  go_loopw [13, 14] (fun v i wr => v = v4 ∧ i = .int .u64 ((0 : Nat) : Int) ∧ wr = w4) (fun _ _ _ => 0)
  case atStart => exact ⟨rfl, rfl, rfl⟩
  case round =>
    obtain ⟨rfl, rfl, rfl⟩ := hrel
    go_wp2_with fail
    refine (same_has _ _ _ _ _ _ K34.out K4.out (by have := bitE_length [] off unit es 0; rw [HLE.out] at this; omega)).mono ?_
    rintro e w8 ⟨rfl, k, hw8⟩
    have H8 : Hid (w8 = World.drewN _ k) := hw8
    clear hw8
    go_wp2
    go_ret
    exact ⟨rfl, by rw [H8.out]; exact below_drewN KB4.out k⟩

set_option maxHeartbeats 1600000 in
theorem ag_some (a0 : Option Addr) (n0 c0 : Nat) (es : List (Int × Int)) (ad : Addr) (m c1 n : Nat) (bs : List Int) (off unit : Int) (w : World) (hr : Rd 2 w a0 n0 c0 (cells es)) (hbm : Rd 1 w (some ad) m c1 (bs.map (.int .u8))) (hn0 : n0 ≤ 65536) (hm : 16 * n0 + m ≤ 1048576) (hn : n ≤ 8 * m) (hn2 : n ≤ 65536) (hu : wrap64 unit = unit) :
    Calls Try.prog 8 #[.slice a0 n0 c0, .slice (some ad) m c1, .int .u64 n, .int .i64 off, .int .i64 unit] w fun e w' => e = .returned (.bool true) ∧ Below w.heap.size w w' := by
  have q : ∀ (w : World) (a : Option Addr) (n c n' c' : Nat), (binOp .neq 36 (.slice a n c) (.slice none n' c')).run Try.prog w = .ok (.bool (!a.isNone)) w := fun w a n c n' c' => run_neq_slice_nil_any w _ _ a n c n' c' Try.underlying36
  obtain ⟨i0, hi, hz0, hz1, hz2⟩ := info_parts info5
  have hle : es.length = n0 := by have := hr.len; rw [cells_length] at this; omega
  have HLE : Hid (es.length = n0) := hle
  have HR0 : Hid (Rd 2 w a0 n0 c0 (cells es)) := hr
  have HU : Hid (wrap64 unit = unit) := hu
  have HBM : Hid (Rd 1 w (some ad) m c1 (bs.map (.int .u8))) := hbm
  have hm2 : m ≤ 1048576 := by omega
  clear hle hr hu hbm
  go_enter Try.func8, Try.ntmps8
  go_wp2_with fail
  refine (ag_zz_yes _ _ _ _ _ _ _ _ _ _ (by omega)).mono ?_
  rintro e w0 ⟨rfl, rfl⟩
  go_wp2_with (at_make; refine wpList_make_full _ rfl _ _ 36 rfl w0.heap.size 5 i0 (.int .u8 0) 1 Try.underlying36 hi hz0 hz1 _ _ _ _ m rfl rfl (by omega) (by omega) (by rw [hz2]; omega) (by unfold maxLen; omega) (Nat.le_refl _) ?_)
  intro wm hown hgrow
  have hcell : ∀ j u, (bs.map (Value.int .u8))[j]? = some u → wm.cell? (ad.add j) = some u := fun j u hu => hgrow.cell (HBM.out.cell ad rfl j u hu) (by simp)
  obtain ⟨cur, hg, hcs⟩ : ∃ cur, wm.heap[w0.heap.size]? = some (.cells cur 5 (0, 0)) ∧ cur.size = m := by
    rcases hown.2 with ⟨h', _⟩ | ⟨g', cap', cur, h', _, hg, _, _, hcs, _⟩
    · simp at h'
    · simp only [Value.slice.injEq, Option.some.injEq, Addr.mk.injEq, and_true, true_and] at h'
      obtain ⟨rfl, rfl⟩ := h'
      exact ⟨cur, hg, by simpa using hcs⟩
  have hl : (bs.map (Value.int .u8)).length = m := by simpa using HBM.out.len
  have hcp := fun ty => run_copy_row (P := Try.prog) wm 36 36 ty 5 w0.heap.size 0 m m ad m c1 cur 5 (bs.map (Value.int .u8)) Try.underlying36 size5 hg (by simpa using hl) hcell (by simp at hl; simp [hl, hcs]) (ints_oneCell _ _)
  have EC := clone_end hgrow hg hcs hl rfl (by unfold maxLen; omega)
  have HEC : Hid ((wm.setRow w0.heap.size (bs.map (Value.int .u8) ++ cur.toList.drop m).toArray).ownsRow w0.heap.size 5 1 (.slice (some ⟨w0.heap.size, 0, none⟩) m m) m (bs.map (Value.int .u8)) ∧ w0.grownBy (wm.setRow w0.heap.size (bs.map (Value.int .u8) ++ cur.toList.drop m).toArray) none) := EC
  have hl2 : bs.length = m := by simpa using hl
  have HLB : Hid (bs.length = m) := hl2
  clear EC hcell hg hcs hl hl2 hown hgrow
  go_wp2_with fail
  obtain ⟨w1, hw1⟩ : ∃ w1, w1 = wm.setRow w0.heap.size (List.map (Value.int IntKind.u8) bs ++ List.drop bs.length cur.toList).toArray := ⟨_, rfl⟩
  rw [← hw1]
  have HW : Hid (w1.ownsRow w0.heap.size 5 1 (.slice (some ⟨w0.heap.size, 0, none⟩) m m) m (bs.map (Value.int .u8)) ∧ w0.grownBy w1 none) := by
    rw [hw1, HLB.out]; exact HEC.out
  have HR : Hid (Rd 2 w1 a0 n0 c0 (cells es)) := HR0.out.keptNone HW.out.2
  have HBR : Hid (Rd 1 w1 (some ⟨w0.heap.size, 0, none⟩) m m (bs.map (.int .u8))) := ⟨HW.out.1.1, Nat.le_refl _, fun h => (by cases h), fun ad' had' => by cases had'; exact HW.out.1.cells rfl⟩
  have KB1 : Hid (Below w0.heap.size w0 w1) := below_of_grown HW.out.2
  have hs01 : w0.heap.size < w1.heap.size := (HW.out.1.lt _ rfl).2
  have HRZ := HR0
  clear hcp HEC hw1 HR0
  have HRw : Hid (Rd 2 w0 a0 n0 c0 (cells es)) := HRZ.out
  refine (toImage_any _ _ _ es _ HR.out (by omega)).mono ?_
  rintro e w2 ⟨v2, rfl, hx2, hg2⟩
  have hs2 := hg2.size
  have K2 : Hid (Has w2 w1.heap.size v2 es) := hx2
  have KB2 : Hid (Below w0.heap.size w0 w2) := KB1.out.grown hg2 (by omega) (by simp)
  have HR2 : Hid (Rd 2 w2 a0 n0 c0 (cells es)) := HR.out.keptNone hg2
  have HB2 : Hid (Rd 1 w2 (some ⟨w0.heap.size, 0, none⟩) m m (bs.map (.int .u8))) := HBR.out.keptNone hg2
  clear hx2 hg2
  go_wp2_with fail
  refine (marked_any w1.heap.size m m n (some ⟨w0.heap.size, 0, none⟩) v2 es bs off unit w2 K2.out hs2 (by rw [HLE.out]; omega) HB2.out (fun ad h => by cases h; exact ⟨rfl, fun e => by have := (K2.out.lt e).1; simp at this; omega⟩) hn hn2 hm2 HU.out).mono ?_
  rintro e w3 ⟨v3, rfl, hx3, hst3⟩
  have hs3 := hst3.grown.size
  have K3 : Hid (Has w3 w1.heap.size v3 (bitE bs off unit es n)) := hx3
  have KB3 : Hid (Below w0.heap.size w0 w3) := KB2.out.trans (hst3.below KB2.out.size (fun g h => by have := (K2.out.lt h).1; omega))
  have HR3 : Hid (Rd 2 w3 a0 n0 c0 (cells es)) := HRw.out.keptNone (grown_of_below KB3.out)
  have HB3 : Hid (Rd 1 w3 (some ⟨w0.heap.size, 0, none⟩) m m (bs.map (.int .u8))) := HB2.out.step hst3 (fun ad h e => by cases h; have := (K2.out.lt e.symm).1; simp at this; omega)
  clear hx3 hst3 K2 HR2
  go_wp2_with fail
  refine (toImage_any _ _ _ es _ HR3.out (by omega)).mono ?_
  rintro e w4 ⟨v4, rfl, hx4, hg4⟩
  have hs4 := hg4.size
  have K4 : Hid (Has w4 w3.heap.size v4 (bitE bs off unit es 0)) := hx4
  have K34 : Hid (Has w4 w1.heap.size v3 (bitE bs off unit es n)) := K3.out.keptNone hg4
  have KB4 : Hid (Below w0.heap.size w0 w4) := KB3.out.grown hg4 KB3.out.size (by simp)
  have HB4 : Hid (Rd 1 w4 (some ⟨w0.heap.size, 0, none⟩) m m (bs.map (.int .u8))) := HB3.out.keptNone hg4
  clear hx4 hg4
  go_wp2_with fail
  go_loopw [13, 14] (fun v i wr => ∃ k : Nat, k ≤ n ∧ i = .int .u64 k ∧ Has wr w3.heap.size v (bitE bs off unit es k) ∧ Has wr w1.heap.size v3 (bitE bs off unit es n) ∧ Rd 1 wr (some ⟨w0.heap.size, 0, none⟩) m m (bs.map (.int .u8)) ∧ Below w0.heap.size w0 wr ∧ w3.heap.size ≤ wr.heap.size) (fun _ i _ => n - (intOf i).toNat)
  case atStart => exact ⟨0, Nat.zero_le _, rfl, K4.out, K34.out, HB4.out, KB4.out, hs4⟩
  case round =>
    obtain ⟨k, hk, rfl, hh, hgot, hbr, hbl, hsz⟩ := hrel
    have A1 : Hid (Has wr w3.heap.size _ (bitE bs off unit es k)) := hh
    have A2 : Hid (Has wr w1.heap.size v3 (bitE bs off unit es n)) := hgot
    have A3 : Hid (Rd 1 wr (some ⟨w0.heap.size, 0, none⟩) m m (bs.map (.int .u8))) := hbr
    have A4 : Hid (Below w0.heap.size w0 wr) := hbl
    have hlen : (bitE bs off unit es k).length ≤ 131072 := by have := bitE_length bs off unit es k; rw [HLE.out] at this; omega
    clear hh hgot hbr hbl
    by_cases hlt : k < n
    · obtain ⟨β, hβ⟩ : ∃ β, bit bs k = β := ⟨_, rfl⟩
      have HBT : Hid (bit bs k = β) := hβ
      go_wp2_with fail
      refine (marked_row w0.heap.size m m k bs _ A3.out (by omega) hm2).mono ?_
      rintro e wr ⟨rfl, rfl⟩
      rw [hβ]
      clear hβ
      cases β
      · go_wp2_with fail
        go_roundw
        case rel => exact ⟨k + 1, by omega, by go_num, A1.out.congr (by show _ = (if bit bs k then _ else _); rw [HBT.out]; rfl), A2.out, A3.out, A4.out, hsz⟩
        case measure => simp [intOf]; omega
      · go_wp2_with fail
        refine (appE_any w3.heap.size _ _ _ _ _ A1.out hsz (by omega)).mono ?_
        rintro e w6 ⟨v6, rfl, g1, g2⟩
        have B1 : Hid (Has w6 w3.heap.size v6 (bitE bs off unit es (k + 1))) := g1.congr (by show _ = (if bit bs k then _ else _); rw [HBT.out]; rfl)
        have B2 : Hid (Has w6 w1.heap.size v3 (bitE bs off unit es n)) := A2.out.step g2 (fun g h e => by have e1 := (K3.out.lt h).2; have e2 := (A1.out.lt e).1; omega)
        have B3 : Hid (Rd 1 w6 (some ⟨w0.heap.size, 0, none⟩) m m (bs.map (.int .u8))) := A3.out.step g2 (fun ad h e => by cases h; have := (A1.out.lt e.symm).1; simp at this; omega)
        have B4 : Hid (Below w0.heap.size w0 w6) := A4.out.trans (g2.below A4.out.size (fun g h => by have := (A1.out.lt h).1; omega))
        have B5 : w3.heap.size ≤ w6.heap.size := Nat.le_trans hsz g2.grown.size
        clear g1 g2
        go_wp2_with fail
        go_roundw
        case rel => exact ⟨k + 1, by omega, by go_num, B1.out, B2.out, B3.out, B4.out, B5⟩
        case measure => simp [intOf]; omega
    · have ek : k = n := by omega
      go_wp2_with fail
      refine (same_has _ _ _ _ _ _ A2.out (A1.out.congr (by rw [ek])) (by rw [← ek]; omega)).mono ?_
      rintro e w8 ⟨rfl, k, hw8⟩
      have H8 : Hid (w8 = World.drewN _ k) := hw8
      clear hw8
      go_wp2
      go_ret
      exact ⟨rfl, by rw [H8.out]; exact below_drewN A4.out k⟩
end Go.Proofs.Qxb6602224a.Own
