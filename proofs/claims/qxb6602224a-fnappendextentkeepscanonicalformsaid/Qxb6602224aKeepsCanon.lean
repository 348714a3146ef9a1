/-
  The walk of FnAppendExtentKeepsCanonicalForm, out of the contracts.
-/
import Derived.Test.Qxb6602224aCanonPlain
import Derived.Test.Qxb6602224aSame
namespace Go.Proofs.Qxb6602224a.Own
open Go.RowKit

theorem zz13_yes (a : Option Addr) (n c : Nat) (o l : Int) (w : World) (h : n ≤ 1048576) :
    Calls Try.prog 13 #[.slice a n c, .int .i64 o, .int .i64 l] w fun e w' => e = .returned (.bool true) ∧ w' = w := by
  go_enter Try.func13, Try.ntmps13
  go_wp2
  go_ret
  exact ⟨rfl, rfl⟩
theorem zz13_no (a : Option Addr) (n c : Nat) (o l : Int) (w : World) (h : 1048576 < n) :
    Calls Try.prog 13 #[.slice a n c, .int .i64 o, .int .i64 l] w fun e w' => e = .returned (.bool false) ∧ w' = w := by
  go_enter Try.func13, Try.ntmps13
  go_wp2
  go_ret
  exact ⟨rfl, rfl⟩

theorem kc_big (a : Option Addr) (n c : Nat) (o l : Int) (w : World) (h : 1048576 < n) :
    Calls Try.prog 6 #[.slice a n c, .int .i64 o, .int .i64 l] w fun e w' => e = .returned (.bool true) ∧ w' = w := by
  go_enter Try.func6, Try.ntmps6
  go_wp2_with fail
  refine (zz13_no _ _ _ _ _ _ h).mono ?_
  rintro e w' ⟨rfl, rfl⟩
  go_wp2
  go_ret
  exact ⟨rfl, rfl⟩
theorem kc_mid (a : Option Addr) (n c : Nat) (o l : Int) (w : World) (h0 : n ≤ 1048576) (h : 65536 < n) :
    Calls Try.prog 6 #[.slice a n c, .int .i64 o, .int .i64 l] w fun e w' => e = .returned (.bool true) ∧ w' = w := by
  go_enter Try.func6, Try.ntmps6
  go_wp2_with fail
  refine (zz13_yes _ _ _ _ _ _ h0).mono ?_
  rintro e w' ⟨rfl, rfl⟩
  go_wp2
  go_ret
  exact ⟨rfl, rfl⟩
theorem kc_out (a : Option Addr) (n c : Nat) (o l : Int) (w : World) (h : n ≤ 65536) (hl2 : l ≤ 9223372036854775807) (hb : l ≤ 0 ∨ o < 0 ∨ 9223372036854775807 - l < o) :
    Calls Try.prog 6 #[.slice a n c, .int .i64 o, .int .i64 l] w fun e w' => e = .returned (.bool true) ∧ w' = w := by
  have h0 : n ≤ 1048576 := by omega
  by_cases h1 : l ≤ 0
  · go_enter Try.func6, Try.ntmps6
    go_wp2_with fail
    refine (zz13_yes _ _ _ _ _ _ h0).mono ?_
    rintro e w' ⟨rfl, rfl⟩
    go_wp2
    go_ret
    exact ⟨rfl, rfl⟩
  · by_cases h2 : o < 0
    · go_enter Try.func6, Try.ntmps6
      go_wp2_with fail
      refine (zz13_yes _ _ _ _ _ _ h0).mono ?_
      rintro e w' ⟨rfl, rfl⟩
      go_wp2
      go_ret
      exact ⟨rfl, rfl⟩
    · have h3 : 9223372036854775807 - l < o := by omega
      clear hb
      go_enter Try.func6, Try.ntmps6
      go_wp2_with fail
      refine (zz13_yes _ _ _ _ _ _ h0).mono ?_
      rintro e w' ⟨rfl, rfl⟩
      go_wp2
      go_ret
      exact ⟨rfl, rfl⟩

set_option maxHeartbeats 1600000 in
theorem kc_in (a : Option Addr) (n c : Nat) (es : List (Int × Int)) (o l : Int) (w : World) (hr : Rd 2 w a n c (cells es)) (hw : Wf es) (hn : n ≤ 65536) (h1 : 0 < l) (h2 : 0 ≤ o) (h3 : o ≤ 9223372036854775807 - l) :
    Calls Try.prog 6 #[.slice a n c, .int .i64 o, .int .i64 l] w fun e w' => e = .returned (.bool true) ∧ Below w.heap.size w w' := by
  have h0 : n ≤ 1048576 := by omega
  have hle : es.length = n := by have := hr.len; rw [cells_length] at this; omega
  have HLE : Hid (es.length = n) := hle
  have HR : Hid (Rd 2 w a n c (cells es)) := hr
  have HW : Hid (Wf es) := hw
  clear hle hr hw
  go_enter Try.func6, Try.ntmps6
  go_wp2_with fail
  refine (zz13_yes _ _ _ _ _ _ h0).mono ?_
  rintro e w0 ⟨rfl, rfl⟩
  go_wp2_with fail
  refine (toImage_any _ _ _ es _ HR.out h0).mono ?_
  rintro e w1 ⟨v1, rfl, hx1, hg1⟩
  have K1 : Hid (Has w1 w0.heap.size v1 es) := hx1
  have G1 : Hid (w0.grownBy w1 none) := hg1
  clear hx1 hg1
  go_wp2_with fail
  refine (canon_has _ _ es _ K1.out (by rw [HLE.out]; omega) HW.out).mono ?_
  rintro e w2 ⟨hs, hg2⟩
  obtain ⟨r, rfl, hrr⟩ := hs
  have HRR : Hid (r = true ↔ Canon es) := hrr
  have K2 : Hid (Has w2 w0.heap.size v1 es) := K1.out.keptNone hg2
  have KB : Hid (Below w0.heap.size w0 w2) := (below_of_grown G1.out).grown hg2 G1.out.size (by simp)
  clear hrr hg2
  cases r
  · go_wp2
    go_ret
    exact ⟨rfl, KB.out⟩
  · have HC : Hid (Canon es) := HRR.out.1 rfl
    clear HRR K1
    have K3 : Hid (∀ k, Rd 2 (w2.drewN k) a n c (cells es)) := fun k => (HR.out.keptNone (grown_of_below KB.out) : Rd 2 w2 a n c (cells es)).keptNone (grown_drewN (World.grownBy.refl _ _) k)
    by_cases hz : es.length = 0
    · obtain ⟨ao, d, rfl, _, _⟩ := K2.out.shape
      have HEND : Hid (0 < es.length → wrap64 ((lastE es).1 + (lastE es).2) ≤ o) := fun h => absurd h (by omega)
      rw [hz] at K2 ⊢
      clear hz
      have hd : decide ((0 : Int) < ((0 : Nat) : Int)) = false := by decide
      go_wp2_with fail
      go_quiet (fail)
      go_wp2_with fail
      refine (toImage_any _ _ _ es _ (K3.out _) h0).mono ?_
      rintro e w3 ⟨v2, rfl, hx3, hg3⟩
      have hs3 : w2.heap.size ≤ w3.heap.size := hg3.size
      have hx3 : Has w3 w2.heap.size v2 es := hx3
      have K4 : Hid (Has w3 w0.heap.size (.slice ao 0 d) es) := K2.out.keptNone ⟨hg3.os, hg3.tape, hg3.output, hg3.size, hg3.block⟩
      have KB3 : Hid (Below w0.heap.size w0 w3) := (below_drewN KB.out _).grown hg3 KB.out.size (by simp)
      clear hg3
      go_wp2_with (at_builtin; refine app1 _ rfl (.tmp 59) (.tmp 63) rfl w2.heap.size v2 es o l rfl hx3 _ rfl rfl (by rw [HLE.out]; omega) hs3 ?_)
      intro v3 w4 hx4 hst4
      have hs4 : w3.heap.size ≤ w4.heap.size := hst4.grown.size
      have K5 : Hid (Has w4 w0.heap.size (.slice ao 0 d) es) := K4.out.step hst4 (fun f hf hf2 => by
        have q1 := (K2.out.lt hf).2
        have q2 := (hx3.lt hf2).1
        omega)
      have KB4 : Hid (Below w0.heap.size w0 w4) := KB3.out.trans (hst4.below KB3.out.size (fun f hf => by
        have q2 := (hx3.lt hf).1
        have q3 := KB.out.size
        omega))
      have K4' : Hid (Has w4 w2.heap.size v3 (es ++ [(o, l)])) := hx4
      clear hx4 hst4 hx3 K4
      go_wp2_with fail
      refine (coal_has _ _ _ _ K4'.out (by rw [List.length_append, HLE.out]; simp; omega)).mono ?_
      rintro e w5 ⟨v4, rfl, hx5, hg5⟩
      have hs5 : w4.heap.size ≤ w5.heap.size := hg5.size
      have K6 : Hid (Has w5 w0.heap.size (.slice ao 0 d) es) := K5.out.keptNone hg5
      have K7 : Hid (Has w5 w4.heap.size v4 (appE es o l)) := hx5.congr (coal_appE HC.out h1 h2 h3 HEND.out)
      have KB5 : Hid (Below w0.heap.size w0 w5) := KB4.out.grown hg5 KB4.out.size (by simp)
      clear hx5 hg5 K4' K5
      go_wp2_with fail
      refine (appE_any w0.heap.size _ es o l _ K6.out KB5.out.size (by rw [HLE.out]; omega)).mono ?_
      rintro e w6 ⟨v5, rfl, hx6, hst6⟩
      have K8 : Hid (Has w6 w4.heap.size v4 (appE es o l)) := K7.out.step hst6 (fun f hf hf2 => by
        have q1 := (K2.out.lt hf2).2
        have q2 := (K7.out.lt hf).1
        omega)
      have KB6 : Hid (Below w0.heap.size w0 w6) := KB5.out.trans (hst6.below KB5.out.size (fun f hf => (K2.out.lt hf).1))
      have K9 : Hid (Has w6 w0.heap.size v5 (appE es o l)) := hx6
      have hlen : (appE es o l).length ≤ 65537 := by
        have := HLE.out
        unfold appE; split <;> simp <;> omega
      clear hx6 hst6 K7 K6
      go_wp2_with fail
      refine (canon_has _ _ _ _ K9.out (by omega) (wf_appE HW.out ⟨by omega, by omega⟩ ⟨by omega, by omega⟩)).mono ?_
      rintro e w7 ⟨hs, hg7⟩
      obtain ⟨r, rfl, hrr⟩ := hs
      obtain rfl : r = true := hrr.2 (canon_appE HC.out h1 h2 h3 HEND.out)
      have K10 : Hid (Has w7 w4.heap.size v4 (appE es o l)) := K8.out.keptNone hg7
      have K11 : Hid (Has w7 w0.heap.size v5 (appE es o l)) := K9.out.keptNone hg7
      have KB7 : Hid (Below w0.heap.size w0 w7) := KB6.out.grown hg7 KB6.out.size (by simp)
      clear hg7 hrr K8 K9
      go_wp2_with fail
      refine (same_has _ _ _ _ _ _ K11.out K10.out (by omega)).mono ?_
      rintro e w8 ⟨rfl, k, hw8⟩
      have H8 : Hid (w8 = w7.drewN k) := hw8
      clear hw8
      go_wp2
      go_ret
      exact ⟨rfl, by rw [H8.out]; exact below_drewN KB7.out k⟩
    · rcases K2.out.cases with ⟨rfl, hnil⟩ | ⟨g, d, rfl, hg1, hg2, hd1, hd2⟩
      · exact absurd (by rw [hnil]; rfl) hz
      · obtain ⟨x, y, hxy⟩ : ∃ x y, lastE es = (x, y) := ⟨_, _, rfl⟩
        have HXY : Hid (lastE es = (x, y)) := hxy
        have p0 : w2.cell? ⟨g, (n - 1) * 2, none⟩ = some (.int .i64 x) := by
          have := K2.out.cell0 (es.length - 1) (by omega)
          rw [show es.getD (es.length - 1) (0, 0) = (x, y) from hxy, HLE.out] at this; exact this
        have p1 : w2.cell? ⟨g, (n - 1) * 2 + 1, none⟩ = some (.int .i64 y) := by
          have := K2.out.cell1 (es.length - 1) (by omega)
          rw [show es.getD (es.length - 1) (0, 0) = (x, y) from hxy, HLE.out] at this; exact this
        rw [HLE.out] at K2 hz ⊢
        have hpos : 0 < n := by omega
        clear hxy hz hd1
        by_cases h4 : wrap64 (x + y) ≤ o
        · have HEND : Hid (0 < es.length → wrap64 ((lastE es).1 + (lastE es).2) ≤ o) := fun _ => by rw [HXY.out]; exact h4
          go_wp2_with fail
          go_quiet (fail)
          go_wp2_with fail
          refine (toImage_any _ _ _ es _ (K3.out _) h0).mono ?_
          rintro e w3 ⟨v2, rfl, hx3, hg3⟩
          have hs3 : w2.heap.size ≤ w3.heap.size := hg3.size
          have hx3 : Has w3 w2.heap.size v2 es := hx3
          have K4 : Hid (Has w3 w0.heap.size (.slice (some ⟨g, 0, none⟩) n d) es) := K2.out.keptNone ⟨hg3.os, hg3.tape, hg3.output, hg3.size, hg3.block⟩
          have KB3 : Hid (Below w0.heap.size w0 w3) := (below_drewN KB.out _).grown hg3 KB.out.size (by simp)
          clear hg3
          go_wp2_with (at_builtin; refine app1 _ rfl (.tmp 59) (.tmp 63) rfl w2.heap.size v2 es o l rfl hx3 _ rfl rfl (by rw [HLE.out]; omega) hs3 ?_)
          intro v3 w4 hx4 hst4
          have hs4 : w3.heap.size ≤ w4.heap.size := hst4.grown.size
          have K5 : Hid (Has w4 w0.heap.size (.slice (some ⟨g, 0, none⟩) n d) es) := K4.out.step hst4 (fun f hf hf2 => by
            have q1 := (K2.out.lt hf).2
            have q2 := (hx3.lt hf2).1
            omega)
          have KB4 : Hid (Below w0.heap.size w0 w4) := KB3.out.trans (hst4.below KB3.out.size (fun f hf => by
            have q2 := (hx3.lt hf).1
            have q3 := KB.out.size
            omega))
          have K4' : Hid (Has w4 w2.heap.size v3 (es ++ [(o, l)])) := hx4
          clear hx4 hst4 hx3 K4
          go_wp2_with fail
          refine (coal_has _ _ _ _ K4'.out (by rw [List.length_append, HLE.out]; simp; omega)).mono ?_
          rintro e w5 ⟨v4, rfl, hx5, hg5⟩
          have hs5 : w4.heap.size ≤ w5.heap.size := hg5.size
          have K6 : Hid (Has w5 w0.heap.size (.slice (some ⟨g, 0, none⟩) n d) es) := K5.out.keptNone hg5
          have K7 : Hid (Has w5 w4.heap.size v4 (appE es o l)) := hx5.congr (coal_appE HC.out h1 h2 h3 HEND.out)
          have KB5 : Hid (Below w0.heap.size w0 w5) := KB4.out.grown hg5 KB4.out.size (by simp)
          clear hx5 hg5 K4' K5
          go_wp2_with fail
          refine (appE_any w0.heap.size _ es o l _ K6.out KB5.out.size (by rw [HLE.out]; omega)).mono ?_
          rintro e w6 ⟨v5, rfl, hx6, hst6⟩
          have K8 : Hid (Has w6 w4.heap.size v4 (appE es o l)) := K7.out.step hst6 (fun f hf hf2 => by
            have q1 := (K2.out.lt hf2).2
            have q2 := (K7.out.lt hf).1
            omega)
          have KB6 : Hid (Below w0.heap.size w0 w6) := KB5.out.trans (hst6.below KB5.out.size (fun f hf => (K2.out.lt hf).1))
          have K9 : Hid (Has w6 w0.heap.size v5 (appE es o l)) := hx6
          have hlen : (appE es o l).length ≤ 65537 := by
            have := HLE.out
            unfold appE; split <;> simp <;> omega
          clear hx6 hst6 K7 K6
          go_wp2_with fail
          refine (canon_has _ _ _ _ K9.out (by omega) (wf_appE HW.out ⟨by omega, by omega⟩ ⟨by omega, by omega⟩)).mono ?_
          rintro e w7 ⟨hs, hg7⟩
          obtain ⟨r, rfl, hrr⟩ := hs
          obtain rfl : r = true := hrr.2 (canon_appE HC.out h1 h2 h3 HEND.out)
          have K10 : Hid (Has w7 w4.heap.size v4 (appE es o l)) := K8.out.keptNone hg7
          have K11 : Hid (Has w7 w0.heap.size v5 (appE es o l)) := K9.out.keptNone hg7
          have KB7 : Hid (Below w0.heap.size w0 w7) := KB6.out.grown hg7 KB6.out.size (by simp)
          clear hg7 hrr K8 K9
          go_wp2_with fail
          refine (same_has _ _ _ _ _ _ K11.out K10.out (by omega)).mono ?_
          rintro e w8 ⟨rfl, k, hw8⟩
          have H8 : Hid (w8 = w7.drewN k) := hw8
          clear hw8
          go_wp2
          go_ret
          exact ⟨rfl, by rw [H8.out]; exact below_drewN KB7.out k⟩
        · go_wp2_with fail
          go_quiet (fail)
          go_wp2
          go_ret
          exact ⟨rfl, below_drewN KB.out _⟩
end Go.Proofs.Qxb6602224a.Own
