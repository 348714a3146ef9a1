/-
  The statement, out of the walks: the frame is the guide's template at this function's number and types.
-/
import Derived.Test.Qxb6602224aRows
import Derived.WalkKit
import Derived.ProofKit
import Derived.OpenShut
import Derived.ShutString
import Derived.ChangeOld
import Derived.Below
import Derived.Test.Qxb6602224aAdds
import Derived.Test.Qxb6602224aOpen
namespace Go.Proofs.Qxb6602224a.fnAppendMarkedAddsUnitPerSetBit
open Go.ChangeShapes Go.WideShapes Go.ChangeAt Go.RowKit
set_option linter.unusedVariables false

theorem own : ownKnob Try.prog.godebug = none := by kernel_rfl
theorem laidOut : laidOutB Try.prog = true := by kernel_rfl

/-- what the walk is told of a slice of bytes that came in -/
theorem open_bytes {H : Type} {enc : TypeId × Value → H} {W : World} {fuel : Nat} {a0 : Option Addr} {len cap : Nat} {x : DataW H × List MemPlace}
    (hf : DataW.trod enc Try.prog W 0 (fun _ => true) true fuel 36 (Value.slice a0 len cap).cells.toList = some x) :
    ∃ zs, Own.Rd 1 W a0 len cap (List.map (.int .u8) zs) ∧ len ≤ maxLen := by
  rcases open_ints Try.underlying36 Try.underlying5 Own.cells5 hf with ⟨hcs, _⟩ | ⟨y, l, c, zs, hcs, _, hl, hm, hz, _, hcell, hwz⟩
  · simp [Value.cells] at hcs
    obtain ⟨rfl, rfl, rfl⟩ := hcs
    exact ⟨[], ⟨rfl, Nat.le_refl _, fun _ => ⟨rfl, rfl⟩, fun ad h => (by cases h)⟩, Nat.zero_le _⟩
  · simp [Value.cells] at hcs
    obtain ⟨rfl, rfl, rfl⟩ := hcs
    have hz' : zs.length = cap := by simpa using hz
    refine ⟨zs.take len, ⟨by simp; omega, hl, fun h => (by cases h), fun ad had j u hu => ?_⟩, by omega⟩
    cases had
    have hj : j < len ∧ j < zs.length := by
      have := (List.getElem?_eq_some_iff.1 hu).1
      simp at this; omega
    have e : ((zs.take len).map (Value.int .u8))[j]? = some (.int .u8 (zs.getD j 0)) := by
      simp [hj, List.getD]
    rw [e] at hu
    rw [← hu]; exact hcell j hj.2

theorem walk (a0 : Option Addr) (len0 cap0 : Nat) (es : List (Int × Int)) (a1 : Option Addr) (len1 cap1 : Nat) (zs : List Int) (a2 a3 a4 : Int) (w : World) (r0 : Own.Rd 2 w a0 len0 cap0 (Own.cells es)) (m0 : len0 ≤ maxLen) (r1 : Own.Rd 1 w a1 len1 cap1 (zs.map (.int .u8))) (m1 : len1 ≤ maxLen)
    (w2 : (Lit.int .u64 a2).wf = true) (w4 : (Lit.int .i64 a4).wf = true) :
    Calls Try.prog 10 #[.slice a0 len0 cap0, .slice a1 len1 cap1, .int .u64 a2, .int .i64 a3, .int .i64 a4] w fun e w' => e = .returned (.bool true) ∧ Below w.heap.size w w' := by
  have b2 := bounds_u64 w2
  have b4 := bounds_i64 w4
  by_cases h0 : 1048576 < len0 + len1
  · refine (Own.ad_big a0 a1 len0 cap0 len1 cap1 a2 a3 a4 w m0 m1 h0).mono ?_
    rintro e w' ⟨rfl, rfl⟩
    exact ⟨rfl, Below.refl _ _⟩
  · by_cases h1 : 65536 < len0 ∨ 1048576 < 16 * len0 + len1 ∨ 8 * (len1 : Int) < a2 ∨ 65536 < a2
    · refine (Own.ad_out a0 a1 len0 cap0 len1 cap1 a2 a3 a4 w (by omega) b2.1 h1).mono ?_
      rintro e w' ⟨rfl, rfl⟩
      exact ⟨rfl, Below.refl _ _⟩
    · obtain ⟨n, rfl⟩ : ∃ n : Nat, a2 = n := ⟨a2.toNat, by omega⟩
      have hu : wrap64 a4 = a4 := Own.wrap_in b4.1 b4.2
      cases a1 with
      | none =>
        obtain ⟨rfl, rfl⟩ := r1.nil rfl
        obtain rfl : n = 0 := by omega
        exact Own.ad_nil a0 len0 cap0 es a3 a4 w r0 (by omega) hu
      | some ad => exact Own.ad_some a0 len0 cap0 es ad len1 cap1 n zs a3 a4 w r0 r1 (by omega) (by omega) (by omega) (by omega) hu

/-! ### THE ROW's STEP -/
set_option maxRecDepth 100000 in
theorem lifted (os : Os) (started : os.Started) (H : Type) (enc : TypeId × Value → H) :
    ReturnsInHanded {} Try.checked os 10 .any (Rows.fnAppendMarkedAddsUnitPerSetBitSpec.pre6 enc Try.prog Try.f10 Rows.fnAppendMarkedAddsUnitPerSetBitRow.domain false) (Rows.fnAppendMarkedAddsUnitPerSetBitSpec.post enc Try.prog Try.f10 false true false false) := by
  refine returnsInHanded_of_change (C := Try.checked) own started (by kernel_rfl) Try.func10
    (ChangeSpec.witness6 (enc := enc) (C := Try.checked) false ⟨#[], #[.slice none 0 0, .slice none 0 0, .int .u64 0, .int .i64 0, .int .i64 0], []⟩ 8 (by kernel_rfl) (by kernel_rfl) (by kernel_rfl) (by kernel_rfl)) ?_
  intro W base args ds gs before hval0 hW hcnd _
  have hval : ∀ (j : Nat) t v, Try.f10.params[j]? = some t → args[j]? = some v → Value.okWide Try.prog W .any base t v := hval0
  have hW' := hW
  obtain ⟨p, q, hA0, hV, rfl, hfz, hnd⟩ := hW
  have hA : DataW.TrodAll enc Try.prog W 0 (fun _ => true) true Try.f10.params.toList args.toList ds p := hA0
  rw [Try.params10] at hA hval
  obtain ⟨v0, vs0, d0, ds0, p0, q0, hargs, rfl, rfl, h0, r0⟩ := trodAll_cons hA
  obtain ⟨v1, vs1, d1, ds1, p1, q1, rfl, rfl, rfl, h1, r1⟩ := trodAll_cons r0
  obtain ⟨v2, vs2, d2, ds2, p2, q2, rfl, rfl, rfl, h2, r2⟩ := trodAll_cons r1
  obtain ⟨v3, vs3, d3, ds3, p3, q3, rfl, rfl, rfl, h3, r3⟩ := trodAll_cons r2
  obtain ⟨v4, vs4, d4, ds4, p4, q4, rfl, rfl, rfl, h4, r4⟩ := trodAll_cons r3
  obtain ⟨rfl, rfl, rfl⟩ := trodAll_nil r4
  obtain rfl : args = #[v0, v1, v2, v3, v4] := by cases args; simp_all
  obtain ⟨rfl, rfl⟩ := trodVars_none hV
  obtain ⟨a0, len0, cap0, rfl⟩ := okWide_slice Try.underlying25 (hval 0 25 v0 rfl rfl)
  have k0 := h0
  have lt0 : ∀ x ∈ p0, x.block < W.heap.size := by obtain ⟨m, hm⟩ := k0; exact DataW.trod_lt m _ _ _ hm
  obtain ⟨es, e0, _, l0⟩ : ∃ es, Own.Rd 2 W a0 len0 cap0 (Own.cells es) ∧ Own.Wf es ∧ len0 ≤ maxLen := by
    obtain ⟨fuel, hf⟩ := h0
    exact Own.open_exts hf
  obtain ⟨a1, len1, cap1, rfl⟩ := okWide_slice Try.underlying36 (hval 1 36 v1 rfl rfl)
  have k1 := h1
  have lt1 : ∀ x ∈ p1, x.block < W.heap.size := by obtain ⟨m, hm⟩ := k1; exact DataW.trod_lt m _ _ _ hm
  obtain ⟨zs, e1, l1⟩ : ∃ zs, Own.Rd 1 W a1 len1 cap1 (List.map (.int .u8) zs) ∧ len1 ≤ maxLen := by
    obtain ⟨fuel, hf⟩ := h1
    exact open_bytes hf
  obtain ⟨a2, rfl, rfl, rfl, w2⟩ := open_int Try.underlying37 (hval 2 37 v2 rfl rfl) h2
  obtain ⟨a3, rfl, rfl, rfl, w3⟩ := open_int Try.underlying2 (hval 3 2 v3 rfl rfl) h3
  obtain ⟨a4, rfl, rfl, rfl, w4⟩ := open_int Try.underlying2 (hval 4 2 v4 rfl rfl) h4
  clear hA0 hval0
  refine (walk a0 len0 cap0 es a1 len1 cap1 zs a2 a3 a4 W e0 l0 e1 l1 w2 w4).mono fun e W' ⟨he, bel⟩ => ?_
  subst he
  exact ⟨_, rfl, _, _, _, [], _, [], hW', trodAll_mk1 (shut_bool Try.underlying4 _), (trodAll_cons_mk (Below.trod laidOut (by kernel_rfl) (of_decide_eq_true (by kernel_rfl)) k0 bel lt0) (trodAll_cons_mk (Below.trod laidOut (by kernel_rfl) (of_decide_eq_true (by kernel_rfl)) k1 bel lt1) (trodAll_cons_mk (shut_int Try.underlying37 w2) (trodAll_cons_mk (shut_int Try.underlying2 w3) (trodAll_cons_mk (shut_int Try.underlying2 w4) trodAll_mk0))))), rfl, bel.frame _, fun h => by cases h⟩

theorem over : Rows.fnAppendMarkedAddsUnitPerSetBitRow.holds Try.pinned (OpenSpec.ofChange Rows.fnAppendMarkedAddsUnitPerSetBitSpec) :=
  OpenClaim.holds_of_wide 10 Try.f10 rfl rfl rfl rfl rfl rfl rfl ⟨rfl, rfl, rfl, rfl, rfl⟩ rfl rfl rfl rfl rfl (by kernel_rfl) Try.func10 (by kernel_rfl)
    (of_decide_eq_true (by kernel_rfl)) (by unfold Func.isWrapper; first | (rw [if_pos (by decide +kernel)]; kernel_rfl) | (rw [if_neg (by decide +kernel)]; exact ⟨rfl, rfl⟩))
    (fun os started H enc _ => lifted os started H enc)

theorem proved : Rows.FnAppendMarkedAddsUnitPerSetBitSaid := over
end Go.Proofs.Qxb6602224a.fnAppendMarkedAddsUnitPerSetBit
namespace Go.Proofs.Qxb6602224a
/-- the statement, under her short name -/
theorem fnAppendMarkedAddsUnitPerSetBit_holds : Rows.FnAppendMarkedAddsUnitPerSetBitSaid := fnAppendMarkedAddsUnitPerSetBit.proved
end Go.Proofs.Qxb6602224a
