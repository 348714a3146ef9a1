/-
  The walk of coalesce.
-/
import Derived.Test.Qxb6602224aCanon
namespace Go.Proofs.Qxb6602224a.Own
open Go.RowKit

/-- one round of coalesce -/
def coStep (out : List (Int × Int)) (x : Int × Int) : List (Int × Int) :=
  if 0 < out.length ∧ x.1 ≤ wrap64 ((lastE out).1 + (lastE out).2) then
    out.set (out.length - 1) ((lastE out).1, wrap64 ((if wrap64 (x.1 + x.2) < wrap64 ((lastE out).1 + (lastE out).2) then wrap64 ((lastE out).1 + (lastE out).2) else wrap64 (x.1 + x.2)) - (lastE out).1))
  else out ++ [x]
def coal (es : List (Int × Int)) : List (Int × Int) := es.foldl coStep []
theorem coal_take (es : List (Int × Int)) (k : Nat) (h : k < es.length) : coal (es.take (k + 1)) = coStep (coal (es.take k)) (es.getD k (0, 0)) := by
  unfold coal
  rw [List.take_succ_eq_append_getElem h, List.foldl_append]
  simp [List.getD, h]
theorem coStep_length (out : List (Int × Int)) (x : Int × Int) : (coStep out x).length ≤ out.length + 1 := by
  unfold coStep; split <;> simp
theorem coal_length (es : List (Int × Int)) (k : Nat) (h : k ≤ es.length) : (coal (es.take k)).length ≤ k := by
  induction k with
  | zero => simp [coal]
  | succ k ih =>
    rw [coal_take es k h]
    have := coStep_length (coal (es.take k)) (es.getD k (0, 0))
    have := ih (by omega)
    omega

theorem co_store {w wr : World} {f m d : Nat} {out : List (Int × Int)} (h : wr.ownsRow w.heap.size 31 2 (.slice (some ⟨f, 0, none⟩) m d) m (cells out)) (hm : m = out.length) (hb : Below w.heap.size w wr) (x z : Int) (o o' : Obj) :
    Has ((((wr.setCell ⟨f, (m - 1) * 2, none⟩ (.int .i64 x)).setCell ⟨f, (m - 1) * 2 + 1, none⟩ (.int .i64 z)).alloc o).alloc o') w.heap.size (.slice (some ⟨f, 0, none⟩) m d) (out.set (m - 1) (x, z)) ∧
    Below w.heap.size w ((((wr.setCell ⟨f, (m - 1) * 2, none⟩ (.int .i64 x)).setCell ⟨f, (m - 1) * 2 + 1, none⟩ (.int .i64 z)).alloc o).alloc o') := by
  have S := owns_store h (m - 1) x z
  constructor
  · unfold Has
    rw [List.length_set, ← hm]
    exact (S.1.alloc o).alloc o'
  · have hf : w.heap.size ≤ f := (h.lt f rfl).1
    have b1 := hb.grown S.2 hb.size (fun k e => by cases e; exact hf)
    exact (b1.alloc b1.size o).alloc (b1.alloc b1.size o).size o'
theorem co_join {out : List (Int × Int)} {a b x y : Int} (hx : lastE out = (x, y)) (hpos : 0 < out.length) (h1 : a ≤ wrap64 (x + y)) :
    coStep out (a, b) = out.set (out.length - 1) (x, wrap64 ((if wrap64 (a + b) < wrap64 (x + y) then wrap64 (x + y) else wrap64 (a + b)) - x)) := by
  unfold coStep
  rw [hx]
  rw [if_pos ⟨hpos, h1⟩]
theorem co_new {out : List (Int × Int)} {a b x y : Int} (hx : lastE out = (x, y)) (h1 : ¬ a ≤ wrap64 (x + y)) : coStep out (a, b) = out ++ [(a, b)] := by
  unfold coStep
  rw [hx]
  rw [if_neg (fun h => h1 h.2)]
theorem co_first (a b : Int) : coStep [] (a, b) = [(a, b)] := by
  unfold coStep; rw [if_neg (by simp)]; rfl

set_option maxHeartbeats 800000 in
theorem coal_rows (B g c n : Nat) (es : List (Int × Int)) (w : World) (h : Has w B (.slice (some ⟨g, 0, none⟩) es.length c) es) (hl : es.length = n) (hn : n ≤ 10485760) (hg : g < w.heap.size) :
    Calls Try.prog 16 #[.slice (some ⟨g, 0, none⟩) n c] w fun e w' => ∃ v', e = .returned v' ∧ Has w' w.heap.size v' (coal es) ∧ w.grownBy w' none := by
  have A0 : Hid (∀ k, k < n → w.cell? ⟨g, k * 2, none⟩ = some (.int .i64 (es.getD k (0, 0)).1)) := fun k hk => h.cell0 k (by omega)
  have A1 : Hid (∀ k, k < n → w.cell? ⟨g, k * 2 + 1, none⟩ = some (.int .i64 (es.getD k (0, 0)).2)) := fun k hk => h.cell1 k (by omega)
  have HL : Hid (es.length = n) := hl
  obtain ⟨i0, hi, hz0, hz1, hz2⟩ := info_parts info31
  clear h hl
  go_enter Try.func16, Try.ntmps16
  go_wp2_with (at_make; refine wpList_make_own _ rfl _ _ 27 rfl w.heap.size 31 i0 (.agg #[.int .i64 0, .int .i64 0]) 2 Try.underlying27 hi hz0 hz1 _ _ _ n rfl rfl (by omega) (by rw [hz2]; omega) (by unfold maxLen; omega) (Nat.le_refl _) ?_)
  intro w1 hown hgrow
  have H1 : Hid (Has w1 w.heap.size (.slice (some ⟨w.heap.size, 0, none⟩) 0 n) (coal (es.take 0))) := hown
  have HG : Hid (Below w.heap.size w w1) := below_of_grown hgrow
  clear hown hgrow
  go_wp2_with fail
  go_loopw [3, 4] (fun v i wr => ∃ k : Nat, k ≤ n ∧ i = .int .i64 k ∧ Has wr w.heap.size v (coal (es.take k)) ∧ Below w.heap.size w wr) (fun _ i _ => n - (intOf i).toNat)
  case atStart => exact ⟨0, Nat.zero_le _, rfl, H1.out, HG.out⟩
  case round =>
    obtain ⟨k, hk, rfl, hh, hbl⟩ := hrel
    obtain ⟨out, hout⟩ : ∃ out, out = coal (es.take k) := ⟨_, rfl⟩
    rw [← hout] at hh
    have hlo : out.length ≤ k := by rw [hout]; exact coal_length es k (by rw [HL.out]; exact hk)
    have HO : Hid (out = coal (es.take k)) := hout
    have KB : Hid (Below w.heap.size w wr) := hbl
    have hsz : w.heap.size ≤ wr.heap.size := hbl.size
    have hgw : g < wr.heap.size := by omega
    clear hout hbl
    by_cases hlt : k < n
    · obtain ⟨a, b, hab⟩ : ∃ a b, es.getD k (0, 0) = (a, b) := ⟨_, _, rfl⟩
      have c0 : wr.cell? ⟨g, k * 2, none⟩ = some (.int .i64 a) := by
        have := (KB.out.cell (p := ⟨g, k * 2, none⟩) hg).trans (A0.out k hlt)
        rw [hab] at this; exact this
      have c1 : wr.cell? ⟨g, k * 2 + 1, none⟩ = some (.int .i64 b) := by
        have := (KB.out.cell (p := ⟨g, k * 2 + 1, none⟩) hg).trans (A1.out k hlt)
        rw [hab] at this; exact this
      have HAB : Hid (es.getD k (0, 0) = (a, b)) := hab
      have HN : Hid (coal (es.take (k + 1)) = coStep out (a, b)) := by
        unfold Hid; rw [coal_take es k (by rw [HL.out]; exact hlt), HO.out, HAB.out]
      clear hab
      by_cases hpos : 0 < out.length
      · rcases hh.cases with ⟨rfl, rfl⟩ | ⟨f, d, rfl, hf1, hf2, hf3, hf4⟩
        · exact absurd hpos (by simp)
        · obtain ⟨x, y, hxy⟩ : ∃ x y, lastE out = (x, y) := ⟨_, _, rfl⟩
          obtain ⟨m, hm⟩ : ∃ m, m = out.length := ⟨_, rfl⟩
          rw [← hm] at hpos hlo hf3 hh ⊢
          have hown : wr.ownsRow w.heap.size 31 2 (.slice (some ⟨f, 0, none⟩) m d) m (cells out) := by unfold Has at hh; rwa [← hm] at hh
          have e0 : out.getD (m - 1) (0, 0) = (x, y) := by rw [← hxy, hm]; rfl
          have p0 : wr.cell? ⟨f, (m - 1) * 2, none⟩ = some (.int .i64 x) := by
            rw [hown.cellAt _ (by omega), cells_at0 out (m - 1) (by omega), e0]
          have p1 : wr.cell? ⟨f, (m - 1) * 2 + 1, none⟩ = some (.int .i64 y) := by
            rw [hown.cellAt _ (by omega), cells_at1 out (m - 1) (by omega), e0]
          have f0 : wr.frozen? ⟨f, (m - 1) * 2, none⟩ = false := hown.frozenAt _
          have f1 : wr.frozen? ⟨f, (m - 1) * 2 + 1, none⟩ = false := hown.frozenAt _
          have HM : Hid (m = out.length) := hm
          have HXY : Hid (lastE out = (x, y)) := hxy
          have HOwn : Hid (wr.ownsRow w.heap.size 31 2 (.slice (some ⟨f, 0, none⟩) m d) m (cells out)) := hown
          clear hm hxy e0 hown
          by_cases h1 : a ≤ wrap64 (x + y)
          · skip
            by_cases h2 : wrap64 (a + b) < wrap64 (x + y)
            · go_wp2
              go_roundw
              case rel =>
                have S := fun o o' => co_store HOwn.out HM.out KB.out x (wrap64 (wrap64 (x + y) - x)) o o'
                refine ⟨k + 1, by omega, by go_num, (S _ _).1.congr ?_, (S _ _).2⟩
                rw [HN.out, co_join HXY.out (by rw [← HM.out]; exact hpos) h1, if_pos h2, HM.out]
              case measure => simp [intOf]; omega
            · go_wp2
              go_roundw
              case rel =>
                have S := fun o o' => co_store HOwn.out HM.out KB.out x (wrap64 (wrap64 (a + b) - x)) o o'
                refine ⟨k + 1, by omega, by go_num, (S _ _).1.congr ?_, (S _ _).2⟩
                rw [HN.out, co_join HXY.out (by rw [← HM.out]; exact hpos) h1, if_neg (by omega), HM.out]
              case measure => simp [intOf]; omega
          · go_wp2_with (at_builtin; refine app1 _ rfl (.tmp 61) (.tmp 63) rfl w.heap.size _ out a b rfl (World.ownsRow.alloc (World.ownsRow.alloc hh _) _) _ rfl (by simp) (by rw [← HM.out]; omega) (by simp; omega) ?_)
            intro v' w' g1 g2
            go_wp2
            go_roundw
            case rel =>
              refine ⟨k + 1, by omega, by go_num, g1.congr ?_, ?_⟩
              · rw [HN.out, co_new HXY.out (by omega)]
              · have b0 := KB.out.alloc hsz (.cells #[.int .i64 a, .int .i64 b] 31)
                have b1 := b0.alloc b0.size (.cells #[.int .i64 x, .int .i64 y] 31)
                exact b1.trans (g2.below b1.size (fun g hg => by cases hg; exact hf1))
            case measure => simp [intOf]; omega
      · obtain ⟨ao, d, rfl, hr, _⟩ := hh.shape
        obtain rfl : out = [] := List.eq_nil_of_length_eq_zero (by omega)
        rw [List.length_nil] at hh ⊢
        clear hr
        go_wp2_with (at_builtin; refine app1 _ rfl (.tmp 61) (.tmp 63) rfl w.heap.size _ [] a b rfl (World.ownsRow.alloc hh _) _ rfl (by simp) (by simp) (by simp; omega) ?_)
        intro v' w' g1 g2
        go_wp2
        go_roundw
        case rel =>
          refine ⟨k + 1, by omega, by go_num, g1.congr ?_, ?_⟩
          · rw [HN.out, co_first]
          · have b1 := KB.out.alloc hsz (.cells #[.int .i64 a, .int .i64 b] 31)
            exact b1.trans (g2.below b1.size (fun g hg => (hh.lt hg).1))
        case measure => simp [intOf]; omega
    · go_wp2
      go_ret
      have ek : k = n := by omega
      refine ⟨_, rfl, hh.congr ?_, grown_of_below KB.out⟩
      rw [HO.out, ek, List.take_of_length_le (by rw [HL.out]; exact Nat.le_refl _)]

theorem coal_zero (ao : Option Addr) (c : Nat) (w : World) :
    Calls Try.prog 16 #[.slice ao 0 c] w fun e w' => ∃ v', e = .returned v' ∧ Has w' w.heap.size v' [] ∧ w.grownBy w' none := by
  obtain ⟨i0, hi, hz0, hz1, hz2⟩ := info_parts info31
  go_enter Try.func16, Try.ntmps16
  go_wp2_with (at_make; refine wpList_make_own _ rfl _ _ 27 rfl w.heap.size 31 i0 (.agg #[.int .i64 0, .int .i64 0]) 2 Try.underlying27 hi hz0 hz1 _ _ _ 0 rfl rfl (by omega) (by rw [hz2]; omega) (by unfold maxLen; omega) (Nat.le_refl _) ?_)
  intro w1 hown hgrow
  have H1 : Hid (Has w1 w.heap.size (.slice (some ⟨w.heap.size, 0, none⟩) 0 0) []) := hown
  have HG : Hid (w.grownBy w1 none) := hgrow
  clear hown hgrow
  go_wp2_with fail
  go_loopw [3, 4] (fun v i wr => v = .slice (some ⟨w.heap.size, 0, none⟩) 0 0 ∧ i = .int .i64 0 ∧ wr = w1) (fun _ _ _ => 0)
  case atStart => exact ⟨rfl, rfl, rfl⟩
  case round =>
    obtain ⟨rfl, rfl, rfl⟩ := hrel
    go_wp2
    go_ret
    exact ⟨_, rfl, H1.out, HG.out⟩

theorem coal_has (B : Nat) (v : Value) (es : List (Int × Int)) (w : World) (h : Has w B v es) (hn : es.length ≤ 10485760) :
    Calls Try.prog 16 #[v] w fun e w' => ∃ v', e = .returned v' ∧ Has w' w.heap.size v' (coal es) ∧ w.grownBy w' none := by
  rcases h.cases with ⟨rfl, rfl⟩ | ⟨g, c, rfl, _, hg, _, _⟩
  · exact coal_zero none 0 w
  · exact coal_rows B g c es.length es w h rfl hn hg
end Go.Proofs.Qxb6602224a.Own
