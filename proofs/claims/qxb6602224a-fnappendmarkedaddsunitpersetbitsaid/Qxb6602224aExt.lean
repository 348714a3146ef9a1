/-
  Slices of extents: two cells an element; 'Has': a slice of the call's own that holds the extents es.
-/
import Derived.Test.Qxb6602224aRows
import Derived.Test.Qxb6602224aOwn
import Derived.WalkKit
import Derived.WalkLawsBesides
import Derived.Deep.QuietTactic
import Derived.BigQuiet
import Derived.RegionTactic
import Derived.BigRegion
import Derived.Outline
namespace Go.Proofs.Qxb6602224a.Own
open Go.RowKit

/-- the cells of a list of extents -/
def cells : List (Int × Int) → List Value
  | [] => []
  | (a, b) :: r => .int .i64 a :: .int .i64 b :: cells r
theorem cells_length (es : List (Int × Int)) : (cells es).length = es.length * 2 := by
  induction es with
  | nil => rfl
  | cons p r ih => obtain ⟨a, b⟩ := p; simp [cells, ih]; omega
theorem cells_append (xs ys : List (Int × Int)) : cells (xs ++ ys) = cells xs ++ cells ys := by
  induction xs with
  | nil => rfl
  | cons p r ih => obtain ⟨a, b⟩ := p; simp [cells, ih]
theorem cells_at0 (es : List (Int × Int)) (i : Nat) (h : i < es.length) : (cells es)[i * 2]? = some (.int .i64 (es.getD i (0, 0)).1) := by
  induction es generalizing i with
  | nil => simp at h
  | cons p r ih =>
    obtain ⟨a, b⟩ := p
    cases i with
    | zero => simp [cells]
    | succ i =>
      have := ih i (by simpa using h)
      rw [show (i + 1) * 2 = i * 2 + 1 + 1 by omega]
      simpa [cells] using this
theorem cells_at1 (es : List (Int × Int)) (i : Nat) (h : i < es.length) : (cells es)[i * 2 + 1]? = some (.int .i64 (es.getD i (0, 0)).2) := by
  induction es generalizing i with
  | nil => simp at h
  | cons p r ih =>
    obtain ⟨a, b⟩ := p
    cases i with
    | zero => simp [cells]
    | succ i =>
      have := ih i (by simpa using h)
      rw [show (i + 1) * 2 + 1 = (i * 2 + 1) + 1 + 1 by omega]
      simpa [cells] using this
theorem cells_set (es : List (Int × Int)) (i : Nat) (a b : Int) : ((cells es).set (i * 2) (.int .i64 a)).set (i * 2 + 1) (.int .i64 b) = cells (es.set i (a, b)) := by
  induction es generalizing i with
  | nil => simp [cells]
  | cons p r ih =>
    obtain ⟨x, y⟩ := p
    cases i with
    | zero => simp [cells]
    | succ i =>
      have := ih i
      rw [show (i + 1) * 2 = i * 2 + 1 + 1 by omega]
      simpa [cells] using this
theorem set_same {α : Type} {l : List α} {i : Nat} {a : α} (h : l[i]? = some a) : l.set i a = l := by
  apply List.ext_getElem?
  intro j
  rw [List.getElem?_set]
  split
  · rename_i e
    subst e
    have := (List.getElem?_eq_some_iff.1 h).1
    rw [if_pos this, h]
  · rfl
theorem cells_set1 (es : List (Int × Int)) (i : Nat) (b : Int) (h : i < es.length) : (cells es).set (i * 2 + 1) (.int .i64 b) = cells (es.set i ((es.getD i (0, 0)).1, b)) := by
  rw [← cells_set]
  rw [set_same (cells_at0 es i h)]
theorem cells_one (es : List (Int × Int)) : ∀ u ∈ cells es, u.oneCell' = true := by
  induction es with
  | nil => intro u hu; simp [cells] at hu
  | cons p r ih =>
    obtain ⟨a, b⟩ := p
    intro u hu
    simp only [cells, List.mem_cons] at hu
    rcases hu with rfl | rfl | hu
    · rfl
    · rfl
    · exact ih u hu
theorem cells_zero (n : Nat) : cells (List.replicate n (0, 0)) = List.replicate (n * 2) (.int .i64 0) := by
  induction n with
  | zero => rfl
  | succ n ih => rw [List.replicate_succ, show (n + 1) * 2 = n * 2 + 1 + 1 by omega, List.replicate_succ, List.replicate_succ]; simp [cells, ih]
theorem made_cells (n : Nat) : (madeCells #[.int .i64 0, .int .i64 0] (n * 2)).toList = cells (List.replicate n (0, 0)) := by
  rw [cells_zero]
  apply List.ext_getElem?
  intro j
  by_cases hj : j < n * 2
  · rcases Nat.mod_two_eq_zero_or_one j with h | h <;> simp [madeCells, hj, h]
  · simp [madeCells, hj]

theorem info31 : (Try.prog.info? 31).map (fun i => (i.zero, i.size, i.bytes)) = some (some (.agg #[.int .i64 0, .int .i64 0]), 2, 16) := by kernel_rfl

/-- v is a slice of the call's own (blocks from B on) that holds the extents es. A word of its own, so that no simp looks into it. -/
def Has (w : World) (B : Nat) (v : Value) (es : List (Int × Int)) : Prop := w.ownsRow B 31 2 v es.length (cells es)
theorem Has.congr {w : World} {B : Nat} {v : Value} {xs ys : List (Int × Int)} (h : Has w B v xs) (e : xs = ys) : Has w B v ys := e ▸ h

theorem img_list (es : List (Int × Int)) (n k : Nat) (hl : es.length = n) (hk : k < n) : (es.take k ++ List.replicate (n - k) (0, 0)).set k (es.getD k (0, 0)) = es.take (k + 1) ++ List.replicate (n - (k + 1)) (0, 0) := by
  have e1 : (es.take k).length = k := by simp; omega
  rw [List.set_append_right _ _ (by omega), e1, Nat.sub_self]
  obtain ⟨m, hm⟩ : ∃ m, n - k = m + 1 := ⟨n - k - 1, by omega⟩
  rw [hm, show n - (k + 1) = m by omega, List.replicate_succ, List.set_cons_zero, List.take_succ_eq_append_getElem (by omega), List.append_assoc]
  have : k < es.length := by omega
  simp [List.getD, this]
/-- two stores, an element -/
theorem owns_store {w : World} {B g n c : Nat} {es : List (Int × Int)} (h : w.ownsRow B 31 2 (.slice (some ⟨g, 0, none⟩) n c) n (cells es)) (k : Nat) (a b : Int) :
    ((w.setCell ⟨g, k * 2, none⟩ (.int .i64 a)).setCell ⟨g, k * 2 + 1, none⟩ (.int .i64 b)).ownsRow B 31 2 (.slice (some ⟨g, 0, none⟩) n c) n (cells (es.set k (a, b))) ∧ w.grownBy ((w.setCell ⟨g, k * 2, none⟩ (.int .i64 a)).setCell ⟨g, k * 2 + 1, none⟩ (.int .i64 b)) (some g) := by
  have s1 := h.stored (k * 2) (.int .i64 a)
  have s2 := s1.1.stored (k * 2 + 1) (.int .i64 b)
  rw [cells_set] at s2
  exact ⟨s2.1, (Step.trans ⟨s1.2, fun _ h => .inl h⟩ (⟨s2.2, fun _ h => .inl h⟩ : Step _ (.slice (some ⟨g, 0, none⟩) n c) _ (.slice (some ⟨g, 0, none⟩) n c)) : Step w (.slice (some ⟨g, 0, none⟩) n c) _ _).grown⟩
theorem grown_own {w wr w2 : World} (hg : w.grownBy wr none) (h2 : wr.grownBy w2 (some w.heap.size)) : w.grownBy w2 none :=
  ⟨h2.os.trans hg.os, h2.tape.trans hg.tape, h2.output.trans hg.output, Nat.le_trans hg.size h2.size, fun b hb hn => (h2.block b (by have := hg.size; omega) (by simp; omega)).trans (hg.block b hb hn)⟩

theorem grown_drew {w w' : World} {row : Option Nat} (h : w.grownBy w' row) : w.grownBy w'.drew row := ⟨h.os, h.tape, h.output, h.size, h.block⟩

theorem toImage_nil (w : World) : Calls Try.prog 14 #[.slice none 0 0] w fun e w' => e = .returned (.slice none 0 0) ∧ w' = w := by
  have q : ∀ (w : World) (a : Option Addr) (n c n' c' : Nat), (binOp .eql 25 (.slice a n c) (.slice none n' c')).run Try.prog w = .ok (.bool a.isNone) w := fun w a n c n' c' => Lib.run_eql_slice_nil w _ _ a n c n' c' Try.underlying25
  go_enter Try.func14, Try.ntmps14
  go_wp2
  go_ret
  exact ⟨rfl, rfl⟩

theorem toImage_some (b off : Nat) (spot : Option Nat) (n c : Nat) (es : List (Int × Int)) (w : World) (h : Rd 2 w (some ⟨b, off, spot⟩) n c (cells es)) (hn : n ≤ 1048576) :
    Calls Try.prog 14 #[.slice (some ⟨b, off, spot⟩) n c] w fun e w' => e = .returned (.slice (some ⟨w.heap.size, 0, none⟩) n n) ∧ Has w' w.heap.size (.slice (some ⟨w.heap.size, 0, none⟩) n n) es ∧ w.grownBy w' none := by
  have q : ∀ (w : World) (a : Option Addr) (n c n' c' : Nat), (binOp .eql 25 (.slice a n c) (.slice none n' c')).run Try.prog w = .ok (.bool a.isNone) w := fun w a n c n' c' => Lib.run_eql_slice_nil w _ _ a n c n' c' Try.underlying25
  obtain ⟨i0, hi, hz0, hz1, hz2⟩ := info_parts info31
  have hl : es.length = n := by have := h.len; rw [cells_length] at this; omega
  have HL : Hid (es.length = n) := hl
  have HR : Hid (Rd 2 w (some ⟨b, off, spot⟩) n c (cells es)) := h
  clear hl h
  go_enter Try.func14, Try.ntmps14
  go_wp2_with (at_make; refine wpList_make_full _ rfl _ _ 27 rfl w.heap.size 31 i0 (.agg #[.int .i64 0, .int .i64 0]) 2 Try.underlying27 hi hz0 hz1 _ _ _ _ n rfl rfl (by omega) (by omega) (by rw [hz2]; omega) (by unfold maxLen; omega) (Nat.le_refl _) ?_)
  intro w1 hown hgrow
  have H1 : Hid (w1.ownsRow w.heap.size 31 2 (.slice (some ⟨w.heap.size, 0, none⟩) n n) n (cells (List.replicate n (0, 0)))) := by
    unfold Hid; rw [← made_cells]; exact hown
  have HG : Hid (w.grownBy w1 none) := hgrow
  clear hown hgrow
  go_wp2_with fail
  go_loopw [4] (fun i wr => ∃ k : Nat, k ≤ n ∧ i = .int .i64 k ∧ wr.ownsRow w.heap.size 31 2 (.slice (some ⟨w.heap.size, 0, none⟩) n n) n (cells (es.take k ++ List.replicate (n - k) (0, 0))) ∧ w.grownBy wr none) (fun i _ => n - (intOf i).toNat)
  case atStart => exact ⟨0, Nat.zero_le _, rfl, by simpa using H1.out, HG.out⟩
  case round =>
    obtain ⟨k, hk, rfl, hh, hgr⟩ := hrel
    have KH : Hid (wr.ownsRow w.heap.size 31 2 (.slice (some ⟨w.heap.size, 0, none⟩) n n) n (cells (es.take k ++ List.replicate (n - k) (0, 0)))) := hh
    have KG : Hid (w.grownBy wr none) := hgr
    clear hh hgr
    by_cases hlt : k < n
    · have hel := HL.out
      have hsp : spot = none := by
        have := HR.out.cell _ rfl 0 _ (cells_at0 es 0 (by omega))
        simpa [Addr.add] using World.cell?_spot this
      subst hsp
      have c0 : wr.cell? ⟨b, off + k * 2, none⟩ = some (.int .i64 (es.getD k (0, 0)).1) := by
        have := (HR.out.keptNone KG.out).cell _ rfl (k * 2) _ (cells_at0 es k (by omega))
        simpa [Addr.add_lit] using this
      have c1 : wr.cell? ⟨b, off + k * 2 + 1, none⟩ = some (.int .i64 (es.getD k (0, 0)).2) := by
        have := (HR.out.keptNone KG.out).cell _ rfl (k * 2 + 1) _ (cells_at1 es k (by omega))
        simpa [Addr.add_lit, Nat.add_assoc] using this
      have f0 := KH.out.frozenAt (k * 2)
      have f1 := KH.out.frozenAt (k * 2 + 1)
      have d0 : ∃ v, wr.cell? ⟨w.heap.size, k * 2, none⟩ = some v := by
        rw [KH.out.cellAt (k * 2) (by omega)]
        exact ⟨_, cells_at0 _ k (by simp; omega)⟩
      have d1 : ∃ v, wr.cell? ⟨w.heap.size, k * 2 + 1, none⟩ = some v := by
        rw [KH.out.cellAt (k * 2 + 1) (by omega)]
        exact ⟨_, cells_at1 _ k (by simp; omega)⟩
      obtain ⟨y0, d0⟩ := d0
      obtain ⟨y1, d1⟩ := d1
      clear hel
      go_wp2
      go_region
      go_wp2
      go_roundw
      case rel =>
        have S := owns_store KH.out k (es.getD k (0, 0)).1 (es.getD k (0, 0)).2
        have e : (es.take k ++ List.replicate (n - k) (0, 0)).set k ((es.getD k (0, 0)).1, (es.getD k (0, 0)).2) = es.take (k + 1) ++ List.replicate (n - (k + 1)) (0, 0) := img_list es n k HL.out hlt
        rw [e] at S
        exact ⟨k + 1, by omega, by go_num, S.1, grown_drew (grown_own KG.out S.2)⟩
      case measure => simp [intOf]; omega
    · go_wp2
      go_ret
      refine ⟨rfl, ?_, KG.out⟩
      have ek : k = n := by omega
      have := KH.out
      rw [ek, Nat.sub_self, List.take_of_length_le (by rw [HL.out]; exact Nat.le_refl _)] at this
      unfold Has
      rw [HL.out]
      simpa using this

theorem Has.keptNone {w w' : World} {B : Nat} {v : Value} {xs : List (Int × Int)} (h : Has w B v xs) (hg : w.grownBy w' none) : Has w' B v xs :=
  World.ownsRow.kept h hg (by cases hv : v.ownBlock <;> simp)
theorem Has.step {w w' : World} {B : Nat} {x v v' : Value} {xs : List (Int × Int)} (h : Has w B x xs) (hs : Step w v w' v') (hne : ∀ g, x.ownBlock = some g → v.ownBlock ≠ some g) : Has w' B x xs :=
  hs.ownsRow h hne
theorem Has.shape {w : World} {B : Nat} {v : Value} {xs : List (Int × Int)} (h : Has w B v xs) :
    ∃ ao c, v = .slice ao xs.length c ∧ Rd 2 w ao xs.length c (cells xs) ∧ ∀ ad, ao = some ad → ad = ⟨ad.block, 0, none⟩ ∧ B ≤ ad.block ∧ ad.block < w.heap.size := by
  obtain ⟨ao, c, hv, hr, had, _⟩ := rd_of_owns h
  refine ⟨ao, c, hv, hr, fun ad h' => ?_⟩
  obtain ⟨h1, h2, h3, h4⟩ := had ad h'
  refine ⟨?_, h3, (World.ownsRow.lt h ad.block h4).2⟩
  cases ad; simp at h1 h2; simp [h1, h2]
theorem Has.nil (w : World) (B : Nat) : Has w B (.slice none 0 0) [] := World.ownsRow_nil _ _ _ _
theorem Has.mono {w : World} {B B' : Nat} {v : Value} {xs : List (Int × Int)} (h : Has w B v xs) (hB : B' ≤ B) : Has w B' v xs := owns_mono h hB
theorem Has.lt {w : World} {B : Nat} {v : Value} {xs : List (Int × Int)} (h : Has w B v xs) {g : Nat} (hg : v.ownBlock = some g) : B ≤ g ∧ g < w.heap.size := World.ownsRow.lt h g hg
/-- nil, or a row at the head of a block -/
theorem Has.cases {w : World} {B : Nat} {v : Value} {xs : List (Int × Int)} (h : Has w B v xs) :
    (v = .slice none 0 0 ∧ xs = []) ∨ ∃ g c, v = .slice (some ⟨g, 0, none⟩) xs.length c ∧ B ≤ g ∧ g < w.heap.size ∧ xs.length ≤ c ∧ c ≤ maxLen := by
  have hh := h
  unfold Has at h
  rcases h.2 with ⟨rfl, h0⟩ | ⟨g, cap, cur, rfl, hb, hg, hn, hc, _⟩
  · exact .inl ⟨rfl, List.eq_nil_of_length_eq_zero h0⟩
  · exact .inr ⟨g, cap, rfl, hb, (hh.lt rfl).2, hn, hc⟩
theorem Has.cell0 {w : World} {B g c : Nat} {xs : List (Int × Int)} (h : Has w B (.slice (some ⟨g, 0, none⟩) xs.length c) xs) (i : Nat) (hi : i < xs.length) : w.cell? ⟨g, i * 2, none⟩ = some (.int .i64 (xs.getD i (0, 0)).1) := by
  rw [World.ownsRow.cellAt h (i * 2) (by omega)]; exact cells_at0 xs i hi
theorem Has.cell1 {w : World} {B g c : Nat} {xs : List (Int × Int)} (h : Has w B (.slice (some ⟨g, 0, none⟩) xs.length c) xs) (i : Nat) (hi : i < xs.length) : w.cell? ⟨g, i * 2 + 1, none⟩ = some (.int .i64 (xs.getD i (0, 0)).2) := by
  rw [World.ownsRow.cellAt h (i * 2 + 1) (by omega)]; exact cells_at1 xs i hi

/-- toImage, of whatever slice -/
theorem toImage_any (ao : Option Addr) (n c : Nat) (es : List (Int × Int)) (w : World) (h : Rd 2 w ao n c (cells es)) (hn : n ≤ 1048576) :
    Calls Try.prog 14 #[.slice ao n c] w fun e w' => ∃ v', e = .returned v' ∧ Has w' w.heap.size v' es ∧ w.grownBy w' none := by
  have hl : es.length = n := by have := h.len; rw [cells_length] at this; omega
  cases ao with
  | none =>
    obtain ⟨rfl, rfl⟩ := h.nil rfl
    have : es = [] := List.eq_nil_of_length_eq_zero hl
    subst this
    refine (toImage_nil w).mono ?_
    rintro e w' ⟨rfl, rfl⟩
    exact ⟨_, rfl, Has.nil _ _, World.grownBy.refl _ _⟩
  | some ad =>
    obtain ⟨b, off, spot⟩ := ad
    refine (toImage_some b off spot n c es w h hn).mono ?_
    rintro e w' ⟨rfl, h1, h2⟩
    exact ⟨_, rfl, h1, h2⟩
end Go.Proofs.Qxb6602224a.Own
