/-
  The walks of the small helpers: zzClone, zzConcat, zzEqual.
-/
import Derived.Test.Qxb6602194aRows
import Derived.Test.Qxb6602194aOwn
import Derived.WalkKit
import Derived.WalkLawsBesides
import Derived.Deep.QuietTactic
import Derived.BigQuiet
import Derived.Outline
namespace Go.Proofs.Qxb6602194a.Own
open Go.RowKit

theorem info5 : (Try.prog.info? 5).map (fun i => (i.zero, i.size, i.bytes)) = some (some (.int .u8 0), 1, 1) := by kernel_rfl
theorem size5 : (Try.prog.info? 5).map (·.size) = some 1 := by kernel_rfl

/-- append onto a slice of bytes of the call's own -/
theorem app8 (w : World) {ops : Array Oper} {rest : List Oper} {o : Oper} {a : Act} {Q : Exit → Act → World → Prop} (hgd : o.guard = none) (s x : Operand)
    (ho : o.op = .call { callee := .builtin .append, args := #[s, x], argTypes := #[22, 22] }) (base : Nat)
    (v : Value) (n : Nat) (xs : List Int) (hs : a.eval s = v) (hown : w.ownsRow base 5 1 v n (xs.map (.int .u8)))
    (ao : Option Addr) (m c : Nat) (ys : List Int) (hx : a.eval x = .slice ao m c) (hy : Rd w ao m c (ys.map (.int .u8)))
    (hb : n + m ≤ 140737488355328) (hbase : base ≤ w.heap.size)
    (hK : ∀ v' w', w'.ownsRow base 5 1 v' (n + m) ((xs ++ ys).map (.int .u8)) → Step w v w' v' → wpList Try.prog ops Q rest (a.put o.dst v') w') : wpList Try.prog ops Q (o :: rest) a w := by
  obtain ⟨i0, hi, hz0, hz1, hz2⟩ := info_parts info5
  refine wpList_append_step w hgd s x 22 ho base 5 i0 (.int .u8 0) 1 1 Try.underlying22 hi hz0 hz1 hz2 rfl (by decide) v n _ hs hown ao m c (ys.map (.int .u8)) hx (by simpa using hy.len) hy.nil hy.cell (ints_oneCell _ _) (by unfold maxLen; omega) (by omega) hbase ?_
  intro v' w' ho' hs'
  exact hK v' w' (by simpa using ho') hs'

/-- the one new cell of 'append(xs, c)' -/
theorem rd_one (w : World) (b : Int) : Rd (w.alloc (.cells #[.int .u8 b] 5)) (some ⟨w.heap.size, 0, none⟩) 1 1 ([b].map (.int .u8)) :=
  ⟨rfl, Nat.le_refl _, fun h => (by cases h), fun ad had j u hu => (by
    cases had
    match j, hu with
    | 0, hu => simp at hu; subst hu; simp [Addr.add])⟩

theorem clone_nil (w : World) : Calls Try.prog 8 #[.slice none 0 0] w fun e w' => e = .returned (.slice none 0 0) ∧ w' = w := by
  have q : ∀ (w : World) (a : Option Addr) (n c n' c' : Nat), (binOp .eql 22 (.slice a n c) (.slice none n' c')).run Try.prog w = .ok (.bool a.isNone) w := fun w a n c n' c' => Lib.run_eql_slice_nil w _ _ a n c n' c' Try.underlying22
  go_enter Try.func8, Try.ntmps8
  go_wp2
  go_ret
  exact ⟨rfl, rfl⟩

theorem clone_end {w w1 : World} {n k : Nat} {cur : Array Value} {cs : List Value} (hgrow : w.grownBy w1 none) (hg : w1.heap[w.heap.size]? = some (.cells cur 5 (0, 0))) (hc : cur.size = n) (hl : cs.length = n) (hk : k = n) (hm : n ≤ maxLen) :
    (w1.setRow w.heap.size (cs ++ cur.toList.drop k).toArray).ownsRow w.heap.size 5 1 (.slice (some ⟨w.heap.size, 0, none⟩) n n) n cs ∧ w.grownBy (w1.setRow w.heap.size (cs ++ cur.toList.drop k).toArray) none := by
  subst hk
  have e : cur.toList.drop k = [] := List.drop_eq_nil_of_le (by simp [hc])
  rw [e, List.append_nil]
  refine ⟨⟨by simpa using hl, .inr ⟨w.heap.size, k, cs.toArray, rfl, Nat.le_refl _, setRow_heap w1 _ cur _ 5 _ hg, Nat.le_refl _, hm, by simpa using hl, ?_⟩⟩, ⟨hgrow.os, hgrow.tape, hgrow.output, by simpa using hgrow.size, fun b hb hn => ?_⟩⟩
  · exact List.take_of_length_le (by simp [hl])
  · exact (setRow_other w1 _ b _ (by omega)).trans (hgrow.block b hb hn)

theorem clone_some (ad : Addr) (n c : Nat) (xs : List Int) (w : World) (h : Rd w (some ad) n c (xs.map (.int .u8))) (hn : n ≤ 1048576) :
    Calls Try.prog 8 #[.slice (some ad) n c] w fun e w' => e = .returned (.slice (some ⟨w.heap.size, 0, none⟩) n n) ∧ w'.ownsRow w.heap.size 5 1 (.slice (some ⟨w.heap.size, 0, none⟩) n n) n (xs.map (.int .u8)) ∧ w.grownBy w' none := by
  have q : ∀ (w : World) (a : Option Addr) (n c n' c' : Nat), (binOp .eql 22 (.slice a n c) (.slice none n' c')).run Try.prog w = .ok (.bool a.isNone) w := fun w a n c n' c' => Lib.run_eql_slice_nil w _ _ a n c n' c' Try.underlying22
  obtain ⟨i0, hi, hz0, hz1, hz2⟩ := info_parts info5
  go_enter Try.func8, Try.ntmps8
  go_wp2_with (at_make; refine wpList_make_full _ rfl _ _ 22 rfl w.heap.size 5 i0 (.int .u8 0) 1 Try.underlying22 hi hz0 hz1 _ _ _ _ n rfl rfl (by omega) (by omega) (by rw [hz2]; omega) (by unfold maxLen; omega) (Nat.le_refl _) ?_)
  intro w1 hown hgrow
  have hcell : ∀ j u, (xs.map (Value.int .u8))[j]? = some u → w1.cell? (ad.add j) = some u := fun j u hu => hgrow.cell (h.cell ad rfl j u hu) (by simp)
  obtain ⟨cur, hg, hcs⟩ : ∃ cur, w1.heap[w.heap.size]? = some (.cells cur 5 (0, 0)) ∧ cur.size = n := by
    rcases hown.2 with ⟨h', _⟩ | ⟨g', cap', cur, h', _, hg, _, _, hcs, _⟩
    · simp at h'
    · simp only [Value.slice.injEq, Option.some.injEq, Addr.mk.injEq, and_true, true_and] at h'
      obtain ⟨rfl, rfl⟩ := h'
      exact ⟨cur, hg, by simpa using hcs⟩
  have hl := h.len
  have hcp := fun ty => run_copy_row (P := Try.prog) w1 22 22 ty 5 w.heap.size 0 n n ad n c cur 5 (xs.map (Value.int .u8)) Try.underlying22 size5 hg (by simpa using hl) hcell (by simp at hl; simp [hl, hcs]) (ints_oneCell _ _)
  have HG : Hid (w1.heap[w.heap.size]? = some (.cells cur 5 (0, 0))) := hg
  have HC : Hid (cur.size = n) := hcs
  have HL : Hid ((xs.map (Value.int .u8)).length = n) := hl
  clear hcell hown hg hcs hl
  go_wp2_with fail
  go_ret
  exact ⟨rfl, clone_end hgrow HG.out HC.out HL.out (by have := HL.out; simpa using this) (by unfold maxLen; omega)⟩

theorem concat_any (ao bo : Option Addr) (n c m d : Nat) (xs ys : List Int) (w : World) (ha : Rd w ao n c (xs.map (.int .u8))) (hb : Rd w bo m d (ys.map (.int .u8))) (hn : n ≤ 10485760) (hm : m ≤ 10485760)
    (hao : ∀ ad, ao = some ad → ad.block < w.heap.size) (hbo : ∀ ad, bo = some ad → ad.block < w.heap.size) :
    Calls Try.prog 9 #[.slice ao n c, .slice bo m d] w fun e w' => ∃ v', e = .returned v' ∧ w'.ownsRow w.heap.size 5 1 v' (n + m) ((xs ++ ys).map (.int .u8)) ∧ w.grownBy w' none := by
  obtain ⟨i0, hi, hz0, hz1, hz2⟩ := info_parts info5
  have HA := ha.len
  have HB := hb.len
  go_enter Try.func9, Try.ntmps9
  go_wp2_with (at_make; refine wpList_make_own _ rfl _ _ 22 rfl w.heap.size 5 i0 (.int .u8 0) 1 Try.underlying22 hi hz0 hz1 _ _ _ (n + m) rfl rfl (by omega) (by rw [hz2]; omega) (by unfold maxLen; omega) (Nat.le_refl _) ?_)
  intro w1 hown hgrow
  have hA1 : Rd w1 ao n c (xs.map (.int .u8)) := ha.below ((Below.refl w.heap.size w).grown hgrow (Nat.le_refl _) (by simp)) hao
  have hB1 : Rd w1 bo m d (ys.map (.int .u8)) := hb.below ((Below.refl w.heap.size w).grown hgrow (Nat.le_refl _) (by simp)) hbo
  have hs1 := hgrow.size
  clear ha hb
  go_wp2_with (at_builtin; refine app8 _ rfl (.tmp 12) (.tmp 13) rfl w.heap.size _ 0 [] rfl hown ao n c xs rfl hA1 (by omega) hs1 ?_)
  intro v2 w2 hown2 hst2
  have hB2 : Rd w2 bo m d (ys.map (.int .u8)) := hB1.step hst2 (fun ad had => by
    have := hbo ad had
    intro e
    simp [Value.ownBlock] at e; omega)
  have hs2 := hst2.grown.size
  have HG : Hid (w.grownBy w1 none) := hgrow
  clear hA1 hB1 hown hgrow
  go_wp2_with (at_builtin; refine app8 _ rfl (.tmp 15) (.tmp 16) rfl w.heap.size _ n xs rfl hown2 bo m d ys rfl hB2 (by omega) (by omega) ?_)
  intro v3 w3 hown3 hst3
  go_wp2
  go_ret
  refine ⟨v3, rfl, by simpa using hown3, ?_⟩
  have st : Step w1 _ w3 v3 := hst2.trans hst3
  have hg1 := HG.out
  exact ⟨st.grown.os.trans hg1.os, st.grown.tape.trans hg1.tape, st.grown.output.trans hg1.output, Nat.le_trans hg1.size st.grown.size, fun k hk hn => (st.grown.block k (by have := hg1.size; omega) (by simp [Value.ownBlock]; omega)).trans (hg1.block k hk hn)⟩

/-- two rows of the call's own that hold the same bytes: zzEqual says yes -/
theorem equal_any (g1 g2 n c d : Nat) (xs : List Int) (w : World) (ha : Rd w (some ⟨g1, 0, none⟩) n c (xs.map (.int .u8))) (hb : Rd w (some ⟨g2, 0, none⟩) n d (xs.map (.int .u8))) (hn : n ≤ 140737488355328) :
    Calls Try.prog 12 #[.slice (some ⟨g1, 0, none⟩) n c, .slice (some ⟨g2, 0, none⟩) n d] w fun e w' => e = .returned (.bool true) ∧ ∃ k, w' = w.drewN k := by
  have hl : xs.length = n := by simpa using ha.len
  have hca : ∀ k, k < n → w.cell? ⟨g1, k, none⟩ = some (.int .u8 (xs.getD k 0)) := fun k hk => by
    have := ha.cell _ rfl k (.int .u8 (xs.getD k 0)) (by simp [List.getD, hl, hk])
    simpa [Addr.add_lit] using this
  have hcb : ∀ k, k < n → w.cell? ⟨g2, k, none⟩ = some (.int .u8 (xs.getD k 0)) := fun k hk => by
    have := hb.cell _ rfl k (.int .u8 (xs.getD k 0)) (by simp [List.getD, hl, hk])
    simpa [Addr.add_lit] using this
  have HL : Hid (xs.length = n) := hl
  clear hl ha hb
  go_enter Try.func12, Try.ntmps12
  go_wp2
  go_loopw [5] (fun i wr => ∃ k : Nat, k ≤ n ∧ i = .int .i64 k ∧ ∃ q, wr = w.drewN q) (fun i _ => n - (intOf i).toNat)
  case atStart => exact ⟨0, Nat.zero_le _, rfl, 0, rfl⟩
  case round =>
    obtain ⟨k, hk, rfl, q, rfl⟩ := hrel
    by_cases hlt : k < n
    · have h1 := hca k hlt
      have h2 := hcb k hlt
      clear hca hcb
      go_wp2
      go_quiet (fail)
      go_wp2
      go_roundw
      case rel => exact ⟨k + 1, by omega, by go_num, _, rfl⟩
      case measure => simp [intOf]; omega
    · go_wp2
      go_ret
      exact ⟨rfl, _, rfl⟩
end Go.Proofs.Qxb6602194a.Own
