/-
  The walks of markedBit and of AppendMarked's closure.
-/
import Derived.Test.Qxb6602224aBits
namespace Go.Proofs.Qxb6602224a.Own
open Go.RowKit

theorem info5 : (Try.prog.info? 5).map (fun i => (i.zero, i.size, i.bytes)) = some (some (.int .u8 0), 1, 1) := by kernel_rfl
theorem size5 : (Try.prog.info? 5).map (·.size) = some 1 := by kernel_rfl
theorem clone_end {w w1 : World} {n k : Nat} {cur : Array Value} {cs : List Value} (hgrow : w.grownBy w1 none) (hg : w1.heap[w.heap.size]? = some (.cells cur 5 (0, 0))) (hc : cur.size = n) (hl : cs.length = n) (hk : k = n) (hm : n ≤ maxLen) :
    (w1.setRow w.heap.size (cs ++ cur.toList.drop k).toArray).ownsRow w.heap.size 5 1 (.slice (some ⟨w.heap.size, 0, none⟩) n n) n cs ∧ w.grownBy (w1.setRow w.heap.size (cs ++ cur.toList.drop k).toArray) none := by
  subst hk
  have e : cur.toList.drop k = [] := List.drop_eq_nil_of_le (by simp [hc])
  rw [e, List.append_nil]
  refine ⟨⟨by simpa using hl, .inr ⟨w.heap.size, k, cs.toArray, rfl, Nat.le_refl _, setRow_heap w1 _ cur _ 5 _ hg, Nat.le_refl _, hm, by simpa using hl, ?_⟩⟩, ⟨hgrow.os, hgrow.tape, hgrow.output, by simpa using hgrow.size, fun b hb hn => ?_⟩⟩
  · exact List.take_of_length_le (by simp [hl])
  · exact (setRow_other w1 _ b _ (by omega)).trans (hgrow.block b hb hn)

theorem ret_bool {a b : Bool} (h : a = b) : Ending.returned (.bool a) = .returned (.bool b) := by rw [h]
theorem byte_cell {w : World} {b m d : Nat} {bs : List Int} (h : Rd 1 w (some ⟨b, 0, none⟩) m d (bs.map (.int .u8))) (k : Nat) (hk : k < m) : w.cell? ⟨b, k, none⟩ = some (.int .u8 (bs.getD k 0)) := by
  have hl := h.len
  simp at hl
  have := h.cell _ rfl k (.int .u8 (bs.getD k 0)) (by simp [List.getD, show k < bs.length by omega])
  simpa [Addr.add_lit] using this

theorem marked_row (b m d i : Nat) (bs : List Int) (w : World) (h : Rd 1 w (some ⟨b, 0, none⟩) m d (bs.map (.int .u8))) (hi : i < 8 * m) (hm : m ≤ 1048576) :
    Calls Try.prog 22 #[.slice (some ⟨b, 0, none⟩) m d, .int .u64 i] w fun e w' => e = .returned (.bool (bit bs i)) ∧ w' = w := by
  obtain ⟨x, hx⟩ : ∃ x, x = bs.getD (i / 8) 0 := ⟨_, rfl⟩
  have c := byte_cell h (i / 8) (by omega)
  rw [← hx] at c
  have hlt : i / 8 < m := by omega
  have HX : Hid (x = bs.getD (i / 8) 0) := hx
  clear hx h
  go_enter Try.func22, Try.ntmps22
  go_wp2
  go_ret
  exact ⟨ret_bool (by unfold bit bitB; rw [← HX.out]), rfl⟩

/-- what the closure finds and leaves: the box of the extents, the boxes of offset and unit -/
structure St (w : World) (B E : Nat) (off unit : Int) (v : Value) (es : List (Int × Int)) : Prop where
  has : Has w B v es
  ext : w.cell? ⟨E, 0, none⟩ = some v
  fr : w.frozen? ⟨E, 0, none⟩ = false
  o : w.cell? ⟨E + 1, 0, none⟩ = some (.int .i64 off)
  u : w.cell? ⟨E + 1 + 1, 0, none⟩ = some (.int .i64 unit)
  ne : v.ownBlock ≠ some E ∧ v.ownBlock ≠ some (E + 1) ∧ v.ownBlock ≠ some (E + 1 + 1)
  lt : E + 1 + 1 < w.heap.size

/-- from (w, v) to (w', v'): nothing that was there has turned but v's own block and the box E -/
structure StepE (E : Nat) (w : World) (v : Value) (w' : World) (v' : Value) : Prop where
  os : w'.os = w.os
  tape : w'.tape = w.tape
  output : w'.output = w.output
  size : w.heap.size ≤ w'.heap.size
  block : ∀ k, k < w.heap.size → some k ≠ v.ownBlock → k ≠ E → w'.heap[k]? = w.heap[k]?
  moved : ∀ g, v'.ownBlock = some g → v.ownBlock = some g ∨ w.heap.size ≤ g
theorem Step.transE {E : Nat} {w0 w w' : World} {v0 v v' : Value} (h : Step w0 v0 w v) (k : StepE E w v w' v') (hE : w0.heap.size ≤ E) : Step w0 v0 w' v' := by
  refine ⟨⟨k.os.trans h.grown.os, k.tape.trans h.grown.tape, k.output.trans h.grown.output, Nat.le_trans h.grown.size k.size, fun b hb hn => ?_⟩, fun g hg => ?_⟩
  · refine (k.block b (Nat.lt_of_lt_of_le hb h.grown.size) (fun e => ?_) (by omega)).trans (h.grown.block b hb hn)
    rcases h.moved b e.symm with h' | h'
    · exact hn h'.symm
    · omega
  · rcases k.moved g hg with h' | h'
    · exact h.moved g h'
    · exact .inr (Nat.le_trans h.grown.size h')
theorem add_end {w w1 : World} {B E : Nat} {off unit : Int} {v v' : Value} {es es' : List (Int × Int)} (hs : St w B E off unit v es) (h1 : Has w1 B v' es') (h2 : Step w v w1 v') :
    St (w1.setCell ⟨E, 0, none⟩ v') B E off unit v' es' ∧ StepE E w v (w1.setCell ⟨E, 0, none⟩ v') v' := by
  have hlt := hs.lt
  have hsz := h2.grown.size
  have c1 := h2.cell hs.ext (fun e => hs.ne.1 e.symm)
  have c2 := h2.cell hs.o (fun e => hs.ne.2.1 e.symm)
  have c3 := h2.cell hs.u (fun e => hs.ne.2.2 e.symm)
  have hne : ∀ k, k ≤ E + 1 + 1 → E ≤ k → v'.ownBlock ≠ some k := fun k h h' e => by
    rcases h2.moved k e with e' | e'
    · have := hs.ne
      have hk : k = E ∨ k = E + 1 ∨ k = E + 1 + 1 := by omega
      rcases hk with rfl | rfl | rfl
      · exact this.1 e'
      · exact this.2.1 e'
      · exact this.2.2 e'
    · omega
  have hoth : ∀ k, k ≠ E → (w1.setCell ⟨E, 0, none⟩ v').heap[k]? = w1.heap[k]? := fun k hk => Below.heap_setCell w1 ⟨E, 0, none⟩ v' k hk
  have hg : w1.grownBy (w1.setCell ⟨E, 0, none⟩ v') (some E) := ⟨rfl, rfl, rfl, by simp [World.setCell], fun k _ hn => hoth k (fun e => hn (by rw [e]))⟩
  refine ⟨⟨World.ownsRow.kept h1 hg (.inr (hne E (by omega) (Nat.le_refl _))), ?_, ?_, ?_, ?_, ⟨hne _ (by omega) (by omega), hne _ (by omega) (by omega), hne _ (by omega) (by omega)⟩, by simp [World.setCell]; omega⟩, ⟨h2.grown.os, h2.grown.tape, h2.grown.output, by simp [World.setCell]; omega, fun k hk hn hE => (hoth k hE).trans (h2.grown.block k hk hn), h2.moved⟩⟩
  · exact World.cell?_setCell_same _ _ _ c1
  · rw [World.frozen?_setCell, World.frozen?_of_block (w := w) (h2.grown.block E (by omega) (fun e => hs.ne.1 e.symm))]
    exact hs.fr
  · rw [World.cell?_of_block (w := w1) (hoth (E + 1) (by omega))]; exact c2
  · rw [World.cell?_of_block (w := w1) (hoth (E + 1 + 1) (by omega))]; exact c3

theorem add_any (B E : Nat) (off unit : Int) (v : Value) (es : List (Int × Int)) (s e : Nat) (w : World) (hs : St w B E off unit v es) (hB : B ≤ w.heap.size) (hk : es.length ≤ 10485759) (hse : s ≤ e) (he : e ≤ 65536) :
    Calls Try.prog 27 #[.int .u64 s, .int .u64 e, .pointer (some ⟨E, 0, none⟩), .pointer (some ⟨E + 1, 0, none⟩), .pointer (some ⟨E + 1 + 1, 0, none⟩)] w fun r w' => r = .returned (.tuple #[]) ∧ ∃ v', St w' B E off unit v' (appE es (at_ off unit s) (len_ unit (e - s))) ∧ StepE E w v w' v' := by
  have c1 := hs.ext
  have c2 := hs.o
  have c3 := hs.u
  have HS : Hid (St w B E off unit v es) := hs
  clear hs
  go_enter Try.func27, Try.ntmps27
  go_wp2_with fail
  refine (appE_any B v es _ _ w HS.out.has hB (by omega)).mono ?_
  rintro r w1 ⟨v', rfl, h1, h2⟩
  obtain ⟨ao, c', rfl, _⟩ := h1.shape
  have d1 := h2.cell c1 (fun e => HS.out.ne.1 e.symm)
  have f1 : w1.frozen? ⟨E, 0, none⟩ = false := by
    rw [World.frozen?_of_block (w := w) (h2.grown.block E (by have := HS.out.lt; omega) (fun e => HS.out.ne.1 e.symm))]
    exact HS.out.fr
  have e1 : wrap64 (((e : Int) - (s : Int)) * unit) = len_ unit (e - s) := by
    unfold len_; rw [show ((e - s : Nat) : Int) = (e : Int) - s by omega]
  have R : Hid (∃ v', (Value.slice ao (appE es (wrap64 (off + wrap64 ((s : Int) * unit))) (wrap64 (((e : Int) - (s : Int)) * unit))).length c') = v' ∧ St (w1.setCell ⟨E, 0, none⟩ v') B E off unit v' (appE es (at_ off unit s) (len_ unit (e - s))) ∧ StepE E w v (w1.setCell ⟨E, 0, none⟩ v') v') := by
    refine ⟨_, rfl, ?_⟩
    rw [e1] at h1 h2 ⊢
    exact add_end HS.out h1 h2
  clear h1 h2 e1 c1 c2 c3
  go_wp2
  go_end0
  obtain ⟨v', hv', r1, r2⟩ := R.out
  subst hv'
  exact ⟨rfl, _, r1, r2⟩
end Go.Proofs.Qxb6602224a.Own
