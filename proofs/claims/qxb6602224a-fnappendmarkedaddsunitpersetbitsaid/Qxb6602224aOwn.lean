/-
  A slice that the call itself made, appended to again and again: WHERE it lies behind each append: at its own block, or in a new one.
-/
import Derived.WalkKit
import Derived.ArgAppend
import Derived.Laws.AppendOwnNone
import Derived.Laws.CopyOwn
import Derived.WalkLawsBesides
import Derived.Deep.QuietTactic
namespace Go.Proofs.Qxb6602224a.Own
open Go.RowKit

theorem owns_mono {w : World} {base base' : Nat} {e : TypeId} {size : Nat} {v : Value} {n : Nat} {xs : List Value} (h : w.ownsRow base e size v n xs) (hb : base' ≤ base) : w.ownsRow base' e size v n xs := by
  refine ⟨h.1, ?_⟩
  rcases h.2 with h' | ⟨g, cap, cur, hv, hg, r⟩
  · exact .inl h'
  · exact .inr ⟨g, cap, cur, hv, Nat.le_trans hb hg, r⟩

/-- from (w, v) to (w', v'): nothing that was there has turned but v's own block; v' lies in that block or in a new one. -/
structure Step (w : World) (v : Value) (w' : World) (v' : Value) : Prop where
  grown : w.grownBy w' v.ownBlock
  moved : ∀ g, v'.ownBlock = some g → v.ownBlock = some g ∨ w.heap.size ≤ g

theorem Step.refl (w : World) (v : Value) : Step w v w v := ⟨World.grownBy.refl _ _, fun _ h => .inl h⟩
theorem Step.trans {w w1 w2 : World} {v v1 v2 : Value} (h : Step w v w1 v1) (k : Step w1 v1 w2 v2) : Step w v w2 v2 := by
  refine ⟨⟨k.grown.os.trans h.grown.os, k.grown.tape.trans h.grown.tape, k.grown.output.trans h.grown.output, Nat.le_trans h.grown.size k.grown.size, fun b hb hn => ?_⟩, fun g hg => ?_⟩
  · refine (k.grown.block b (Nat.lt_of_lt_of_le hb h.grown.size) (fun e => ?_)).trans (h.grown.block b hb hn)
    rcases h.moved b e.symm with h' | h'
    · exact hn h'.symm
    · omega
  · rcases k.moved g hg with h' | h'
    · exact h.moved g h'
    · exact .inr (Nat.le_trans h.grown.size h')
theorem Step.alloc {w w1 : World} {v v1 : Value} (h : Step w v w1 v1) (o : Obj) : Step w v (w1.alloc o) v1 :=
  h.trans ⟨World.grownBy_alloc _ _ _, fun _ h => .inl h⟩
theorem Step.drewN {w w1 : World} {v v1 : Value} (h : Step w v w1 v1) (n : Nat) : Step w v (w1.drewN n) v1 :=
  h.trans ⟨⟨rfl, rfl, rfl, Nat.le_refl _, fun _ _ _ => rfl⟩, fun _ h => .inl h⟩
/-- a block of the call's own before w, that is not v's, stays -/
theorem Step.cell {w w' : World} {v v' : Value} (h : Step w v w' v') {a : Addr} {u : Value} (hc : w.cell? a = some u) (hne : some a.block ≠ v.ownBlock) : w'.cell? a = some u := h.grown.cell hc hne
theorem Step.ownsRow {w w' : World} {v v' : Value} (h : Step w v w' v') {base e size n : Nat} {x : Value} {xs : List Value} (hx : w.ownsRow base e size x n xs) (hne : ∀ g, x.ownBlock = some g → v.ownBlock ≠ some g) : w'.ownsRow base e size x n xs :=
  hx.kept h.grown (by
    cases hg : x.ownBlock with
    | none => exact .inl rfl
    | some g => exact .inr (fun e => hne g hg e.symm))
theorem Step.below {w w' : World} {v v' : Value} {B : Nat} (h : Step w v w' v') (hB : B ≤ w.heap.size) (hv : ∀ g, v.ownBlock = some g → B ≤ g) : Below B w w' :=
  (Below.refl B w).grown h.grown hB hv

theorem grownBy_weaken {w w' : World} (h : w.grownBy w' none) (row : Option Nat) : w.grownBy w' row :=
  ⟨h.os, h.tape, h.output, h.size, fun k hk _ => h.block k hk (by simp)⟩

/-- what a slice value reads as: its cells lie behind its address; nil has none -/
structure Rd (size : Nat) (w : World) (ao : Option Addr) (n c : Nat) (xs : List Value) : Prop where
  len : xs.length = n * size
  le : n ≤ c
  nil : ao = none → n = 0 ∧ c = 0
  cell : ∀ ad, ao = some ad → ∀ j u, xs[j]? = some u → w.cell? (ad.add j) = some u
theorem Rd.step {size : Nat} {w w' : World} {v v' : Value} {ao : Option Addr} {n c : Nat} {xs : List Value} (h : Rd size w ao n c xs) (hs : Step w v w' v') (hne : ∀ ad, ao = some ad → some ad.block ≠ v.ownBlock) : Rd size w' ao n c xs :=
  ⟨h.len, h.le, h.nil, fun ad had j u hu => hs.cell (h.cell ad had j u hu) (by
    have : (ad.add j).block = ad.block := by unfold Addr.add; split <;> rfl
    rw [this]; exact hne ad had)⟩
theorem Rd.below {size : Nat} {w w' : World} {B : Nat} {ao : Option Addr} {n c : Nat} {xs : List Value} (h : Rd size w ao n c xs) (hs : Below B w w') (hne : ∀ ad, ao = some ad → ad.block < B) : Rd size w' ao n c xs :=
  ⟨h.len, h.le, h.nil, fun ad had j u hu => by
    have e : (ad.add j).block = ad.block := by unfold Addr.add; split <;> rfl
    rw [hs.cell (by rw [e]; exact hne ad had)]; exact h.cell ad had j u hu⟩

/-- what is owned can be read -/
theorem rd_of_owns {w : World} {base e size n : Nat} {v : Value} {xs : List Value} (h : w.ownsRow base e size v n xs) : ∃ ao c, v = .slice ao n c ∧ Rd size w ao n c xs ∧ (∀ ad, ao = some ad → ad.spot = none ∧ ad.off = 0 ∧ base ≤ ad.block ∧ v.ownBlock = some ad.block) ∧ c ≤ maxLen := by
  rcases h.2 with ⟨rfl, rfl⟩ | ⟨g, cap, cur, rfl, hb, hg, hn, hc, _⟩
  · refine ⟨none, 0, rfl, ⟨h.1, Nat.le_refl _, fun _ => ⟨rfl, rfl⟩, fun ad h => by cases h⟩, fun ad h => (by cases h), Nat.zero_le _⟩
  · refine ⟨_, cap, rfl, ⟨h.1, hn, fun h => (by cases h), fun ad had j u hu => ?_⟩, fun ad had => ?_, hc⟩
    · cases had; exact h.cells rfl j u hu
    · cases had; exact ⟨rfl, rfl, hb, rfl⟩

theorem Rd.keptNone {size : Nat} {w w' : World} {ao : Option Addr} {n c : Nat} {xs : List Value} (h : Rd size w ao n c xs) (hg : w.grownBy w' none) : Rd size w' ao n c xs :=
  ⟨h.len, h.le, h.nil, fun ad had j u hu => hg.cell (h.cell ad had j u hu) (by simp)⟩
theorem grown_of_below {w w' : World} (h : Below w.heap.size w w') : w.grownBy w' none := ⟨h.os, h.tape, h.output, h.size, fun k hk _ => h.block k hk⟩
theorem below_of_grown {w w' : World} (h : w.grownBy w' none) : Below w.heap.size w w' := ⟨h.os, h.tape, h.output, h.size, fun k hk => h.block k hk (by simp)⟩

section
variable {P : Program}

/-- append onto a slice of the call's own, of whatever (nil, empty, a row): and where it lies behind it. -/
theorem wpList_append_step (w : World) {ops : Array Oper} {rest : List Oper} {o : Oper} {a : Act} {Q : Exit → Act → World → Prop} (hgd : o.guard = none) (s x : Operand) (t : TypeId)
    (ho : o.op = .call { callee := .builtin .append, args := #[s, x], argTypes := #[t, t] })
    (base : Nat) (e : TypeId) (i : TypeInfo) (z : Value) (size bytes : Nat) (ht : P.underlying t = some (.slice e)) (hi : P.info? e = some i) (hz : i.zero = some z)
    (hsize : i.size = size) (hby : i.bytes = bytes) (hzs : z.cells.size = size) (hsz : 0 < size)
    (v : Value) (n : Nat) (xs : List Value) (hs : a.eval s = v) (hown : w.ownsRow base e size v n xs)
    (ao : Option Addr) (m c : Nat) (news : List Value) (hx : a.eval x = .slice ao m c) (hl : news.length = m * size) (hnone : ao = none → m = 0 ∧ c = 0)
    (hnews : ∀ ad, ao = some ad → ∀ j u, news[j]? = some u → w.cell? (ad.add j) = some u) (h1 : ∀ u ∈ news, u.oneCell' = true)
    (h63 : n + m ≤ maxLen) (hbytes : (n + m) * bytes ≤ 140737488355328) (hbase : base ≤ w.heap.size)
    (hK : ∀ v' w', w'.ownsRow base e size v' (n + m) (xs ++ news) → Step w v w' v' → wpList P ops Q rest (a.put o.dst v') w') : wpList P ops Q (o :: rest) a w := by
  cases ao with
  | none =>
    obtain ⟨rfl, rfl⟩ := hnone rfl
    have hn0 : news = [] := List.eq_nil_of_length_eq_zero (by simpa using hl)
    subst hn0
    exact wpList_append_own_none hgd s x t ho base e i size ht hi v n xs hs hown hx (hK v w (by simpa using hown) (Step.refl _ _))
  | some ad =>
    rcases hown.2 with ⟨rfl, rfl⟩ | ⟨g, cap, cur, rfl, hb, hg, hn, hc, _⟩
    · by_cases hm : m = 0
      · subst hm
        refine wpList_append_own w hgd s x t ho base e i z size bytes ht hi hz hsize hby hzs hsz _ 0 xs hs hown ad 0 c news hx hl (hnews ad rfl) h1 h63 hbytes hbase ?_
        intro v' w' ho' hg' hiff
        exact hK v' w' ho' ⟨hg', fun g hg => by rw [hiff.2 ⟨rfl, rfl⟩] at hg; cases hg⟩
      · have hx0 : xs = [] := List.eq_nil_of_length_eq_zero (by simpa using hown.1)
        subst hx0
        refine wpList_append_grows w hgd s x t ho e i z size bytes ht hi hz hsize hby hzs hsz none 0 0 [] hs (fun _ => ⟨rfl, rfl⟩) (by simp) (fun b h => by cases h) ad m c news hx hl (hnews ad rfl) h1 (by omega) h63 hbytes ?_
        intro v' w' ho' hg'
        exact hK v' w' (owns_mono ho' hbase) ⟨grownBy_weaken hg' _, fun g hg => .inr (ho'.lt g hg).1⟩
    · by_cases hm : n + m ≤ cap
      · refine wpList_append_fits w hgd s x t ho base e i size ht hi hsize g n cap xs hs hown ad m c news hx hl (hnews ad rfl) h1 hm ?_
        intro w' ho' hg'
        exact hK _ w' ho' ⟨hg', fun _ h => .inl h⟩
      · refine wpList_append_grows w hgd s x t ho e i z size bytes ht hi hz hsize hby hzs hsz (some ⟨g, 0, none⟩) n cap xs hs (fun h => by cases h) hown.1 (fun b hb => by cases hb; exact hown.cells rfl) ad m c news hx hl (hnews ad rfl) h1 (by omega) h63 hbytes ?_
        intro v' w' ho' hg'
        exact hK v' w' (owns_mono ho' hbase) ⟨grownBy_weaken hg' _, fun g hg => .inr (ho'.lt g hg).1⟩
end
end Go.Proofs.Qxb6602224a.Own
