/-
  The walks of Extent.End and AppendExtent.
-/
import Derived.Test.Qxb6602224aExt
namespace Go.Proofs.Qxb6602224a.Own
open Go.RowKit

/-- AppendExtent, plainly -/
def lastE (es : List (Int × Int)) : Int × Int := es.getD (es.length - 1) (0, 0)
def joins (es : List (Int × Int)) (o : Int) : Bool := decide (0 < es.length) && (wrap64 ((lastE es).1 + (lastE es).2) == o)
def appE (es : List (Int × Int)) (o l : Int) : List (Int × Int) :=
  if joins es o then es.set (es.length - 1) ((lastE es).1, wrap64 ((lastE es).2 + l)) else es ++ [(o, l)]

theorem end_any (a b : Int) (w : World) : Calls Try.prog 26 #[.agg #[.int .i64 a, .int .i64 b]] w fun e w' => e = .returned (.int .i64 (wrap64 (a + b))) ∧ w' = w.alloc (.cells #[.int .i64 a, .int .i64 b] 31) := by
  go_enter Try.func26, Try.ntmps26
  go_wp2
  go_ret
  exact ⟨rfl, rfl⟩

/-- append onto a slice of extents of the call's own -/
theorem appS (w : World) {ops : Array Oper} {rest : List Oper} {o : Oper} {a : Act} {Q : Exit → Act → World → Prop} (hgd : o.guard = none) (s x : Operand)
    (ho : o.op = .call { callee := .builtin .append, args := #[s, x], argTypes := #[27, 27] }) (base : Nat)
    (v : Value) (xs : List (Int × Int)) (hs : a.eval s = v) (hown : Has w base v xs)
    (ao : Option Addr) (m c : Nat) (ys : List (Int × Int)) (hx : a.eval x = .slice ao m c) (hy : Rd 2 w ao m c (cells ys))
    (hb : xs.length + m ≤ 8796093022208) (hbase : base ≤ w.heap.size)
    (hK : ∀ v' w', Has w' base v' (xs ++ ys) → Step w v w' v' → wpList Try.prog ops Q rest (a.put o.dst v') w') : wpList Try.prog ops Q (o :: rest) a w := by
  obtain ⟨i0, hi, hz0, hz1, hz2⟩ := info_parts info31
  refine wpList_append_step w hgd s x 27 ho base 31 i0 (.agg #[.int .i64 0, .int .i64 0]) 2 16 Try.underlying27 hi hz0 hz1 hz2 rfl (by decide) v xs.length _ hs hown ao m c (cells ys) hx hy.len hy.nil hy.cell (cells_one _) (by unfold maxLen; omega) (by omega) hbase ?_
  intro v' w' ho' hs'
  have e : ys.length = m := by have := hy.len; rw [cells_length] at this; omega
  refine hK v' w' ?_ hs'
  unfold Has
  rw [List.length_append, e, cells_append]; exact ho'

theorem rd_one (w : World) (a b : Int) : Rd 2 (w.alloc (.cells #[.int .i64 a, .int .i64 b] 31)) (some ⟨w.heap.size, 0, none⟩) 1 1 (cells [(a, b)]) :=
  ⟨rfl, Nat.le_refl _, fun h => (by cases h), fun ad had j u hu => (by
    cases had
    match j, hu with
    | 0, hu => simp [cells] at hu; subst hu; simp [Addr.add]
    | 1, hu => simp [cells] at hu; subst hu; simp [Addr.add])⟩
theorem app1 (w : World) {ops : Array Oper} {rest : List Oper} {o : Oper} {a : Act} {Q : Exit → Act → World → Prop} (hgd : o.guard = none) (s x : Operand)
    (ho : o.op = .call { callee := .builtin .append, args := #[s, x], argTypes := #[27, 27] }) (base : Nat)
    (v : Value) (xs : List (Int × Int)) (p q : Int) (hs : a.eval s = v) (hown : Has w base v xs)
    (k : Nat) (hx : a.eval x = .slice (some ⟨k, 0, none⟩) 1 1) (hkw : k = w.heap.size)
    (hb : xs.length + 1 ≤ 8796093022208) (hbase : base ≤ w.heap.size)
    (hK : ∀ v' w', Has w' base v' (xs ++ [(p, q)]) → Step w v w' v' → wpList Try.prog ops Q rest (a.put o.dst v') w') : wpList Try.prog ops Q (o :: rest) a (w.alloc (.cells #[.int .i64 p, .int .i64 q] 31)) := by
  subst hkw
  refine appS _ hgd s x ho base v xs hs (World.ownsRow.alloc hown _) _ 1 1 [(p, q)] hx (rd_one w p q) hb (by simp; omega) ?_
  intro v' w' h1 h2
  exact hK v' w' h1 (((Step.refl w v).alloc _).trans h2)

theorem alloc_cell {w : World} {p : Addr} {v : Value} (h : w.cell? p = some v) (o : Obj) : (w.alloc o).cell? p = some v :=
  (World.grownBy_alloc w o none).cell h (by simp)

/-- the last element's end meets o: it grows -/
theorem appE_join (B g c n : Nat) (es : List (Int × Int)) (a b o l : Int) (w : World) (hown : Has w B (.slice (some ⟨g, 0, none⟩) n c) es) (hlen : es.length = n) (hk : n ≤ 10485760) (hpos : 0 < n) (hl : lastE es = (a, b)) (hj : (wrap64 (a + b) == o) = true) :
    Calls Try.prog 17 #[.slice (some ⟨g, 0, none⟩) n c, .int .i64 o, .int .i64 l] w fun e w' => e = .returned (.slice (some ⟨g, 0, none⟩) n c) ∧ Has w' B (.slice (some ⟨g, 0, none⟩) n c) (es.set (n - 1) (a, wrap64 (b + l))) ∧ w.grownBy w' (some g) := by
  have hown' : w.ownsRow B 31 2 (.slice (some ⟨g, 0, none⟩) n c) n (cells es) := by unfold Has at hown; rwa [hlen] at hown
  have e0 : (es.getD (n - 1) (0, 0)) = (a, b) := by rw [← hl]; unfold lastE; rw [hlen]
  have c0 : w.cell? ⟨g, (n - 1) * 2, none⟩ = some (.int .i64 a) := by
    rw [hown'.cellAt _ (by omega), cells_at0 es (n - 1) (by omega), e0]
  have c1 : w.cell? ⟨g, (n - 1) * 2 + 1, none⟩ = some (.int .i64 b) := by
    rw [hown'.cellAt _ (by omega), cells_at1 es (n - 1) (by omega), e0]
  have c2 := fun o => alloc_cell c1 o
  have f2 := fun o => (hown'.alloc o).frozenAt ((n - 1) * 2 + 1)
  have S : Hid (∀ x, ((w.alloc x).setCell ⟨g, (n - 1) * 2 + 1, none⟩ (.int .i64 (wrap64 (b + l)))).ownsRow B 31 2 (.slice (some ⟨g, 0, none⟩) n c) n (cells (es.set (n - 1) (a, wrap64 (b + l)))) ∧ w.grownBy ((w.alloc x).setCell ⟨g, (n - 1) * 2 + 1, none⟩ (.int .i64 (wrap64 (b + l)))) (some g)) := fun x => by
    have s1 := (hown'.alloc x).stored ((n - 1) * 2 + 1) (.int .i64 (wrap64 (b + l)))
    rw [cells_set1 es (n - 1) _ (by omega), e0] at s1
    refine ⟨s1.1, ?_⟩
    exact (Step.trans ((Step.refl w (.slice (some ⟨g, 0, none⟩) n c)).alloc x) (⟨s1.2, fun _ h => .inl h⟩ : Step _ (.slice (some ⟨g, 0, none⟩) n c) _ (.slice (some ⟨g, 0, none⟩) n c))).grown
  have HL : Hid (es.length = n) := hlen
  clear hown hown' e0 hl hlen
  go_enter Try.func17, Try.ntmps17
  go_wp2_with (go_at_call 26; refine (end_any _ _ _).mono ?_; rintro e w' ⟨rfl, rfl⟩)
  go_ret
  refine ⟨rfl, ?_, (S.out _).2⟩
  unfold Has
  rw [List.length_set, HL.out]
  exact (S.out _).1

/-- it does not: a new element -/
theorem appE_new (B g c n : Nat) (es : List (Int × Int)) (a b o l : Int) (w : World) (hown : Has w B (.slice (some ⟨g, 0, none⟩) n c) es) (hB : B ≤ w.heap.size) (hlen : es.length = n) (hk : n ≤ 10485760) (hpos : 0 < n) (hl : lastE es = (a, b)) (hj : (wrap64 (a + b) == o) = false) :
    Calls Try.prog 17 #[.slice (some ⟨g, 0, none⟩) n c, .int .i64 o, .int .i64 l] w fun e w' => ∃ v', e = .returned v' ∧ Has w' B v' (es ++ [(o, l)]) ∧ Step w (.slice (some ⟨g, 0, none⟩) n c) w' v' := by
  have hown' : w.ownsRow B 31 2 (.slice (some ⟨g, 0, none⟩) n c) n (cells es) := by unfold Has at hown; rwa [hlen] at hown
  have e0 : (es.getD (n - 1) (0, 0)) = (a, b) := by rw [← hl]; unfold lastE; rw [hlen]
  have c0 : w.cell? ⟨g, (n - 1) * 2, none⟩ = some (.int .i64 a) := by
    rw [hown'.cellAt _ (by omega), cells_at0 es (n - 1) (by omega), e0]
  have c1 : w.cell? ⟨g, (n - 1) * 2 + 1, none⟩ = some (.int .i64 b) := by
    rw [hown'.cellAt _ (by omega), cells_at1 es (n - 1) (by omega), e0]
  have HL : Hid (es.length = n) := hlen
  clear hown' e0 hl hlen
  go_enter Try.func17, Try.ntmps17
  go_wp2_with (first | (go_at_call 26; refine (end_any _ _ _).mono ?_; rintro e w' ⟨rfl, rfl⟩) | (at_builtin; refine app1 _ rfl (.tmp 33) (.tmp 37) rfl B _ es o l rfl (World.ownsRow.alloc hown _) _ rfl (by simp) (by rw [HL.out]; omega) (by simp; omega) ?_))
  intro v' w' h1 h2
  go_wp2_with fail
  go_ret
  exact ⟨v', rfl, h1, ((Step.refl _ _).alloc _).trans h2⟩

/-- no extents yet: the first -/
theorem appE_first (B : Nat) (ao : Option Addr) (c : Nat) (o l : Int) (w : World) (hown : Has w B (.slice ao 0 c) []) (hB : B ≤ w.heap.size) :
    Calls Try.prog 17 #[.slice ao 0 c, .int .i64 o, .int .i64 l] w fun e w' => ∃ v', e = .returned v' ∧ Has w' B v' [(o, l)] ∧ Step w (.slice ao 0 c) w' v' := by
  go_enter Try.func17, Try.ntmps17
  go_wp2_with (at_builtin; refine app1 _ rfl (.tmp 33) (.tmp 37) rfl B _ [] o l rfl hown _ rfl rfl (by simp) hB ?_)
  intro v' w' h1 h2
  go_wp2_with fail
  go_ret
  exact ⟨v', rfl, h1, h2⟩

theorem appE_any (B : Nat) (v : Value) (es : List (Int × Int)) (o l : Int) (w : World) (hown : Has w B v es) (hB : B ≤ w.heap.size) (hk : es.length ≤ 10485760) :
    Calls Try.prog 17 #[v, .int .i64 o, .int .i64 l] w fun e w' => ∃ v', e = .returned v' ∧ Has w' B v' (appE es o l) ∧ Step w v w' v' := by
  rcases hown.cases with ⟨rfl, rfl⟩ | ⟨g, c, rfl, _, _, _, _⟩
  · exact appE_first B none 0 o l w hown hB
  · by_cases hpos : 0 < es.length
    · obtain ⟨a, b, hl⟩ : ∃ a b, lastE es = (a, b) := ⟨_, _, rfl⟩
      cases hj : (wrap64 (a + b) == o)
      · refine (appE_new B g c es.length es a b o l w hown hB rfl hk hpos hl hj).mono ?_
        rintro e w' ⟨v', rfl, h1, h2⟩
        refine ⟨v', rfl, h1.congr ?_, h2⟩
        unfold appE joins; rw [hl]; simp [hj]
      · refine (appE_join B g c es.length es a b o l w hown rfl hk hpos hl hj).mono ?_
        rintro e w' ⟨rfl, h1, h2⟩
        refine ⟨_, rfl, h1.congr ?_, h2, fun _ h => .inl h⟩
        unfold appE joins; rw [hl]; simp [hj, hpos]
    · obtain rfl : es = [] := List.eq_nil_of_length_eq_zero (by omega)
      exact appE_first B _ c o l w hown hB
end Go.Proofs.Qxb6602224a.Own
