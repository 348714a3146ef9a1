/-
  The walk of appendFixed.
-/
import Derived.Test.Qxb6602194aCopies
namespace Go.Proofs.Qxb6602194a.Own
open Go.RowKit

/-- what appendFixed appends -/
def sgn (neg : Bool) : List Int := if neg then [45] else []
def whole (ds : List Int) (p : Nat) : List Int := if ds.length ≤ p then [48] else ds.take (ds.length - p)
def frac (ds : List Int) (p : Nat) : List Int := if p = 0 then [] else [46] ++ List.replicate (p - ds.length) 48 ++ ds.drop (ds.length - p)
def fixed (neg : Bool) (ds : List Int) (p : Nat) : List Int := sgn neg ++ whole ds p ++ frac ds p

/-- v is a slice of the call's own (blocks from B on) that holds the bytes xs. A word of its own, so that no simp looks into it. -/
def Has (w : World) (B : Nat) (v : Value) (xs : List Int) : Prop := w.ownsRow B 5 1 v xs.length (xs.map (.int .u8))
theorem Has.congr {w : World} {B : Nat} {v : Value} {xs ys : List Int} (h : Has w B v xs) (e : xs = ys) : Has w B v ys := e ▸ h

theorem appS (w : World) {ops : Array Oper} {rest : List Oper} {o : Oper} {a : Act} {Q : Exit → Act → World → Prop} (hgd : o.guard = none) (s x : Operand)
    (ho : o.op = .call { callee := .builtin .append, args := #[s, x], argTypes := #[22, 22] }) (base : Nat)
    (v : Value) (xs : List Int) (hs : a.eval s = v) (hown : Has w base v xs)
    (ao : Option Addr) (m c : Nat) (ys : List Int) (hx : a.eval x = .slice ao m c) (hy : Rd w ao m c (ys.map (.int .u8)))
    (hb : xs.length + m ≤ 140737488355328) (hbase : base ≤ w.heap.size)
    (hK : ∀ v' w', Has w' base v' (xs ++ ys) → Step w v w' v' → wpList Try.prog ops Q rest (a.put o.dst v') w') : wpList Try.prog ops Q (o :: rest) a w := by
  refine app8 w hgd s x ho base v xs.length xs hs hown ao m c ys hx hy hb hbase ?_
  intro v' w' h1 h2
  have e : ys.length = m := by simpa using hy.len
  refine hK v' w' ?_ h2
  unfold Has
  rw [List.length_append, e]; exact h1

theorem app1 (w : World) {ops : Array Oper} {rest : List Oper} {o : Oper} {a : Act} {Q : Exit → Act → World → Prop} (hgd : o.guard = none) (s x : Operand)
    (ho : o.op = .call { callee := .builtin .append, args := #[s, x], argTypes := #[22, 22] }) (base : Nat)
    (v : Value) (xs : List Int) (b : Int) (hs : a.eval s = v) (hown : Has w base v xs)
    (hx : a.eval x = .slice (some ⟨w.heap.size, 0, none⟩) 1 1)
    (hb : xs.length + 1 ≤ 140737488355328) (hbase : base ≤ w.heap.size)
    (hK : ∀ v' w', Has w' base v' (xs ++ [b]) → Step w v w' v' → wpList Try.prog ops Q rest (a.put o.dst v') w') : wpList Try.prog ops Q (o :: rest) a (w.alloc (.cells #[.int .u8 b] 5)) := by
  refine appS _ hgd s x ho base v xs hs (World.ownsRow.alloc hown _) _ 1 1 [b] hx (rd_one w b) hb (by simp; omega) ?_
  intro v' w' h1 h2
  exact hK v' w' h1 (((Step.refl w v).alloc _).trans h2)

/-- digits run short: n ≤ p, p = 0 -/
theorem fixed_A (B : Nat) (v : Value) (xs : List Int) (ao : Option Addr) (c : Nat) (w : World) (neg : Bool)
    (hown : Has w B v xs) (hB : B ≤ w.heap.size) (hk : xs.length ≤ 10485760) :
    Calls Try.prog 19 #[v, .bool neg, .slice ao 0 c, .int .i32 0] w fun e w' => ∃ v', e = .returned v' ∧ Has w' B v' (xs ++ (sgn neg ++ [48])) ∧ Step w v w' v' := by
  cases neg
  · go_enter Try.func19, Try.ntmps19
    go_wp2_with (at_builtin; refine app1 _ rfl (.tmp 21) (.tmp 22) rfl B v xs 48 rfl hown rfl (by omega) hB ?_)
    intro v1 w1 hown1 hst1
    go_wp2_with fail
    go_ret
    exact ⟨v1, rfl, hown1.congr (by simp [sgn]), hst1⟩
  · go_enter Try.func19, Try.ntmps19
    go_wp2_with (at_builtin; refine app1 _ rfl (.tmp 11) (.tmp 12) rfl B v xs 45 rfl hown rfl (by omega) hB ?_)
    intro v0 w0 hown0 hst0
    have hB0 := hst0.grown.size
    go_wp2_with (at_builtin; refine app1 _ rfl (.tmp 21) (.tmp 22) rfl B v0 _ 48 rfl hown0 rfl (by simp; omega) (by omega) ?_)
    intro v1 w1 hown1 hst1
    go_wp2_with fail
    go_ret
    exact ⟨v1, rfl, hown1.congr (by simp [sgn]), hst0.trans hst1⟩

/-- n ≤ p, 0 < p -/
theorem fixed_B (B : Nat) (v : Value) (xs : List Int) (g n c p : Nat) (ds : List Int) (w : World) (neg : Bool)
    (hown : Has w B v xs) (hB : B ≤ w.heap.size) (hk : xs.length ≤ 10485760) (hp : 0 < p) (hp2 : p ≤ 65536) (hn : n ≤ p) (hds : Rd w (some ⟨g, 0, none⟩) n c (ds.map (.int .u8))) (hg : v.ownBlock ≠ some g) :
    Calls Try.prog 19 #[v, .bool neg, .slice (some ⟨g, 0, none⟩) n c, .int .i32 p] w fun e w' => ∃ v', e = .returned v' ∧ Has w' B v' (xs ++ (sgn neg ++ ([48] ++ ([46] ++ (List.replicate (p - n) 48 ++ ds))))) ∧ Step w v w' v' := by
  have hnc := hds.le
  cases neg
  · go_enter Try.func19, Try.ntmps19
    go_wp2_with (at_builtin; refine app1 _ rfl (.tmp 21) (.tmp 22) rfl B v _ 48 rfl hown rfl (by first | omega | (simp; omega)) (by omega) ?_)
    intro v1 w1 hown1 hst1
    have hB1 := hst1.grown.size
    go_wp2_with (at_builtin; refine app1 _ rfl (.tmp 32) (.tmp 33) rfl B v1 _ 46 rfl hown1 rfl (by first | omega | (simp; omega)) (by omega) ?_)
    intro v2 w2 hown2 hst2
    obtain ⟨L, hL, hown2⟩ : ∃ L : List Int, L = xs ++ (sgn false ++ ([48] ++ [46])) ∧ Has w2 B v2 L := ⟨_, rfl, hown2.congr (by simp [sgn])⟩
    have hLl : L.length ≤ 10485763 + 0 := by rw [hL]; simp [sgn]; omega
    have HL : Hid (L = xs ++ (sgn false ++ ([48] ++ [46]))) := hL
    have hst : Step w v w2 v2 := ((Step.refl w v).trans hst1).trans hst2
    have hB2 := hst.grown.size
    clear hL hst1 hst2 hown1 hown
    go_wp2_with fail
    go_loopw [0, 9] (fun u i wr => ∃ k : Nat, k ≤ p - n ∧ i = .int .i64 ((n : Int) - p + k) ∧ Has wr B u (L ++ List.replicate k 48) ∧ Step w v wr u) (fun _ i _ => (-(intOf i)).toNat)
    case atStart => exact ⟨0, Nat.zero_le _, by simp, hown2.congr (by simp), hst⟩
    case round =>
      obtain ⟨k, hk', rfl, hownr, hstr⟩ := hrel
      have hBr := hstr.grown.size
      by_cases hlt : k < p - n
      · have hneg : (n : Int) - p + k < 0 := by omega
        clear hown2 hds
        go_wp2_with (at_builtin; refine app1 _ rfl (.tmp 39) (.tmp 40) rfl B _ _ 48 rfl hownr rfl (by first | omega | (simp; omega)) (by omega) ?_)
        intro v3 w3 hown3 hst3
        go_wp2
        go_roundw
        case rel => exact ⟨k + 1, by omega, by go_num, hown3.congr (by rw [List.replicate_succ']), hstr.trans hst3⟩
        case measure => simp [intOf]; omega
      · have e : (n : Int) - p + k = 0 := by omega
        have ek : k = p - n := by omega
        rw [e]
        have hrd := hds.step hstr (fun ad had => by cases had; exact fun e => hg e.symm)
        have HE : Hid ((n : Int) - p + k = 0) := e
        have HK : Hid (k = p - n) := ek
        clear hown2 hds e ek
        go_wp2_with (at_builtin; refine appS _ rfl (.tmp 42) (.tmp 45) rfl B _ _ rfl hownr _ n c ds rfl hrd (by first | omega | (simp; omega)) (by omega) ?_)
        intro v3 w3 hown3 hst3
        go_wp2_with fail
        go_ret
        exact ⟨v3, rfl, hown3.congr (by rw [HL.out, ← HK.out]; simp [sgn]), hstr.trans hst3⟩
  · go_enter Try.func19, Try.ntmps19
    go_wp2_with (at_builtin; refine app1 _ rfl (.tmp 11) (.tmp 12) rfl B v xs 45 rfl hown rfl (by omega) hB ?_)
    intro v0 w0 hown0 hst0
    have hB0 := hst0.grown.size
    go_wp2_with (at_builtin; refine app1 _ rfl (.tmp 21) (.tmp 22) rfl B v0 _ 48 rfl hown0 rfl (by first | omega | (simp; omega)) (by omega) ?_)
    intro v1 w1 hown1 hst1
    have hB1 := hst1.grown.size
    go_wp2_with (at_builtin; refine app1 _ rfl (.tmp 32) (.tmp 33) rfl B v1 _ 46 rfl hown1 rfl (by first | omega | (simp; omega)) (by omega) ?_)
    intro v2 w2 hown2 hst2
    obtain ⟨L, hL, hown2⟩ : ∃ L : List Int, L = xs ++ (sgn true ++ ([48] ++ [46])) ∧ Has w2 B v2 L := ⟨_, rfl, hown2.congr (by simp [sgn])⟩
    have hLl : L.length ≤ 10485763 + 0 := by rw [hL]; simp [sgn]; omega
    have HL : Hid (L = xs ++ (sgn true ++ ([48] ++ [46]))) := hL
    have hst : Step w v w2 v2 := (hst0.trans hst1).trans hst2
    have hB2 := hst.grown.size
    clear hL hst1 hst2 hown1 hown0
    go_wp2_with fail
    go_loopw [0, 9] (fun u i wr => ∃ k : Nat, k ≤ p - n ∧ i = .int .i64 ((n : Int) - p + k) ∧ Has wr B u (L ++ List.replicate k 48) ∧ Step w v wr u) (fun _ i _ => (-(intOf i)).toNat)
    case atStart => exact ⟨0, Nat.zero_le _, by simp, hown2.congr (by simp), hst⟩
    case round =>
      obtain ⟨k, hk', rfl, hownr, hstr⟩ := hrel
      have hBr := hstr.grown.size
      by_cases hlt : k < p - n
      · have hneg : (n : Int) - p + k < 0 := by omega
        clear hown2 hds
        go_wp2_with (at_builtin; refine app1 _ rfl (.tmp 39) (.tmp 40) rfl B _ _ 48 rfl hownr rfl (by first | omega | (simp; omega)) (by omega) ?_)
        intro v3 w3 hown3 hst3
        go_wp2
        go_roundw
        case rel => exact ⟨k + 1, by omega, by go_num, hown3.congr (by rw [List.replicate_succ']), hstr.trans hst3⟩
        case measure => simp [intOf]; omega
      · have e : (n : Int) - p + k = 0 := by omega
        have ek : k = p - n := by omega
        rw [e]
        have hrd := hds.step hstr (fun ad had => by cases had; exact fun e => hg e.symm)
        have HE : Hid ((n : Int) - p + k = 0) := e
        have HK : Hid (k = p - n) := ek
        clear hown2 hds e ek
        go_wp2_with (at_builtin; refine appS _ rfl (.tmp 42) (.tmp 45) rfl B _ _ rfl hownr _ n c ds rfl hrd (by first | omega | (simp; omega)) (by omega) ?_)
        intro v3 w3 hown3 hst3
        go_wp2_with fail
        go_ret
        exact ⟨v3, rfl, hown3.congr (by rw [HL.out, ← HK.out]; simp [sgn]), hstr.trans hst3⟩

/-- no digits at all, 0 < p -/
theorem fixed_Bn (B : Nat) (v : Value) (xs : List Int) (p : Nat) (w : World) (neg : Bool)
    (hown : Has w B v xs) (hB : B ≤ w.heap.size) (hk : xs.length ≤ 10485760) (hp : 0 < p) (hp2 : p ≤ 65536) :
    Calls Try.prog 19 #[v, .bool neg, .slice none 0 0, .int .i32 p] w fun e w' => ∃ v', e = .returned v' ∧ Has w' B v' (xs ++ (sgn neg ++ ([48] ++ ([46] ++ List.replicate p 48)))) ∧ Step w v w' v' := by
  cases neg
  · go_enter Try.func19, Try.ntmps19
    go_wp2_with (at_builtin; refine app1 _ rfl (.tmp 21) (.tmp 22) rfl B v _ 48 rfl hown rfl (by first | omega | (simp; omega)) (by omega) ?_)
    intro v1 w1 hown1 hst1
    have hB1 := hst1.grown.size
    go_wp2_with (at_builtin; refine app1 _ rfl (.tmp 32) (.tmp 33) rfl B v1 _ 46 rfl hown1 rfl (by first | omega | (simp; omega)) (by omega) ?_)
    intro v2 w2 hown2 hst2
    obtain ⟨L, hL, hown2⟩ : ∃ L : List Int, L = xs ++ (sgn false ++ ([48] ++ [46])) ∧ Has w2 B v2 L := ⟨_, rfl, hown2.congr (by simp [sgn])⟩
    have hLl : L.length ≤ 10485763 + 0 := by rw [hL]; simp [sgn]; omega
    have HL : Hid (L = xs ++ (sgn false ++ ([48] ++ [46]))) := hL
    have hst : Step w v w2 v2 := ((Step.refl w v).trans hst1).trans hst2
    have hB2 := hst.grown.size
    clear hL hst1 hst2 hown1 hown
    go_wp2_with fail
    go_loopw [0, 9] (fun u i wr => ∃ k : Nat, k ≤ p ∧ i = .int .i64 ((k : Int) - p) ∧ Has wr B u (L ++ List.replicate k 48) ∧ Step w v wr u) (fun _ i _ => (-(intOf i)).toNat)
    case atStart => exact ⟨0, Nat.zero_le _, by go_num, hown2.congr (by simp), hst⟩
    case round =>
      obtain ⟨k, hk', rfl, hownr, hstr⟩ := hrel
      have hBr := hstr.grown.size
      by_cases hlt : k < p
      · have hneg : (k : Int) - p < 0 := by omega
        clear hown2
        go_wp2_with (at_builtin; refine app1 _ rfl (.tmp 39) (.tmp 40) rfl B _ _ 48 rfl hownr rfl (by first | omega | (simp; omega)) (by omega) ?_)
        intro v3 w3 hown3 hst3
        go_wp2
        go_roundw
        case rel => exact ⟨k + 1, by omega, by go_num, hown3.congr (by rw [List.replicate_succ']), hstr.trans hst3⟩
        case measure => simp [intOf]; omega
      · have e : (k : Int) - p = 0 := by omega
        have ek : k = p := by omega
        rw [e]
        have HE : Hid ((k : Int) - p = 0) := e
        have HK : Hid (k = p) := ek
        clear hown2 e ek
        go_wp2_with (at_builtin; refine appS _ rfl (.tmp 42) (.tmp 45) rfl B _ _ rfl hownr none 0 0 [] rfl ⟨rfl, Nat.le_refl _, fun _ => ⟨rfl, rfl⟩, fun ad h => (by cases h)⟩ (by first | omega | (simp; omega)) (by omega) ?_)
        intro v3 w3 hown3 hst3
        go_wp2_with fail
        go_ret
        exact ⟨v3, rfl, hown3.congr (by rw [HL.out, ← HK.out]; simp [sgn]), hstr.trans hst3⟩
  · go_enter Try.func19, Try.ntmps19
    go_wp2_with (at_builtin; refine app1 _ rfl (.tmp 11) (.tmp 12) rfl B v xs 45 rfl hown rfl (by omega) hB ?_)
    intro v0 w0 hown0 hst0
    have hB0 := hst0.grown.size
    go_wp2_with (at_builtin; refine app1 _ rfl (.tmp 21) (.tmp 22) rfl B v0 _ 48 rfl hown0 rfl (by first | omega | (simp; omega)) (by omega) ?_)
    intro v1 w1 hown1 hst1
    have hB1 := hst1.grown.size
    go_wp2_with (at_builtin; refine app1 _ rfl (.tmp 32) (.tmp 33) rfl B v1 _ 46 rfl hown1 rfl (by first | omega | (simp; omega)) (by omega) ?_)
    intro v2 w2 hown2 hst2
    obtain ⟨L, hL, hown2⟩ : ∃ L : List Int, L = xs ++ (sgn true ++ ([48] ++ [46])) ∧ Has w2 B v2 L := ⟨_, rfl, hown2.congr (by simp [sgn])⟩
    have hLl : L.length ≤ 10485763 + 0 := by rw [hL]; simp [sgn]; omega
    have HL : Hid (L = xs ++ (sgn true ++ ([48] ++ [46]))) := hL
    have hst : Step w v w2 v2 := (hst0.trans hst1).trans hst2
    have hB2 := hst.grown.size
    clear hL hst1 hst2 hown1 hown0
    go_wp2_with fail
    go_loopw [0, 9] (fun u i wr => ∃ k : Nat, k ≤ p ∧ i = .int .i64 ((k : Int) - p) ∧ Has wr B u (L ++ List.replicate k 48) ∧ Step w v wr u) (fun _ i _ => (-(intOf i)).toNat)
    case atStart => exact ⟨0, Nat.zero_le _, by go_num, hown2.congr (by simp), hst⟩
    case round =>
      obtain ⟨k, hk', rfl, hownr, hstr⟩ := hrel
      have hBr := hstr.grown.size
      by_cases hlt : k < p
      · have hneg : (k : Int) - p < 0 := by omega
        clear hown2
        go_wp2_with (at_builtin; refine app1 _ rfl (.tmp 39) (.tmp 40) rfl B _ _ 48 rfl hownr rfl (by first | omega | (simp; omega)) (by omega) ?_)
        intro v3 w3 hown3 hst3
        go_wp2
        go_roundw
        case rel => exact ⟨k + 1, by omega, by go_num, hown3.congr (by rw [List.replicate_succ']), hstr.trans hst3⟩
        case measure => simp [intOf]; omega
      · have e : (k : Int) - p = 0 := by omega
        have ek : k = p := by omega
        rw [e]
        have HE : Hid ((k : Int) - p = 0) := e
        have HK : Hid (k = p) := ek
        clear hown2 e ek
        go_wp2_with (at_builtin; refine appS _ rfl (.tmp 42) (.tmp 45) rfl B _ _ rfl hownr none 0 0 [] rfl ⟨rfl, Nat.le_refl _, fun _ => ⟨rfl, rfl⟩, fun ad h => (by cases h)⟩ (by first | omega | (simp; omega)) (by omega) ?_)
        intro v3 w3 hown3 hst3
        go_wp2_with fail
        go_ret
        exact ⟨v3, rfl, hown3.congr (by rw [HL.out, ← HK.out]; simp [sgn]), hstr.trans hst3⟩

/-- 0 < n, p = 0 -/
theorem fixed_C (B : Nat) (v : Value) (xs : List Int) (g n c : Nat) (ds : List Int) (w : World) (neg : Bool)
    (hown : Has w B v xs) (hB : B ≤ w.heap.size) (hk : xs.length ≤ 10485760) (hn : 0 < n) (hn2 : n ≤ 1048576) (hds : Rd w (some ⟨g, 0, none⟩) n c (ds.map (.int .u8))) (hg : v.ownBlock ≠ some g) :
    Calls Try.prog 19 #[v, .bool neg, .slice (some ⟨g, 0, none⟩) n c, .int .i32 0] w fun e w' => ∃ v', e = .returned v' ∧ Has w' B v' (xs ++ (sgn neg ++ ds)) ∧ Step w v w' v' := by
  have hnc := hds.le
  cases neg
  · go_enter Try.func19, Try.ntmps19
    have hrd := hds.step (Step.refl w v) (fun ad had => by cases had; exact fun e => hg e.symm)
    go_wp2_with (at_builtin; refine appS _ rfl (.tmp 24) (.tmp 27) rfl B v _ rfl hown _ n c ds rfl hrd (by first | omega | (simp; omega)) (by omega) ?_)
    intro v1 w1 hown1 hst1
    go_wp2_with fail
    go_ret
    exact ⟨v1, rfl, hown1.congr (by simp [sgn]), (Step.refl w v).trans hst1⟩
  · go_enter Try.func19, Try.ntmps19
    go_wp2_with (at_builtin; refine app1 _ rfl (.tmp 11) (.tmp 12) rfl B v xs 45 rfl hown rfl (by omega) hB ?_)
    intro v0 w0 hown0 hst0
    have hB0 := hst0.grown.size
    have hrd := hds.step hst0 (fun ad had => by cases had; exact fun e => hg e.symm)
    go_wp2_with (at_builtin; refine appS _ rfl (.tmp 24) (.tmp 27) rfl B v0 _ rfl hown0 _ n c ds rfl hrd (by first | omega | (simp; omega)) (by omega) ?_)
    intro v1 w1 hown1 hst1
    go_wp2_with fail
    go_ret
    exact ⟨v1, rfl, hown1.congr (by simp [sgn]), hst0.trans hst1⟩

theorem Rd.take {w : World} {ad : Addr} {n c : Nat} {xs : List Int} (h : Rd w (some ad) n c (xs.map (.int .u8))) (k : Nat) (hk : k ≤ n) : Rd w (some ad) k c ((xs.take k).map (.int .u8)) := by
  have h1 := h.len
  have h2 := h.le
  simp at h1
  refine ⟨by simp; omega, by omega, fun h => (by cases h), fun ad' had j u hu => h.cell ad' had j u ?_⟩
  rw [List.map_take, List.getElem?_take] at hu
  split at hu
  · exact hu
  · cases hu
theorem Rd.drop {w : World} {g n c : Nat} {xs : List Int} (h : Rd w (some ⟨g, 0, none⟩) n c (xs.map (.int .u8))) (k : Nat) (hk : k < n) : Rd w (some ⟨g, k, none⟩) (n - k) (c - k) ((xs.drop k).map (.int .u8)) := by
  have h1 := h.len
  have h2 := h.le
  simp at h1
  refine ⟨by simp; omega, by omega, fun h => (by cases h), fun ad' had j u hu => ?_⟩
  cases had
  have := h.cell _ rfl (k + j) u (by simpa [List.map_drop] using hu)
  simpa [Addr.add_lit] using this

/-- p < n, 0 < p -/
theorem fixed_D (B : Nat) (v : Value) (xs : List Int) (g n c p : Nat) (ds : List Int) (w : World) (neg : Bool)
    (hown : Has w B v xs) (hB : B ≤ w.heap.size) (hk : xs.length ≤ 10485760) (hp : 0 < p) (hp2 : p ≤ 65536) (hn : p < n) (hn2 : n ≤ 1048576) (hds : Rd w (some ⟨g, 0, none⟩) n c (ds.map (.int .u8))) (hg : v.ownBlock ≠ some g) :
    Calls Try.prog 19 #[v, .bool neg, .slice (some ⟨g, 0, none⟩) n c, .int .i32 p] w fun e w' => ∃ v', e = .returned v' ∧ Has w' B v' (xs ++ (sgn neg ++ (ds.take (n - p) ++ ([46] ++ ds.drop (n - p))))) ∧ Step w v w' v' := by
  have hnc := hds.le
  cases neg
  · go_enter Try.func19, Try.ntmps19
    have hrd := (hds.take (n - p) (by omega)).step (Step.refl w v) (fun ad had => by cases had; exact fun e => hg e.symm)
    go_wp2_with (at_builtin; refine appS _ rfl (.tmp 24) (.tmp 27) rfl B v _ rfl hown _ (n - p) c (ds.take (n - p)) rfl hrd (by first | omega | (simp; omega)) (by omega) ?_)
    intro v1 w1 hown1 hst1
    have hB1 := hst1.grown.size
    have hl1 : (ds.take (n - p)).length ≤ n := by simp; omega
    go_wp2_with (at_builtin; refine app1 _ rfl (.tmp 32) (.tmp 33) rfl B v1 _ 46 rfl hown1 rfl (by first | omega | (simp at hl1; simp; omega)) (by omega) ?_)
    intro v2 w2 hown2 hst2
    have hB2 := hst2.grown.size
    have hst := ((Step.refl w v).trans hst1).trans hst2
    have hrd2 := (hds.drop (n - p) (by omega)).step hst (fun ad had => by cases had; exact fun e => hg e.symm)
    go_wp2_with fail
    go_loopw [0, 9] (fun u i wr => u = v2 ∧ i = .int .i64 ((n : Int) - p) ∧ wr = w2) (fun _ _ _ => 0)
    case atStart => exact ⟨rfl, rfl, rfl⟩
    case round =>
      obtain ⟨rfl, rfl, rfl⟩ := hrel
      go_wp2_with (at_builtin; refine appS _ rfl (.tmp 42) (.tmp 45) rfl B _ _ rfl hown2 _ _ _ (ds.drop (n - p)) rfl hrd2 (by simp at hl1; simp; omega) (by omega) ?_)
      intro v3 w3 hown3 hst3
      go_wp2_with fail
      go_ret
      exact ⟨v3, rfl, hown3.congr (by simp [sgn]), hst.trans hst3⟩
  · go_enter Try.func19, Try.ntmps19
    go_wp2_with (at_builtin; refine app1 _ rfl (.tmp 11) (.tmp 12) rfl B v xs 45 rfl hown rfl (by omega) hB ?_)
    intro v0 w0 hown0 hst0
    have hB0 := hst0.grown.size
    have hrd := (hds.take (n - p) (by omega)).step hst0 (fun ad had => by cases had; exact fun e => hg e.symm)
    go_wp2_with (at_builtin; refine appS _ rfl (.tmp 24) (.tmp 27) rfl B v0 _ rfl hown0 _ (n - p) c (ds.take (n - p)) rfl hrd (by first | omega | (simp; omega)) (by omega) ?_)
    intro v1 w1 hown1 hst1
    have hB1 := hst1.grown.size
    have hl1 : (ds.take (n - p)).length ≤ n := by simp; omega
    go_wp2_with (at_builtin; refine app1 _ rfl (.tmp 32) (.tmp 33) rfl B v1 _ 46 rfl hown1 rfl (by first | omega | (simp at hl1; simp; omega)) (by omega) ?_)
    intro v2 w2 hown2 hst2
    have hB2 := hst2.grown.size
    have hst := (hst0.trans hst1).trans hst2
    have hrd2 := (hds.drop (n - p) (by omega)).step hst (fun ad had => by cases had; exact fun e => hg e.symm)
    go_wp2_with fail
    go_loopw [0, 9] (fun u i wr => u = v2 ∧ i = .int .i64 ((n : Int) - p) ∧ wr = w2) (fun _ _ _ => 0)
    case atStart => exact ⟨rfl, rfl, rfl⟩
    case round =>
      obtain ⟨rfl, rfl, rfl⟩ := hrel
      go_wp2_with (at_builtin; refine appS _ rfl (.tmp 42) (.tmp 45) rfl B _ _ rfl hown2 _ _ _ (ds.drop (n - p)) rfl hrd2 (by simp at hl1; simp; omega) (by omega) ?_)
      intro v3 w3 hown3 hst3
      go_wp2_with fail
      go_ret
      exact ⟨v3, rfl, hown3.congr (by simp [sgn]), hst.trans hst3⟩

/-- whatever digits, whatever places -/
theorem fixed_any (B : Nat) (v : Value) (xs : List Int) (ao : Option Addr) (n c p : Nat) (ds : List Int) (w : World) (neg : Bool)
    (hown : Has w B v xs) (hB : B ≤ w.heap.size) (hk : xs.length ≤ 10485760) (hp2 : p ≤ 65536) (hn2 : n ≤ 1048576) (hds : Rd w ao n c (ds.map (.int .u8)))
    (hao : ∀ ad, ao = some ad → ad = ⟨ad.block, 0, none⟩ ∧ v.ownBlock ≠ some ad.block) :
    Calls Try.prog 19 #[v, .bool neg, .slice ao n c, .int .i32 p] w fun e w' => ∃ v', e = .returned v' ∧ Has w' B v' (xs ++ fixed neg ds p) ∧ Step w v w' v' := by
  have hl : ds.length = n := by simpa using hds.len
  have fin : ∀ L : List Int, L = fixed neg ds p → ∀ (e : Ending) (w' : World), (∃ v', e = .returned v' ∧ Has w' B v' (xs ++ L) ∧ Step w v w' v') → ∃ v', e = .returned v' ∧ Has w' B v' (xs ++ fixed neg ds p) ∧ Step w v w' v' := by
    intro L hL e w' h
    rw [hL] at h; exact h
  by_cases hp : p = 0
  · subst hp
    by_cases hn : n = 0
    · subst hn
      have hd : ds = [] := List.eq_nil_of_length_eq_zero hl
      refine (fixed_A B v xs ao c w neg hown hB hk).mono fun e w' h => fin _ ?_ e w' h
      simp [hd, fixed, whole, frac]
    · cases ao with
      | none => have := (hds.nil rfl).1; omega
      | some ad =>
        obtain ⟨had, hg⟩ := hao ad rfl
        rw [had] at hds ⊢
        refine (fixed_C B v xs ad.block n c ds w neg hown hB hk (by omega) hn2 hds hg).mono fun e w' h => fin _ ?_ e w' h
        simp only [fixed, whole, frac]
        rw [if_neg (by omega)]; simp
  · by_cases hn : n ≤ p
    · cases ao with
      | none =>
        obtain ⟨rfl, rfl⟩ := hds.nil rfl
        have hd : ds = [] := List.eq_nil_of_length_eq_zero hl
        refine (fixed_Bn B v xs p w neg hown hB hk (by omega) hp2).mono fun e w' h => fin _ ?_ e w' h
        simp only [fixed, whole, frac, hd]
        rw [if_pos (by simp), if_neg hp]; simp
      | some ad =>
        obtain ⟨had, hg⟩ := hao ad rfl
        rw [had] at hds ⊢
        refine (fixed_B B v xs ad.block n c p ds w neg hown hB hk (by omega) hp2 hn hds hg).mono fun e w' h => fin _ ?_ e w' h
        simp only [fixed, whole, frac]
        rw [if_pos (by omega), if_neg hp, hl, show n - p = 0 by omega]; simp
    · cases ao with
      | none => have := (hds.nil rfl).1; omega
      | some ad =>
        obtain ⟨had, hg⟩ := hao ad rfl
        rw [had] at hds ⊢
        refine (fixed_D B v xs ad.block n c p ds w neg hown hB hk (by omega) hp2 (by omega) hn2 hds hg).mono fun e w' h => fin _ ?_ e w' h
        simp only [fixed, whole, frac]
        rw [if_neg (by omega), if_neg hp, hl, show p - n = 0 by omega]; simp

/-- the shim -/
theorem zzfixed_any (B : Nat) (v : Value) (xs : List Int) (ao : Option Addr) (n c p : Nat) (ds : List Int) (w : World) (neg : Bool)
    (hown : Has w B v xs) (hB : B ≤ w.heap.size) (hk : xs.length ≤ 10485760) (hp2 : p ≤ 65536) (hn2 : n ≤ 1048576) (hds : Rd w ao n c (ds.map (.int .u8)))
    (hao : ∀ ad, ao = some ad → ad = ⟨ad.block, 0, none⟩ ∧ v.ownBlock ≠ some ad.block) :
    Calls Try.prog 11 #[v, .bool neg, .slice ao n c, .int .i32 p] w fun e w' => ∃ v', e = .returned v' ∧ Has w' B v' (xs ++ fixed neg ds p) ∧ Step w v w' v' := by
  go_enter Try.func11, Try.ntmps11
  go_wp2_with fail
  refine (fixed_any B v xs ao n c p ds w neg hown hB hk hp2 hn2 hds hao).mono ?_
  rintro e w' ⟨v', rfl, h1, h2⟩
  go_wp2_with fail
  go_ret
  exact ⟨v', rfl, h1, h2⟩
end Go.Proofs.Qxb6602194a.Own
