/-
  The walk of AppendMarked.
-/
import Derived.Test.Qxb6602224aMark
namespace Go.Proofs.Qxb6602224a.Own
open Go.RowKit

/-- the three boxes -/
theorem st_start {w : World} {B : Nat} {off unit : Int} {v : Value} {es : List (Int × Int)} (h : Has w B v es) :
    St (((w.alloc (.cells #[v] 27)).alloc (.cells #[.int .i64 off] 2)).alloc (.cells #[.int .i64 unit] 2)) B w.heap.size off unit v es ∧
    Step w v (((w.alloc (.cells #[v] 27)).alloc (.cells #[.int .i64 off] 2)).alloc (.cells #[.int .i64 unit] 2)) v := by
  have hne : ∀ k, w.heap.size ≤ k → v.ownBlock ≠ some k := fun k hk e => by have := (h.lt e).2; omega
  refine ⟨⟨World.ownsRow.alloc (World.ownsRow.alloc (World.ownsRow.alloc h _) _) _, ?_, ?_, ?_, ?_, ⟨hne _ (by omega), hne _ (by omega), hne _ (by omega)⟩, by simp⟩, (((Step.refl w v).alloc _).alloc _).alloc _⟩
  · rw [World.cell?_alloc_past _ _ _ (by simp; omega), World.cell?_alloc_past _ _ _ (by simp), World.cell?_alloc_at _ _ _ _ rfl]; rfl
  · rw [World.frozen?_alloc_past _ _ _ (by simp; omega), World.frozen?_alloc_past _ _ _ (by simp), World.frozen?_alloc_at _ _ _ _ rfl]
  · rw [World.cell?_alloc_past _ _ _ (by simp), World.cell?_alloc_at _ _ _ _ (by simp)]; rfl
  · rw [World.cell?_alloc_at _ _ _ _ (by simp)]; rfl

section
variable {bs : List Int} {off unit : Int} {es cur : List (Int × Int)} {s k n : Nat}
/-- a whole byte is passed over -/
theorem pend_skip {q : Bool} {x : Int} (h : Pend bs off unit es cur q s (min k n)) (hk : k < n) (h8 : k % 8 = 0) (hx : bs.getD (k / 8) 0 = x) (hq : (x = 0 ∧ q = false) ∨ (x = 255 ∧ q = true)) : Pend bs off unit es cur q s (min (k + 8) n) := by
  have e1 : min k n = k := by omega
  have e2 : min (k + 8) n = k + (min (k + 8) n - k) := by omega
  rw [e1] at h
  rw [e2]
  refine pend_many h _ (fun i h1 h2 => ?_)
  refine byte_bits bs k (if q then 255 else 0) h8 q ?_ ?_ i h1 (by omega)
  · rcases hq with ⟨rfl, rfl⟩ | ⟨rfl, rfl⟩ <;> rw [hx] <;> rfl
  · rcases hq with ⟨rfl, rfl⟩ | ⟨rfl, rfl⟩ <;> simp
theorem min_lt (hk : k < n) : min k n = k ∧ min (k + 1) n = k + 1 := by omega
end

set_option maxHeartbeats 1600000 in
theorem marked_rows (B b m d n : Nat) (v : Value) (es : List (Int × Int)) (bs : List Int) (off unit : Int) (w : World) (hown : Has w B v es) (hB : B ≤ w.heap.size) (hk : es.length ≤ 1048576)
    (hbm : Rd 1 w (some ⟨b, 0, none⟩) m d (bs.map (.int .u8))) (hbv : v.ownBlock ≠ some b) (hn : n ≤ 8 * m) (hn2 : n ≤ 65536) (hm : m ≤ 1048576) (hu : wrap64 unit = unit) :
    Calls Try.prog 21 #[v, .slice (some ⟨b, 0, none⟩) m d, .int .u64 n, .int .i64 off, .int .i64 unit] w fun e w' => ∃ v', e = .returned v' ∧ Has w' B v' (bitE bs off unit es n) ∧ Step w v w' v' := by
  obtain ⟨ao, c, hv, _, _⟩ := hown.shape
  have HB : Hid (∀ k, k < m → w.cell? ⟨b, k, none⟩ = some (.int .u8 (bs.getD k 0))) := fun k hk => byte_cell hbm k hk
  have HN : Hid (v.ownBlock ≠ some b) := hbv
  have HU : Hid (wrap64 unit = unit) := hu
  have H0 : Hid (St (((w.alloc (.cells #[v] 27)).alloc (.cells #[.int .i64 off] 2)).alloc (.cells #[.int .i64 unit] 2)) B w.heap.size off unit v es ∧
    Step w v (((w.alloc (.cells #[v] 27)).alloc (.cells #[.int .i64 off] 2)).alloc (.cells #[.int .i64 unit] 2)) v) := st_start hown
  clear hown hbm hbv hu
  subst hv
  go_enter Try.func21, Try.ntmps21
  go_wp2_with fail
  go_loopw [12, 13, 14] (fun st inn i wr => ∃ (s k : Nat) (q : Bool) (cur : List (Int × Int)) (v' : Value), k ≤ n + 7 ∧ s ≤ n ∧ i = .int .u64 k ∧ st = .int .u64 s ∧ inn = .bool q ∧ cur.length ≤ es.length + k ∧ Pend bs off unit es cur q s (min k n) ∧ St wr B w.heap.size off unit v' cur ∧ Step w (.slice ao es.length c) wr v') (fun _ _ i _ => n - (intOf i).toNat)
  case atStart => exact ⟨0, 0, false, es, _, by omega, Nat.zero_le _, rfl, rfl, rfl, by omega, by simpa using pend_start, H0.out.1, H0.out.2⟩
  case round =>
    obtain ⟨s, k, q, cur, v', hk7, hsn, rfl, rfl, rfl, hcl, hp, hst, hstp⟩ := hrel
    have HP : Hid (Pend bs off unit es cur q s (min k n)) := hp
    have HT : Hid (St wr B w.heap.size off unit v' cur) := hst
    have HQ : Hid (Step w (.slice ao es.length c) wr v') := hstp
    have hsz := hstp.grown.size
    clear hp hst hstp
    by_cases hlt : k < n
    · obtain ⟨x, hx⟩ : ∃ x, bs.getD (k / 8) 0 = x := ⟨_, rfl⟩
      have cx : wr.cell? ⟨b, k / 8, none⟩ = some (.int .u8 x) := by
        rw [← hx]; exact HQ.out.cell (HB.out (k / 8) (by omega)) (fun e => HN.out e.symm)
      have hkm : k / 8 < m := by omega
      have HX : Hid (bs.getD (k / 8) 0 = x) := hx
      obtain ⟨β, hβ⟩ : ∃ β, (bits BinOp.and IntKind.u8 (x / 2 ^ (k % 8)) 1 != 0) = β := ⟨_, rfl⟩
      have HBT : Hid (bit bs k = β) := by unfold Hid bit bitB; rw [hx, hβ]
      clear hx
      cases q
      · by_cases h8 : k % 8 = 0
        · by_cases hx0 : x = 0
          · subst hx0
            clear hβ
            go_wp2
            go_roundw
            case rel => exact ⟨s, k + 8, false, cur, v', by omega, hsn, by go_num, rfl, rfl, by omega, pend_skip HP.out hlt h8 HX.out (by simp), HT.out, HQ.out⟩
            case measure => simp [intOf]; omega
          · have hβ' : (bits BinOp.and IntKind.u8 x 1 != 0) = β := by rw [h8] at hβ; simpa using hβ
            clear hβ
            by_cases hx1 : x = 255
            · subst hx1
              obtain rfl : β = true := by rw [← hβ']; decide
              clear hβ'
              go_wp2
              go_roundw
              case rel => exact ⟨k, k + 1, true, cur, v', by omega, by omega, by go_num, rfl, rfl, by omega, by rw [(min_lt hlt).2]; exact pend_open HU.out (by have := HP.out; rwa [(min_lt hlt).1] at this) HBT.out, HT.out, HQ.out⟩
              case measure => simp [intOf]; omega
            · cases β
              · go_wp2
                go_roundw
                case rel => exact ⟨s, k + 1, false, cur, v', by omega, hsn, by go_num, rfl, rfl, by omega, by rw [(min_lt hlt).2]; exact pend_off (by have := HP.out; rwa [(min_lt hlt).1] at this) HBT.out, HT.out, HQ.out⟩
                case measure => simp [intOf]; omega
              · go_wp2
                go_roundw
                case rel => exact ⟨k, k + 1, true, cur, v', by omega, by omega, by go_num, rfl, rfl, by omega, by rw [(min_lt hlt).2]; exact pend_open HU.out (by have := HP.out; rwa [(min_lt hlt).1] at this) HBT.out, HT.out, HQ.out⟩
                case measure => simp [intOf]; omega
        · cases β
          · go_wp2
            go_roundw
            case rel => exact ⟨s, k + 1, false, cur, v', by omega, hsn, by go_num, rfl, rfl, by omega, by rw [(min_lt hlt).2]; exact pend_off (by have := HP.out; rwa [(min_lt hlt).1] at this) HBT.out, HT.out, HQ.out⟩
            case measure => simp [intOf]; omega
          · go_wp2
            go_roundw
            case rel => exact ⟨k, k + 1, true, cur, v', by omega, by omega, by go_num, rfl, rfl, by omega, by rw [(min_lt hlt).2]; exact pend_open HU.out (by have := HP.out; rwa [(min_lt hlt).1] at this) HBT.out, HT.out, HQ.out⟩
            case measure => simp [intOf]; omega
      · by_cases h8 : k % 8 = 0
        · by_cases hx1 : x = 255
          · subst hx1
            clear hβ
            go_wp2
            go_roundw
            case rel => exact ⟨s, k + 8, true, cur, v', by omega, hsn, by go_num, rfl, rfl, by omega, pend_skip HP.out hlt h8 HX.out (by simp), HT.out, HQ.out⟩
            case measure => simp [intOf]; omega
          · have hβ' : (bits BinOp.and IntKind.u8 x 1 != 0) = β := by rw [h8] at hβ; simpa using hβ
            clear hβ
            by_cases hx0 : x = 0
            · subst hx0
              obtain rfl : β = false := by rw [← hβ']; decide
              clear hβ'
              have hsk : s < k := by have := HP.out; rw [(min_lt hlt).1] at this; unfold Pend at this; simp at this; exact this.1
              go_wp2_with (go_at_call 27; refine (add_any B w.heap.size off unit v' cur s k wr HT.out (by omega) (by omega) (by omega) (by omega)).mono ?_; rintro e w2 ⟨rfl, v2, hst2, hse2⟩)
              go_roundw
              case rel => exact ⟨s, k + 1, false, _, v2, by omega, hsn, by go_num, rfl, rfl, by have := appE_length cur (at_ off unit s) (len_ unit (k - s)); omega, by rw [(min_lt hlt).2]; exact pend_off (pend_shut (by have := HP.out; rwa [(min_lt hlt).1] at this)) HBT.out, hst2, HQ.out.transE hse2 (Nat.le_refl _)⟩
              case measure => simp [intOf]; omega
            · cases β
              · have hsk : s < k := by have := HP.out; rw [(min_lt hlt).1] at this; unfold Pend at this; simp at this; exact this.1
                go_wp2_with (go_at_call 27; refine (add_any B w.heap.size off unit v' cur s k wr HT.out (by omega) (by omega) (by omega) (by omega)).mono ?_; rintro e w2 ⟨rfl, v2, hst2, hse2⟩)
                go_roundw
                case rel => exact ⟨s, k + 1, false, _, v2, by omega, hsn, by go_num, rfl, rfl, by have := appE_length cur (at_ off unit s) (len_ unit (k - s)); omega, by rw [(min_lt hlt).2]; exact pend_off (pend_shut (by have := HP.out; rwa [(min_lt hlt).1] at this)) HBT.out, hst2, HQ.out.transE hse2 (Nat.le_refl _)⟩
                case measure => simp [intOf]; omega
              · go_wp2
                go_roundw
                case rel => exact ⟨s, k + 1, true, cur, v', by omega, hsn, by go_num, rfl, rfl, by omega, by rw [(min_lt hlt).2]; exact pend_on (by have := HP.out; rwa [(min_lt hlt).1] at this) HBT.out, HT.out, HQ.out⟩
                case measure => simp [intOf]; omega
        · cases β
          · have hsk : s < k := by have := HP.out; rw [(min_lt hlt).1] at this; unfold Pend at this; simp at this; exact this.1
            go_wp2_with (go_at_call 27; refine (add_any B w.heap.size off unit v' cur s k wr HT.out (by omega) (by omega) (by omega) (by omega)).mono ?_; rintro e w2 ⟨rfl, v2, hst2, hse2⟩)
            go_roundw
            case rel => exact ⟨s, k + 1, false, _, v2, by omega, hsn, by go_num, rfl, rfl, by have := appE_length cur (at_ off unit s) (len_ unit (k - s)); omega, by rw [(min_lt hlt).2]; exact pend_off (pend_shut (by have := HP.out; rwa [(min_lt hlt).1] at this)) HBT.out, hst2, HQ.out.transE hse2 (Nat.le_refl _)⟩
            case measure => simp [intOf]; omega
          · go_wp2
            go_roundw
            case rel => exact ⟨s, k + 1, true, cur, v', by omega, hsn, by go_num, rfl, rfl, by omega, by rw [(min_lt hlt).2]; exact pend_on (by have := HP.out; rwa [(min_lt hlt).1] at this) HBT.out, HT.out, HQ.out⟩
            case measure => simp [intOf]; omega
    · have hmin : min k n = n := by omega
      have hE := HT.out.ext
      cases q
      · go_wp2_with fail
        go_ret
        refine ⟨v', rfl, ?_, HQ.out⟩
        have := pend_done HP.out
        rw [hmin] at this
        rw [← this]; exact HT.out.has
      · have hsk : s < n := by have := HP.out; rw [hmin] at this; unfold Pend at this; simp at this; exact this.1
        go_wp2_with (go_at_call 27; refine (add_any B w.heap.size off unit v' cur s n wr HT.out (by omega) (by omega) (by omega) (by omega)).mono ?_; rintro e w2 ⟨rfl, v2, hst2, hse2⟩; have hE2 := hst2.ext; have HT2 := HT; have HST : Hid (St w2 B w.heap.size off unit v2 (appE cur (at_ off unit s) (len_ unit (n - s)))) := hst2; have HSE : Hid (StepE w.heap.size wr v' w2 v2) := hse2; clear hst2 hse2)
        go_ret
        refine ⟨v2, rfl, ?_, HQ.out.transE HSE.out (Nat.le_refl _)⟩
        have := HP.out
        rw [hmin] at this
        rw [← pend_done (t := 0) (pend_shut this)]; exact HST.out.has

/-- no bit at all -/
theorem marked_zero (B m d : Nat) (bo : Option Addr) (v : Value) (es : List (Int × Int)) (bs : List Int) (off unit : Int) (w : World) (hown : Has w B v es) :
    Calls Try.prog 21 #[v, .slice bo m d, .int .u64 0, .int .i64 off, .int .i64 unit] w fun e w' => ∃ v', e = .returned v' ∧ Has w' B v' (bitE bs off unit es 0) ∧ Step w v w' v' := by
  obtain ⟨ao, c, hv, _, _⟩ := hown.shape
  have H0 : Hid (St (((w.alloc (.cells #[v] 27)).alloc (.cells #[.int .i64 off] 2)).alloc (.cells #[.int .i64 unit] 2)) B w.heap.size off unit v es ∧
    Step w v (((w.alloc (.cells #[v] 27)).alloc (.cells #[.int .i64 off] 2)).alloc (.cells #[.int .i64 unit] 2)) v) := st_start hown
  clear hown
  subst hv
  go_enter Try.func21, Try.ntmps21
  go_wp2_with fail
  go_loopw [12, 13, 14] (fun st inn i wr => i = .int .u64 0 ∧ inn = .bool false ∧ wr = ((w.alloc (.cells #[.slice ao es.length c] 27)).alloc (.cells #[.int .i64 off] 2)).alloc (.cells #[.int .i64 unit] 2)) (fun _ _ _ _ => 0)
  case atStart => exact ⟨rfl, rfl, rfl⟩
  case round =>
    obtain ⟨rfl, rfl, hwr⟩ := hrel
    have hE : wr.cell? ⟨w.heap.size, 0, none⟩ = some (.slice ao es.length c) := by rw [hwr]; exact H0.out.1.ext
    have HWR : Hid (wr = ((w.alloc (.cells #[.slice ao es.length c] 27)).alloc (.cells #[.int .i64 off] 2)).alloc (.cells #[.int .i64 unit] 2)) := hwr
    clear hwr
    go_wp2_with fail
    go_ret
    exact ⟨_, rfl, by rw [HWR.out]; exact H0.out.1.has, by rw [HWR.out]; exact H0.out.2⟩

/-- AppendMarked gives what bit by bit gives -/
theorem marked_any (B m d n : Nat) (bo : Option Addr) (v : Value) (es : List (Int × Int)) (bs : List Int) (off unit : Int) (w : World) (hown : Has w B v es) (hB : B ≤ w.heap.size) (hk : es.length ≤ 1048576)
    (hbm : Rd 1 w bo m d (bs.map (.int .u8))) (hbo : ∀ ad, bo = some ad → ad = ⟨ad.block, 0, none⟩ ∧ v.ownBlock ≠ some ad.block) (hn : n ≤ 8 * m) (hn2 : n ≤ 65536) (hm : m ≤ 1048576) (hu : wrap64 unit = unit) :
    Calls Try.prog 21 #[v, .slice bo m d, .int .u64 n, .int .i64 off, .int .i64 unit] w fun e w' => ∃ v', e = .returned v' ∧ Has w' B v' (bitE bs off unit es n) ∧ Step w v w' v' := by
  by_cases hz : n = 0
  · subst hz; exact marked_zero B m d bo v es bs off unit w hown
  · cases bo with
    | none => have := (hbm.nil rfl).1; omega
    | some ad =>
      obtain ⟨had, hne⟩ := hbo ad rfl
      rw [had] at hbm ⊢
      exact marked_rows B ad.block m d n v es bs off unit w hown hB hk hbm hne hn hn2 hm hu
end Go.Proofs.Qxb6602224a.Own
