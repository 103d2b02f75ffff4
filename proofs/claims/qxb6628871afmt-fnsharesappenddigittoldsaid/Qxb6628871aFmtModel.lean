/- 'sharesModel', 'allZeroDigits' and the bounds walked. -/
import Derived.Test.Qxb6628871aFmtShares
namespace Go.Proofs.Qxb6628871aFmt
open Go.RowKit Go.Extern.Stop Go.Stop Go.Extern

theorem fold_from (l : List UInt8) : ∀ v : Int, l.foldl (fun v c => v * 10 + ((c.toNat : Int) - 48)) v = v * 10 ^ l.length + val l := by
  induction l with
  | nil => intro v; simp [val]
  | cons c t ih =>
    intro v
    have e1 := ih (v * 10 + ((c.toNat : Int) - 48))
    have e2 := ih (0 * 10 + ((c.toNat : Int) - 48))
    have e3 : val (c :: t) = ((c.toNat : Int) - 48) * 10 ^ t.length + val t := by
      unfold val
      rw [List.foldl_cons, e2]
      simp [val]
    rw [List.foldl_cons, e1, e3, List.length_cons, Int.pow_succ, Int.add_mul]
    have e4 : v * 10 * 10 ^ t.length = v * (10 ^ t.length * 10) := by rw [Int.mul_assoc, Int.mul_comm 10]
    rw [e4]
    omega
theorem val_cons (c : UInt8) (t : List UInt8) : val (c :: t) = ((c.toNat : Int) - 48) * 10 ^ t.length + val t := by
  have := fold_from t (0 * 10 + ((c.toNat : Int) - 48))
  unfold val
  rw [List.foldl_cons, this]
  simp [val]

/-- What the loop of sharesModel has reckoned of the digits from r on. -/
structure Right (l : List UInt8) (r : Nat) (v p : Int) (nz : Bool) : Prop where
  hi : r ≤ l.length
  all : ∀ j, r ≤ j → j < l.length → dg (l.getD j 0) = true
  v : v = val (l.drop r)
  p : 0 < r → p = 10 ^ (l.length - r)
  nz : nz = decide (0 < val (l.drop r))

theorem Right.start (l : List UInt8) : Right l l.length 0 1 false :=
  ⟨Nat.le_refl _, fun j h1 h2 => by omega, by rw [List.drop_length]; rfl, fun _ => by simp, by rw [List.drop_length]; rfl⟩
theorem drop_cons (l : List UInt8) (r : Nat) (h : r < l.length) : l.drop r = l.getD r 0 :: l.drop (r + 1) := by
  rw [List.drop_eq_getElem_cons h]
  simp [h]
theorem mem_drop {l : List UInt8} {r : Nat} (h : ∀ j, r ≤ j → j < l.length → dg (l.getD j 0) = true) : ∀ c ∈ l.drop r, dg c = true := by
  intro c hc
  obtain ⟨i, hi, rfl⟩ := List.mem_iff_getElem.1 hc
  simp at hi
  have := h (r + i) (by omega) (by omega)
  simpa [show r + i < l.length by omega] using this

/-- The facts of one step to the left. -/
theorem Right.facts {l : List UInt8} {r : Nat} {v p : Int} {nz : Bool} (h : Right l (r + 1) v p nz) (h18 : l.length ≤ 18) (hd : dg (l.getD r 0) = true) :
    0 ≤ v ∧ 1 ≤ p ∧ p ≤ 100000000000000000 ∧ 0 ≤ (((l.getD r 0).toNat : Int) - 48) * p ∧ (((l.getD r 0).toNat : Int) - 48) * p ≤ 900000000000000000 ∧ v + (((l.getD r 0).toNat : Int) - 48) * p < 1000000000000000000 := by
  have hp := h.p (by omega)
  have hr := h.hi
  simp only [dg, decide_eq_true_eq] at hd
  have hv := val_bd (l.drop (r + 1)) (mem_drop h.all)
  rw [← h.v, List.length_drop, ← hp] at hv
  have hp17 : p ≤ 100000000000000000 := by
    rw [hp]
    have : (10 : Nat) ^ (l.length - (r + 1)) ≤ 10 ^ 17 := Nat.pow_le_pow_right (by decide) (by omega)
    have e : ((10 ^ (l.length - (r + 1)) : Nat) : Int) = (10 : Int) ^ (l.length - (r + 1)) := by simp
    rw [← e]; omega
  have hp1 : 1 ≤ p := by omega
  have hx0 : (0 : Int) ≤ ((l.getD r 0).toNat : Int) - 48 := by omega
  have hx9 : ((l.getD r 0).toNat : Int) - 48 ≤ 9 := by omega
  have m0 : 0 ≤ (((l.getD r 0).toNat : Int) - 48) * p := Int.mul_nonneg hx0 (by omega)
  have m9 : (((l.getD r 0).toNat : Int) - 48) * p ≤ 9 * p := Int.mul_le_mul_of_nonneg_right hx9 (by omega)
  exact ⟨hv.1, hp1, hp17, m0, by omega, by omega⟩
theorem Right.step {l : List UInt8} {r : Nat} {v p p' : Int} {nz nz' : Bool} (h : Right l (r + 1) v p nz) (h18 : l.length ≤ 18) (hd : dg (l.getD r 0) = true) (hp' : 0 < r → p' = p * 10) (hnz : nz' = (decide (((l.getD r 0).toNat : Int) ≠ 48) || nz)) :
    Right l r (v + (((l.getD r 0).toNat : Int) - 48) * p) p' nz' := by
  have hf := h.facts h18 hd
  have hp := h.p (by omega)
  have hr := h.hi
  have hv : v + (((l.getD r 0).toNat : Int) - 48) * p = val (l.drop r) := by
    rw [drop_cons l r (by omega), val_cons, List.length_drop, ← hp, ← h.v]; omega
  refine ⟨by omega, fun j h1 h2 => ?_, hv, fun h0 => ?_, ?_⟩
  · by_cases e : j = r
    · subst e; exact hd
    · exact h.all j (by omega) h2
  · rw [hp' h0, hp, show l.length - r = l.length - (r + 1) + 1 by omega, Int.pow_succ]
  · rw [hnz, h.nz, ← h.v, ← hv, Bool.eq_iff_iff]
    simp only [dg, decide_eq_true_eq] at hd
    simp only [Bool.or_eq_true, decide_eq_true_eq]
    constructor
    · rintro (h1 | h1)
      · have : 1 * p ≤ (((l.getD r 0).toNat : Int) - 48) * p := Int.mul_le_mul_of_nonneg_right (by omega) (by omega)
        omega
      · omega
    · intro h1
      by_cases e : ((l.getD r 0).toNat : Int) = 48
      · right
        rw [e] at h1
        simpa using h1
      · exact .inl e

/-- What sharesModel returns. -/
def modelV (l : List UInt8) : Value := .tuple #[.int .i64 (if okB l then val l else 0), .bool (okB l)]
theorem modelV_no {l : List UInt8} (h : okB l = false) : modelV l = .tuple #[.int .i64 0, .bool false] := by simp [modelV, h]
theorem modelV_yes {l : List UInt8} (h : okB l = true) : modelV l = .tuple #[.int .i64 (val l), .bool true] := by simp [modelV, h]
theorem okB_num {l : List UInt8} (h : num l = false) : okB l = false := by simp [okB, h]

theorem model_len (s : ByteArray) (w : World) (h : s.size = 0 ∨ 18 < s.size) (hs : s.size ≤ 1048577) : Calls Tryf.prog 6 #[.string s] w fun e w' => e = .returned (modelV s.data.toList) ∧ w' = w := by
  rw [modelV_no (okB_num (num_false_len (by rw [len_at]; exact h)))]
  rcases h with h | h
  · have h0 : (s.size : Int) = 0 := by omega
    go_enter Tryf.func6, Tryf.ntmps6
    go_wp2
    go_ret2
    exact ⟨rfl, rfl⟩
  · have h0 : ((s.size : Int) == 0) = false := beq_eq_false_iff_ne.2 (by omega)
    have h1 : 18 < (s.size : Int) := by omega
    go_enter Tryf.func6, Tryf.ntmps6
    go_wp2
    go_ret2
    exact ⟨rfl, rfl⟩

set_option maxHeartbeats 2000000 in
theorem model_loop (s : ByteArray) (w : World) (h1 : 1 ≤ s.size) (h18 : s.size ≤ 18) : Calls Tryf.prog 6 #[.string s] w fun e w' => e = .returned (modelV s.data.toList) ∧ w' = w := by
  have g0 : ((s.size : Int) == 0) = false := beq_eq_false_iff_ne.2 (by omega)
  have g1 : ¬ (18 < (s.size : Int)) := by omega
  go_enter Tryf.func6, Tryf.ntmps6
  go_wp2
  go_loop [4, 5, 6, 7] (fun v p nz i => ∃ (r : Nat) (vv pp : Int) (nn : Bool), i = .int .i64 ((r : Int) - 1) ∧ v = .int .i64 vv ∧ p = .int .i64 pp ∧ nz = .bool nn ∧ Right s.data.toList r vv pp nn) (fun _ _ _ i => (intOf i + 1).toNat)
  case atStart => exact ⟨s.size, 0, 1, false, rfl, rfl, rfl, rfl, by have := Right.start s.data.toList; rwa [len_at] at this⟩
  case round =>
    obtain ⟨r, vv, pp, nn, rfl, rfl, rfl, rfl, hR⟩ := hrel
    have hr := hR.hi
    rw [len_at] at hr
    cases r with
    | zero =>
      have e0 : (((0 : Nat) : Int) - 1) = -1 := by omega
      rw [e0]
      have hnz := hR.nz
      have hv := hR.v
      rw [List.drop_zero] at hnz hv
      have hnum : num s.data.toList = true := num_true_of (by rw [len_at]; omega) (by rw [len_at]; omega) (fun j hj => hR.all j (Nat.zero_le _) hj)
      have hok : okB s.data.toList = nn := by rw [hnz]; simp [okB, hnum]
      have HV := show Hid _ from hv
      have HOK := show Hid _ from hok
      clear hnz hv hnum hok hR
      cases nn
      · go_wp2
        go_ret2
        exact ⟨by rw [modelV_no HOK.out]; rfl, rfl⟩
      · go_wp2
        go_ret2
        exact ⟨by rw [modelV_yes HOK.out, ← HV.out]; rfl, rfl⟩
    | succ r =>
      have e0 : (((r + 1 : Nat) : Int) - 1) = (r : Int) := by omega
      rw [e0]
      have hlt : r < s.size := by omega
      have hi : (r : Int) < (s.size : Int) := by omega
      have hb := byte_at s r hlt
      have hx : s[r].toNat < 256 := s[r].toNat_lt
      by_cases hdig : 48 ≤ (s[r].toNat : Int) ∧ (s[r].toNat : Int) ≤ 57
      · obtain ⟨hd1, hd2⟩ := hdig
        have hdg : dg (s.data.toList.getD r 0) = true := by rw [hb]; simp [dg]; omega
        obtain ⟨f1, f2, f3, f4, f5, f6⟩ := hR.facts (by rw [len_at]; exact h18) hdg
        have hstep := fun p' nz' => hR.step (p' := p') (nz' := nz') (by rw [len_at]; exact h18) hdg
        rw [hb] at f4 f5 f6
        simp only [hb] at hstep
        have HST := show Hid _ from hstep
        clear hstep hR hdg hb
        by_cases h48 : (s[r].toNat : Int) = 48
        · have hne : ((s[r].toNat : Int) != 48) = false := by simp; omega
          have hdn : decide ((s[r].toNat : Int) ≠ 48) = false := by simp; omega
          clear h48
          by_cases hr0 : 0 < r
          · have hr1 : (0 : Int) < (r : Int) := by omega
            go_wp2
            go_round
            case rel => exact ⟨r, _, _, _, rfl, rfl, rfl, rfl, HST.out _ _ (fun _ => rfl) (by rw [hdn]; rfl)⟩
            case measure => simp [intOf]
          · have hr1 : ¬ ((0 : Int) < (r : Int)) := by omega
            go_wp2
            go_round
            case rel => exact ⟨r, _, _, _, rfl, rfl, rfl, rfl, HST.out _ _ (fun h => absurd h hr0) (by rw [hdn]; rfl)⟩
            case measure => simp [intOf]
        · have hne : ((s[r].toNat : Int) != 48) = true := by simp; omega
          have hdn : decide ((s[r].toNat : Int) ≠ 48) = true := by simp; omega
          clear h48
          by_cases hr0 : 0 < r
          · have hr1 : (0 : Int) < (r : Int) := by omega
            go_wp2
            go_round
            case rel => exact ⟨r, _, _, _, rfl, rfl, rfl, rfl, HST.out _ _ (fun _ => rfl) (by rw [hdn]; rfl)⟩
            case measure => simp [intOf]
          · have hr1 : ¬ ((0 : Int) < (r : Int)) := by omega
            go_wp2
            go_round
            case rel => exact ⟨r, _, _, _, rfl, rfl, rfl, rfl, HST.out _ _ (fun h => absurd h hr0) (by rw [hdn]; rfl)⟩
            case measure => simp [intOf]
      · have hnd : dg (s.data.toList.getD r 0) = false := by rw [hb]; simp [dg]; omega
        have hok : okB s.data.toList = false := okB_num (num_false_of (m := r) (by rw [len_at]; exact hlt) hnd)
        have HOK := show Hid _ from hok
        clear hnd hok hR hb hx
        by_cases h48 : (s[r].toNat : Int) < 48
        · clear hdig
          go_wp2
          go_ret2
          exact ⟨by rw [modelV_no HOK.out]; rfl, rfl⟩
        · have h57 : 57 < (s[r].toNat : Int) := by omega
          have h48' : 48 ≤ (s[r].toNat : Int) := by omega
          clear hdig h48
          go_wp2
          go_ret2
          exact ⟨by rw [modelV_no HOK.out]; rfl, rfl⟩

theorem model_any (s : ByteArray) (w : World) (hs : s.size ≤ 1048577) : Calls Tryf.prog 6 #[.string s] w fun e w' => e = .returned (modelV s.data.toList) ∧ w' = w := by
  by_cases h : s.size = 0 ∨ 18 < s.size
  · exact model_len s w h hs
  · exact model_loop s w (by omega) (by omega)

theorem zbE_yes (s : ByteArray) (w : World) (h : s.size ≤ 1048576) : Calls Tryf.prog 5 #[.string s] w fun e w' => e = .returned (.bool true) ∧ w' = w := by
  have h1 : (s.size : Int) ≤ 1048576 := by omega
  go_enter Tryf.func5, Tryf.ntmps5
  go_wp2
  go_ret
  exact ⟨rfl, rfl⟩
theorem zbE_no (s : ByteArray) (w : World) (h : 1048576 < s.size) : Calls Tryf.prog 5 #[.string s] w fun e w' => e = .returned (.bool false) ∧ w' = w := by
  have h1 : 1048576 < (s.size : Int) := by omega
  go_enter Tryf.func5, Tryf.ntmps5
  go_wp2
  go_ret
  exact ⟨rfl, rfl⟩
theorem zbA_yes (s : ByteArray) (d : Int) (w : World) (h : s.size ≤ 1048576) : Calls Tryf.prog 9 #[.string s, .int .u8 d] w fun e w' => e = .returned (.bool true) ∧ w' = w := by
  have h1 : (s.size : Int) ≤ 1048576 := by omega
  go_enter Tryf.func9, Tryf.ntmps9
  go_wp2
  go_ret
  exact ⟨rfl, rfl⟩
theorem zbA_no (s : ByteArray) (d : Int) (w : World) (h : 1048576 < s.size) : Calls Tryf.prog 9 #[.string s, .int .u8 d] w fun e w' => e = .returned (.bool false) ∧ w' = w := by
  have h1 : 1048576 < (s.size : Int) := by omega
  go_enter Tryf.func9, Tryf.ntmps9
  go_wp2
  go_ret
  exact ⟨rfl, rfl⟩

/-- Zeros alone. -/
def zeros (l : List UInt8) : Bool := l.all (· == 48)
set_option maxHeartbeats 1000000 in
theorem zeros_any (s : ByteArray) (w : World) (hs : s.size ≤ 1048577) : Calls Tryf.prog 10 #[.string s] w fun e w' => e = .returned (.bool (zeros s.data.toList)) ∧ w' = w := by
  go_enter Tryf.func10, Tryf.ntmps10
  go_wp2
  go_loop [3] (fun i => ∃ k : Nat, k ≤ s.size ∧ i = .int .i64 k ∧ ∀ j, j < k → s.data.toList.getD j 0 = 48) (fun i => s.size - (intOf i).toNat)
  case atStart => exact ⟨0, Nat.zero_le _, rfl, fun j h => by omega⟩
  case round =>
    obtain ⟨k, hk, rfl, hall⟩ := hrel
    by_cases hlt : k < s.size
    · have hi : (k : Int) < (s.size : Int) := by omega
      have hb := byte_at s k hlt
      by_cases h48 : s[k] = 48
      · have hne : ((s[k].toNat : Int) != 48) = false := by rw [h48]; decide
        have hn : ∀ j, j < k + 1 → s.data.toList.getD j 0 = 48 := fun j hj => by
          by_cases e : j = k
          · subst e; rw [hb]; exact h48
          · exact hall j (by omega)
        have HN := show Hid _ from hn
        clear hn hall hb h48
        go_wp2
        go_round
        case rel => exact ⟨k + 1, by omega, by go_num, HN.out⟩
        case measure => simp [intOf]; omega
      · have hne : ((s[k].toNat : Int) != 48) = true := by
          simp only [bne_iff_ne, ne_eq]
          intro e
          exact h48 (UInt8.toNat_inj.1 (by show s[k].toNat = 48; omega))
        have hz : zeros s.data.toList = false := by
          unfold zeros
          rw [List.all_eq_false]
          refine ⟨s[k], ?_, by simp [h48]⟩
          rw [← hb]
          have : k < s.data.toList.length := by rw [len_at]; exact hlt
          rw [List.getD_eq_getElem?_getD, List.getElem?_eq_getElem this]
          exact List.getElem_mem this
        have HZ := show Hid _ from hz
        clear hz hall hb h48
        go_wp2
        go_ret
        exact ⟨by rw [HZ.out]; rfl, rfl⟩
    · obtain rfl : k = s.size := by omega
      have hi : ¬ ((s.size : Int) < (s.size : Int)) := by omega
      have hz : zeros s.data.toList = true := by
        unfold zeros
        rw [List.all_eq_true]
        intro c hc
        obtain ⟨i, hi, rfl⟩ := List.mem_iff_getElem.1 hc
        have := hall i (by rw [← len_at]; exact hi)
        rw [List.getD_eq_getElem?_getD, List.getElem?_eq_getElem hi] at this
        simpa using this
      have HZ := show Hid _ from hz
      clear hz hall
      go_wp2
      go_ret
      exact ⟨by rw [HZ.out]; rfl, rfl⟩
end Go.Proofs.Qxb6628871aFmt
