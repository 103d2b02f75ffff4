/- Plain mathematics of the digits: no Go in sight. -/
import Derived.Test.Qxb6628871aFmtFacts
namespace Go.Proofs.Qxb6628871aFmt

/-- A decimal digit. -/
def dg (c : UInt8) : Bool := decide (48 ≤ c.toNat ∧ c.toNat ≤ 57)
/-- The number that the digits write. -/
def val (l : List UInt8) : Int := l.foldl (fun v c => v * 10 + ((c.toNat : Int) - 48)) 0
/-- One to eighteen digits. -/
def num (l : List UInt8) : Bool := decide (1 ≤ l.length ∧ l.length ≤ 18) && l.all dg
/-- It opens with a minus sign. -/
def mn (l : List UInt8) : Bool := match l with | c :: _ => c == 45 | [] => false

theorem val_snoc (l : List UInt8) (c : UInt8) : val (l ++ [c]) = val l * 10 + ((c.toNat : Int) - 48) := by simp [val]
theorem val_nil : val [] = 0 := rfl
theorem take_snoc (l : List UInt8) (k : Nat) (h : k < l.length) : l.take (k + 1) = l.take k ++ [l.getD k 0] := by
  rw [List.take_succ_eq_append_getElem h]
  simp [h]
theorem val_bd_take (l : List UInt8) (h : ∀ c ∈ l, dg c = true) : ∀ k, k ≤ l.length → 0 ≤ val (l.take k) ∧ val (l.take k) < 10 ^ k := by
  intro k
  induction k with
  | zero => intro _; simp [val]
  | succ k ih =>
    intro hk
    have hc := h (l.getD k 0) (by simp [show k < l.length by omega])
    have ih' := ih (by omega)
    simp only [dg, decide_eq_true_eq] at hc
    rw [take_snoc l k (by omega), val_snoc, Int.pow_succ]
    omega
theorem val_bd (l : List UInt8) (h : ∀ c ∈ l, dg c = true) : 0 ≤ val l ∧ val l < 10 ^ l.length := by
  have := val_bd_take l h l.length (Nat.le_refl _)
  rwa [List.take_length] at this
theorem pow_le (n : Nat) (h : n ≤ 18) : (10 : Int) ^ n ≤ 1000000000000000000 := by
  have : (10 : Nat) ^ n ≤ 10 ^ 18 := Nat.pow_le_pow_right (by decide) h
  have e : ((10 ^ n : Nat) : Int) = (10 : Int) ^ n := by simp
  rw [← e]; omega
theorem val_lt (l : List UInt8) (h : ∀ c ∈ l, dg c = true) (hl : l.length ≤ 18) : 0 ≤ val l ∧ val l < 1000000000000000000 := by
  have h1 := val_bd l h
  have h2 := pow_le l.length hl
  omega

theorem val_lt17 (l : List UInt8) (h : ∀ c ∈ l, dg c = true) (hl : l.length ≤ 17) : 0 ≤ val l ∧ val l < 100000000000000000 := by
  have h1 := val_bd l h
  have : (10 : Nat) ^ l.length ≤ 10 ^ 17 := Nat.pow_le_pow_right (by decide) hl
  have e : ((10 ^ l.length : Nat) : Int) = (10 : Int) ^ l.length := by simp
  rw [← e] at h1
  omega

/-- What the loop of parsePlain has seen of l behind 'st' up to k: no point yet (d = -1), or a point at d. -/
def Inv (l : List UInt8) (st k : Nat) (c d : Int) : Prop :=
  (d = -1 ∧ (∀ j, st ≤ j → j < k → dg (l.getD j 0) = true) ∧ (k - st ≤ 18 → c = val ((l.take k).drop st))) ∨ (∃ m : Nat, d = m ∧ st ≤ m ∧ m < k ∧ dg (l.getD m 0) = false)

theorem Inv.start (l : List UInt8) (st : Nat) : Inv l st st 0 (-1) := by
  refine .inl ⟨rfl, fun j h1 h2 => by omega, fun _ => ?_⟩
  have : (l.take st).drop st = [] := List.drop_eq_nil_of_le (by simp; omega)
  rw [this]; rfl
theorem drop_take_snoc (l : List UInt8) (st k : Nat) (hs : st ≤ k) (h : k < l.length) : (l.take (k + 1)).drop st = (l.take k).drop st ++ [l.getD k 0] := by
  rw [take_snoc l k h, List.drop_append_of_le_length (by simp; omega)]
theorem mem_part {l : List UInt8} {st k : Nat} (hk : k ≤ l.length) (h : ∀ j, st ≤ j → j < k → dg (l.getD j 0) = true) : ∀ c ∈ (l.take k).drop st, dg c = true := by
  intro c hc
  obtain ⟨i, hi, rfl⟩ := List.mem_iff_getElem.1 hc
  simp at hi
  have := h (st + i) (by omega) (by omega)
  simpa [show st + i < l.length by omega] using this
/-- A digit is met: the coefficient behind it. -/
theorem Inv.digit {l : List UInt8} {st k : Nat} {c d c' : Int} (h : Inv l st k c d) (hs : st ≤ k) (hk : k < l.length) (hd : dg (l.getD k 0) = true)
    (hc : (0 ≤ c → c < 100000000000000000 → c' = c * 10 + (((l.getD k 0).toNat : Int) - 48))) : Inv l st (k + 1) c' d := by
  rcases h with ⟨rfl, hall, hv⟩ | ⟨m, hm, h1, h2, h3⟩
  · refine .inl ⟨rfl, fun j h1 h2 => ?_, fun h18 => ?_⟩
    · by_cases e : j = k
      · subst e; exact hd
      · exact hall j h1 (by omega)
    · have hc0 := hv (by omega)
      have hb := val_lt17 ((l.take k).drop st) (mem_part (Nat.le_of_lt hk) hall) (by simp; omega)
      rw [drop_take_snoc l st k hs hk, val_snoc, ← hc0]
      exact hc (by omega) (by omega)
  · exact .inr ⟨m, hm, h1, by omega, h3⟩
/-- The first point is met. -/
theorem Inv.point {l : List UInt8} {st k : Nat} {c d : Int} (_h : Inv l st k c d) (hs : st ≤ k) (hd : dg (l.getD k 0) = false) : Inv l st (k + 1) c k :=
  .inr ⟨k, rfl, hs, by omega, hd⟩

theorem num_false_of {l : List UInt8} {m : Nat} (hm : m < l.length) (h : dg (l.getD m 0) = false) : num l = false := by
  unfold num
  rw [Bool.and_eq_false_iff]
  right
  rw [List.all_eq_false]
  refine ⟨l.getD m 0, ?_, by rw [h]; exact Bool.false_ne_true⟩
  simp [hm]
theorem num_true_of {l : List UInt8} (h1 : 1 ≤ l.length) (h2 : l.length ≤ 18) (h : ∀ j, j < l.length → dg (l.getD j 0) = true) : num l = true := by
  unfold num
  rw [Bool.and_eq_true]
  refine ⟨by simp; omega, ?_⟩
  rw [List.all_eq_true]
  intro c hc
  obtain ⟨i, hi, rfl⟩ := List.mem_iff_getElem.1 hc
  simpa [hi] using h i hi
theorem num_false_len {l : List UInt8} (h : l.length = 0 ∨ 18 < l.length) : num l = false := by
  unfold num
  rw [Bool.and_eq_false_iff]
  left
  simp; omega
theorem num_parts {l : List UInt8} (h : num l = true) : 1 ≤ l.length ∧ l.length ≤ 18 ∧ ∀ c ∈ l, dg c = true := by
  unfold num at h
  simp at h
  exact ⟨h.1.1, h.1.2, h.2⟩
theorem mn_num {l : List UInt8} (h : mn l = true) : num l = false ∧ 1 ≤ l.length := by
  cases l with
  | nil => simp [mn] at h
  | cons c t =>
    simp [mn] at h
    subst h
    exact ⟨num_false_of (m := 0) (by simp) (by rw [List.getD_cons_zero]; decide), by simp⟩
end Go.Proofs.Qxb6628871aFmt
