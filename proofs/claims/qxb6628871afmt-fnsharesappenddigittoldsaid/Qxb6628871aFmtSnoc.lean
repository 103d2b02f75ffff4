/- One byte more: what Shares accepts then. Plain mathematics. -/
import Derived.Test.Qxb6628871aFmtExact
namespace Go.Proofs.Qxb6628871aFmt

theorem okB_parts {l : List UInt8} (h : okB l = true) : num l = true ∧ 0 < val l := by
  unfold okB at h
  rw [Bool.and_eq_true] at h
  exact ⟨h.1, of_decide_eq_true h.2⟩
theorem okB_of {l : List UInt8} (h1 : num l = true) (h2 : 0 < val l) : okB l = true := by simp [okB, h1, h2]

theorem num_snoc {l : List UInt8} {c : UInt8} (hl : l.length ≤ 17) (ha : ∀ x ∈ l, dg x = true) (hc : dg c = true) : num (l ++ [c]) = true := by
  unfold num
  rw [Bool.and_eq_true]
  refine ⟨by simp; omega, ?_⟩
  rw [List.all_eq_true]
  intro x hx
  rcases List.mem_append.1 hx with h | h
  · exact ha x h
  · rw [List.mem_singleton.1 h]; exact hc

theorem zeros_mem {l : List UInt8} (h : zeros l = true) : ∀ x ∈ l, x = 48 := by
  unfold zeros at h
  rw [List.all_eq_true] at h
  intro x hx
  simpa using h x hx
theorem zeros_val : ∀ {l : List UInt8}, (∀ x ∈ l, x = 48) → val l = 0 := by
  intro l
  induction l with
  | nil => intro _; rfl
  | cons c t ih =>
    intro h
    have h1 := h c (by simp)
    have h2 := ih (fun x hx => h x (by simp [hx]))
    rw [val_cons, h2, h1]
    simp
theorem val_pos : ∀ {l : List UInt8}, (∀ x ∈ l, dg x = true) → zeros l = false → 0 < val l := by
  intro l
  induction l with
  | nil => intro _ h; simp [zeros] at h
  | cons c t ih =>
    intro ha hz
    have hc := ha c (by simp)
    have ht : ∀ x ∈ t, dg x = true := fun x hx => ha x (by simp [hx])
    have hb := val_bd t ht
    have hp : (1 : Int) ≤ 10 ^ t.length := by omega
    simp only [dg, decide_eq_true_eq] at hc
    rw [val_cons]
    by_cases h48 : c = 48
    · have hz' : zeros t = false := by simpa [zeros, h48] using hz
      have := ih ht hz'
      rw [h48]
      simpa using this
    · have hne : c.toNat ≠ 48 := fun e => h48 (UInt8.toNat_inj.1 (by show c.toNat = 48; exact e))
      have : 1 * (10 : Int) ^ t.length ≤ ((c.toNat : Int) - 48) * 10 ^ t.length := Int.mul_le_mul_of_nonneg_right (by omega) (by omega)
      omega

theorem snoc_nd (l : List UInt8) {c : UInt8} (hc : dg c = false) : okB (l ++ [c]) = false :=
  okB_num (num_false_of (m := l.length) (by simp) (by simpa using hc))
theorem snoc_long {l : List UInt8} {c : UInt8} (h : 17 < l.length) : okB (l ++ [c]) = false :=
  okB_num (num_false_len (.inr (by simp; omega)))
theorem snoc_ok {l : List UInt8} {c : UInt8} (h : okB l = true) (hl : l.length ≤ 17) (hc : dg c = true) : okB (l ++ [c]) = true ∧ 0 ≤ val l ∧ val l < 100000000000000000 ∧ val (l ++ [c]) = 10 * val l + ((c.toNat : Int) - 48) := by
  obtain ⟨h1, h2⟩ := okB_parts h
  obtain ⟨_, _, ha⟩ := num_parts h1
  have hv := val_snoc l c
  have hb := val_lt17 l ha hl
  have hc' := hc
  simp only [dg, decide_eq_true_eq] at hc'
  exact ⟨okB_of (num_snoc hl ha hc) (by omega), hb.1, hb.2, by omega⟩
theorem snoc_first {l : List UInt8} {c : UInt8} (hz : zeros l = true) (hl : l.length ≤ 17) (hc : dg c = true) (h48 : c.toNat ≠ 48) : okB (l ++ [c]) = true ∧ val (l ++ [c]) = (c.toNat : Int) - 48 := by
  have hm := zeros_mem hz
  have hv := val_snoc l c
  have h0 := zeros_val hm
  have ha : ∀ x ∈ l, dg x = true := fun x hx => by rw [hm x hx]; decide
  have hc' := hc
  simp only [dg, decide_eq_true_eq] at hc'
  exact ⟨okB_of (num_snoc hl ha hc) (by omega), by omega⟩
theorem snoc_zero {l : List UInt8} {c : UInt8} (hz : zeros l = true) (h48 : c.toNat = 48) : okB (l ++ [c]) = false := by
  have hv := val_snoc l c
  have h0 := zeros_val (zeros_mem hz)
  have : ¬ 0 < val (l ++ [c]) := by omega
  simp [okB, this]
theorem snoc_bad {l : List UInt8} {c : UInt8} (h : okB l = false) (hz : zeros l = false) : okB (l ++ [c]) = false := by
  cases hn : okB (l ++ [c])
  · rfl
  · exfalso
    obtain ⟨h1, _⟩ := okB_parts hn
    obtain ⟨_, h18, ha⟩ := num_parts h1
    have hal : ∀ x ∈ l, dg x = true := fun x hx => ha x (by simp [hx])
    have hpos := val_pos hal hz
    have hne : 1 ≤ l.length := by
      cases l with
      | nil => simp [zeros] at hz
      | cons _ _ => simp
    have hnum : num l = true := by
      unfold num
      rw [Bool.and_eq_true]
      exact ⟨by simp at h18 ⊢; omega, List.all_eq_true.2 hal⟩
    rw [okB_of hnum hpos] at h
    cases h
end Go.Proofs.Qxb6628871aFmt
