/- The plain law of 'matches': lists alone, no Go in sight. -/
import Derived.Test.Qxb6628907aMatch
namespace Go.Proofs.Qxb6628907a

theorem mt_refl (p : List UInt8) : Mt p p := .inr (.inl rfl)
theorem mt_any (p : List UInt8) : Mt [42] p := .inl rfl

/-- A pattern with a wildcard matches what its base and dot begin. -/
theorem wild_iff (b t : List UInt8) : Mt (b ++ [46, 42]) t ↔ b ++ [46] <+: t := by
  have e : (b ++ ([46, 42] : List UInt8)).dropLast = b ++ [46] := by
    rw [List.dropLast_append_of_ne_nil (by simp)]; rfl
  constructor
  · rintro (h | h | h)
    · have := congrArg List.length h
      simp at this
    · rw [← h, ← e]; exact List.dropLast_prefix _
    · rw [← e]; exact h.2
  · intro h
    exact .inr (.inr ⟨List.suffix_append _ _, by rw [e]; exact h⟩)
/-- The ways to match. -/
theorem mt_cases {p t : List UInt8} (h : Mt p t) : p = [42] ∨ p = t ∨ ∃ b, p = b ++ [46, 42] ∧ b ++ [46] <+: t := by
  rcases h with h | h | ⟨⟨b, hb⟩, h⟩
  · exact .inl h
  · exact .inr (.inl h)
  · subst hb
    exact .inr (.inr ⟨b, rfl, (wild_iff b t).1 (.inr (.inr ⟨List.suffix_append _ _, h⟩))⟩)

theorem not_any {b : List UInt8} : ¬ (b ++ [46] <+: [42]) := by
  intro h
  have hl := h.length_le
  simp at hl
  subst hl
  revert h
  decide
/-- A base and its dot that begin another wildcard's text begin its base and dot. -/
theorem dot_of_wild {b c : List UInt8} (h : b ++ [46] <+: c ++ [46, 42]) : b ++ [46] <+: c ++ [46] := by
  have hl := h.length_le
  simp at hl
  have h2 : c ++ [46] <+: c ++ ([46, 42] : List UInt8) := (List.prefix_append_right_inj c).2 ⟨[42], rfl⟩
  rcases Nat.lt_or_ge c.length b.length with hlt | hge
  · exfalso
    have e : b ++ [46] = c ++ ([46, 42] : List UInt8) := h.eq_of_length (by simp; omega)
    have e2 : b ++ [46] = (c ++ [46]) ++ [(42 : UInt8)] := by rw [e]; simp
    have := (List.append_inj' e2 rfl).2
    simp at this
  · exact List.prefix_of_prefix_length_le h h2 (by simp; omega)

theorem mt_trans {p q t : List UInt8} (h1 : Mt p q) (h2 : Mt q t) : Mt p t := by
  rcases mt_cases h1 with rfl | rfl | ⟨b, rfl, hb⟩
  · exact mt_any t
  · exact h2
  · rw [wild_iff]
    rcases mt_cases h2 with rfl | rfl | ⟨c, rfl, hc⟩
    · exact absurd hb not_any
    · exact hb
    · exact (dot_of_wild hb).trans hc
theorem mt_anti {p q : List UInt8} (h1 : Mt p q) (h2 : Mt q p) : p = q := by
  rcases mt_cases h1 with rfl | rfl | ⟨b, rfl, hb⟩
  · rcases mt_cases h2 with rfl | rfl | ⟨c, rfl, hc⟩
    · rfl
    · rfl
    · exact absurd hc not_any
  · rfl
  · rcases mt_cases h2 with rfl | h | ⟨c, rfl, hc⟩
    · exact absurd hb not_any
    · exact h.symm
    · have e1 := dot_of_wild hb
      have e2 := dot_of_wild hc
      have e : b ++ [46] = c ++ [(46 : UInt8)] := e1.eq_of_length (Nat.le_antisymm e1.length_le e2.length_le)
      rw [(List.append_inj' e rfl).1]

/-- s opens with a dot. -/
def dotted (s : List UInt8) : Bool := match s with | c :: _ => c == 46 | [] => false
theorem dotted_iff (s : List UInt8) : dotted s = true ↔ [46] <+: s := by
  cases s with
  | nil => simp [dotted]
  | cons c t =>
    show (c == 46) = true ↔ _
    rw [List.cons_prefix_cons]
    constructor
    · intro h; exact ⟨(by simpa using h : c = 46).symm, List.nil_prefix⟩
    · intro h; rw [← h.1]; rfl

theorem child (b s : List UInt8) : Mt (b ++ [46, 42]) (b ++ s) ↔ dotted s = true := by
  rw [wild_iff, dotted_iff]
  exact List.prefix_append_right_inj b
theorem longer {b t : List UInt8} (s : List UInt8) (h : Mt (b ++ [46, 42]) t) : Mt (b ++ [46, 42]) (t ++ s) := by
  rw [wild_iff] at h ⊢
  exact h.trans (List.prefix_append t s)
theorem narrower {b s t : List UInt8} (hs : dotted s = true ∨ s = []) (h : Mt (b ++ s ++ [46, 42]) t) : Mt (b ++ [46, 42]) t := by
  rw [wild_iff] at h ⊢
  refine List.IsPrefix.trans ?_ h
  rw [List.append_assoc]
  refine (List.prefix_append_right_inj b).2 ?_
  rcases hs with hs | rfl
  · exact ((dotted_iff s).1 hs).trans (List.prefix_append s _)
  · exact List.prefix_rfl
end Go.Proofs.Qxb6628907a
