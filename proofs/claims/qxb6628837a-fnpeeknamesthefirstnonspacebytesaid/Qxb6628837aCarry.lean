/- What is carried from call to call in the two laws. -/
import Derived.Test.Qxb6628837aTests
namespace Go.Proofs.Qxb6628837a
open Go.RowKit

/-- A slice of bytes that is read: nil, or cells from x on. -/
def Seg (w : World) (a : Option Addr) (zs : List Int) : Prop :=
  (a = none ∧ zs = []) ∨ ∃ x, a = some x ∧ ∀ i, i < zs.length → w.cell? (x.add i) = some (.int .u8 (zs.getD i 0))

theorem Seg.block_lt {w : World} {x : Addr} {zs : List Int} (h : ∀ i, i < zs.length → w.cell? (x.add i) = some (.int .u8 (zs.getD i 0))) {i : Nat} (hi : i < zs.length) : (x.add i).block < w.heap.size :=
  World.block_lt_of_cell? w _ (h i hi)
theorem Seg.below {w w' : World} {a : Option Addr} {zs : List Int} (h : Seg w a zs) (hb : Below w.heap.size w w') : Seg w' a zs := by
  rcases h with h | ⟨x, hx, hc⟩
  · exact .inl h
  · exact .inr ⟨x, hx, fun i hi => by rw [hb.cell (Seg.block_lt hc hi)]; exact hc i hi⟩

theorem Own.below {w w' : World} {B : Nat} {a : Option Addr} {zs : List Int} (h : Own w B a zs) (hb : Below w.heap.size w w') : Own w' B a zs := by
  rcases h with h | ⟨g, hg, hB, hlt, ht⟩
  · exact .inl h
  · exact .inr ⟨g, hg, hB, Nat.lt_of_lt_of_le hlt hb.size, fun i hi => by rw [hb.cell (p := ⟨g, i, none⟩) hlt]; exact ht i hi⟩
theorem Own.lower {w : World} {B B' : Nat} {a : Option Addr} {zs : List Int} (h : Own w B a zs) (hB : B' ≤ B) : Own w B' a zs := by
  rcases h with h | ⟨g, hg, hb, r⟩
  · exact .inl h
  · exact .inr ⟨g, hg, Nat.le_trans hB hb, r⟩
theorem Own.drewN {w : World} {B : Nat} {a : Option Addr} {zs : List Int} (h : Own w B a zs) (n : Nat) : Own (w.drewN n) B a zs := h
theorem Own.seg {w : World} {B : Nat} {a : Option Addr} {zs : List Int} (h : Own w B a zs) : Seg w a zs := by
  rcases h with h | ⟨g, hg, hB, hlt, ht⟩
  · exact .inl h
  · refine .inr ⟨_, hg, fun i hi => ?_⟩
    have : (⟨g, 0, none⟩ : Addr).add i = ⟨g, i, none⟩ := by
      unfold Addr.add; split
      · subst i; rfl
      · simp
    rw [this]; exact ht i hi
/-- A decoder that is made later lies in another block. -/
theorem Own.ne {w : World} {B : Nat} {a : Option Addr} {zs : List Int} (h : Own w B a zs) {d : Nat} (hd : w.heap.size ≤ d) : ∀ g, a = some ⟨g, 0, none⟩ → ¬ (g = d) := by
  intro g hg
  rcases h with ⟨h, _⟩ | ⟨g', hg', _, hlt, _⟩
  · rw [h] at hg; cases hg
  · rw [hg'] at hg
    simp at hg
    omega

theorem clone_any (a : Option Addr) (zs : List Int) (c : Nat) (w : World) (hl : zs.length ≤ 1048576) (hs : Seg w a zs) (hc : a = none → c = 0) :
    Calls Try.prog 6 #[.slice a zs.length c] w fun e w' => ∃ a', e = .returned (.slice a' zs.length zs.length) ∧ a'.isNone = a.isNone ∧ Own w' w.heap.size a' zs ∧ Below w.heap.size w w' := by
  rcases hs with ⟨rfl, rfl⟩ | ⟨x, rfl, hx⟩
  · obtain rfl := hc rfl
    refine (clone_nil w).mono ?_
    rintro e w1 ⟨rfl, rfl⟩
    exact ⟨none, rfl, rfl, .inl ⟨rfl, rfl⟩, Below.refl _ _⟩
  · refine (clone_some x zs c w hl hx).mono ?_
    rintro e w1 ⟨rfl, hcl⟩
    exact ⟨_, rfl, rfl, .inr ⟨_, rfl, Nat.le_refl _, by rw [hcl.size]; omega, hcl.done⟩, hcl.below⟩

/-! ### The parts of a slice -/
/-- Where 's[p:]' begins. -/
def fromA (a : Option Addr) (n p : Nat) : Option Addr := if n = p then a else a.map (·.add p)
theorem slice_from (a : Option Addr) (n p : Nat) (hp : p ≤ n) (w : World) : (Instr.slice 22 (.slice a n n) (some (.int .i64 p)) none none).run Try.prog w = .ok (.slice (fromA a n p) (n - p) (n - p)) w := by
  have h := run_slice_l (P := Try.prog) w 22 a n n (by kernel_rfl) .i64 p (by omega) (by omega)
  rw [h]
  have e : Try.prog.elem 22 = 5 := by kernel_rfl
  have s : (sizeOf 5).run Try.prog w = .ok 1 w := by kernel_rfl
  rw [e, s]
  simp [Result.andThen, sliced, fromA]
theorem slice_to (a : Option Addr) (n q : Nat) (hq : q ≤ n) (w : World) : (Instr.slice 22 (.slice a n n) none (some (.int .i64 q)) none).run Try.prog w = .ok (.slice a q n) w := by
  have h := run_slice_h (P := Try.prog) w 22 a n n (by kernel_rfl) .i64 q (by omega) (by omega)
  rw [h]
  have e : Try.prog.elem 22 = 5 := by kernel_rfl
  have s : (sizeOf 5).run Try.prog w = .ok 1 w := by kernel_rfl
  rw [e, s]
  cases a <;> simp [Result.andThen, sliced, Addr.add]

theorem Seg.rest {w : World} {a : Option Addr} {zs : List Int} (h : Seg w a zs) (p : Nat) (hp : p ≤ zs.length) : Seg w (fromA a zs.length p) (zs.drop p) := by
  unfold fromA
  rcases h with ⟨rfl, rfl⟩ | ⟨x, rfl, hc⟩
  · simp [Seg]
  · by_cases e : zs.length = p
    · rw [if_pos e]
      exact .inr ⟨x, rfl, fun i hi => by simp at hi; omega⟩
    · rw [if_neg e]
      refine .inr ⟨x.add p, rfl, fun i hi => ?_⟩
      simp at hi
      have := hc (p + i) (by omega)
      have ea : (x.add p).add i = x.add (p + i) := by
        unfold Addr.add
        by_cases h0 : p = 0
        · subst h0; simp
        · by_cases h1 : i = 0
          · subst h1; simp
          · simp [h0, h1]; omega
      rw [ea, this]
      simp
theorem Seg.head {w : World} {a : Option Addr} {zs : List Int} (h : Seg w a zs) (q : Nat) : Seg w a (zs.take q) := by
  rcases h with ⟨rfl, rfl⟩ | ⟨x, rfl, hc⟩
  · exact .inl ⟨rfl, by simp⟩
  · refine .inr ⟨x, rfl, fun i hi => ?_⟩
    simp at hi
    rw [hc i (by omega)]
    have hq : i < q := by omega
    simp [hq]

/-! ### The plain laws -/
theorem IsFirst.unique {zs : List Int} {p q q' : Nat} (h : IsFirst zs p q) (h' : IsFirst zs p q') : q = q' := by
  have key : ∀ {q q' : Nat}, IsFirst zs p q → IsFirst zs p q' → ¬ q < q' := by
    intro q q' h h' hlt
    have h1 := h.stop (Nat.lt_of_lt_of_le hlt h'.hi)
    have h2 := h'.all q h.lo hlt
    rw [h1] at h2; cases h2
  have := key h h'
  have := key h' h
  omega
theorem getD_drop (zs : List Int) (p i : Nat) : (zs.drop p).getD i 0 = zs.getD (p + i) 0 := by simp
theorem getD_take (zs : List Int) (m i : Nat) (h : i < m) : (zs.take m).getD i 0 = zs.getD i 0 := by simp [h]
theorem IsFirst.of_drop {zs : List Int} {p q : Nat} (hp : p ≤ zs.length) (h : IsFirst (zs.drop p) 0 q) : IsFirst zs p (p + q) := by
  have hi := h.hi
  simp at hi
  refine ⟨by omega, by omega, fun i h1 h2 => ?_, fun hlt => ?_⟩
  · have := h.all (i - p) (by omega) (by omega)
    rw [getD_drop, show p + (i - p) = i by omega] at this
    exact this
  · have := h.stop (by simp; omega)
    rw [getD_drop] at this
    exact this
theorem IsFirst.to_take {zs : List Int} {p q : Nat} (h : IsFirst zs p q) (hq : q < zs.length) : IsFirst (zs.take (q + 1)) p q := by
  have hlo := h.lo
  refine ⟨hlo, by simp; omega, fun i h1 h2 => ?_, fun _ => ?_⟩
  · rw [getD_take _ _ _ (by omega)]; exact h.all i h1 h2
  · rw [getD_take _ _ _ (by omega)]; exact h.stop hq
theorem kindAt_drop (zs : List Int) (p q : Nat) : kindAt (zs.drop p) q = kindAt zs (p + q) := by
  unfold kindAt
  rw [getD_drop]
  by_cases h : p + q < zs.length
  · rw [if_pos h, if_pos (by simp; omega)]
  · rw [if_neg h, if_neg (by simp; omega)]
theorem kindAt_take (zs : List Int) (q : Nat) (h : q < zs.length) : kindAt (zs.take (q + 1)) q = kindAt zs q := by
  unfold kindAt
  rw [getD_take _ _ _ (by omega), if_pos h, if_pos (by simp; omega)]
end Go.Proofs.Qxb6628837a
