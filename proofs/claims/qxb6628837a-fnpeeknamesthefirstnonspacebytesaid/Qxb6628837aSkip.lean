/- 'skipSpace' walked. -/
import Derived.Test.Qxb6628837aClone
import Derived.Deep.LoopGhost
namespace Go.Proofs.Qxb6628837a
open Go.RowKit

/-- A slice of bytes of the law's own making: nil, or the whole of block g. -/
def Own (w : World) (B : Nat) (a : Option Addr) (zs : List Int) : Prop :=
  (a = none ∧ zs = []) ∨ ∃ g, a = some ⟨g, 0, none⟩ ∧ B ≤ g ∧ g < w.heap.size ∧ ∀ i, i < zs.length → w.cell? ⟨g, i, none⟩ = some (.int .u8 (zs.getD i 0))

/-- q is the first index at or after p whose byte is no white space, or the length. -/
structure IsFirst (zs : List Int) (p q : Nat) : Prop where
  lo : p ≤ q
  hi : q ≤ zs.length
  all : ∀ i, p ≤ i → i < q → sp (zs.getD i 0) = true
  stop : q < zs.length → sp (zs.getD q 0) = false

/-- Behind a move of the decoder d's position: all else is as it was. -/
structure Moved (w w' : World) (d : Nat) (q : Int) : Prop where
  cell : w'.cell? ⟨d, 1, none⟩ = some (.int .i64 q)
  others : ∀ b o, ¬ (b = d ∧ o = 1) → w'.cell? ⟨b, o, none⟩ = w.cell? ⟨b, o, none⟩
  free : ∀ b o, w'.frozen? ⟨b, o, none⟩ = w.frozen? ⟨b, o, none⟩
  size : w'.heap.size = w.heap.size
  below : Below d w w'

theorem Moved.set {w wr : World} {d : Nat} {j : Int} (h : Moved w wr d j) (q : Int) : Moved w (wr.setCell ⟨d, 1, none⟩ (.int .i64 q)) d q := by
  refine ⟨World.cell?_setCell_same _ _ _ h.cell, fun b o hn => ?_, fun b o => ?_, by rw [World.size_setCell]; exact h.size, h.below.setCell (Nat.le_refl _) _⟩
  · rw [World.cell?_setCell_other _ _ _ _ (fun e => hn (by simp at e; exact ⟨e.1.symm, e.2.symm⟩))]
    exact h.others b o hn
  · rw [World.frozen?_setCell]
    exact h.free b o
theorem Moved.drewN {w wr : World} {d : Nat} {j : Int} (h : Moved w wr d j) (n : Nat) : Moved w (wr.drewN n) d j :=
  ⟨h.cell, h.others, h.free, h.size, h.below.trans ⟨rfl, rfl, rfl, Nat.le_refl _, fun _ _ => rfl⟩⟩

set_option maxHeartbeats 1000000 in
theorem skip_some (d g : Nat) (zs : List Int) (p : Nat) (w : World) (c0 : w.cell? ⟨d, 0, none⟩ = some (.slice (some ⟨g, 0, none⟩) zs.length zs.length)) (c1 : w.cell? ⟨d, 1, none⟩ = some (.int .i64 p)) (fr : w.frozen? ⟨d, 1, none⟩ = false)
    (hne : ¬ (g = d)) (ht : ∀ i, i < zs.length → w.cell? ⟨g, i, none⟩ = some (.int .u8 (zs.getD i 0))) (hp : p ≤ zs.length) (hl : zs.length ≤ 1048576) :
    Calls Try.prog 17 #[.pointer (some ⟨d, 0, none⟩)] w fun e w' => e = .returned (.tuple #[]) ∧ ∃ q, IsFirst zs p q ∧ Moved w w' d q := by
  go_enter Try.func17, Try.ntmps17
  go_wp2
  go_loopg [] (zs.length - p) (fun gk wr => ∃ j : Nat, gk = zs.length - j ∧ p ≤ j ∧ j ≤ zs.length ∧ (∀ i, p ≤ i → i < j → sp (zs.getD i 0) = true) ∧ Moved w wr d j)
  case atStart => exact ⟨p, rfl, Nat.le_refl _, hp, fun i h1 h2 => by omega, ⟨c1, fun _ _ _ => rfl, fun _ _ => rfl, rfl, Below.refl _ _⟩⟩
  case round =>
    obtain ⟨j, hgk, hpj, hj, hall, hm⟩ := hrel
    have r0 : wr.cell? ⟨d, 0, none⟩ = some (.slice (some ⟨g, 0, none⟩) zs.length zs.length) := by rw [hm.others d 0 (by omega)]; exact c0
    have r1 := hm.cell
    have r2 : wr.frozen? ⟨d, 1, none⟩ = false := by rw [hm.free]; exact fr
    by_cases hlt : j < zs.length
    · have r3 : wr.cell? ⟨g, j, none⟩ = some (.int .u8 (zs.getD j 0)) := by rw [hm.others g j (by omega)]; exact ht j hlt
      have hi : (j : Int) < (zs.length : Int) := by omega
      have hd : decide ((j : Int) < (zs.length : Int)) = true := by simpa using hi
      have A : Aside (gk = zs.length - j ∧ p ≤ j ∧ j ≤ zs.length ∧ (∀ i, p ≤ i → i < j → sp (zs.getD i 0) = true) ∧ Moved w wr d j) := ⟨hgk, hpj, hj, hall, hm⟩
      have hg : zs.getD j 0 = zs[j] := by simp [hlt]
      rw [hg] at r3
      cases hs : sp zs[j]
      · clear hgk hpj hj hall hm ht c0 c1 fr
        go_wp2
        go_quiet ((go_at_call 19; exact Calls.quiet_of_same (isSpace_any _ _)))
        go_wp2
        go_end0
        obtain ⟨hgk, hpj, hj, hall, hm⟩ := A.out
        exact ⟨rfl, j, ⟨hpj, hj, hall, fun _ => by rw [hg]; exact hs⟩, hm.drewN _⟩
      · clear hgk hpj hj hall hm ht c0 c1 fr
        go_wp2
        go_quiet ((go_at_call 19; exact Calls.quiet_of_same (isSpace_any _ _)))
        go_wp2
        obtain ⟨hgk, hpj, hj, hall, hm⟩ := A.out
        go_roundg (zs.length - (j + 1))
        case measure => omega
        case rel =>
          refine ⟨j + 1, rfl, by omega, by omega, fun i h1 h2 => ?_, ?_⟩
          · by_cases e : i = j
            · subst e; rw [hg]; exact hs
            · exact hall i h1 (by omega)
          · exact (hm.set (((j + 1 : Nat) : Int))).drewN _
    · obtain rfl : j = zs.length := by omega
      have hi : ¬ ((zs.length : Int) < (zs.length : Int)) := by omega
      have hd : decide ((zs.length : Int) < (zs.length : Int)) = false := by simp
      have A : Aside (gk = zs.length - zs.length ∧ p ≤ zs.length ∧ (∀ i, p ≤ i → i < zs.length → sp (zs.getD i 0) = true) ∧ Moved w wr d zs.length) := ⟨hgk, hpj, hall, hm⟩
      clear hgk hpj hj hall hm ht c0 c1 fr
      go_wp2
      go_quiet (fail)
      go_wp2
      go_end0
      obtain ⟨hgk, hpj, hall, hm⟩ := A.out
      exact ⟨rfl, zs.length, ⟨hpj, Nat.le_refl _, hall, fun h => by omega⟩, hm.drewN _⟩

theorem skip_nil (d : Nat) (w : World) (c0 : w.cell? ⟨d, 0, none⟩ = some (.slice none 0 0)) (c1 : w.cell? ⟨d, 1, none⟩ = some (.int .i64 0)) :
    Calls Try.prog 17 #[.pointer (some ⟨d, 0, none⟩)] w fun e w' => e = .returned (.tuple #[]) ∧ ∃ n, w' = w.drewN n := by
  go_enter Try.func17, Try.ntmps17
  go_wp2
  refine wp_loop_rounds 1 ?_
  rw [rounds_succ]
  go_wp2
  go_quiet (fail)
  go_wp2
  go_end0
  exact ⟨rfl, _, rfl⟩

theorem skip_any (B d : Nat) (a : Option Addr) (zs : List Int) (p : Nat) (w : World) (c0 : w.cell? ⟨d, 0, none⟩ = some (.slice a zs.length zs.length)) (c1 : w.cell? ⟨d, 1, none⟩ = some (.int .i64 p)) (fr : w.frozen? ⟨d, 1, none⟩ = false)
    (ho : Own w B a zs) (hne : ∀ g, a = some ⟨g, 0, none⟩ → ¬ (g = d)) (hp : p ≤ zs.length) (hl : zs.length ≤ 1048576) :
    Calls Try.prog 17 #[.pointer (some ⟨d, 0, none⟩)] w fun e w' => e = .returned (.tuple #[]) ∧ ∃ q, IsFirst zs p q ∧ Moved w w' d q := by
  rcases ho with ⟨rfl, rfl⟩ | ⟨g, rfl, _, _, ht⟩
  · obtain rfl : p = 0 := by simpa using hp
    refine (skip_nil d w c0 c1).mono ?_
    rintro e w1 ⟨rfl, n, rfl⟩
    exact ⟨rfl, 0, ⟨Nat.le_refl _, Nat.le_refl _, fun i h1 h2 => by omega, fun h => by simp at h⟩, Moved.drewN ⟨c1, fun _ _ _ => rfl, fun _ _ => rfl, rfl, Below.refl _ _⟩ n⟩
  · exact skip_some d g zs p w c0 c1 fr (hne g rfl) ht hp hl
end Go.Proofs.Qxb6628837a
