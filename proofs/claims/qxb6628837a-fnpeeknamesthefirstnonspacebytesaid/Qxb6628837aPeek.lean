/- 'Peek' and the small doors of the decoder walked. -/
import Derived.Test.Qxb6628837aSkip
namespace Go.Proofs.Qxb6628837a
open Go.RowKit

/-- The kind at index q. -/
def kindAt (zs : List Int) (q : Nat) : Int := if q < zs.length then kd (zs.getD q 0) else 0

theorem Own.moved {w w' : World} {B d : Nat} {a : Option Addr} {zs : List Int} {q : Int} (h : Own w B a zs) (hm : Moved w w' d q) (hne : ∀ g, a = some ⟨g, 0, none⟩ → ¬ (g = d)) : Own w' B a zs := by
  rcases h with h | ⟨g, hg, hB, hlt, ht⟩
  · exact .inl h
  · refine .inr ⟨g, hg, hB, by rw [hm.size]; exact hlt, fun i hi => ?_⟩
    rw [hm.others g i (fun e => hne g hg e.1)]
    exact ht i hi

theorem new_any (a k : Option Addr) (n m : Nat) (pos depth : Int) (w : World) :
    Calls Try.prog 7 #[.slice a n n, .int .i64 pos, .int .i64 depth, .slice k m m] w fun e w' =>
      e = .returned (.pointer (some ⟨w.heap.size, 0, none⟩)) ∧ w' = w.alloc (.cells #[.slice a n n, .int .i64 pos, .int .i64 depth, .slice k m m] 35) := by
  go_enter Try.func7, Try.ntmps7
  go_wp2
  go_ret
  exact ⟨rfl, rfl⟩
theorem pos_any (d : Nat) (q : Int) (w : World) (c1 : w.cell? ⟨d, 1, none⟩ = some (.int .i64 q)) : Calls Try.prog 9 #[.pointer (some ⟨d, 0, none⟩)] w fun e w' => e = .returned (.int .i64 q) ∧ w' = w := by
  go_enter Try.func9, Try.ntmps9
  go_wp2
  go_ret
  exact ⟨rfl, rfl⟩
theorem depth_any (d : Nat) (q : Int) (w : World) (c1 : w.cell? ⟨d, 2, none⟩ = some (.int .i64 q)) : Calls Try.prog 12 #[.pointer (some ⟨d, 0, none⟩)] w fun e w' => e = .returned (.int .i64 q) ∧ w' = w := by
  go_enter Try.func12, Try.ntmps12
  go_wp2
  go_ret
  exact ⟨rfl, rfl⟩
theorem text_any (d : Nat) (a : Option Addr) (n c : Nat) (w : World) (c1 : w.cell? ⟨d, 0, none⟩ = some (.slice a n c)) : Calls Try.prog 14 #[.pointer (some ⟨d, 0, none⟩)] w fun e w' => e = .returned (.slice a n c) ∧ w' = w := by
  go_enter Try.func14, Try.ntmps14
  go_wp2
  go_ret
  exact ⟨rfl, rfl⟩
theorem kept_any (d : Nat) (a : Option Addr) (n c : Nat) (w : World) (c1 : w.cell? ⟨d, 3, none⟩ = some (.slice a n c)) : Calls Try.prog 15 #[.pointer (some ⟨d, 0, none⟩)] w fun e w' => e = .returned (.slice a n c) ∧ w' = w := by
  go_enter Try.func15, Try.ntmps15
  go_wp2
  go_ret
  exact ⟨rfl, rfl⟩

set_option maxHeartbeats 1000000 in
theorem peek_any (B d : Nat) (a : Option Addr) (zs : List Int) (p : Nat) (w : World) (c0 : w.cell? ⟨d, 0, none⟩ = some (.slice a zs.length zs.length)) (c1 : w.cell? ⟨d, 1, none⟩ = some (.int .i64 p)) (fr : w.frozen? ⟨d, 1, none⟩ = false)
    (ho : Own w B a zs) (hne : ∀ g, a = some ⟨g, 0, none⟩ → ¬ (g = d)) (hp : p ≤ zs.length) (hl : zs.length ≤ 1048576) :
    Calls Try.prog 8 #[.pointer (some ⟨d, 0, none⟩)] w fun e w' => ∃ q, e = .returned (.int .i64 (kindAt zs q)) ∧ IsFirst zs p q ∧ Moved w w' d q := by
  go_enter Try.func8, Try.ntmps8
  go_wp2_with fail
  refine (skip_any B d a zs p w c0 c1 fr ho hne hp hl).mono ?_
  rintro e w1 ⟨rfl, q, hf, hm⟩
  have r0 : w1.cell? ⟨d, 0, none⟩ = some (.slice a zs.length zs.length) := by rw [hm.others d 0 (by omega)]; exact c0
  have r1 := hm.cell
  have A : Aside (IsFirst zs p q ∧ Moved w w1 d q) := ⟨hf, hm⟩
  have hq := hf.hi
  rcases ho.moved hm hne with ⟨rfl, rfl⟩ | ⟨g, rfl, _, _, ht⟩
  · obtain rfl : q = 0 := by simpa using hq
    clear hf hm c0 c1 fr hne
    go_wp2
    go_quiet (fail)
    go_wp2
    go_ret
    obtain ⟨hf, hm⟩ := A.out
    exact ⟨0, rfl, hf, hm.drewN _⟩
  by_cases hlt : q < zs.length
  · have hg : zs.getD q 0 = zs[q] := by simp [hlt]
    have r3 := ht q hlt
    rw [hg] at r3
    have hi : (q : Int) < (zs.length : Int) := by omega
    have he : ((q : Int) == (zs.length : Int)) = false := by simp; omega
    have hk : kindAt zs q = kd zs[q] := by simp [kindAt, hlt]
    generalize zs[q] = c at *
    clear hf hm c0 c1 fr hne ht hg ho 
    go_wp2
    go_quiet (fail)
    go_wp2
    go_quiet (fail)
    have HK := show Hid _ from hk
    clear hk
    by_cases hs : c = 110 ∨ c = 116 ∨ c = 102 ∨ c = 34 ∨ c = 123 ∨ c = 91 ∨ c = 45 ∨ c = 48 ∨ c = 49 ∨ c = 50 ∨ c = 51 ∨ c = 52 ∨ c = 53 ∨ c = 54 ∨ c = 55 ∨ c = 56 ∨ c = 57
    · rcases hs with rfl | rfl | rfl | rfl | rfl | rfl | rfl | rfl | rfl | rfl | rfl | rfl | rfl | rfl | rfl | rfl | rfl
      all_goals
        go_wp2
        go_ret
        obtain ⟨hf, hm⟩ := A.out
        refine ⟨q, ?_, hf, hm.drewN _⟩
        rw [HK.out]; rfl
    · have e1 : (c == 110) = false := by simp; omega
      have e2 : (c == 116) = false := by simp; omega
      have e3 : (c == 102) = false := by simp; omega
      have e4 : (c == 34) = false := by simp; omega
      have e5 : (c == 123) = false := by simp; omega
      have e6 : (c == 91) = false := by simp; omega
      have e7 : (c == 45) = false := by simp; omega
      have d0 : (c == 48) = false := by simp; omega
      have d1 : (c == 49) = false := by simp; omega
      have d2 : (c == 50) = false := by simp; omega
      have d3 : (c == 51) = false := by simp; omega
      have d4 : (c == 52) = false := by simp; omega
      have d5 : (c == 53) = false := by simp; omega
      have d6 : (c == 54) = false := by simp; omega
      have d7 : (c == 55) = false := by simp; omega
      have d8 : (c == 56) = false := by simp; omega
      have d9 : (c == 57) = false := by simp; omega
      have e : kd c = 0 := by unfold kd; repeat rw [if_neg (by omega)]
      have HE := show Hid _ from e
      clear e hs
      go_wp2
      go_ret
      obtain ⟨hf, hm⟩ := A.out
      refine ⟨q, ?_, hf, hm.drewN _⟩
      rw [HK.out, HE.out]; rfl
  · obtain rfl : q = zs.length := by omega
    have he : ((zs.length : Int) == (zs.length : Int)) = true := by simp
    clear hf hm c0 c1 fr hne ht  ho
    go_wp2
    go_quiet (fail)
    go_wp2
    go_ret
    obtain ⟨hf, hm⟩ := A.out
    exact ⟨zs.length, by simp [kindAt], hf, hm.drewN _⟩
end Go.Proofs.Qxb6628837a
