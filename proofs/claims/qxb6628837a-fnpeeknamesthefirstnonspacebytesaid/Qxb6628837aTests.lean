/- 'zzIsFirstNonSpaceAt' and 'zzSameBytes' walked. -/
import Derived.Test.Qxb6628837aPeek
namespace Go.Proofs.Qxb6628837a
open Go.RowKit

set_option maxHeartbeats 1000000 in
theorem first_any (B : Nat) (a : Option Addr) (zs : List Int) (p q : Nat) (w : World) (ho : Own w B a zs) (hf : IsFirst zs p q) (hl : zs.length ≤ 1048576) :
    Calls Try.prog 10 #[.slice a zs.length zs.length, .int .i64 p, .int .i64 q] w fun e w' => e = .returned (.bool true) ∧ w' = w := by
  have h1 := hf.lo
  have h2 := hf.hi
  have hall := hf.all
  have hstop := hf.stop
  have g1 : ¬ ((q : Int) < (p : Int)) := by omega
  have g2 : ¬ ((zs.length : Int) < (q : Int)) := by omega
  have A : Aside ((∀ i, p ≤ i → i < q → sp (zs.getD i 0) = true) ∧ (q < zs.length → sp (zs.getD q 0) = false)) := ⟨hall, hstop⟩
  clear hall hstop hf
  go_enter Try.func10, Try.ntmps10
  go_wp2
  go_loop [7] (fun i => ∃ k : Nat, p ≤ k ∧ k ≤ q ∧ i = .int .i64 k) (fun i => q - (intOf i).toNat)
  case atStart => exact ⟨p, Nat.le_refl _, h1, rfl⟩
  case round =>
    obtain ⟨k, hk1, hk2, rfl⟩ := hrel
    by_cases hlt : k < q
    · rcases ho with ⟨rfl, rfl⟩ | ⟨g, rfl, _, _, ht⟩
      · exfalso; simp at h2; omega
      have hkz : k < zs.length := by omega
      have hg : zs.getD k 0 = zs[k] := by simp [hkz]
      have r3 := ht k hkz
      have hs := A.out.1 k hk1 hlt
      rw [hg] at r3 hs
      have hi : (k : Int) < (q : Int) := by omega
      have hi2 : (k : Int) < (zs.length : Int) := by omega
      clear ht hg
      go_wp2_with (go_at_call 18; refine (zzSpace_any _ _).mono ?_; rintro e w' ⟨rfl, rfl⟩)
      go_round
      case rel => exact ⟨k + 1, by omega, by omega, by go_num⟩
      case measure => simp [intOf]; omega
    · obtain rfl : k = q := by omega
      have hi : ¬ ((k : Int) < (k : Int)) := by omega
      by_cases hq : k < zs.length
      · rcases ho with ⟨rfl, rfl⟩ | ⟨g, rfl, _, _, ht⟩
        · exfalso; simp at hq
        have hg : zs.getD k 0 = zs[k] := by simp [hq]
        have r3 := ht k hq
        have hs := A.out.2 hq
        rw [hg] at r3 hs
        have hi2 : (k : Int) < (zs.length : Int) := by omega
        have hd : decide ((k : Int) < (zs.length : Int)) = true := by simpa using hi2
        clear ht hg
        go_wp2_with (go_at_call 18; refine (zzSpace_any _ _).mono ?_; rintro e w' ⟨rfl, rfl⟩)
        go_ret
        exact ⟨rfl, rfl⟩
      · have hi2 : ¬ ((k : Int) < (zs.length : Int)) := by omega
        have hd : decide ((k : Int) < (zs.length : Int)) = false := by simpa using hi2
        go_wp2
        go_ret
        exact ⟨rfl, rfl⟩

set_option maxHeartbeats 1000000 in
theorem same_some (g h : Nat) (zs : List Int) (w : World) (hg : ∀ i, i < zs.length → w.cell? ⟨g, i, none⟩ = some (.int .u8 (zs.getD i 0))) (hh : ∀ i, i < zs.length → w.cell? ⟨h, i, none⟩ = some (.int .u8 (zs.getD i 0))) (hl : zs.length ≤ 1048576) :
    Calls Try.prog 13 #[.slice (some ⟨g, 0, none⟩) zs.length zs.length, .slice (some ⟨h, 0, none⟩) zs.length zs.length] w fun e w' => e = .returned (.bool true) ∧ ∃ n, w' = w.drewN n := by
  have he := eqlNil
  go_enter Try.func13, Try.ntmps13
  go_wp2
  go_loopw [5] (fun i wr => ∃ k : Nat, k ≤ zs.length ∧ i = .int .i64 k ∧ ∃ n, wr = w.drewN n) (fun i _ => zs.length - (intOf i).toNat)
  case atStart => exact ⟨0, Nat.zero_le _, rfl, 0, rfl⟩
  case round =>
    obtain ⟨k, hk, rfl, n, rfl⟩ := hrel
    by_cases hlt : k < zs.length
    · have hgk : zs.getD k 0 = zs[k] := by simp [hlt]
      have r3 := hg k hlt
      have r4 := hh k hlt
      rw [hgk] at r3 r4
      have hi : (k : Int) < (zs.length : Int) := by omega
      clear hg hh hgk
      go_wp2
      go_quiet (fail)
      go_wp2
      go_roundw
      case rel => exact ⟨k + 1, by omega, by go_num, _, rfl⟩
      case measure => simp [intOf]; omega
    · obtain rfl : k = zs.length := by omega
      have hi : ¬ ((zs.length : Int) < (zs.length : Int)) := by omega
      go_wp2
      go_ret
      exact ⟨rfl, _, rfl⟩
theorem same_nil (w : World) : Calls Try.prog 13 #[.slice none 0 0, .slice none 0 0] w fun e w' => e = .returned (.bool true) ∧ w' = w := by
  have he := eqlNil
  go_enter Try.func13, Try.ntmps13
  go_wp2
  refine wp_loop_rounds 1 ?_
  rw [rounds_succ]
  go_wp2
  go_ret
  exact ⟨rfl, rfl⟩
theorem same_any (B C : Nat) (a b : Option Addr) (zs : List Int) (w : World) (ha : Own w B a zs) (hb : Own w C b zs) (hn : a.isNone = b.isNone) (hl : zs.length ≤ 1048576) :
    Calls Try.prog 13 #[.slice a zs.length zs.length, .slice b zs.length zs.length] w fun e w' => e = .returned (.bool true) ∧ ∃ n, w' = w.drewN n := by
  rcases ha with ⟨rfl, rfl⟩ | ⟨g, rfl, _, _, hg⟩
  · rcases hb with ⟨rfl, _⟩ | ⟨h, rfl, _, _, _⟩
    · refine (same_nil w).mono ?_
      rintro e w' ⟨rfl, rfl⟩
      exact ⟨rfl, 0, rfl⟩
    · simp at hn
  · rcases hb with ⟨rfl, _⟩ | ⟨h, rfl, _, _, hh⟩
    · simp at hn
    · exact same_some g h zs w hg hh hl
end Go.Proofs.Qxb6628837a
