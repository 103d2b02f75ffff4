/- Small functions walked: the spaces, the kinds, the bounds. -/
import Derived.Test.Qxb6628837aRows
import Derived.WalkKit
import Derived.WalkSpells
import Derived.WalkLawsBesides
import Derived.Below
import Derived.Handy
import Derived.BigQuiet
import Derived.Deep.RegionHeld3
namespace Go.Proofs.Qxb6628837a
open Go.RowKit

/-- JSON white space. -/
def sp (c : Int) : Bool := decide (c = 32) || decide (c = 9) || decide (c = 10) || decide (c = 13)
/-- The kind of the value that the byte c begins. -/
def kd (c : Int) : Int :=
  if c = 110 then 1 else if c = 116 ∨ c = 102 then 2 else if c = 34 then 4 else if c = 123 then 5 else if c = 91 then 6 else if c = 45 ∨ (48 ≤ c ∧ c ≤ 57) then 3 else 0

theorem isSpace_any (c : Int) (w : World) : Calls Try.prog 19 #[.int .u8 c] w fun e w' => e = .returned (.bool (sp c)) ∧ w' = w := by
  by_cases h1 : c = 32
  · subst h1
    go_enter Try.func19, Try.ntmps19
    go_wp2
    go_ret
    exact ⟨rfl, rfl⟩
  by_cases h2 : c = 9
  · subst h2
    go_enter Try.func19, Try.ntmps19
    go_wp2
    go_ret
    exact ⟨rfl, rfl⟩
  by_cases h3 : c = 10
  · subst h3
    go_enter Try.func19, Try.ntmps19
    go_wp2
    go_ret
    exact ⟨rfl, rfl⟩
  have e1 : (c == 32) = false := by simpa using h1
  have e2 : (c == 9) = false := by simpa using h2
  have e3 : (c == 10) = false := by simpa using h3
  have e : sp c = (c == 13) := by simp [sp, h1, h2, h3]; rfl
  rw [e]
  clear e
  go_enter Try.func19, Try.ntmps19
  go_wp2
  go_ret
  exact ⟨rfl, rfl⟩
theorem zzSpace_any (c : Int) (w : World) : Calls Try.prog 18 #[.int .u8 c] w fun e w' => e = .returned (.bool (sp c)) ∧ w' = w := by
  by_cases h1 : c = 32
  · subst h1
    go_enter Try.func18, Try.ntmps18
    go_wp2
    go_ret
    exact ⟨rfl, rfl⟩
  by_cases h2 : c = 9
  · subst h2
    go_enter Try.func18, Try.ntmps18
    go_wp2
    go_ret
    exact ⟨rfl, rfl⟩
  by_cases h3 : c = 10
  · subst h3
    go_enter Try.func18, Try.ntmps18
    go_wp2
    go_ret
    exact ⟨rfl, rfl⟩
  have e1 : (c == 32) = false := by simpa using h1
  have e2 : (c == 9) = false := by simpa using h2
  have e3 : (c == 10) = false := by simpa using h3
  have e : sp c = (c == 13) := by simp [sp, h1, h2, h3]; rfl
  rw [e]
  clear e
  go_enter Try.func18, Try.ntmps18
  go_wp2
  go_ret
  exact ⟨rfl, rfl⟩

set_option maxHeartbeats 1000000 in
theorem kind_any (c : Int) (w : World) : Calls Try.prog 11 #[.int .u8 c] w fun e w' => e = .returned (.int .i64 (kd c)) ∧ w' = w := by
  by_cases hd : 48 ≤ c ∧ c ≤ 57
  · obtain ⟨d1, d2⟩ := hd
    have e : kd c = 3 := by unfold kd; repeat (first | rw [if_neg (by omega)] | rw [if_pos (by omega)])
    rw [e]; clear e
    go_enter Try.func11, Try.ntmps11
    go_wp2
    go_ret
    exact ⟨rfl, rfl⟩
  by_cases hs : c = 45 ∨ c = 110 ∨ c = 116 ∨ c = 102 ∨ c = 34 ∨ c = 123 ∨ c = 91
  · clear hd
    rcases hs with rfl | rfl | rfl | rfl | rfl | rfl | rfl
    all_goals
      go_enter Try.func11, Try.ntmps11
      go_wp2
      go_ret
      exact ⟨rfl, rfl⟩
  have e1 : (c == 45) = false := by simp; omega
  have e2 : (c == 110) = false := by simp; omega
  have e3 : (c == 116) = false := by simp; omega
  have e4 : (c == 102) = false := by simp; omega
  have e5 : (c == 34) = false := by simp; omega
  have e6 : (c == 123) = false := by simp; omega
  have e7 : (c == 91) = false := by simp; omega
  have e : kd c = 0 := by unfold kd; repeat rw [if_neg (by omega)]
  rw [e]; clear e
  by_cases h48 : 48 ≤ c
  · have h57 : 57 < c := by omega
    clear hd hs
    go_enter Try.func11, Try.ntmps11
    go_wp2
    go_ret
    exact ⟨rfl, rfl⟩
  · have h47 : c < 48 := by omega
    clear hd hs h48
    go_enter Try.func11, Try.ntmps11
    go_wp2
    go_ret
    exact ⟨rfl, rfl⟩

/-! ### The bounds on the total length -/
theorem zb_yes (a k : Option Addr) (n cn m cm : Nat) (pos depth : Int) (w : World) (h : n + m ≤ 1048576) :
    Calls Try.prog 5 #[.slice a n cn, .int .i64 pos, .int .i64 depth, .slice k m cm] w fun e w' => e = .returned (.bool true) ∧ w' = w := by
  have h1 : (n : Int) ≤ 1048576 := by omega
  have h2 : (m : Int) ≤ 1048576 := by omega
  have h3 : (n : Int) + (m : Int) ≤ 1048576 := by omega
  go_enter Try.func5, Try.ntmps5
  go_wp2
  go_ret
  exact ⟨rfl, rfl⟩
theorem zb_no (a k : Option Addr) (n cn m cm : Nat) (pos depth : Int) (w : World) (hn : n ≤ maxLen) (hm : m ≤ maxLen) (h : 1048576 < n + m) :
    Calls Try.prog 5 #[.slice a n cn, .int .i64 pos, .int .i64 depth, .slice k m cm] w fun e w' => e = .returned (.bool false) ∧ w' = w := by
  unfold maxLen at hn hm
  by_cases h1 : 1048576 < (n : Int)
  · go_enter Try.func5, Try.ntmps5
    go_wp2
    go_ret
    exact ⟨rfl, rfl⟩
  by_cases h2 : 1048576 < (m : Int)
  · have h1' : (n : Int) ≤ 1048576 := by omega
    clear h1
    go_enter Try.func5, Try.ntmps5
    go_wp2
    go_ret
    exact ⟨rfl, rfl⟩
  have h1' : (n : Int) ≤ 1048576 := by omega
  have h2' : (m : Int) ≤ 1048576 := by omega
  have h3 : 1048576 < (n : Int) + (m : Int) := by omega
  clear h1 h2
  go_enter Try.func5, Try.ntmps5
  go_wp2
  go_ret
  exact ⟨rfl, rfl⟩
theorem zb2_yes (a k : Option Addr) (n cn m cm : Nat) (pos depth : Int) (w : World) (h : n + m ≤ 1048576) :
    Calls Try.prog 16 #[.slice a n cn, .int .i64 pos, .int .i64 depth, .slice k m cm] w fun e w' => e = .returned (.bool true) ∧ w' = w := by
  have h1 : (n : Int) ≤ 1048576 := by omega
  have h2 : (m : Int) ≤ 1048576 := by omega
  have h3 : (n : Int) + (m : Int) ≤ 1048576 := by omega
  go_enter Try.func16, Try.ntmps16
  go_wp2
  go_ret
  exact ⟨rfl, rfl⟩
theorem zb2_no (a k : Option Addr) (n cn m cm : Nat) (pos depth : Int) (w : World) (hn : n ≤ maxLen) (hm : m ≤ maxLen) (h : 1048576 < n + m) :
    Calls Try.prog 16 #[.slice a n cn, .int .i64 pos, .int .i64 depth, .slice k m cm] w fun e w' => e = .returned (.bool false) ∧ w' = w := by
  unfold maxLen at hn hm
  by_cases h1 : 1048576 < (n : Int)
  · go_enter Try.func16, Try.ntmps16
    go_wp2
    go_ret
    exact ⟨rfl, rfl⟩
  by_cases h2 : 1048576 < (m : Int)
  · have h1' : (n : Int) ≤ 1048576 := by omega
    clear h1
    go_enter Try.func16, Try.ntmps16
    go_wp2
    go_ret
    exact ⟨rfl, rfl⟩
  have h1' : (n : Int) ≤ 1048576 := by omega
  have h2' : (m : Int) ≤ 1048576 := by omega
  have h3 : 1048576 < (n : Int) + (m : Int) := by omega
  clear h1 h2
  go_enter Try.func16, Try.ntmps16
  go_wp2
  go_ret
  exact ⟨rfl, rfl⟩
end Go.Proofs.Qxb6628837a
