/- The bounds walked; how each law ends early. -/
import Derived.Test.Qxb6628907aPlain
namespace Go.Proofs.Qxb6628907a
open Go.RowKit

theorem zbP_a (a b c : ByteArray) (w : World) (h : 1048576 < (a.size : Int)) : Calls Try.prog 5 #[.string a, .string b, .string c] w fun e w' => e = .returned (.bool false) ∧ w' = w := by
  go_enter Try.func5, Try.ntmps5
  go_wp2
  go_ret
  exact ⟨rfl, rfl⟩
theorem zbP_b (a b c : ByteArray) (w : World) (h1 : (a.size : Int) ≤ 1048576) (h : 1048576 < (b.size : Int)) : Calls Try.prog 5 #[.string a, .string b, .string c] w fun e w' => e = .returned (.bool false) ∧ w' = w := by
  go_enter Try.func5, Try.ntmps5
  go_wp2
  go_ret
  exact ⟨rfl, rfl⟩
theorem zbP_c (a b c : ByteArray) (w : World) (h1 : (a.size : Int) ≤ 1048576) (h2 : (b.size : Int) ≤ 1048576) (h : 1048576 < (a.size : Int) + (b.size : Int)) : Calls Try.prog 5 #[.string a, .string b, .string c] w fun e w' => e = .returned (.bool false) ∧ w' = w := by
  go_enter Try.func5, Try.ntmps5
  go_wp2
  go_ret
  exact ⟨rfl, rfl⟩
theorem zbP_d (a b c : ByteArray) (w : World) (h1 : (a.size : Int) ≤ 1048576) (h2 : (b.size : Int) ≤ 1048576) (h3 : (a.size : Int) + (b.size : Int) ≤ 1048576) (h : 1048576 < (c.size : Int)) : Calls Try.prog 5 #[.string a, .string b, .string c] w fun e w' => e = .returned (.bool false) ∧ w' = w := by
  go_enter Try.func5, Try.ntmps5
  go_wp2
  go_ret
  exact ⟨rfl, rfl⟩
theorem zbP_e (a b c : ByteArray) (w : World) (h1 : (a.size : Int) ≤ 1048576) (h2 : (b.size : Int) ≤ 1048576) (h3 : (a.size : Int) + (b.size : Int) ≤ 1048576) (h4 : (c.size : Int) ≤ 1048576) (h : 1048576 < (a.size : Int) + (b.size : Int) + (c.size : Int)) : Calls Try.prog 5 #[.string a, .string b, .string c] w fun e w' => e = .returned (.bool false) ∧ w' = w := by
  go_enter Try.func5, Try.ntmps5
  go_wp2
  go_ret
  exact ⟨rfl, rfl⟩
theorem zbP_y (a b c : ByteArray) (w : World) (h1 : (a.size : Int) ≤ 1048576) (h2 : (b.size : Int) ≤ 1048576) (h3 : (a.size : Int) + (b.size : Int) ≤ 1048576) (h4 : (c.size : Int) ≤ 1048576) (h : (a.size : Int) + (b.size : Int) + (c.size : Int) ≤ 1048576) : Calls Try.prog 5 #[.string a, .string b, .string c] w fun e w' => e = .returned (.bool true) ∧ w' = w := by
  go_enter Try.func5, Try.ntmps5
  go_wp2
  go_ret
  exact ⟨rfl, rfl⟩
theorem zbP_no (a b c : ByteArray) (w : World) (h : 1048576 < (a.size : Int) + (b.size : Int) + (c.size : Int)) : Calls Try.prog 5 #[.string a, .string b, .string c] w fun e w' => e = .returned (.bool false) ∧ w' = w := by
  by_cases h1 : (a.size : Int) ≤ 1048576
  · by_cases h2 : (b.size : Int) ≤ 1048576
    · by_cases h3 : (a.size : Int) + (b.size : Int) ≤ 1048576
      · by_cases h4 : (c.size : Int) ≤ 1048576
        · exact zbP_e a b c w h1 h2 h3 h4 h
        · exact zbP_d a b c w h1 h2 h3 (by omega)
      · exact zbP_c a b c w h1 h2 (by omega)
    · exact zbP_b a b c w h1 (by omega)
  · exact zbP_a a b c w (by omega)
theorem zbP_yes (a b c : ByteArray) (w : World) (h : (a.size : Int) + (b.size : Int) + (c.size : Int) ≤ 1048576) : Calls Try.prog 5 #[.string a, .string b, .string c] w fun e w' => e = .returned (.bool true) ∧ w' = w :=
  zbP_y a b c w (by omega) (by omega) (by omega) (by omega) h
theorem zbW_a (a b c : ByteArray) (w : World) (h : 1048576 < (a.size : Int)) : Calls Try.prog 7 #[.string a, .string b, .string c] w fun e w' => e = .returned (.bool false) ∧ w' = w := by
  go_enter Try.func7, Try.ntmps7
  go_wp2
  go_ret
  exact ⟨rfl, rfl⟩
theorem zbW_b (a b c : ByteArray) (w : World) (h1 : (a.size : Int) ≤ 1048576) (h : 1048576 < (b.size : Int)) : Calls Try.prog 7 #[.string a, .string b, .string c] w fun e w' => e = .returned (.bool false) ∧ w' = w := by
  go_enter Try.func7, Try.ntmps7
  go_wp2
  go_ret
  exact ⟨rfl, rfl⟩
theorem zbW_c (a b c : ByteArray) (w : World) (h1 : (a.size : Int) ≤ 1048576) (h2 : (b.size : Int) ≤ 1048576) (h : 1048576 < (a.size : Int) + (b.size : Int)) : Calls Try.prog 7 #[.string a, .string b, .string c] w fun e w' => e = .returned (.bool false) ∧ w' = w := by
  go_enter Try.func7, Try.ntmps7
  go_wp2
  go_ret
  exact ⟨rfl, rfl⟩
theorem zbW_d (a b c : ByteArray) (w : World) (h1 : (a.size : Int) ≤ 1048576) (h2 : (b.size : Int) ≤ 1048576) (h3 : (a.size : Int) + (b.size : Int) ≤ 1048576) (h : 1048576 < (c.size : Int)) : Calls Try.prog 7 #[.string a, .string b, .string c] w fun e w' => e = .returned (.bool false) ∧ w' = w := by
  go_enter Try.func7, Try.ntmps7
  go_wp2
  go_ret
  exact ⟨rfl, rfl⟩
theorem zbW_e (a b c : ByteArray) (w : World) (h1 : (a.size : Int) ≤ 1048576) (h2 : (b.size : Int) ≤ 1048576) (h3 : (a.size : Int) + (b.size : Int) ≤ 1048576) (h4 : (c.size : Int) ≤ 1048576) (h : 1048576 < (a.size : Int) + (b.size : Int) + (c.size : Int)) : Calls Try.prog 7 #[.string a, .string b, .string c] w fun e w' => e = .returned (.bool false) ∧ w' = w := by
  go_enter Try.func7, Try.ntmps7
  go_wp2
  go_ret
  exact ⟨rfl, rfl⟩
theorem zbW_y (a b c : ByteArray) (w : World) (h1 : (a.size : Int) ≤ 1048576) (h2 : (b.size : Int) ≤ 1048576) (h3 : (a.size : Int) + (b.size : Int) ≤ 1048576) (h4 : (c.size : Int) ≤ 1048576) (h : (a.size : Int) + (b.size : Int) + (c.size : Int) ≤ 1048576) : Calls Try.prog 7 #[.string a, .string b, .string c] w fun e w' => e = .returned (.bool true) ∧ w' = w := by
  go_enter Try.func7, Try.ntmps7
  go_wp2
  go_ret
  exact ⟨rfl, rfl⟩
theorem zbW_no (a b c : ByteArray) (w : World) (h : 1048576 < (a.size : Int) + (b.size : Int) + (c.size : Int)) : Calls Try.prog 7 #[.string a, .string b, .string c] w fun e w' => e = .returned (.bool false) ∧ w' = w := by
  by_cases h1 : (a.size : Int) ≤ 1048576
  · by_cases h2 : (b.size : Int) ≤ 1048576
    · by_cases h3 : (a.size : Int) + (b.size : Int) ≤ 1048576
      · by_cases h4 : (c.size : Int) ≤ 1048576
        · exact zbW_e a b c w h1 h2 h3 h4 h
        · exact zbW_d a b c w h1 h2 h3 (by omega)
      · exact zbW_c a b c w h1 h2 (by omega)
    · exact zbW_b a b c w h1 (by omega)
  · exact zbW_a a b c w (by omega)
theorem zbW_yes (a b c : ByteArray) (w : World) (h : (a.size : Int) + (b.size : Int) + (c.size : Int) ≤ 1048576) : Calls Try.prog 7 #[.string a, .string b, .string c] w fun e w' => e = .returned (.bool true) ∧ w' = w :=
  zbW_y a b c w (by omega) (by omega) (by omega) (by omega) h
theorem po_over (a b c : ByteArray) (w : World) (h : 1048576 < (a.size : Int) + (b.size : Int) + (c.size : Int)) : Calls Try.prog 3 #[.string a, .string b, .string c] w fun e w' => e = .returned (.bool true) ∧ w' = w := by
  go_enter Try.func3, Try.ntmps3
  go_wp2_with (go_at_call 5; refine (zbP_no a b c _ h).mono ?_; rintro e w ⟨rfl, rfl⟩)
  go_ret
  exact ⟨rfl, rfl⟩
theorem po_biga (a b c : ByteArray) (w : World) (h : (a.size : Int) + (b.size : Int) + (c.size : Int) ≤ 1048576) (h1 : 262144 < (a.size : Int)) : Calls Try.prog 3 #[.string a, .string b, .string c] w fun e w' => e = .returned (.bool true) ∧ w' = w := by
  go_enter Try.func3, Try.ntmps3
  go_wp2_with (go_at_call 5; refine (zbP_yes a b c _ h).mono ?_; rintro e w ⟨rfl, rfl⟩)
  go_ret
  exact ⟨rfl, rfl⟩
theorem po_bigb (a b c : ByteArray) (w : World) (h : (a.size : Int) + (b.size : Int) + (c.size : Int) ≤ 1048576) (h1 : (a.size : Int) ≤ 262144) (h2 : 262144 < (b.size : Int)) : Calls Try.prog 3 #[.string a, .string b, .string c] w fun e w' => e = .returned (.bool true) ∧ w' = w := by
  go_enter Try.func3, Try.ntmps3
  go_wp2_with (go_at_call 5; refine (zbP_yes a b c _ h).mono ?_; rintro e w ⟨rfl, rfl⟩)
  go_ret
  exact ⟨rfl, rfl⟩
theorem po_bigc (a b c : ByteArray) (w : World) (h : (a.size : Int) + (b.size : Int) + (c.size : Int) ≤ 1048576) (h1 : (a.size : Int) ≤ 262144) (h2 : (b.size : Int) ≤ 262144) (h3 : 262144 < (c.size : Int)) : Calls Try.prog 3 #[.string a, .string b, .string c] w fun e w' => e = .returned (.bool true) ∧ w' = w := by
  go_enter Try.func3, Try.ntmps3
  go_wp2_with (go_at_call 5; refine (zbP_yes a b c _ h).mono ?_; rintro e w ⟨rfl, rfl⟩)
  go_ret
  exact ⟨rfl, rfl⟩
/-- One of the bounds is passed. -/
theorem po_early (a b c : ByteArray) (w : World) (h : ¬ ((a.size : Int) ≤ 262144 ∧ (b.size : Int) ≤ 262144 ∧ (c.size : Int) ≤ 262144)) : Calls Try.prog 3 #[.string a, .string b, .string c] w fun e w' => e = .returned (.bool true) ∧ w' = w := by
  by_cases h0 : (a.size : Int) + (b.size : Int) + (c.size : Int) ≤ 1048576
  · by_cases h1 : (a.size : Int) ≤ 262144
    · by_cases h2 : (b.size : Int) ≤ 262144
      · exact po_bigc a b c w h0 h1 h2 (by omega)
      · exact po_bigb a b c w h0 h1 (by omega)
    · exact po_biga a b c w h0 (by omega)
  · exact po_over a b c w (by omega)
theorem wc_over (a b c : ByteArray) (w : World) (h : 1048576 < (a.size : Int) + (b.size : Int) + (c.size : Int)) : Calls Try.prog 4 #[.string a, .string b, .string c] w fun e w' => e = .returned (.bool true) ∧ w' = w := by
  go_enter Try.func4, Try.ntmps4
  go_wp2_with (go_at_call 7; refine (zbW_no a b c _ h).mono ?_; rintro e w ⟨rfl, rfl⟩)
  go_ret
  exact ⟨rfl, rfl⟩
theorem wc_biga (a b c : ByteArray) (w : World) (h : (a.size : Int) + (b.size : Int) + (c.size : Int) ≤ 1048576) (h1 : 262144 < (a.size : Int)) : Calls Try.prog 4 #[.string a, .string b, .string c] w fun e w' => e = .returned (.bool true) ∧ w' = w := by
  go_enter Try.func4, Try.ntmps4
  go_wp2_with (go_at_call 7; refine (zbW_yes a b c _ h).mono ?_; rintro e w ⟨rfl, rfl⟩)
  go_ret
  exact ⟨rfl, rfl⟩
theorem wc_bigb (a b c : ByteArray) (w : World) (h : (a.size : Int) + (b.size : Int) + (c.size : Int) ≤ 1048576) (h1 : (a.size : Int) ≤ 262144) (h2 : 262144 < (b.size : Int)) : Calls Try.prog 4 #[.string a, .string b, .string c] w fun e w' => e = .returned (.bool true) ∧ w' = w := by
  go_enter Try.func4, Try.ntmps4
  go_wp2_with (go_at_call 7; refine (zbW_yes a b c _ h).mono ?_; rintro e w ⟨rfl, rfl⟩)
  go_ret
  exact ⟨rfl, rfl⟩
theorem wc_bigc (a b c : ByteArray) (w : World) (h : (a.size : Int) + (b.size : Int) + (c.size : Int) ≤ 1048576) (h1 : (a.size : Int) ≤ 262144) (h2 : (b.size : Int) ≤ 262144) (h3 : 262144 < (c.size : Int)) : Calls Try.prog 4 #[.string a, .string b, .string c] w fun e w' => e = .returned (.bool true) ∧ w' = w := by
  go_enter Try.func4, Try.ntmps4
  go_wp2_with (go_at_call 7; refine (zbW_yes a b c _ h).mono ?_; rintro e w ⟨rfl, rfl⟩)
  go_ret
  exact ⟨rfl, rfl⟩
/-- One of the bounds is passed. -/
theorem wc_early (a b c : ByteArray) (w : World) (h : ¬ ((a.size : Int) ≤ 262144 ∧ (b.size : Int) ≤ 262144 ∧ (c.size : Int) ≤ 262144)) : Calls Try.prog 4 #[.string a, .string b, .string c] w fun e w' => e = .returned (.bool true) ∧ w' = w := by
  by_cases h0 : (a.size : Int) + (b.size : Int) + (c.size : Int) ≤ 1048576
  · by_cases h1 : (a.size : Int) ≤ 262144
    · by_cases h2 : (b.size : Int) ≤ 262144
      · exact wc_bigc a b c w h0 h1 h2 (by omega)
      · exact wc_bigb a b c w h0 h1 (by omega)
    · exact wc_biga a b c w h0 (by omega)
  · exact wc_over a b c w (by omega)
end Go.Proofs.Qxb6628907a
