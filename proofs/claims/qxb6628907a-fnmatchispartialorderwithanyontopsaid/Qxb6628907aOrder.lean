/- The law FnMatchIsPartialOrderWithAnyOnTop walked. -/
import Derived.Test.Qxb6628907aEarly
namespace Go.Proofs.Qxb6628907a
open Go.RowKit

theorem any_list : (⟨#[42]⟩ : ByteArray).data.toList = [42] := rfl
theorem any_size : (⟨#[42]⟩ : ByteArray).size = 1 := rfl
set_option maxHeartbeats 1000000 in
theorem po_yyy (a b c : ByteArray) (w : World) (h1 : (a.size : Int) ≤ 262144) (h2 : (b.size : Int) ≤ 262144) (h3 : (c.size : Int) ≤ 262144) (hpq : Mt a.data.toList b.data.toList) (hqp : Mt b.data.toList a.data.toList) (hqt : Mt b.data.toList c.data.toList) (hpt : Mt a.data.toList c.data.toList) (heq : (a.toList == b.toList) = true) : Calls Try.prog 3 #[.string a, .string b, .string c] w fun e w' => e = .returned (.bool true) ∧ w' = w := by
  have HR : Hid (Mt a.data.toList a.data.toList) := mt_refl _
  have HA : Hid (Mt (⟨#[42]⟩ : ByteArray).data.toList a.data.toList) := mt_any _
  have HS : (⟨#[42]⟩ : ByteArray).size ≤ 1048580 := by rw [any_size]; omega
  have HPQ := show Hid _ from hpq
  have HQP := show Hid _ from hqp
  have HQT := show Hid _ from hqt
  have HPT := show Hid _ from hpt
  clear hpq hqp hqt hpt
  go_enter Try.func3, Try.ntmps3
  go_wp2_with (first
    | (go_at_call 5; refine (zbP_yes a b c _ (by omega)).mono ?_; rintro e w ⟨rfl, rfl⟩)
    | (go_at_call 6; have q := HR; clear HR; refine (match_yes a a _ q.out (by omega) (by omega)).mono ?_; rintro e w ⟨rfl, rfl⟩)
    | (go_at_call 6; have q := HA; clear HA; refine (match_yes ⟨#[42]⟩ a _ q.out HS (by omega)).mono ?_; rintro e w ⟨rfl, rfl⟩)
    | (go_at_call 6; have q := HPQ; clear HPQ; refine (match_yes a b _ q.out (by omega) (by omega)).mono ?_; rintro e w ⟨rfl, rfl⟩)
    | (go_at_call 6; have q := HQP; clear HQP; refine (match_yes b a _ q.out (by omega) (by omega)).mono ?_; rintro e w ⟨rfl, rfl⟩)
    | (go_at_call 6; have q := HQT; clear HQT; refine (match_yes b c _ q.out (by omega) (by omega)).mono ?_; rintro e w ⟨rfl, rfl⟩)
    | (go_at_call 6; have q := HPT; clear HPT; refine (match_yes a c _ q.out (by omega) (by omega)).mono ?_; rintro e w ⟨rfl, rfl⟩))
  go_ret
  exact ⟨rfl, rfl⟩
set_option maxHeartbeats 1000000 in
theorem po_yyn (a b c : ByteArray) (w : World) (h1 : (a.size : Int) ≤ 262144) (h2 : (b.size : Int) ≤ 262144) (h3 : (c.size : Int) ≤ 262144) (hpq : Mt a.data.toList b.data.toList) (hqp : Mt b.data.toList a.data.toList) (hqt : ¬ Mt b.data.toList c.data.toList) (heq : (a.toList == b.toList) = true) : Calls Try.prog 3 #[.string a, .string b, .string c] w fun e w' => e = .returned (.bool true) ∧ w' = w := by
  have HR : Hid (Mt a.data.toList a.data.toList) := mt_refl _
  have HA : Hid (Mt (⟨#[42]⟩ : ByteArray).data.toList a.data.toList) := mt_any _
  have HS : (⟨#[42]⟩ : ByteArray).size ≤ 1048580 := by rw [any_size]; omega
  have HPQ := show Hid _ from hpq
  have HQP := show Hid _ from hqp
  have HQT := show Hid _ from hqt
  clear hpq hqp hqt
  go_enter Try.func3, Try.ntmps3
  go_wp2_with (first
    | (go_at_call 5; refine (zbP_yes a b c _ (by omega)).mono ?_; rintro e w ⟨rfl, rfl⟩)
    | (go_at_call 6; have q := HR; clear HR; refine (match_yes a a _ q.out (by omega) (by omega)).mono ?_; rintro e w ⟨rfl, rfl⟩)
    | (go_at_call 6; have q := HA; clear HA; refine (match_yes ⟨#[42]⟩ a _ q.out HS (by omega)).mono ?_; rintro e w ⟨rfl, rfl⟩)
    | (go_at_call 6; have q := HPQ; clear HPQ; refine (match_yes a b _ q.out (by omega) (by omega)).mono ?_; rintro e w ⟨rfl, rfl⟩)
    | (go_at_call 6; have q := HQP; clear HQP; refine (match_yes b a _ q.out (by omega) (by omega)).mono ?_; rintro e w ⟨rfl, rfl⟩)
    | (go_at_call 6; have q := HQT; clear HQT; refine (match_no b c _ q.out (by omega) (by omega)).mono ?_; rintro e w ⟨rfl, rfl⟩))
  go_ret
  exact ⟨rfl, rfl⟩
set_option maxHeartbeats 1000000 in
theorem po_yny (a b c : ByteArray) (w : World) (h1 : (a.size : Int) ≤ 262144) (h2 : (b.size : Int) ≤ 262144) (h3 : (c.size : Int) ≤ 262144) (hpq : Mt a.data.toList b.data.toList) (hqp : ¬ Mt b.data.toList a.data.toList) (hqt : Mt b.data.toList c.data.toList) (hpt : Mt a.data.toList c.data.toList) : Calls Try.prog 3 #[.string a, .string b, .string c] w fun e w' => e = .returned (.bool true) ∧ w' = w := by
  have HR : Hid (Mt a.data.toList a.data.toList) := mt_refl _
  have HA : Hid (Mt (⟨#[42]⟩ : ByteArray).data.toList a.data.toList) := mt_any _
  have HS : (⟨#[42]⟩ : ByteArray).size ≤ 1048580 := by rw [any_size]; omega
  have HPQ := show Hid _ from hpq
  have HQP := show Hid _ from hqp
  have HQT := show Hid _ from hqt
  have HPT := show Hid _ from hpt
  clear hpq hqp hqt hpt
  go_enter Try.func3, Try.ntmps3
  go_wp2_with (first
    | (go_at_call 5; refine (zbP_yes a b c _ (by omega)).mono ?_; rintro e w ⟨rfl, rfl⟩)
    | (go_at_call 6; have q := HR; clear HR; refine (match_yes a a _ q.out (by omega) (by omega)).mono ?_; rintro e w ⟨rfl, rfl⟩)
    | (go_at_call 6; have q := HA; clear HA; refine (match_yes ⟨#[42]⟩ a _ q.out HS (by omega)).mono ?_; rintro e w ⟨rfl, rfl⟩)
    | (go_at_call 6; have q := HPQ; clear HPQ; refine (match_yes a b _ q.out (by omega) (by omega)).mono ?_; rintro e w ⟨rfl, rfl⟩)
    | (go_at_call 6; have q := HQP; clear HQP; refine (match_no b a _ q.out (by omega) (by omega)).mono ?_; rintro e w ⟨rfl, rfl⟩)
    | (go_at_call 6; have q := HQT; clear HQT; refine (match_yes b c _ q.out (by omega) (by omega)).mono ?_; rintro e w ⟨rfl, rfl⟩)
    | (go_at_call 6; have q := HPT; clear HPT; refine (match_yes a c _ q.out (by omega) (by omega)).mono ?_; rintro e w ⟨rfl, rfl⟩))
  go_ret
  exact ⟨rfl, rfl⟩
set_option maxHeartbeats 1000000 in
theorem po_ynn (a b c : ByteArray) (w : World) (h1 : (a.size : Int) ≤ 262144) (h2 : (b.size : Int) ≤ 262144) (h3 : (c.size : Int) ≤ 262144) (hpq : Mt a.data.toList b.data.toList) (hqp : ¬ Mt b.data.toList a.data.toList) (hqt : ¬ Mt b.data.toList c.data.toList) : Calls Try.prog 3 #[.string a, .string b, .string c] w fun e w' => e = .returned (.bool true) ∧ w' = w := by
  have HR : Hid (Mt a.data.toList a.data.toList) := mt_refl _
  have HA : Hid (Mt (⟨#[42]⟩ : ByteArray).data.toList a.data.toList) := mt_any _
  have HS : (⟨#[42]⟩ : ByteArray).size ≤ 1048580 := by rw [any_size]; omega
  have HPQ := show Hid _ from hpq
  have HQP := show Hid _ from hqp
  have HQT := show Hid _ from hqt
  clear hpq hqp hqt
  go_enter Try.func3, Try.ntmps3
  go_wp2_with (first
    | (go_at_call 5; refine (zbP_yes a b c _ (by omega)).mono ?_; rintro e w ⟨rfl, rfl⟩)
    | (go_at_call 6; have q := HR; clear HR; refine (match_yes a a _ q.out (by omega) (by omega)).mono ?_; rintro e w ⟨rfl, rfl⟩)
    | (go_at_call 6; have q := HA; clear HA; refine (match_yes ⟨#[42]⟩ a _ q.out HS (by omega)).mono ?_; rintro e w ⟨rfl, rfl⟩)
    | (go_at_call 6; have q := HPQ; clear HPQ; refine (match_yes a b _ q.out (by omega) (by omega)).mono ?_; rintro e w ⟨rfl, rfl⟩)
    | (go_at_call 6; have q := HQP; clear HQP; refine (match_no b a _ q.out (by omega) (by omega)).mono ?_; rintro e w ⟨rfl, rfl⟩)
    | (go_at_call 6; have q := HQT; clear HQT; refine (match_no b c _ q.out (by omega) (by omega)).mono ?_; rintro e w ⟨rfl, rfl⟩))
  go_ret
  exact ⟨rfl, rfl⟩
set_option maxHeartbeats 1000000 in
theorem po_ny (a b c : ByteArray) (w : World) (h1 : (a.size : Int) ≤ 262144) (h2 : (b.size : Int) ≤ 262144) (h3 : (c.size : Int) ≤ 262144) (hpq : ¬ Mt a.data.toList b.data.toList) (hqp : Mt b.data.toList a.data.toList) : Calls Try.prog 3 #[.string a, .string b, .string c] w fun e w' => e = .returned (.bool true) ∧ w' = w := by
  have HR : Hid (Mt a.data.toList a.data.toList) := mt_refl _
  have HA : Hid (Mt (⟨#[42]⟩ : ByteArray).data.toList a.data.toList) := mt_any _
  have HS : (⟨#[42]⟩ : ByteArray).size ≤ 1048580 := by rw [any_size]; omega
  have HPQ := show Hid _ from hpq
  have HQP := show Hid _ from hqp
  clear hpq hqp
  go_enter Try.func3, Try.ntmps3
  go_wp2_with (first
    | (go_at_call 5; refine (zbP_yes a b c _ (by omega)).mono ?_; rintro e w ⟨rfl, rfl⟩)
    | (go_at_call 6; have q := HR; clear HR; refine (match_yes a a _ q.out (by omega) (by omega)).mono ?_; rintro e w ⟨rfl, rfl⟩)
    | (go_at_call 6; have q := HA; clear HA; refine (match_yes ⟨#[42]⟩ a _ q.out HS (by omega)).mono ?_; rintro e w ⟨rfl, rfl⟩)
    | (go_at_call 6; have q := HPQ; clear HPQ; refine (match_no a b _ q.out (by omega) (by omega)).mono ?_; rintro e w ⟨rfl, rfl⟩)
    | (go_at_call 6; have q := HQP; clear HQP; refine (match_yes b a _ q.out (by omega) (by omega)).mono ?_; rintro e w ⟨rfl, rfl⟩))
  go_ret
  exact ⟨rfl, rfl⟩
set_option maxHeartbeats 1000000 in
theorem po_nn (a b c : ByteArray) (w : World) (h1 : (a.size : Int) ≤ 262144) (h2 : (b.size : Int) ≤ 262144) (h3 : (c.size : Int) ≤ 262144) (hpq : ¬ Mt a.data.toList b.data.toList) (hqp : ¬ Mt b.data.toList a.data.toList) : Calls Try.prog 3 #[.string a, .string b, .string c] w fun e w' => e = .returned (.bool true) ∧ w' = w := by
  have HR : Hid (Mt a.data.toList a.data.toList) := mt_refl _
  have HA : Hid (Mt (⟨#[42]⟩ : ByteArray).data.toList a.data.toList) := mt_any _
  have HS : (⟨#[42]⟩ : ByteArray).size ≤ 1048580 := by rw [any_size]; omega
  have HPQ := show Hid _ from hpq
  have HQP := show Hid _ from hqp
  clear hpq hqp
  go_enter Try.func3, Try.ntmps3
  go_wp2_with (first
    | (go_at_call 5; refine (zbP_yes a b c _ (by omega)).mono ?_; rintro e w ⟨rfl, rfl⟩)
    | (go_at_call 6; have q := HR; clear HR; refine (match_yes a a _ q.out (by omega) (by omega)).mono ?_; rintro e w ⟨rfl, rfl⟩)
    | (go_at_call 6; have q := HA; clear HA; refine (match_yes ⟨#[42]⟩ a _ q.out HS (by omega)).mono ?_; rintro e w ⟨rfl, rfl⟩)
    | (go_at_call 6; have q := HPQ; clear HPQ; refine (match_no a b _ q.out (by omega) (by omega)).mono ?_; rintro e w ⟨rfl, rfl⟩)
    | (go_at_call 6; have q := HQP; clear HQP; refine (match_no b a _ q.out (by omega) (by omega)).mono ?_; rintro e w ⟨rfl, rfl⟩))
  go_ret
  exact ⟨rfl, rfl⟩

theorem po_walk (a b c : ByteArray) (w : World) : Calls Try.prog 3 #[.string a, .string b, .string c] w fun e w' => e = .returned (.bool true) ∧ w' = w := by
  by_cases hs : (a.size : Int) ≤ 262144 ∧ (b.size : Int) ≤ 262144 ∧ (c.size : Int) ≤ 262144
  · obtain ⟨h1, h2, h3⟩ := hs
    by_cases hpq : Mt a.data.toList b.data.toList
    · by_cases hqt : Mt b.data.toList c.data.toList
      · have hpt := mt_trans hpq hqt
        by_cases hqp : Mt b.data.toList a.data.toList
        · exact po_yyy a b c w h1 h2 h3 hpq hqp hqt hpt (by rw [beq_lists]; exact decide_eq_true (mt_anti hpq hqp))
        · exact po_yny a b c w h1 h2 h3 hpq hqp hqt hpt
      · by_cases hqp : Mt b.data.toList a.data.toList
        · exact po_yyn a b c w h1 h2 h3 hpq hqp hqt (by rw [beq_lists]; exact decide_eq_true (mt_anti hpq hqp))
        · exact po_ynn a b c w h1 h2 h3 hpq hqp hqt
    · by_cases hqp : Mt b.data.toList a.data.toList
      · exact po_ny a b c w h1 h2 h3 hpq hqp
      · exact po_nn a b c w h1 h2 h3 hpq hqp
  · exact po_early a b c w hs
end Go.Proofs.Qxb6628907a
