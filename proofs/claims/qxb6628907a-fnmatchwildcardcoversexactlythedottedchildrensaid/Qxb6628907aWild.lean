/- The law FnMatchWildcardCoversExactlyTheDottedChildren walked. -/
import Derived.Test.Qxb6628907aEarly
namespace Go.Proofs.Qxb6628907a
open Go.RowKit

theorem star_size (x : ByteArray) : (x ++ ⟨#[46, 42]⟩ : ByteArray).size = x.size + 2 := by
  rw [ByteArray.size_append]; rfl
theorem star_list (x : ByteArray) : (x ++ ⟨#[46, 42]⟩ : ByteArray).data.toList = x.data.toList ++ [46, 42] := by
  rw [ByteArray.data_append, Array.toList_append]
theorem cat_list (x y : ByteArray) : (x ++ y : ByteArray).data.toList = x.data.toList ++ y.data.toList := by
  rw [ByteArray.data_append, Array.toList_append]
set_option maxHeartbeats 1000000 in
theorem wc_D_yy (x y z : ByteArray) (w : World) (h1 : (x.size : Int) ≤ 262144) (h2 : (y.size : Int) ≤ 262144) (h3 : (z.size : Int) ≤ 262144) (hwx : Mt (x ++ ⟨#[46, 42]⟩ : ByteArray).data.toList (x ++ y : ByteArray).data.toList) (hwz : Mt (x ++ ⟨#[46, 42]⟩ : ByteArray).data.toList z.data.toList) (hwzy : Mt (x ++ ⟨#[46, 42]⟩ : ByteArray).data.toList (z ++ y : ByteArray).data.toList) (hnz : Mt (x ++ y ++ ⟨#[46, 42]⟩ : ByteArray).data.toList z.data.toList) (hp : 0 < y.size) (hy : ((y[0].toNat : Int) == 46) = true) : Calls Try.prog 4 #[.string x, .string y, .string z] w fun e w' => e = .returned (.bool true) ∧ w' = w := by
  have S1 : (x ++ ⟨#[46, 42]⟩ : ByteArray).size ≤ 1048580 := by rw [star_size]; omega
  have S2 : (x ++ y : ByteArray).size ≤ 1048580 := by rw [ByteArray.size_append]; omega
  have S3 : (z ++ y : ByteArray).size ≤ 1048580 := by rw [ByteArray.size_append]; omega
  have S4 : (x ++ y ++ ⟨#[46, 42]⟩ : ByteArray).size ≤ 1048580 := by rw [star_size, ByteArray.size_append]; omega
  have hp' : 0 < (y.size : Int) := by omega
  have HWX : Hid (Mt (x ++ ⟨#[46, 42]⟩ : ByteArray).data.toList (x ++ y : ByteArray).data.toList) := hwx
  have HWZ : Hid (Mt (x ++ ⟨#[46, 42]⟩ : ByteArray).data.toList z.data.toList) := hwz
  have HWZY : Hid (Mt (x ++ ⟨#[46, 42]⟩ : ByteArray).data.toList (z ++ y : ByteArray).data.toList) := hwzy
  have HNZ : Hid (Mt (x ++ y ++ ⟨#[46, 42]⟩ : ByteArray).data.toList z.data.toList) := hnz
  have T1 := show Hid _ from S1
  have T2 := show Hid _ from S2
  have T3 := show Hid _ from S3
  have T4 := show Hid _ from S4
  clear hwx hwz hwzy hnz S1 S2 S3 S4
  have HWZ2 := HWZ
  go_enter Try.func4, Try.ntmps4
  go_wp2_with (first
    | (go_at_call 7; refine (zbW_yes x y z _ (by omega)).mono ?_; rintro e w ⟨rfl, rfl⟩)
    | (go_at_call 6; have q := HWX; clear HWX; refine (match_yes _ _ _ q.out T1.out T2.out).mono ?_; rintro e w ⟨rfl, rfl⟩)
    | (go_at_call 6; have q := HWZ; clear HWZ; refine (match_yes _ _ _ q.out T1.out (by omega)).mono ?_; rintro e w ⟨rfl, rfl⟩)
    | (go_at_call 6; have q := HWZY; clear HWZY; refine (match_yes _ _ _ q.out T1.out T3.out).mono ?_; rintro e w ⟨rfl, rfl⟩)
    | (go_at_call 6; have q := HNZ; clear HNZ; refine (match_yes _ _ _ q.out T4.out (by omega)).mono ?_; rintro e w ⟨rfl, rfl⟩)
    | (go_at_call 6; have q := HWZ2; clear HWZ2; refine (match_yes _ _ _ q.out T1.out (by omega)).mono ?_; rintro e w ⟨rfl, rfl⟩))
  go_ret
  exact ⟨rfl, rfl⟩
set_option maxHeartbeats 1000000 in
theorem wc_D_yn (x y z : ByteArray) (w : World) (h1 : (x.size : Int) ≤ 262144) (h2 : (y.size : Int) ≤ 262144) (h3 : (z.size : Int) ≤ 262144) (hwx : Mt (x ++ ⟨#[46, 42]⟩ : ByteArray).data.toList (x ++ y : ByteArray).data.toList) (hwz : Mt (x ++ ⟨#[46, 42]⟩ : ByteArray).data.toList z.data.toList) (hwzy : Mt (x ++ ⟨#[46, 42]⟩ : ByteArray).data.toList (z ++ y : ByteArray).data.toList) (hnz : ¬ Mt (x ++ y ++ ⟨#[46, 42]⟩ : ByteArray).data.toList z.data.toList) (hp : 0 < y.size) (hy : ((y[0].toNat : Int) == 46) = true) : Calls Try.prog 4 #[.string x, .string y, .string z] w fun e w' => e = .returned (.bool true) ∧ w' = w := by
  have S1 : (x ++ ⟨#[46, 42]⟩ : ByteArray).size ≤ 1048580 := by rw [star_size]; omega
  have S2 : (x ++ y : ByteArray).size ≤ 1048580 := by rw [ByteArray.size_append]; omega
  have S3 : (z ++ y : ByteArray).size ≤ 1048580 := by rw [ByteArray.size_append]; omega
  have S4 : (x ++ y ++ ⟨#[46, 42]⟩ : ByteArray).size ≤ 1048580 := by rw [star_size, ByteArray.size_append]; omega
  have hp' : 0 < (y.size : Int) := by omega
  have HWX : Hid (Mt (x ++ ⟨#[46, 42]⟩ : ByteArray).data.toList (x ++ y : ByteArray).data.toList) := hwx
  have HWZ : Hid (Mt (x ++ ⟨#[46, 42]⟩ : ByteArray).data.toList z.data.toList) := hwz
  have HWZY : Hid (Mt (x ++ ⟨#[46, 42]⟩ : ByteArray).data.toList (z ++ y : ByteArray).data.toList) := hwzy
  have HNZ : Hid (¬ Mt (x ++ y ++ ⟨#[46, 42]⟩ : ByteArray).data.toList z.data.toList) := hnz
  have T1 := show Hid _ from S1
  have T2 := show Hid _ from S2
  have T3 := show Hid _ from S3
  have T4 := show Hid _ from S4
  clear hwx hwz hwzy hnz S1 S2 S3 S4
  go_enter Try.func4, Try.ntmps4
  go_wp2_with (first
    | (go_at_call 7; refine (zbW_yes x y z _ (by omega)).mono ?_; rintro e w ⟨rfl, rfl⟩)
    | (go_at_call 6; have q := HWX; clear HWX; refine (match_yes _ _ _ q.out T1.out T2.out).mono ?_; rintro e w ⟨rfl, rfl⟩)
    | (go_at_call 6; have q := HWZ; clear HWZ; refine (match_yes _ _ _ q.out T1.out (by omega)).mono ?_; rintro e w ⟨rfl, rfl⟩)
    | (go_at_call 6; have q := HWZY; clear HWZY; refine (match_yes _ _ _ q.out T1.out T3.out).mono ?_; rintro e w ⟨rfl, rfl⟩)
    | (go_at_call 6; have q := HNZ; clear HNZ; refine (match_no _ _ _ q.out T4.out (by omega)).mono ?_; rintro e w ⟨rfl, rfl⟩))
  go_ret
  exact ⟨rfl, rfl⟩
set_option maxHeartbeats 1000000 in
theorem wc_D_nn (x y z : ByteArray) (w : World) (h1 : (x.size : Int) ≤ 262144) (h2 : (y.size : Int) ≤ 262144) (h3 : (z.size : Int) ≤ 262144) (hwx : Mt (x ++ ⟨#[46, 42]⟩ : ByteArray).data.toList (x ++ y : ByteArray).data.toList) (hwz : ¬ Mt (x ++ ⟨#[46, 42]⟩ : ByteArray).data.toList z.data.toList) (hnz : ¬ Mt (x ++ y ++ ⟨#[46, 42]⟩ : ByteArray).data.toList z.data.toList) (hp : 0 < y.size) (hy : ((y[0].toNat : Int) == 46) = true) : Calls Try.prog 4 #[.string x, .string y, .string z] w fun e w' => e = .returned (.bool true) ∧ w' = w := by
  have S1 : (x ++ ⟨#[46, 42]⟩ : ByteArray).size ≤ 1048580 := by rw [star_size]; omega
  have S2 : (x ++ y : ByteArray).size ≤ 1048580 := by rw [ByteArray.size_append]; omega
  have S3 : (z ++ y : ByteArray).size ≤ 1048580 := by rw [ByteArray.size_append]; omega
  have S4 : (x ++ y ++ ⟨#[46, 42]⟩ : ByteArray).size ≤ 1048580 := by rw [star_size, ByteArray.size_append]; omega
  have hp' : 0 < (y.size : Int) := by omega
  have HWX : Hid (Mt (x ++ ⟨#[46, 42]⟩ : ByteArray).data.toList (x ++ y : ByteArray).data.toList) := hwx
  have HWZ : Hid (¬ Mt (x ++ ⟨#[46, 42]⟩ : ByteArray).data.toList z.data.toList) := hwz
  have HNZ : Hid (¬ Mt (x ++ y ++ ⟨#[46, 42]⟩ : ByteArray).data.toList z.data.toList) := hnz
  have T1 := show Hid _ from S1
  have T2 := show Hid _ from S2
  have T3 := show Hid _ from S3
  have T4 := show Hid _ from S4
  clear hwx hwz hnz S1 S2 S3 S4
  go_enter Try.func4, Try.ntmps4
  go_wp2_with (first
    | (go_at_call 7; refine (zbW_yes x y z _ (by omega)).mono ?_; rintro e w ⟨rfl, rfl⟩)
    | (go_at_call 6; have q := HWX; clear HWX; refine (match_yes _ _ _ q.out T1.out T2.out).mono ?_; rintro e w ⟨rfl, rfl⟩)
    | (go_at_call 6; have q := HWZ; clear HWZ; refine (match_no _ _ _ q.out T1.out (by omega)).mono ?_; rintro e w ⟨rfl, rfl⟩)
    | (go_at_call 6; have q := HNZ; clear HNZ; refine (match_no _ _ _ q.out T4.out (by omega)).mono ?_; rintro e w ⟨rfl, rfl⟩))
  go_ret
  exact ⟨rfl, rfl⟩
set_option maxHeartbeats 1000000 in
theorem wc_E_yy (x y z : ByteArray) (w : World) (h1 : (x.size : Int) ≤ 262144) (_h2 : (y.size : Int) ≤ 262144) (h3 : (z.size : Int) ≤ 262144) (hwx : ¬ Mt (x ++ ⟨#[46, 42]⟩ : ByteArray).data.toList (x ++ y : ByteArray).data.toList) (hwz : Mt (x ++ ⟨#[46, 42]⟩ : ByteArray).data.toList z.data.toList) (hwzy : Mt (x ++ ⟨#[46, 42]⟩ : ByteArray).data.toList (z ++ y : ByteArray).data.toList) (hnz : Mt (x ++ y ++ ⟨#[46, 42]⟩ : ByteArray).data.toList z.data.toList) (hy0 : (y.size : Int) = 0) : Calls Try.prog 4 #[.string x, .string y, .string z] w fun e w' => e = .returned (.bool true) ∧ w' = w := by
  have S1 : (x ++ ⟨#[46, 42]⟩ : ByteArray).size ≤ 1048580 := by rw [star_size]; omega
  have S2 : (x ++ y : ByteArray).size ≤ 1048580 := by rw [ByteArray.size_append]; omega
  have S3 : (z ++ y : ByteArray).size ≤ 1048580 := by rw [ByteArray.size_append]; omega
  have S4 : (x ++ y ++ ⟨#[46, 42]⟩ : ByteArray).size ≤ 1048580 := by rw [star_size, ByteArray.size_append]; omega
  have HWX : Hid (¬ Mt (x ++ ⟨#[46, 42]⟩ : ByteArray).data.toList (x ++ y : ByteArray).data.toList) := hwx
  have HWZ : Hid (Mt (x ++ ⟨#[46, 42]⟩ : ByteArray).data.toList z.data.toList) := hwz
  have HWZY : Hid (Mt (x ++ ⟨#[46, 42]⟩ : ByteArray).data.toList (z ++ y : ByteArray).data.toList) := hwzy
  have HNZ : Hid (Mt (x ++ y ++ ⟨#[46, 42]⟩ : ByteArray).data.toList z.data.toList) := hnz
  have T1 := show Hid _ from S1
  have T2 := show Hid _ from S2
  have T3 := show Hid _ from S3
  have T4 := show Hid _ from S4
  clear hwx hwz hwzy hnz S1 S2 S3 S4
  have HWZ2 := HWZ
  go_enter Try.func4, Try.ntmps4
  go_wp2_with (first
    | (go_at_call 7; refine (zbW_yes x y z _ (by omega)).mono ?_; rintro e w ⟨rfl, rfl⟩)
    | (go_at_call 6; have q := HWX; clear HWX; refine (match_no _ _ _ q.out T1.out T2.out).mono ?_; rintro e w ⟨rfl, rfl⟩)
    | (go_at_call 6; have q := HWZ; clear HWZ; refine (match_yes _ _ _ q.out T1.out (by omega)).mono ?_; rintro e w ⟨rfl, rfl⟩)
    | (go_at_call 6; have q := HWZY; clear HWZY; refine (match_yes _ _ _ q.out T1.out T3.out).mono ?_; rintro e w ⟨rfl, rfl⟩)
    | (go_at_call 6; have q := HNZ; clear HNZ; refine (match_yes _ _ _ q.out T4.out (by omega)).mono ?_; rintro e w ⟨rfl, rfl⟩)
    | (go_at_call 6; have q := HWZ2; clear HWZ2; refine (match_yes _ _ _ q.out T1.out (by omega)).mono ?_; rintro e w ⟨rfl, rfl⟩))
  go_ret
  exact ⟨rfl, rfl⟩
set_option maxHeartbeats 1000000 in
theorem wc_E_yn (x y z : ByteArray) (w : World) (h1 : (x.size : Int) ≤ 262144) (_h2 : (y.size : Int) ≤ 262144) (h3 : (z.size : Int) ≤ 262144) (hwx : ¬ Mt (x ++ ⟨#[46, 42]⟩ : ByteArray).data.toList (x ++ y : ByteArray).data.toList) (hwz : Mt (x ++ ⟨#[46, 42]⟩ : ByteArray).data.toList z.data.toList) (hwzy : Mt (x ++ ⟨#[46, 42]⟩ : ByteArray).data.toList (z ++ y : ByteArray).data.toList) (hnz : ¬ Mt (x ++ y ++ ⟨#[46, 42]⟩ : ByteArray).data.toList z.data.toList) (hy0 : (y.size : Int) = 0) : Calls Try.prog 4 #[.string x, .string y, .string z] w fun e w' => e = .returned (.bool true) ∧ w' = w := by
  have S1 : (x ++ ⟨#[46, 42]⟩ : ByteArray).size ≤ 1048580 := by rw [star_size]; omega
  have S2 : (x ++ y : ByteArray).size ≤ 1048580 := by rw [ByteArray.size_append]; omega
  have S3 : (z ++ y : ByteArray).size ≤ 1048580 := by rw [ByteArray.size_append]; omega
  have S4 : (x ++ y ++ ⟨#[46, 42]⟩ : ByteArray).size ≤ 1048580 := by rw [star_size, ByteArray.size_append]; omega
  have HWX : Hid (¬ Mt (x ++ ⟨#[46, 42]⟩ : ByteArray).data.toList (x ++ y : ByteArray).data.toList) := hwx
  have HWZ : Hid (Mt (x ++ ⟨#[46, 42]⟩ : ByteArray).data.toList z.data.toList) := hwz
  have HWZY : Hid (Mt (x ++ ⟨#[46, 42]⟩ : ByteArray).data.toList (z ++ y : ByteArray).data.toList) := hwzy
  have HNZ : Hid (¬ Mt (x ++ y ++ ⟨#[46, 42]⟩ : ByteArray).data.toList z.data.toList) := hnz
  have T1 := show Hid _ from S1
  have T2 := show Hid _ from S2
  have T3 := show Hid _ from S3
  have T4 := show Hid _ from S4
  clear hwx hwz hwzy hnz S1 S2 S3 S4
  go_enter Try.func4, Try.ntmps4
  go_wp2_with (first
    | (go_at_call 7; refine (zbW_yes x y z _ (by omega)).mono ?_; rintro e w ⟨rfl, rfl⟩)
    | (go_at_call 6; have q := HWX; clear HWX; refine (match_no _ _ _ q.out T1.out T2.out).mono ?_; rintro e w ⟨rfl, rfl⟩)
    | (go_at_call 6; have q := HWZ; clear HWZ; refine (match_yes _ _ _ q.out T1.out (by omega)).mono ?_; rintro e w ⟨rfl, rfl⟩)
    | (go_at_call 6; have q := HWZY; clear HWZY; refine (match_yes _ _ _ q.out T1.out T3.out).mono ?_; rintro e w ⟨rfl, rfl⟩)
    | (go_at_call 6; have q := HNZ; clear HNZ; refine (match_no _ _ _ q.out T4.out (by omega)).mono ?_; rintro e w ⟨rfl, rfl⟩))
  go_ret
  exact ⟨rfl, rfl⟩
set_option maxHeartbeats 1000000 in
theorem wc_E_nn (x y z : ByteArray) (w : World) (h1 : (x.size : Int) ≤ 262144) (_h2 : (y.size : Int) ≤ 262144) (h3 : (z.size : Int) ≤ 262144) (hwx : ¬ Mt (x ++ ⟨#[46, 42]⟩ : ByteArray).data.toList (x ++ y : ByteArray).data.toList) (hwz : ¬ Mt (x ++ ⟨#[46, 42]⟩ : ByteArray).data.toList z.data.toList) (hnz : ¬ Mt (x ++ y ++ ⟨#[46, 42]⟩ : ByteArray).data.toList z.data.toList) (hy0 : (y.size : Int) = 0) : Calls Try.prog 4 #[.string x, .string y, .string z] w fun e w' => e = .returned (.bool true) ∧ w' = w := by
  have S1 : (x ++ ⟨#[46, 42]⟩ : ByteArray).size ≤ 1048580 := by rw [star_size]; omega
  have S2 : (x ++ y : ByteArray).size ≤ 1048580 := by rw [ByteArray.size_append]; omega
  have S3 : (z ++ y : ByteArray).size ≤ 1048580 := by rw [ByteArray.size_append]; omega
  have S4 : (x ++ y ++ ⟨#[46, 42]⟩ : ByteArray).size ≤ 1048580 := by rw [star_size, ByteArray.size_append]; omega
  have HWX : Hid (¬ Mt (x ++ ⟨#[46, 42]⟩ : ByteArray).data.toList (x ++ y : ByteArray).data.toList) := hwx
  have HWZ : Hid (¬ Mt (x ++ ⟨#[46, 42]⟩ : ByteArray).data.toList z.data.toList) := hwz
  have HNZ : Hid (¬ Mt (x ++ y ++ ⟨#[46, 42]⟩ : ByteArray).data.toList z.data.toList) := hnz
  have T1 := show Hid _ from S1
  have T2 := show Hid _ from S2
  have T3 := show Hid _ from S3
  have T4 := show Hid _ from S4
  clear hwx hwz hnz S1 S2 S3 S4
  go_enter Try.func4, Try.ntmps4
  go_wp2_with (first
    | (go_at_call 7; refine (zbW_yes x y z _ (by omega)).mono ?_; rintro e w ⟨rfl, rfl⟩)
    | (go_at_call 6; have q := HWX; clear HWX; refine (match_no _ _ _ q.out T1.out T2.out).mono ?_; rintro e w ⟨rfl, rfl⟩)
    | (go_at_call 6; have q := HWZ; clear HWZ; refine (match_no _ _ _ q.out T1.out (by omega)).mono ?_; rintro e w ⟨rfl, rfl⟩)
    | (go_at_call 6; have q := HNZ; clear HNZ; refine (match_no _ _ _ q.out T4.out (by omega)).mono ?_; rintro e w ⟨rfl, rfl⟩))
  go_ret
  exact ⟨rfl, rfl⟩
set_option maxHeartbeats 1000000 in
theorem wc_N_y (x y z : ByteArray) (w : World) (h1 : (x.size : Int) ≤ 262144) (h2 : (y.size : Int) ≤ 262144) (h3 : (z.size : Int) ≤ 262144) (hwx : ¬ Mt (x ++ ⟨#[46, 42]⟩ : ByteArray).data.toList (x ++ y : ByteArray).data.toList) (hwz : Mt (x ++ ⟨#[46, 42]⟩ : ByteArray).data.toList z.data.toList) (hwzy : Mt (x ++ ⟨#[46, 42]⟩ : ByteArray).data.toList (z ++ y : ByteArray).data.toList) (hp : 0 < y.size) (hy : ((y[0].toNat : Int) == 46) = false) : Calls Try.prog 4 #[.string x, .string y, .string z] w fun e w' => e = .returned (.bool true) ∧ w' = w := by
  have S1 : (x ++ ⟨#[46, 42]⟩ : ByteArray).size ≤ 1048580 := by rw [star_size]; omega
  have S2 : (x ++ y : ByteArray).size ≤ 1048580 := by rw [ByteArray.size_append]; omega
  have S3 : (z ++ y : ByteArray).size ≤ 1048580 := by rw [ByteArray.size_append]; omega
  have S4 : (x ++ y ++ ⟨#[46, 42]⟩ : ByteArray).size ≤ 1048580 := by rw [star_size, ByteArray.size_append]; omega
  have hp' : 0 < (y.size : Int) := by omega
  have hy0 : ((y.size : Int) == 0) = false := beq_eq_false_iff_ne.2 (by omega)
  have HWX : Hid (¬ Mt (x ++ ⟨#[46, 42]⟩ : ByteArray).data.toList (x ++ y : ByteArray).data.toList) := hwx
  have HWZ : Hid (Mt (x ++ ⟨#[46, 42]⟩ : ByteArray).data.toList z.data.toList) := hwz
  have HWZY : Hid (Mt (x ++ ⟨#[46, 42]⟩ : ByteArray).data.toList (z ++ y : ByteArray).data.toList) := hwzy
  have T1 := show Hid _ from S1
  have T2 := show Hid _ from S2
  have T3 := show Hid _ from S3
  have T4 := show Hid _ from S4
  clear hwx hwz hwzy S1 S2 S3 S4
  go_enter Try.func4, Try.ntmps4
  go_wp2_with (first
    | (go_at_call 7; refine (zbW_yes x y z _ (by omega)).mono ?_; rintro e w ⟨rfl, rfl⟩)
    | (go_at_call 6; have q := HWX; clear HWX; refine (match_no _ _ _ q.out T1.out T2.out).mono ?_; rintro e w ⟨rfl, rfl⟩)
    | (go_at_call 6; have q := HWZ; clear HWZ; refine (match_yes _ _ _ q.out T1.out (by omega)).mono ?_; rintro e w ⟨rfl, rfl⟩)
    | (go_at_call 6; have q := HWZY; clear HWZY; refine (match_yes _ _ _ q.out T1.out T3.out).mono ?_; rintro e w ⟨rfl, rfl⟩))
  go_ret
  exact ⟨rfl, rfl⟩
set_option maxHeartbeats 1000000 in
theorem wc_N_n (x y z : ByteArray) (w : World) (h1 : (x.size : Int) ≤ 262144) (h2 : (y.size : Int) ≤ 262144) (h3 : (z.size : Int) ≤ 262144) (hwx : ¬ Mt (x ++ ⟨#[46, 42]⟩ : ByteArray).data.toList (x ++ y : ByteArray).data.toList) (hwz : ¬ Mt (x ++ ⟨#[46, 42]⟩ : ByteArray).data.toList z.data.toList) (hp : 0 < y.size) (hy : ((y[0].toNat : Int) == 46) = false) : Calls Try.prog 4 #[.string x, .string y, .string z] w fun e w' => e = .returned (.bool true) ∧ w' = w := by
  have S1 : (x ++ ⟨#[46, 42]⟩ : ByteArray).size ≤ 1048580 := by rw [star_size]; omega
  have S2 : (x ++ y : ByteArray).size ≤ 1048580 := by rw [ByteArray.size_append]; omega
  have S3 : (z ++ y : ByteArray).size ≤ 1048580 := by rw [ByteArray.size_append]; omega
  have S4 : (x ++ y ++ ⟨#[46, 42]⟩ : ByteArray).size ≤ 1048580 := by rw [star_size, ByteArray.size_append]; omega
  have hp' : 0 < (y.size : Int) := by omega
  have hy0 : ((y.size : Int) == 0) = false := beq_eq_false_iff_ne.2 (by omega)
  have HWX : Hid (¬ Mt (x ++ ⟨#[46, 42]⟩ : ByteArray).data.toList (x ++ y : ByteArray).data.toList) := hwx
  have HWZ : Hid (¬ Mt (x ++ ⟨#[46, 42]⟩ : ByteArray).data.toList z.data.toList) := hwz
  have T1 := show Hid _ from S1
  have T2 := show Hid _ from S2
  have T3 := show Hid _ from S3
  have T4 := show Hid _ from S4
  clear hwx hwz S1 S2 S3 S4
  go_enter Try.func4, Try.ntmps4
  go_wp2_with (first
    | (go_at_call 7; refine (zbW_yes x y z _ (by omega)).mono ?_; rintro e w ⟨rfl, rfl⟩)
    | (go_at_call 6; have q := HWX; clear HWX; refine (match_no _ _ _ q.out T1.out T2.out).mono ?_; rintro e w ⟨rfl, rfl⟩)
    | (go_at_call 6; have q := HWZ; clear HWZ; refine (match_no _ _ _ q.out T1.out (by omega)).mono ?_; rintro e w ⟨rfl, rfl⟩))
  go_ret
  exact ⟨rfl, rfl⟩

theorem at0 (y : ByteArray) (hp : 0 < y.size) : dotted y.data.toList = ((y[0].toNat : Int) == 46) := by
  have hl : 0 < y.data.toList.length := by rw [len_list]; exact hp
  have e : y.data.toList = y[0] :: y.data.toList.tail := by
    have h0 := List.cons_head_tail (l := y.data.toList) (List.ne_nil_of_length_pos hl)
    rw [List.head_eq_getElem] at h0
    exact h0.symm
  rw [e]
  show (y[0] == 46) = _
  rw [Bool.eq_iff_iff]
  simp only [beq_iff_eq]
  constructor
  · intro h; rw [h]; rfl
  · intro h; exact UInt8.toNat_inj.1 (by show y[0].toNat = 46; omega)

theorem wc_walk (x y z : ByteArray) (w : World) : Calls Try.prog 4 #[.string x, .string y, .string z] w fun e w' => e = .returned (.bool true) ∧ w' = w := by
  by_cases hs : (x.size : Int) ≤ 262144 ∧ (y.size : Int) ≤ 262144 ∧ (z.size : Int) ≤ 262144
  · obtain ⟨h1, h2, h3⟩ := hs
    have cx : Mt (x ++ ⟨#[46, 42]⟩ : ByteArray).data.toList (x ++ y : ByteArray).data.toList ↔ dotted y.data.toList = true := by
      rw [star_list, cat_list]; exact child _ _
    have cl : Mt (x ++ ⟨#[46, 42]⟩ : ByteArray).data.toList z.data.toList → Mt (x ++ ⟨#[46, 42]⟩ : ByteArray).data.toList (z ++ y : ByteArray).data.toList := by
      rw [star_list, cat_list]; exact longer _
    have cn : dotted y.data.toList = true ∨ y.data.toList = [] → Mt (x ++ y ++ ⟨#[46, 42]⟩ : ByteArray).data.toList z.data.toList → Mt (x ++ ⟨#[46, 42]⟩ : ByteArray).data.toList z.data.toList := by
      rw [star_list, star_list, cat_list]; exact narrower
    by_cases hp : 0 < y.size
    · have ha := at0 y hp
      cases hd : ((y[0].toNat : Int) == 46)
      · rw [hd] at ha
        have hwx : ¬ Mt (x ++ ⟨#[46, 42]⟩ : ByteArray).data.toList (x ++ y : ByteArray).data.toList := fun h => by rw [cx.1 h] at ha; cases ha
        by_cases hwz : Mt (x ++ ⟨#[46, 42]⟩ : ByteArray).data.toList z.data.toList
        · exact wc_N_y x y z w h1 h2 h3 hwx hwz (cl hwz) hp hd
        · exact wc_N_n x y z w h1 h2 h3 hwx hwz hp hd
      · rw [hd] at ha
        have hwx := cx.2 ha
        by_cases hnz : Mt (x ++ y ++ ⟨#[46, 42]⟩ : ByteArray).data.toList z.data.toList
        · have hwz := cn (.inl ha) hnz
          exact wc_D_yy x y z w h1 h2 h3 hwx hwz (cl hwz) hnz hp hd
        · by_cases hwz : Mt (x ++ ⟨#[46, 42]⟩ : ByteArray).data.toList z.data.toList
          · exact wc_D_yn x y z w h1 h2 h3 hwx hwz (cl hwz) hnz hp hd
          · exact wc_D_nn x y z w h1 h2 h3 hwx hwz hnz hp hd
    · have he : y.data.toList = [] := List.eq_nil_of_length_eq_zero (by rw [len_list]; omega)
      have hwx : ¬ Mt (x ++ ⟨#[46, 42]⟩ : ByteArray).data.toList (x ++ y : ByteArray).data.toList := fun h => by
        have := cx.1 h
        rw [he] at this
        cases this
      by_cases hnz : Mt (x ++ y ++ ⟨#[46, 42]⟩ : ByteArray).data.toList z.data.toList
      · have hwz := cn (.inr he) hnz
        exact wc_E_yy x y z w h1 h2 h3 hwx hwz (cl hwz) hnz (by omega)
      · by_cases hwz : Mt (x ++ ⟨#[46, 42]⟩ : ByteArray).data.toList z.data.toList
        · exact wc_E_yn x y z w h1 h2 h3 hwx hwz (cl hwz) hnz (by omega)
        · exact wc_E_nn x y z w h1 h2 h3 hwx hwz hnz (by omega)
  · exact wc_early x y z w hs
end Go.Proofs.Qxb6628907a
