/- 'maskedEq' walked. -/
import Derived.Test.Qxb6628779aMsg
namespace Go.Proofs.Qxb6628779a
open Go.RowKit
set_option linter.unusedSimpArgs false

/-- What 'maskedEq' computes. -/
def mask (c0 c1 c2 c3 : Int) (b4 b5 b6 b7 b8 b9 : Bool) (c10 : Int) (d0 d1 d2 d3 : Int) (e4 e5 e6 e7 e8 e9 : Bool) (d10 : Int) : Bool :=
  (bits .and .u8 c0 3 == bits .and .u8 d0 3) && (bits .and .u8 c1 3 == bits .and .u8 d1 3) && (bits .and .u8 c2 3 == bits .and .u8 d2 3) && (bits .and .u8 c3 3 == bits .and .u8 d3 3) && (bits .and .u8 c10 3 == bits .and .u8 d10 3) && (b4 == e4) && (b5 == e5) && (b6 == e6) && (b7 == e7) && (b8 == e8) && (b9 == e9)

set_option maxHeartbeats 1000000 in
theorem masked_any (c0 c1 c2 c3 : Int) (b4 b5 b6 b7 b8 b9 : Bool) (c10 : Int) (d0 d1 d2 d3 : Int) (e4 e5 e6 e7 e8 e9 : Bool) (d10 : Int) (w : World) (r : Bool) (hr : r = mask c0 c1 c2 c3 b4 b5 b6 b7 b8 b9 c10 d0 d1 d2 d3 e4 e5 e6 e7 e8 e9 d10) :
    Calls Try.prog 8 #[.agg #[.int .u8 c0, .int .u8 c1, .int .u8 c2, .int .u8 c3, .bool b4, .bool b5, .bool b6, .bool b7, .bool b8, .bool b9, .int .u8 c10], .agg #[.int .u8 d0, .int .u8 d1, .int .u8 d2, .int .u8 d3, .bool e4, .bool e5, .bool e6, .bool e7, .bool e8, .bool e9, .int .u8 d10]] w fun e w' =>
      e = .returned (.bool r) ∧ Below w.heap.size w w' := by
  cases h0 : (bits .and .u8 c0 3 == bits .and .u8 d0 3)
  · obtain rfl : r = false := by rw [hr]; simp only [mask, h0, Bool.false_and, Bool.and_false, Bool.true_and]
    clear hr
    go_enter Try.func8, Try.ntmps8
    simp only [List.cons_append, List.nil_append, List.append_eq]
    go_wp2
    go_ret
    exact ⟨rfl, by go_grown⟩
  cases h1 : (bits .and .u8 c1 3 == bits .and .u8 d1 3)
  · obtain rfl : r = false := by rw [hr]; simp only [mask, h0, h1, Bool.false_and, Bool.and_false, Bool.true_and]
    clear hr
    go_enter Try.func8, Try.ntmps8
    simp only [List.cons_append, List.nil_append, List.append_eq]
    go_wp2
    go_ret
    exact ⟨rfl, by go_grown⟩
  cases h2 : (bits .and .u8 c2 3 == bits .and .u8 d2 3)
  · obtain rfl : r = false := by rw [hr]; simp only [mask, h0, h1, h2, Bool.false_and, Bool.and_false, Bool.true_and]
    clear hr
    go_enter Try.func8, Try.ntmps8
    simp only [List.cons_append, List.nil_append, List.append_eq]
    go_wp2
    go_ret
    exact ⟨rfl, by go_grown⟩
  cases h3 : (bits .and .u8 c3 3 == bits .and .u8 d3 3)
  · obtain rfl : r = false := by rw [hr]; simp only [mask, h0, h1, h2, h3, Bool.false_and, Bool.and_false, Bool.true_and]
    clear hr
    go_enter Try.func8, Try.ntmps8
    simp only [List.cons_append, List.nil_append, List.append_eq]
    go_wp2
    go_ret
    exact ⟨rfl, by go_grown⟩
  cases h10 : (bits .and .u8 c10 3 == bits .and .u8 d10 3)
  · obtain rfl : r = false := by rw [hr]; simp only [mask, h0, h1, h2, h3, h10, Bool.false_and, Bool.and_false, Bool.true_and]
    clear hr
    go_enter Try.func8, Try.ntmps8
    simp only [List.cons_append, List.nil_append, List.append_eq]
    go_wp2
    go_ret
    exact ⟨rfl, by go_grown⟩
  cases h4 : (b4 == e4)
  · obtain rfl : r = false := by rw [hr]; simp only [mask, h0, h1, h2, h3, h10, h4, Bool.false_and, Bool.and_false, Bool.true_and]
    clear hr
    go_enter Try.func8, Try.ntmps8
    simp only [List.cons_append, List.nil_append, List.append_eq]
    go_wp2
    go_ret
    exact ⟨rfl, by go_grown⟩
  cases h5 : (b5 == e5)
  · obtain rfl : r = false := by rw [hr]; simp only [mask, h0, h1, h2, h3, h10, h4, h5, Bool.false_and, Bool.and_false, Bool.true_and]
    clear hr
    go_enter Try.func8, Try.ntmps8
    simp only [List.cons_append, List.nil_append, List.append_eq]
    go_wp2
    go_ret
    exact ⟨rfl, by go_grown⟩
  cases h6 : (b6 == e6)
  · obtain rfl : r = false := by rw [hr]; simp only [mask, h0, h1, h2, h3, h10, h4, h5, h6, Bool.false_and, Bool.and_false, Bool.true_and]
    clear hr
    go_enter Try.func8, Try.ntmps8
    simp only [List.cons_append, List.nil_append, List.append_eq]
    go_wp2
    go_ret
    exact ⟨rfl, by go_grown⟩
  cases h7 : (b7 == e7)
  · obtain rfl : r = false := by rw [hr]; simp only [mask, h0, h1, h2, h3, h10, h4, h5, h6, h7, Bool.false_and, Bool.and_false, Bool.true_and]
    clear hr
    go_enter Try.func8, Try.ntmps8
    simp only [List.cons_append, List.nil_append, List.append_eq]
    go_wp2
    go_ret
    exact ⟨rfl, by go_grown⟩
  cases h8 : (b8 == e8)
  · obtain rfl : r = false := by rw [hr]; simp only [mask, h0, h1, h2, h3, h10, h4, h5, h6, h7, h8, Bool.false_and, Bool.and_false, Bool.true_and]
    clear hr
    go_enter Try.func8, Try.ntmps8
    simp only [List.cons_append, List.nil_append, List.append_eq]
    go_wp2
    go_ret
    exact ⟨rfl, by go_grown⟩
  cases h9 : (b9 == e9)
  · obtain rfl : r = false := by rw [hr]; simp only [mask, h0, h1, h2, h3, h10, h4, h5, h6, h7, h8, h9, Bool.false_and, Bool.and_false, Bool.true_and]
    clear hr
    go_enter Try.func8, Try.ntmps8
    simp only [List.cons_append, List.nil_append, List.append_eq]
    go_wp2
    go_ret
    exact ⟨rfl, by go_grown⟩
  · obtain rfl : r = true := by rw [hr]; simp only [mask, h0, h1, h2, h3, h10, h4, h5, h6, h7, h8, h9, Bool.true_and]
    clear hr
    go_enter Try.func8, Try.ntmps8
    simp only [List.cons_append, List.nil_append, List.append_eq]
    go_wp2
    go_ret
    exact ⟨rfl, by go_grown⟩
end Go.Proofs.Qxb6628779a
