/- 'xorU8', 'flipB', 'flipO', 'oneBit' walked. -/
import Derived.Test.Qxb6628779aBits
namespace Go.Proofs.Qxb6628779a
open Go.RowKit

/-- The field number i of five behind 'xorU8(.., k, m)'. -/
def xf (i k : Nat) (m c : Int) : Int := if i = k then bits .xor .u8 c m else c
/-- The flag number i of six (or four) behind 'flipB(.., k)'. -/
def xb (i k : Nat) (b : Bool) : Bool := if i = k then !b else b

set_option maxHeartbeats 1000000 in
theorem xor_any (c0 c1 c2 c3 : Int) (b4 b5 b6 b7 b8 b9 : Bool) (c10 : Int) (k : Nat) (m : Int) (w : World) (hk : k < 5) :
    Calls Try.prog 10 #[.agg #[.int .u8 c0, .int .u8 c1, .int .u8 c2, .int .u8 c3, .bool b4, .bool b5, .bool b6, .bool b7, .bool b8, .bool b9, .int .u8 c10], .int .i64 k, .int .u8 m] w fun e w' =>
      e = .returned (.agg #[.int .u8 (xf 0 k m c0), .int .u8 (xf 1 k m c1), .int .u8 (xf 2 k m c2), .int .u8 (xf 3 k m c3), .bool b4, .bool b5, .bool b6, .bool b7, .bool b8, .bool b9, .int .u8 (xf 4 k m c10)]) ∧ Below w.heap.size w w' := by
  have hc : k = 0 ∨ k = 1 ∨ k = 2 ∨ k = 3 ∨ k = 4 := by omega
  rcases hc with rfl | rfl | rfl | rfl | rfl
  · go_enter Try.func10, Try.ntmps10
    go_wp2
    refine bodyPost_ret (v := .agg #[.int .u8 (bits .xor .u8 c0 m), .int .u8 c1, .int .u8 c2, .int .u8 c3, .bool b4, .bool b5, .bool b6, .bool b7, .bool b8, .bool b9, .int .u8 c10]) (by simp [results, Try.results10, go_sem]) rfl ⟨rfl, ?_⟩
    go_grown
  · go_enter Try.func10, Try.ntmps10
    go_wp2
    refine bodyPost_ret (v := .agg #[.int .u8 c0, .int .u8 (bits .xor .u8 c1 m), .int .u8 c2, .int .u8 c3, .bool b4, .bool b5, .bool b6, .bool b7, .bool b8, .bool b9, .int .u8 c10]) (by simp [results, Try.results10, go_sem]) rfl ⟨rfl, ?_⟩
    go_grown
  · go_enter Try.func10, Try.ntmps10
    go_wp2
    refine bodyPost_ret (v := .agg #[.int .u8 c0, .int .u8 c1, .int .u8 (bits .xor .u8 c2 m), .int .u8 c3, .bool b4, .bool b5, .bool b6, .bool b7, .bool b8, .bool b9, .int .u8 c10]) (by simp [results, Try.results10, go_sem]) rfl ⟨rfl, ?_⟩
    go_grown
  · go_enter Try.func10, Try.ntmps10
    go_wp2
    refine bodyPost_ret (v := .agg #[.int .u8 c0, .int .u8 c1, .int .u8 c2, .int .u8 (bits .xor .u8 c3 m), .bool b4, .bool b5, .bool b6, .bool b7, .bool b8, .bool b9, .int .u8 c10]) (by simp [results, Try.results10, go_sem]) rfl ⟨rfl, ?_⟩
    go_grown
  · go_enter Try.func10, Try.ntmps10
    go_wp2
    refine bodyPost_ret (v := .agg #[.int .u8 c0, .int .u8 c1, .int .u8 c2, .int .u8 c3, .bool b4, .bool b5, .bool b6, .bool b7, .bool b8, .bool b9, .int .u8 (bits .xor .u8 c10 m)]) (by simp [results, Try.results10, go_sem]) rfl ⟨rfl, ?_⟩
    go_grown

set_option maxHeartbeats 1000000 in
theorem flipB_any (c0 c1 c2 c3 : Int) (b4 b5 b6 b7 b8 b9 : Bool) (c10 : Int) (k : Nat) (w : World) (hk : k < 6) :
    Calls Try.prog 12 #[.agg #[.int .u8 c0, .int .u8 c1, .int .u8 c2, .int .u8 c3, .bool b4, .bool b5, .bool b6, .bool b7, .bool b8, .bool b9, .int .u8 c10], .int .i64 k] w fun e w' =>
      e = .returned (.agg #[.int .u8 c0, .int .u8 c1, .int .u8 c2, .int .u8 c3, .bool (xb 0 k b4), .bool (xb 1 k b5), .bool (xb 2 k b6), .bool (xb 3 k b7), .bool (xb 4 k b8), .bool (xb 5 k b9), .int .u8 c10]) ∧ Below w.heap.size w w' := by
  have hc : k = 0 ∨ k = 1 ∨ k = 2 ∨ k = 3 ∨ k = 4 ∨ k = 5 := by omega
  rcases hc with rfl | rfl | rfl | rfl | rfl | rfl
  · go_enter Try.func12, Try.ntmps12
    go_wp2
    refine bodyPost_ret (v := .agg #[.int .u8 c0, .int .u8 c1, .int .u8 c2, .int .u8 c3, .bool (!b4), .bool b5, .bool b6, .bool b7, .bool b8, .bool b9, .int .u8 c10]) (by simp [results, Try.results12, go_sem]) rfl ⟨rfl, ?_⟩
    go_grown
  · go_enter Try.func12, Try.ntmps12
    go_wp2
    refine bodyPost_ret (v := .agg #[.int .u8 c0, .int .u8 c1, .int .u8 c2, .int .u8 c3, .bool b4, .bool (!b5), .bool b6, .bool b7, .bool b8, .bool b9, .int .u8 c10]) (by simp [results, Try.results12, go_sem]) rfl ⟨rfl, ?_⟩
    go_grown
  · go_enter Try.func12, Try.ntmps12
    go_wp2
    refine bodyPost_ret (v := .agg #[.int .u8 c0, .int .u8 c1, .int .u8 c2, .int .u8 c3, .bool b4, .bool b5, .bool (!b6), .bool b7, .bool b8, .bool b9, .int .u8 c10]) (by simp [results, Try.results12, go_sem]) rfl ⟨rfl, ?_⟩
    go_grown
  · go_enter Try.func12, Try.ntmps12
    go_wp2
    refine bodyPost_ret (v := .agg #[.int .u8 c0, .int .u8 c1, .int .u8 c2, .int .u8 c3, .bool b4, .bool b5, .bool b6, .bool (!b7), .bool b8, .bool b9, .int .u8 c10]) (by simp [results, Try.results12, go_sem]) rfl ⟨rfl, ?_⟩
    go_grown
  · go_enter Try.func12, Try.ntmps12
    go_wp2
    refine bodyPost_ret (v := .agg #[.int .u8 c0, .int .u8 c1, .int .u8 c2, .int .u8 c3, .bool b4, .bool b5, .bool b6, .bool b7, .bool (!b8), .bool b9, .int .u8 c10]) (by simp [results, Try.results12, go_sem]) rfl ⟨rfl, ?_⟩
    go_grown
  · go_enter Try.func12, Try.ntmps12
    go_wp2
    refine bodyPost_ret (v := .agg #[.int .u8 c0, .int .u8 c1, .int .u8 c2, .int .u8 c3, .bool b4, .bool b5, .bool b6, .bool b7, .bool b8, .bool (!b9), .int .u8 c10]) (by simp [results, Try.results12, go_sem]) rfl ⟨rfl, ?_⟩
    go_grown

set_option maxHeartbeats 1000000 in
theorem flipO_any (o0 o1 o2 o3 : Bool) (k : Nat) (w : World) (hk : k < 4) :
    Calls Try.prog 13 #[.agg #[.bool o0, .bool o1, .bool o2, .bool o3], .int .i64 k] w fun e w' =>
      e = .returned (.agg #[.bool (xb 0 k o0), .bool (xb 1 k o1), .bool (xb 2 k o2), .bool (xb 3 k o3)]) ∧ Below w.heap.size w w' := by
  have hc : k = 0 ∨ k = 1 ∨ k = 2 ∨ k = 3 := by omega
  rcases hc with rfl | rfl | rfl | rfl
  · go_enter Try.func13, Try.ntmps13
    go_wp2
    refine bodyPost_ret (v := .agg #[.bool (!o0), .bool o1, .bool o2, .bool o3]) (by simp [results, Try.results13, go_sem]) rfl ⟨rfl, ?_⟩
    go_grown
  · go_enter Try.func13, Try.ntmps13
    go_wp2
    refine bodyPost_ret (v := .agg #[.bool o0, .bool (!o1), .bool o2, .bool o3]) (by simp [results, Try.results13, go_sem]) rfl ⟨rfl, ?_⟩
    go_grown
  · go_enter Try.func13, Try.ntmps13
    go_wp2
    refine bodyPost_ret (v := .agg #[.bool o0, .bool o1, .bool (!o2), .bool o3]) (by simp [results, Try.results13, go_sem]) rfl ⟨rfl, ?_⟩
    go_grown
  · go_enter Try.func13, Try.ntmps13
    go_wp2
    refine bodyPost_ret (v := .agg #[.bool o0, .bool o1, .bool o2, .bool (!o3)]) (by simp [results, Try.results13, go_sem]) rfl ⟨rfl, ?_⟩
    go_grown

theorem oneBit_any (d : Int) (w : World) (h1 : (d != 0) = true) (h2 : (bits .and .u32 d ((d - 1) % 4294967296) == 0) = true) :
    Calls Try.prog 11 #[.int .u32 d] w fun e w' => e = .returned (.bool true) ∧ w' = w := by
  go_enter Try.func11, Try.ntmps11
  go_wp2
  go_ret
  exact ⟨rfl, rfl⟩
end Go.Proofs.Qxb6628779a
