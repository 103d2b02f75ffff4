/- 'bytesEq', 'sameMsg' walked. -/
import Derived.Test.Qxb6628779aMsg
namespace Go.Proofs.Qxb6628779a
open Go.RowKit

section
variable (a b : Nat) (x0 x1 y0 y1 : Int) (w : World)

set_option maxHeartbeats 400000 in
theorem bytes2_yes (ha0 : w.cell? ⟨a, 0, none⟩ = some (.int .u8 x0)) (ha1 : w.cell? ⟨a, 1, none⟩ = some (.int .u8 x1)) (hb0 : w.cell? ⟨b, 0, none⟩ = some (.int .u8 y0)) (hb1 : w.cell? ⟨b, 1, none⟩ = some (.int .u8 y1))
    (h0 : (x0 != y0) = false) (h1 : (x1 != y1) = false) :
    Calls Try.prog 15 #[.slice (some ⟨a, 0, none⟩) 2 2, .slice (some ⟨b, 0, none⟩) 2 2] w fun e w' => e = .returned (.bool true) ∧ ∃ n, w' = w.drewN n := by
  go_enter Try.func15, Try.ntmps15
  go_wp2
  refine wp_loop_rounds 3 ?_
  rw [rounds_succ]; go_wp2; go_quiet (fail); go_wp2
  rw [rounds_succ]; go_wp2; go_quiet (fail); go_wp2
  rw [rounds_succ]; go_wp2
  go_ret
  exact ⟨rfl, _, rfl⟩
set_option maxHeartbeats 400000 in
theorem bytes2_no0 (ha0 : w.cell? ⟨a, 0, none⟩ = some (.int .u8 x0)) (hb0 : w.cell? ⟨b, 0, none⟩ = some (.int .u8 y0))
    (h0 : (x0 != y0) = true) :
    Calls Try.prog 15 #[.slice (some ⟨a, 0, none⟩) 2 2, .slice (some ⟨b, 0, none⟩) 2 2] w fun e w' => e = .returned (.bool false) ∧ ∃ n, w' = w.drewN n := by
  go_enter Try.func15, Try.ntmps15
  go_wp2
  refine wp_loop_rounds 3 ?_
  rw [rounds_succ]; go_wp2; go_quiet (fail); go_wp2
  go_ret
  exact ⟨rfl, _, rfl⟩
set_option maxHeartbeats 400000 in
theorem bytes2_no1 (ha0 : w.cell? ⟨a, 0, none⟩ = some (.int .u8 x0)) (ha1 : w.cell? ⟨a, 1, none⟩ = some (.int .u8 x1)) (hb0 : w.cell? ⟨b, 0, none⟩ = some (.int .u8 y0)) (hb1 : w.cell? ⟨b, 1, none⟩ = some (.int .u8 y1))
    (h0 : (x0 != y0) = false) (h1 : (x1 != y1) = true) :
    Calls Try.prog 15 #[.slice (some ⟨a, 0, none⟩) 2 2, .slice (some ⟨b, 0, none⟩) 2 2] w fun e w' => e = .returned (.bool false) ∧ ∃ n, w' = w.drewN n := by
  go_enter Try.func15, Try.ntmps15
  go_wp2
  refine wp_loop_rounds 3 ?_
  rw [rounds_succ]; go_wp2; go_quiet (fail); go_wp2
  rw [rounds_succ]; go_wp2; go_quiet (fail); go_wp2
  go_ret
  exact ⟨rfl, _, World.drewN_drewN _ _ _⟩
theorem bytes2 (ha0 : w.cell? ⟨a, 0, none⟩ = some (.int .u8 x0)) (ha1 : w.cell? ⟨a, 1, none⟩ = some (.int .u8 x1)) (hb0 : w.cell? ⟨b, 0, none⟩ = some (.int .u8 y0)) (hb1 : w.cell? ⟨b, 1, none⟩ = some (.int .u8 y1)) (r : Bool) (hr : r = (x0 == y0 && x1 == y1)) :
    Calls Try.prog 15 #[.slice (some ⟨a, 0, none⟩) 2 2, .slice (some ⟨b, 0, none⟩) 2 2] w fun e w' => e = .returned (.bool r) ∧ ∃ n, w' = w.drewN n := by
  by_cases h0 : x0 = y0
  · by_cases h1 : x1 = y1
    · rw [show r = true by simp [hr, h0, h1]]
      exact bytes2_yes a b x0 x1 y0 y1 w ha0 ha1 hb0 hb1 (by simp [h0]) (by simp [h1])
    · rw [show r = false by simp [hr, h1]]
      exact bytes2_no1 a b x0 x1 y0 y1 w ha0 ha1 hb0 hb1 (by simp [h0]) (by simp [h1])
  · rw [show r = false by simp [hr, h0]]
    exact bytes2_no0 a b x0 y0 w ha0 hb0 (by simp [h0])
set_option maxHeartbeats 400000 in
theorem bytes1_yes (ha0 : w.cell? ⟨a, 0, none⟩ = some (.int .u8 x0)) (hb0 : w.cell? ⟨b, 0, none⟩ = some (.int .u8 y0)) (h0 : (x0 != y0) = false) :
    Calls Try.prog 15 #[.slice (some ⟨a, 0, none⟩) 1 1, .slice (some ⟨b, 0, none⟩) 1 1] w fun e w' => e = .returned (.bool true) ∧ ∃ n, w' = w.drewN n := by
  go_enter Try.func15, Try.ntmps15
  go_wp2
  refine wp_loop_rounds 3 ?_
  rw [rounds_succ]; go_wp2; go_quiet (fail); go_wp2
  rw [rounds_succ]; go_wp2
  go_ret
  exact ⟨rfl, _, rfl⟩
set_option maxHeartbeats 400000 in
theorem bytes1_no (ha0 : w.cell? ⟨a, 0, none⟩ = some (.int .u8 x0)) (hb0 : w.cell? ⟨b, 0, none⟩ = some (.int .u8 y0)) (h0 : (x0 != y0) = true) :
    Calls Try.prog 15 #[.slice (some ⟨a, 0, none⟩) 1 1, .slice (some ⟨b, 0, none⟩) 1 1] w fun e w' => e = .returned (.bool false) ∧ ∃ n, w' = w.drewN n := by
  go_enter Try.func15, Try.ntmps15
  go_wp2
  refine wp_loop_rounds 3 ?_
  rw [rounds_succ]; go_wp2; go_quiet (fail); go_wp2
  go_ret
  exact ⟨rfl, _, rfl⟩
theorem bytes1 (ha0 : w.cell? ⟨a, 0, none⟩ = some (.int .u8 x0)) (hb0 : w.cell? ⟨b, 0, none⟩ = some (.int .u8 y0)) (r : Bool) (hr : r = (x0 == y0)) :
    Calls Try.prog 15 #[.slice (some ⟨a, 0, none⟩) 1 1, .slice (some ⟨b, 0, none⟩) 1 1] w fun e w' => e = .returned (.bool r) ∧ ∃ n, w' = w.drewN n := by
  by_cases h0 : x0 = y0
  · rw [show r = true by simp [hr, h0]]
    exact bytes1_yes a b x0 y0 w ha0 hb0 (by simp [h0])
  · rw [show r = false by simp [hr, h0]]
    exact bytes1_no a b x0 y0 w ha0 hb0 (by simp [h0])
end

set_option maxHeartbeats 400000 in
theorem same_fixNo (cic : Int) (B C fa fb : Nat) (x0 x1 y0 y1 : Int) (oa ob : Value) (w : World) (ha : FixAt w B fa x0 x1) (hb : FixAt w C fb y0 y1) (r : Bool) (hr : r = (x0 == y0 && x1 == y1)) (hf : r = false) :
    Calls Try.prog 7 #[.agg #[.int .u16 cic, .int .u8 6, .slice (some ⟨fa, 0, none⟩) 2 2, .slice none 0 0, oa], .agg #[.int .u16 cic, .int .u8 6, .slice (some ⟨fb, 0, none⟩) 2 2, .slice none 0 0, ob]] w fun e w' =>
      e = .returned (.bool false) ∧ Below w.heap.size w w' := by
  obtain ⟨_, hai, ha0, ha1⟩ := ha
  obtain ⟨_, hbi, hb0, hb1⟩ := hb
  have hai1 : fa < w.heap.size + 1 := by omega
  have hbi1 : fb < w.heap.size + 1 := by omega
  have HR : Hid (r = (x0 == y0 && x1 == y1)) := hr
  clear hr
  subst hf
  go_enter Try.func7, Try.ntmps7
  go_wp2_with fail
  refine (bytes2 fa fb x0 x1 y0 y1 _ ?_ ?_ ?_ ?_ false HR.out).mono ?_
  iterate 4 (simp [go_sem, *])
  rintro e w1 ⟨rfl, n, rfl⟩
  go_wp2
  go_ret
  exact ⟨rfl, bdrewN (by go_grown) _⟩

set_option maxHeartbeats 400000 in
/-- The fixed octets agree, both optional parts are nil. -/
theorem same_zz (cic : Int) (B C fa fb : Nat) (x0 x1 y0 y1 : Int) (w : World) (ha : FixAt w B fa x0 x1) (hb : FixAt w C fb y0 y1) (hr : true = (x0 == y0 && x1 == y1)) :
    Calls Try.prog 7 #[msgZ cic fa, msgZ cic fb] w fun e w' => e = .returned (.bool true) ∧ Below w.heap.size w w' := by
  obtain ⟨_, hai, ha0, ha1⟩ := ha
  obtain ⟨_, hbi, hb0, hb1⟩ := hb
  have hai1 : fa < w.heap.size + 1 := by omega
  have hbi1 : fb < w.heap.size + 1 := by omega
  have HR : Hid (true = (x0 == y0 && x1 == y1)) := hr
  clear hr
  go_enter Try.func7, Try.ntmps7
  go_wp2_with fail
  refine (bytes2 fa fb x0 x1 y0 y1 _ ?_ ?_ ?_ ?_ true HR.out).mono ?_
  iterate 4 (simp [go_sem, *])
  rintro e w1 ⟨rfl, n, rfl⟩
  go_wp2
  refine wp_loop_rounds 1 ?_
  rw [rounds_succ]; go_wp2
  refine wp_loop_rounds 1 ?_
  rw [rounds_succ]; go_wp2
  go_ret
  exact ⟨rfl, bdrewN (by go_grown) _⟩

set_option maxHeartbeats 400000 in
/-- One has an optional part, the other not. -/
theorem same_zn (cic : Int) (B C fa fb pb : Nat) (x0 x1 y0 y1 : Int) (w : World) (ha : FixAt w B fa x0 x1) (hb : FixAt w C fb y0 y1) (hr : true = (x0 == y0 && x1 == y1)) :
    Calls Try.prog 7 #[msgZ cic fa, msgN cic fb pb] w fun e w' => e = .returned (.bool false) ∧ Below w.heap.size w w' := by
  obtain ⟨_, hai, ha0, ha1⟩ := ha
  obtain ⟨_, hbi, hb0, hb1⟩ := hb
  have hai1 : fa < w.heap.size + 1 := by omega
  have hbi1 : fb < w.heap.size + 1 := by omega
  have HR : Hid (true = (x0 == y0 && x1 == y1)) := hr
  clear hr
  go_enter Try.func7, Try.ntmps7
  go_wp2_with fail
  refine (bytes2 fa fb x0 x1 y0 y1 _ ?_ ?_ ?_ ?_ true HR.out).mono ?_
  iterate 4 (simp [go_sem, *])
  rintro e w1 ⟨rfl, n, rfl⟩
  go_wp2
  go_ret
  exact ⟨rfl, bdrewN (by go_grown) _⟩

set_option maxHeartbeats 400000 in
theorem same_nz (cic : Int) (B C fa fb pb : Nat) (x0 x1 y0 y1 : Int) (w : World) (ha : FixAt w B fa x0 x1) (hb : FixAt w C fb y0 y1) (hr : true = (x0 == y0 && x1 == y1)) :
    Calls Try.prog 7 #[msgN cic fa pb, msgZ cic fb] w fun e w' => e = .returned (.bool false) ∧ Below w.heap.size w w' := by
  obtain ⟨_, hai, ha0, ha1⟩ := ha
  obtain ⟨_, hbi, hb0, hb1⟩ := hb
  have hai1 : fa < w.heap.size + 1 := by omega
  have hbi1 : fb < w.heap.size + 1 := by omega
  have HR : Hid (true = (x0 == y0 && x1 == y1)) := hr
  clear hr
  go_enter Try.func7, Try.ntmps7
  go_wp2_with fail
  refine (bytes2 fa fb x0 x1 y0 y1 _ ?_ ?_ ?_ ?_ true HR.out).mono ?_
  iterate 4 (simp [go_sem, *])
  rintro e w1 ⟨rfl, n, rfl⟩
  go_wp2
  go_ret
  exact ⟨rfl, bdrewN (by go_grown) _⟩

set_option maxHeartbeats 400000 in
/-- Both have one: the octets decide. -/
theorem same_nn (cic : Int) (B C fa fb pa pb va vb : Nat) (x0 x1 y0 y1 x y : Int) (w : World) (ha : FixAt w B fa x0 x1) (hb : FixAt w C fb y0 y1) (hr : true = (x0 == y0 && x1 == y1)) (hoa : OptAt w B pa va x) (hob : OptAt w C pb vb y) (r : Bool) (hr2 : r = (x == y)) :
    Calls Try.prog 7 #[msgN cic fa pa, msgN cic fb pb] w fun e w' => e = .returned (.bool r) ∧ Below w.heap.size w w' := by
  obtain ⟨_, hai, ha0, ha1⟩ := ha
  obtain ⟨_, hbi, hb0, hb1⟩ := hb
  obtain ⟨_, hpa, _, hva, hpa0, hpa1, hva0⟩ := hoa
  obtain ⟨_, hpb, _, hvb, hpb0, hpb1, hvb0⟩ := hob
  have hai1 : fa < w.heap.size + 1 := by omega
  have hbi1 : fb < w.heap.size + 1 := by omega
  have hpa1' : pa < w.heap.size + 1 := by omega
  have hpb1' : pb < w.heap.size + 1 := by omega
  have hva1' : va < w.heap.size + 1 := by omega
  have hvb1' : vb < w.heap.size + 1 := by omega
  have HR : Hid (true = (x0 == y0 && x1 == y1)) := hr
  have HR2 : Hid (r = (x == y)) := hr2
  clear hr hr2
  go_enter Try.func7, Try.ntmps7
  go_wp2_with fail
  refine (bytes2 fa fb x0 x1 y0 y1 _ ?_ ?_ ?_ ?_ true HR.out).mono ?_
  iterate 4 (simp [go_sem, *])
  rintro e w1 ⟨rfl, n, hw1⟩
  have hc : ∀ b o, w1.cell? ⟨b, o, none⟩ = ((w.alloc (.cells #[.int .u16 cic, .int .u8 6, .slice (some ⟨fa, 0, none⟩) 2 2, .slice none 0 0, .slice (some ⟨pa, 0, none⟩) 1 1] 32)).alloc (.cells #[.int .u16 cic, .int .u8 6, .slice (some ⟨fb, 0, none⟩) 2 2, .slice none 0 0, .slice (some ⟨pb, 0, none⟩) 1 1] 32)).cell? ⟨b, o, none⟩ := fun b o => by rw [hw1]; rfl
  have hbel : Below w.heap.size w w1 := by rw [hw1]; exact bdrewN (by go_grown) _
  clear hw1
  go_wp2
  refine wp_loop_rounds 1 ?_
  rw [rounds_succ]; go_wp2
  refine wp_loop_rounds 2 ?_
  rw [rounds_succ]; go_wp2
  go_quiet ((go_at_call 15; refine Calls.quiet_of (bytes1 va vb x y _ ?_ ?_ r HR2.out) <;> simp [go_sem, *]))
  cases r
  · go_wp2
    go_ret
    exact ⟨rfl, bdrewN hbel _⟩
  · go_wp2
    rw [rounds_succ]; go_wp2
    go_ret
    exact ⟨rfl, bdrewN hbel _⟩
end Go.Proofs.Qxb6628779a
