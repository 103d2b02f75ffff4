/- 'NewACM' and 'acm' walked: what the message holds. -/
import Derived.Test.Qxb6628779aOct
namespace Go.Proofs.Qxb6628779a
open Go.RowKit

/-- No optional indicator is set. -/
def zeroO (o0 o1 o2 o3 : Bool) : Bool := !(o0 || o1 || o2 || o3)
theorem neq49 (o0 o1 o2 o3 : Bool) (w : World) : (binOp .neq 49 (.agg #[.bool o0, .bool o1, .bool o2, .bool o3]) (.agg #[.bool false, .bool false, .bool false, .bool false])).run Try.prog w = .ok (.bool (!zeroO o0 o1 o2 o3)) w := by
  cases o0 <;> cases o1 <;> cases o2 <;> cases o3 <;> kernel_rfl

theorem bdrewN {B : Nat} {a w : World} (h : Below B a w) (n : Nat) : Below B a (w.drewN n) := h.trans ⟨rfl, rfl, rfl, Nat.le_refl _, fun _ _ => rfl⟩
theorem bcell {W w1 : World} (hb : Below W.heap.size W w1) : (∀ b o, b < W.heap.size → w1.cell? ⟨b, o, none⟩ = W.cell? ⟨b, o, none⟩) ∧ (∀ b o, b < W.heap.size → w1.frozen? ⟨b, o, none⟩ = W.frozen? ⟨b, o, none⟩) :=
  ⟨fun b o h => hb.cell (p := ⟨b, o, none⟩) h, fun b o h => hb.frozen (p := ⟨b, o, none⟩) h⟩

/-- The message value where no optional indicator is set; its fixed octets lie in block fb. -/
abbrev msgZ (cic : Int) (fb : Nat) : Value := .agg #[.int .u16 cic, .int .u8 6, .slice (some ⟨fb, 0, none⟩) 2 2, .slice none 0 0, .slice none 0 0]
/-- .. where one is set: the parameter lies in block pb, its one octet in block vb. -/
abbrev msgN (cic : Int) (fb pb : Nat) : Value := .agg #[.int .u16 cic, .int .u8 6, .slice (some ⟨fb, 0, none⟩) 2 2, .slice none 0 0, .slice (some ⟨pb, 0, none⟩) 1 1]
/-- What memory holds of the fixed octets. -/
structure FixAt (w : World) (B fb : Nat) (x0 x1 : Int) : Prop where
  lo : B ≤ fb
  hi : fb < w.heap.size
  c0 : w.cell? ⟨fb, 0, none⟩ = some (.int .u8 x0)
  c1 : w.cell? ⟨fb, 1, none⟩ = some (.int .u8 x1)
/-- .. of the optional parameter. -/
structure OptAt (w : World) (B pb vb : Nat) (x : Int) : Prop where
  plo : B ≤ pb
  phi : pb < w.heap.size
  vlo : B ≤ vb
  vhi : vb < w.heap.size
  p0 : w.cell? ⟨pb, 0, none⟩ = some (.int .u8 41)
  p1 : w.cell? ⟨pb, 1, none⟩ = some (.slice (some ⟨vb, 0, none⟩) 1 1)
  v0 : w.cell? ⟨vb, 0, none⟩ = some (.int .u8 x)

theorem FixAt.below {w w' : World} {B fb : Nat} {x0 x1 : Int} (h : FixAt w B fb x0 x1) (hb : Below w.heap.size w w') : FixAt w' B fb x0 x1 :=
  ⟨h.lo, Nat.lt_of_lt_of_le h.hi hb.size, by rw [hb.cell (p := ⟨fb, 0, none⟩) h.hi]; exact h.c0, by rw [hb.cell (p := ⟨fb, 1, none⟩) h.hi]; exact h.c1⟩
theorem OptAt.below {w w' : World} {B pb vb : Nat} {x : Int} (h : OptAt w B pb vb x) (hb : Below w.heap.size w w') : OptAt w' B pb vb x :=
  ⟨h.plo, Nat.lt_of_lt_of_le h.phi hb.size, h.vlo, Nat.lt_of_lt_of_le h.vhi hb.size, by rw [hb.cell (p := ⟨pb, 0, none⟩) h.phi]; exact h.p0, by rw [hb.cell (p := ⟨pb, 1, none⟩) h.phi]; exact h.p1, by rw [hb.cell (p := ⟨vb, 0, none⟩) h.vhi]; exact h.v0⟩

set_option maxHeartbeats 400000 in
theorem newACM_zero (cic c0 c1 c2 c3 : Int) (b4 b5 b6 b7 b8 b9 : Bool) (c10 : Int) (o0 o1 o2 o3 : Bool) (w : World) (hz : zeroO o0 o1 o2 o3 = true) :
    Calls Try.prog 14 #[.int .u16 cic, .agg #[.int .u8 c0, .int .u8 c1, .int .u8 c2, .int .u8 c3, .bool b4, .bool b5, .bool b6, .bool b7, .bool b8, .bool b9, .int .u8 c10], .agg #[.bool o0, .bool o1, .bool o2, .bool o3]] w fun e w' =>
      ∃ fb, e = .returned (msgZ cic fb) ∧ FixAt w' w.heap.size fb (oct0 c0 c1 c2 c3) (oct1 b4 b5 b6 b7 b8 b9 c10) ∧ Below w.heap.size w w' := by
  have hn := neq49 o0 o1 o2 o3
  go_enter Try.func14, Try.ntmps14
  go_wp2_with (first | (go_at_call 16; refine (octets_any _ _ _ _ _ _ _ _ _ _ _ _).mono ?_; rintro e w' ⟨rfl, A, rfl⟩))
  refine bodyPost_ret (v := msgZ cic (w.heap.size + 1 + 1 + 1 + 1)) (by simp [results, Try.results14, go_sem]) rfl ⟨_, rfl, ⟨by omega, by simp, by simp [go_sem], by simp [go_sem]⟩, ?_⟩
  go_grown

set_option maxHeartbeats 400000 in
theorem newACM_non (cic c0 c1 c2 c3 : Int) (b4 b5 b6 b7 b8 b9 : Bool) (c10 : Int) (o0 o1 o2 o3 : Bool) (w : World) (hz : zeroO o0 o1 o2 o3 = false) :
    Calls Try.prog 14 #[.int .u16 cic, .agg #[.int .u8 c0, .int .u8 c1, .int .u8 c2, .int .u8 c3, .bool b4, .bool b5, .bool b6, .bool b7, .bool b8, .bool b9, .int .u8 c10], .agg #[.bool o0, .bool o1, .bool o2, .bool o3]] w fun e w' =>
      ∃ fb pb vb, e = .returned (msgN cic fb pb) ∧ FixAt w' w.heap.size fb (oct0 c0 c1 c2 c3) (oct1 b4 b5 b6 b7 b8 b9 c10) ∧ OptAt w' w.heap.size pb vb (octO o0 o1 o2 o3) ∧ Below w.heap.size w w' := by
  have hn := neq49 o0 o1 o2 o3
  go_enter Try.func14, Try.ntmps14
  go_wp2_with (first | (go_at_call 16; refine (octets_any _ _ _ _ _ _ _ _ _ _ _ _).mono ?_; rintro e w' ⟨rfl, A, rfl⟩) | (go_at_call 17; refine (octet_any _ _ _ _ _).mono ?_; rintro e w' ⟨rfl, A', n, rfl⟩))
  refine bodyPost_ret (v := msgN cic (w.heap.size + 1 + 1 + 1 + 1) (w.heap.size + 1 + 1 + 1 + 1 + 1 + 1 + 1 + 1)) (by simp [results, Try.results14, go_sem]) rfl ⟨_, _, w.heap.size + 1 + 1 + 1 + 1 + 1 + 1 + 1, rfl, ⟨by omega, by simp, by simp [go_sem], by simp [go_sem]⟩, ⟨by omega, by simp, by omega, by simp, by simp [go_sem], by simp [go_sem], by simp [go_sem]⟩, ?_⟩
  go_grown
  refine bdrewN ?_ _
  go_grown
end Go.Proofs.Qxb6628779a
