/- Plain mathematics of the octets: no Go in sight. -/
import Derived.Laws.BitsAllLaws
import Derived.Test.Qxb6628779aMask
namespace Go.Proofs.Qxb6628779a

/-- A byte. -/
def Byt (x : Int) : Prop := 0 ≤ x ∧ x < 256

theorem bitv_bd (b : Bool) : 0 ≤ bitv b ∧ bitv b ≤ 1 := by cases b <;> decide
theorem bitv_inj (a b : Bool) (h : bitv a = bitv b) : a = b := by cases a <;> cases b <;> first | rfl | (revert h; decide)
theorem and3 (x : Int) (h : Byt x) : bits .and .u8 x 3 = x % 4 := bits_mask .u8 8 (by decide) wraps_u8 2 (by decide) x h.1 h.2
theorem or_low (i : Nat) (x y : Int) (hx0 : 0 ≤ x) (hx : x < 2 ^ i) (hy0 : 0 ≤ y) (hy : y % 2 ^ i = 0) (hx1 : x < 256) (hy1 : y < 256) : bits .or .u8 x y = x + y := by
  have h := bits_join .u8 8 (by decide) wraps_u8 i y x hy0 hy hy1 hx0 hx hx1
  rw [Int.add_comm] at h
  rw [← h, u8_or x y hx0 hx1 hy0 hy1, u8_or y x hy0 hy1 hx0 hx1, Nat.or_comm]

theorem oct0_eq (c0 c1 c2 c3 : Int) (h0 : Byt c0) (h1 : Byt c1) (h2 : Byt c2) (h3 : Byt c3) : oct0 c0 c1 c2 c3 = c0 % 4 + 4 * (c1 % 4) + 16 * (c2 % 4) + 64 * (c3 % 4) := by
  unfold oct0
  rw [and3 c0 h0, and3 c1 h1, and3 c2 h2, and3 c3 h3, IntKind.wrap_u8, IntKind.wrap_u8, IntKind.wrap_u8]
  rw [or_low 2 (c0 % 4) (c1 % 4 * 4 % 256) (by omega) (by omega) (by omega) (by omega) (by omega) (by omega)]
  rw [or_low 4 _ (c2 % 4 * 16 % 256) (by omega) (by omega) (by omega) (by omega) (by omega) (by omega)]
  rw [or_low 6 _ (c3 % 4 * 64 % 256) (by omega) (by omega) (by omega) (by omega) (by omega) (by omega)]
  omega
theorem oct1_eq (b4 b5 b6 b7 b8 b9 : Bool) (c10 : Int) (h : Byt c10) : oct1 b4 b5 b6 b7 b8 b9 c10 = bitv b4 + 2 * bitv b5 + 4 * bitv b6 + 8 * bitv b7 + 16 * bitv b8 + 32 * bitv b9 + 64 * (c10 % 4) := by
  unfold oct1
  have k4 := bitv_bd b4
  have k5 := bitv_bd b5
  have k6 := bitv_bd b6
  have k7 := bitv_bd b7
  have k8 := bitv_bd b8
  have k9 := bitv_bd b9
  rw [and3 c10 h]
  simp only [IntKind.wrap_u8]
  generalize bitv b4 = x4 at *
  generalize bitv b5 = x5 at *
  generalize bitv b6 = x6 at *
  generalize bitv b7 = x7 at *
  generalize bitv b8 = x8 at *
  generalize bitv b9 = x9 at *
  rw [or_low 1 x4 (x5 * 2 % 256) (by omega) (by omega) (by omega) (by omega) (by omega) (by omega)]
  rw [or_low 2 _ (x6 * 4 % 256) (by omega) (by omega) (by omega) (by omega) (by omega) (by omega)]
  rw [or_low 3 _ (x7 * 8 % 256) (by omega) (by omega) (by omega) (by omega) (by omega) (by omega)]
  rw [or_low 4 _ (x8 * 16 % 256) (by omega) (by omega) (by omega) (by omega) (by omega) (by omega)]
  rw [or_low 5 _ (x9 * 32 % 256) (by omega) (by omega) (by omega) (by omega) (by omega) (by omega)]
  rw [or_low 6 _ (c10 % 4 * 64 % 256) (by omega) (by omega) (by omega) (by omega) (by omega) (by omega)]
  omega
theorem octO_eq (o0 o1 o2 o3 : Bool) : octO o0 o1 o2 o3 = bitv o0 + 2 * bitv o1 + 4 * bitv o2 + 8 * bitv o3 := by
  cases o0 <;> cases o1 <;> cases o2 <;> cases o3 <;> decide
theorem octO_low (o0 o1 o2 o3 : Bool) : (bits .and .u8 (octO o0 o1 o2 o3) 240 == 0) = true := by
  cases o0 <;> cases o1 <;> cases o2 <;> cases o3 <;> decide
theorem octO_ne (o0 o1 o2 o3 : Bool) (h : zeroO o0 o1 o2 o3 = false) : (octO o0 o1 o2 o3 != 0) = true := by
  revert h
  cases o0 <;> cases o1 <;> cases o2 <;> cases o3 <;> decide
theorem octO_same (o0 o1 o2 o3 p0 p1 p2 p3 : Bool) : (octO o0 o1 o2 o3 == octO p0 p1 p2 p3) = (o0 == p0 && o1 == p1 && o2 == p2 && o3 == p3) := by
  rw [octO_eq, octO_eq]
  cases o0 <;> cases o1 <;> cases o2 <;> cases o3 <;> cases p0 <;> cases p1 <;> cases p2 <;> cases p3 <;> decide

/-- The fixed octets are the same exactly when the indicators agree under the masks. -/
theorem fix_same (c0 c1 c2 c3 : Int) (b4 b5 b6 b7 b8 b9 : Bool) (c10 : Int) (d0 d1 d2 d3 : Int) (e4 e5 e6 e7 e8 e9 : Bool) (d10 : Int)
    (h0 : Byt c0) (h1 : Byt c1) (h2 : Byt c2) (h3 : Byt c3) (h10 : Byt c10) (k0 : Byt d0) (k1 : Byt d1) (k2 : Byt d2) (k3 : Byt d3) (k10 : Byt d10) :
    (oct0 c0 c1 c2 c3 == oct0 d0 d1 d2 d3 && oct1 b4 b5 b6 b7 b8 b9 c10 == oct1 e4 e5 e6 e7 e8 e9 d10) = mask c0 c1 c2 c3 b4 b5 b6 b7 b8 b9 c10 d0 d1 d2 d3 e4 e5 e6 e7 e8 e9 d10 := by
  unfold mask
  rw [oct0_eq c0 c1 c2 c3 h0 h1 h2 h3, oct0_eq d0 d1 d2 d3 k0 k1 k2 k3, oct1_eq b4 b5 b6 b7 b8 b9 c10 h10, oct1_eq e4 e5 e6 e7 e8 e9 d10 k10]
  rw [and3 c0 h0, and3 c1 h1, and3 c2 h2, and3 c3 h3, and3 c10 h10, and3 d0 k0, and3 d1 k1, and3 d2 k2, and3 d3 k3, and3 d10 k10]
  rw [Bool.eq_iff_iff]
  simp only [Bool.and_eq_true, beq_iff_eq]
  constructor
  · rintro ⟨p, q⟩
    have a4 := bitv_bd b4
    have a5 := bitv_bd b5
    have a6 := bitv_bd b6
    have a7 := bitv_bd b7
    have a8 := bitv_bd b8
    have a9 := bitv_bd b9
    have z4 := bitv_bd e4
    have z5 := bitv_bd e5
    have z6 := bitv_bd e6
    have z7 := bitv_bd e7
    have z8 := bitv_bd e8
    have z9 := bitv_bd e9
    refine ⟨⟨⟨⟨⟨⟨⟨⟨⟨⟨by omega, by omega⟩, by omega⟩, by omega⟩, by omega⟩, bitv_inj _ _ (by omega)⟩, bitv_inj _ _ (by omega)⟩, bitv_inj _ _ (by omega)⟩, bitv_inj _ _ (by omega)⟩, bitv_inj _ _ (by omega)⟩, bitv_inj _ _ (by omega)⟩
  · rintro ⟨⟨⟨⟨⟨⟨⟨⟨⟨⟨q0, q1⟩, q2⟩, q3⟩, q10⟩, rfl⟩, rfl⟩, rfl⟩, rfl⟩, rfl⟩, rfl⟩
    exact ⟨by omega, by omega⟩
theorem zero_true {o0 o1 o2 o3 : Bool} (h : zeroO o0 o1 o2 o3 = true) : o0 = false ∧ o1 = false ∧ o2 = false ∧ o3 = false := by
  revert h
  cases o0 <;> cases o1 <;> cases o2 <;> cases o3 <;> decide
end Go.Proofs.Qxb6628779a
