/- Plain mathematics of the encoding: no Go in sight. -/
import Derived.Test.Qxb6628779aFlip
namespace Go.Proofs.Qxb6628779a

/-- The message's octets as one number. -/
def encV (c0 c1 c2 c3 : Int) (b4 b5 b6 b7 b8 b9 : Bool) (c10 : Int) (o0 o1 o2 o3 : Bool) : Int :=
  oct0 c0 c1 c2 c3 + 256 * oct1 b4 b5 b6 b7 b8 b9 c10 + 65536 * octO o0 o1 o2 o3

theorem or_low32 (i : Nat) (x y : Int) (hx0 : 0 ≤ x) (hx : x < 2 ^ i) (hy0 : 0 ≤ y) (hy : y % 2 ^ i = 0) (hx1 : x < 4294967296) (hy1 : y < 4294967296) : bits .or .u32 x y = x + y := by
  have hk : ∀ n : Int, 0 ≤ n → n < 2 ^ 32 → IntKind.u32.wrap n = n := fun n a b => by rw [IntKind.wrap_u32]; omega
  have h := bits_join .u32 32 (by decide) hk i y x hy0 hy hy1 hx0 hx hx1
  rw [Int.add_comm] at h
  rw [← h, u32_or x y hx0 hx1 hy0 hy1, u32_or y x hy0 hy1 hx0 hx1, Nat.or_comm]

theorem oct0_byt (c0 c1 c2 c3 : Int) (h0 : Byt c0) (h1 : Byt c1) (h2 : Byt c2) (h3 : Byt c3) : Byt (oct0 c0 c1 c2 c3) := by
  rw [oct0_eq c0 c1 c2 c3 h0 h1 h2 h3]; unfold Byt; omega
theorem oct1_byt (b4 b5 b6 b7 b8 b9 : Bool) (c10 : Int) (h : Byt c10) : Byt (oct1 b4 b5 b6 b7 b8 b9 c10) := by
  rw [oct1_eq b4 b5 b6 b7 b8 b9 c10 h]
  have k4 := bitv_bd b4
  have k5 := bitv_bd b5
  have k6 := bitv_bd b6
  have k7 := bitv_bd b7
  have k8 := bitv_bd b8
  have k9 := bitv_bd b9
  unfold Byt; omega
theorem octO_bd (o0 o1 o2 o3 : Bool) : 0 ≤ octO o0 o1 o2 o3 ∧ octO o0 o1 o2 o3 < 16 := by
  cases o0 <;> cases o1 <;> cases o2 <;> cases o3 <;> decide
theorem octO_zero {o0 o1 o2 o3 : Bool} (h : zeroO o0 o1 o2 o3 = true) : octO o0 o1 o2 o3 = 0 := by
  obtain ⟨rfl, rfl, rfl, rfl⟩ := zero_true h; decide

/-- What 'encACM' reckons, in the walk's form. -/
theorem enc_form (x y z : Int) (hx : Byt x) (hy : Byt y) (hz0 : 0 ≤ z) (hz1 : z < 16) :
    bits .or .u32 (bits .or .u32 (x % 4294967296) (y % 4294967296 * 256 % 4294967296)) (z % 4294967296 * 65536 % 4294967296) = x + 256 * y + 65536 * z := by
  obtain ⟨hx0, hx1⟩ := hx
  obtain ⟨hy0, hy1⟩ := hy
  rw [or_low32 8 (x % 4294967296) (y % 4294967296 * 256 % 4294967296) (by omega) (by omega) (by omega) (by omega) (by omega) (by omega)]
  rw [or_low32 16 _ (z % 4294967296 * 65536 % 4294967296) (by omega) (by omega) (by omega) (by omega) (by omega) (by omega)]
  omega

/-! ### The exclusive or, octet by octet -/
theorem nat_xor_split (i a b c d : Nat) (ha : a < 2 ^ i) (hc : c < 2 ^ i) : (a + 2 ^ i * b) ^^^ (c + 2 ^ i * d) = (a ^^^ c) + 2 ^ i * (b ^^^ d) := by
  have hpos : 0 < 2 ^ i := Nat.two_pow_pos i
  have hm : ((a + 2 ^ i * b) ^^^ (c + 2 ^ i * d)) % 2 ^ i = a ^^^ c := by
    rw [Nat.xor_mod_two_pow, Nat.add_mul_mod_self_left, Nat.add_mul_mod_self_left, Nat.mod_eq_of_lt ha, Nat.mod_eq_of_lt hc]
  have hd : ((a + 2 ^ i * b) ^^^ (c + 2 ^ i * d)) / 2 ^ i = b ^^^ d := by
    rw [Nat.xor_div_two_pow, Nat.add_mul_div_left _ _ hpos, Nat.add_mul_div_left _ _ hpos, Nat.div_eq_of_lt ha, Nat.div_eq_of_lt hc, Nat.zero_add, Nat.zero_add]
  have := Nat.mod_add_div ((a + 2 ^ i * b) ^^^ (c + 2 ^ i * d)) (2 ^ i)
  rw [hm, hd] at this
  exact this.symm

/-- 'x ^ y' on uint32 over three octets. -/
theorem xor_octets (x y z x' y' z' : Nat) (hx : x < 256) (hy : y < 256) (hz : z < 16) (hx' : x' < 256) (hy' : y' < 256) (hz' : z' < 16) :
    bits .xor .u32 ((x : Int) + 256 * y + 65536 * z) ((x' : Int) + 256 * y' + 65536 * z') = ((x ^^^ x' : Nat) : Int) + 256 * ((y ^^^ y' : Nat) : Int) + 65536 * ((z ^^^ z' : Nat) : Int) := by
  have e1 : ((x : Int) + 256 * y + 65536 * z) = ((x + 2 ^ 8 * (y + 2 ^ 8 * z) : Nat) : Int) := by omega
  have e2 : ((x' : Int) + 256 * y' + 65536 * z') = ((x' + 2 ^ 8 * (y' + 2 ^ 8 * z') : Nat) : Int) := by omega
  rw [e1, e2, u32_xor_nat _ _ (by omega) (by omega), nat_xor_split 8 _ _ _ _ (by omega) (by omega), nat_xor_split 8 _ _ _ _ (by omega) (by omega)]
  generalize x ^^^ x' = a
  generalize y ^^^ y' = b
  generalize z ^^^ z' = c
  omega

theorem xor_mod4 (c m : Int) (hc : Byt c) (hm : Byt m) : Byt (bits .xor .u8 c m) ∧ bits .xor .u8 c m % 4 = (((c % 4).toNat ^^^ (m % 4).toNat : Nat) : Int) := by
  obtain ⟨c, rfl⟩ := Int.eq_ofNat_of_zero_le hc.1
  obtain ⟨m, rfl⟩ := Int.eq_ofNat_of_zero_le hm.1
  have hc' := hc.2
  have hm' := hm.2
  have hl : c ^^^ m < 2 ^ 8 := Nat.xor_lt_two_pow (by omega) (by omega)
  rw [u8_xor_nat c m (by omega) (by omega)]
  refine ⟨⟨by omega, by omega⟩, ?_⟩
  have e := Nat.xor_mod_two_pow (a := c) (b := m) (n := 2)
  have e1 : ((c : Int) % 4).toNat = c % 2 ^ 2 := by omega
  have e2 : ((m : Int) % 4).toNat = m % 2 ^ 2 := by omega
  rw [e1, e2, ← e]
  generalize c ^^^ m = z
  omega
end Go.Proofs.Qxb6628779a
