/- The twenty steps: which bit each flips. Plain mathematics. -/
import Derived.Test.Qxb6628779aEncLaw
namespace Go.Proofs.Qxb6628779a

/-- The bit that step number n flips. -/
def bitIx (n : Nat) : Nat := if n < 8 then n else if n < 10 then n + 6 else if n < 16 then n - 2 else n
def dS (n : Nat) : Int := ((2 ^ bitIx n : Nat) : Int)
/-- The bits that were used before step number n. -/
def usS : Nat → Int
  | 0 => 0
  | n + 1 => usS n + dS n

theorem dS_ne : ∀ n, n < 20 → (dS n != 0) = true := by decide +kernel
theorem dS_one : ∀ n, n < 20 → (bits .and .u32 (dS n) ((dS n - 1) % 4294967296) == 0) = true := by decide +kernel
theorem dS_new : ∀ n, n < 20 → (bits .and .u32 (dS n) (usS n) != 0) = false := by decide +kernel
theorem dS_or : ∀ n, n < 20 → bits .or .u32 (usS n) (dS n) = usS (n + 1) := by decide +kernel
theorem usS_end : usS 20 = 1048575 := by decide +kernel

/-! ### The octets over natural numbers -/
def n0 (q0 q1 q2 q3 : Nat) : Nat := q0 + 4 * q1 + 16 * q2 + 64 * q3
def n1 (b4 b5 b6 b7 b8 b9 : Bool) (q : Nat) : Nat := b4.toNat + 2 * b5.toNat + 4 * b6.toNat + 8 * b7.toNat + 16 * b8.toNat + 32 * b9.toNat + 64 * q
def n2 (o0 o1 o2 o3 : Bool) : Nat := o0.toNat + 2 * o1.toNat + 4 * o2.toNat + 8 * o3.toNat

theorem bitv_nat (b : Bool) : bitv b = (b.toNat : Int) := by cases b <;> rfl
theorem n0_lt (q0 q1 q2 q3 : Nat) (h0 : q0 < 4) (h1 : q1 < 4) (h2 : q2 < 4) (h3 : q3 < 4) : n0 q0 q1 q2 q3 < 256 := by unfold n0; omega
theorem n1_lt (b4 b5 b6 b7 b8 b9 : Bool) (q : Nat) (h : q < 4) : n1 b4 b5 b6 b7 b8 b9 q < 256 := by
  have k4 := Bool.toNat_le b4
  have k5 := Bool.toNat_le b5
  have k6 := Bool.toNat_le b6
  have k7 := Bool.toNat_le b7
  have k8 := Bool.toNat_le b8
  have k9 := Bool.toNat_le b9
  unfold n1; omega
theorem n2_lt (o0 o1 o2 o3 : Bool) : n2 o0 o1 o2 o3 < 16 := by
  have k0 := Bool.toNat_le o0
  have k1 := Bool.toNat_le o1
  have k2 := Bool.toNat_le o2
  have k3 := Bool.toNat_le o3
  unfold n2; omega

/-- The low two bits of a field. -/
def lo (c : Int) : Nat := (c % 4).toNat
theorem lo_lt (c : Int) : lo c < 4 := by unfold lo; omega
theorem oct0_nat (c0 c1 c2 c3 : Int) (h0 : Byt c0) (h1 : Byt c1) (h2 : Byt c2) (h3 : Byt c3) : oct0 c0 c1 c2 c3 = (n0 (lo c0) (lo c1) (lo c2) (lo c3) : Int) := by
  rw [oct0_eq c0 c1 c2 c3 h0 h1 h2 h3]; unfold n0 lo; omega
theorem oct1_nat (b4 b5 b6 b7 b8 b9 : Bool) (c10 : Int) (h : Byt c10) : oct1 b4 b5 b6 b7 b8 b9 c10 = (n1 b4 b5 b6 b7 b8 b9 (lo c10) : Int) := by
  rw [oct1_eq b4 b5 b6 b7 b8 b9 c10 h]
  simp only [bitv_nat]
  unfold n1 lo; omega
theorem octO_nat (o0 o1 o2 o3 : Bool) : octO o0 o1 o2 o3 = (n2 o0 o1 o2 o3 : Int) := by
  rw [octO_eq]
  simp only [bitv_nat]
  unfold n2; omega
theorem encV_nat (c0 c1 c2 c3 : Int) (b4 b5 b6 b7 b8 b9 : Bool) (c10 : Int) (o0 o1 o2 o3 : Bool) (h0 : Byt c0) (h1 : Byt c1) (h2 : Byt c2) (h3 : Byt c3) (h10 : Byt c10) :
    encV c0 c1 c2 c3 b4 b5 b6 b7 b8 b9 c10 o0 o1 o2 o3 = (n0 (lo c0) (lo c1) (lo c2) (lo c3) : Int) + 256 * (n1 b4 b5 b6 b7 b8 b9 (lo c10) : Int) + 65536 * (n2 o0 o1 o2 o3 : Int) := by
  unfold encV
  rw [oct0_nat c0 c1 c2 c3 h0 h1 h2 h3, oct1_nat b4 b5 b6 b7 b8 b9 c10 h10, octO_nat]

/-! ### The tables -/
theorem tab0 : ∀ q0 q1 q2 q3 : Fin 4, ∀ m : Fin 3, 0 < m.val →
    (n0 (q0.val ^^^ m.val) q1.val q2.val q3.val ^^^ n0 q0.val q1.val q2.val q3.val = m.val) ∧ (n0 q0.val (q1.val ^^^ m.val) q2.val q3.val ^^^ n0 q0.val q1.val q2.val q3.val = 4 * m.val) ∧
    (n0 q0.val q1.val (q2.val ^^^ m.val) q3.val ^^^ n0 q0.val q1.val q2.val q3.val = 16 * m.val) ∧ (n0 q0.val q1.val q2.val (q3.val ^^^ m.val) ^^^ n0 q0.val q1.val q2.val q3.val = 64 * m.val) := by decide +kernel
theorem tab1 : ∀ b4 b5 b6 b7 b8 b9 : Bool, ∀ q : Fin 4, ∀ m : Fin 3, 0 < m.val → n1 b4 b5 b6 b7 b8 b9 (q.val ^^^ m.val) ^^^ n1 b4 b5 b6 b7 b8 b9 q.val = 64 * m.val := by decide +kernel
theorem tab1b : ∀ b4 b5 b6 b7 b8 b9 : Bool, ∀ q : Fin 4, ∀ k : Fin 6, n1 (xb 0 k.val b4) (xb 1 k.val b5) (xb 2 k.val b6) (xb 3 k.val b7) (xb 4 k.val b8) (xb 5 k.val b9) q.val ^^^ n1 b4 b5 b6 b7 b8 b9 q.val = 2 ^ k.val := by decide +kernel
theorem tab2 : ∀ o0 o1 o2 o3 : Bool, ∀ k : Fin 4, n2 (xb 0 k.val o0) (xb 1 k.val o1) (xb 2 k.val o2) (xb 3 k.val o3) ^^^ n2 o0 o1 o2 o3 = 2 ^ k.val := by decide +kernel

section
variable (c0 c1 c2 c3 : Int) (b4 b5 b6 b7 b8 b9 : Bool) (c10 : Int) (o0 o1 o2 o3 : Bool)

theorem byt_xf (i k : Nat) (m c : Int) (hc : Byt c) (hm : Byt m) : Byt (xf i k m c) := by
  unfold xf; split
  · exact (xor_mod4 c m hc hm).1
  · exact hc
theorem lo_xor (c : Int) (m : Nat) (hc : Byt c) (hm : m < 4) : lo (bits .xor .u8 c (m : Int)) = lo c ^^^ m := by
  have h := (xor_mod4 c m hc ⟨by omega, by omega⟩).2
  unfold lo
  rw [h]
  have e : ((m : Int) % 4).toNat = m := by omega
  rw [e, Int.toNat_natCast]

/-- The difference of two encodings. -/
theorem xor_enc (c0' c1' c2' c3' : Int) (b4' b5' b6' b7' b8' b9' : Bool) (c10' : Int) (o0' o1' o2' o3' : Bool)
    (h0 : Byt c0) (h1 : Byt c1) (h2 : Byt c2) (h3 : Byt c3) (h10 : Byt c10) (g0 : Byt c0') (g1 : Byt c1') (g2 : Byt c2') (g3 : Byt c3') (g10 : Byt c10') :
    bits .xor .u32 (encV c0' c1' c2' c3' b4' b5' b6' b7' b8' b9' c10' o0' o1' o2' o3') (encV c0 c1 c2 c3 b4 b5 b6 b7 b8 b9 c10 o0 o1 o2 o3) =
      ((n0 (lo c0') (lo c1') (lo c2') (lo c3') ^^^ n0 (lo c0) (lo c1) (lo c2) (lo c3) : Nat) : Int) + 256 * ((n1 b4' b5' b6' b7' b8' b9' (lo c10') ^^^ n1 b4 b5 b6 b7 b8 b9 (lo c10) : Nat) : Int) + 65536 * ((n2 o0' o1' o2' o3' ^^^ n2 o0 o1 o2 o3 : Nat) : Int) := by
  rw [encV_nat c0 c1 c2 c3 b4 b5 b6 b7 b8 b9 c10 o0 o1 o2 o3 h0 h1 h2 h3 h10, encV_nat c0' c1' c2' c3' b4' b5' b6' b7' b8' b9' c10' o0' o1' o2' o3' g0 g1 g2 g3 g10]
  exact xor_octets _ _ _ _ _ _ (n0_lt _ _ _ _ (lo_lt _) (lo_lt _) (lo_lt _) (lo_lt _)) (n1_lt _ _ _ _ _ _ _ (lo_lt _)) (n2_lt ..) (n0_lt _ _ _ _ (lo_lt _) (lo_lt _) (lo_lt _) (lo_lt _)) (n1_lt _ _ _ _ _ _ _ (lo_lt _)) (n2_lt ..)

theorem stepU (k m : Nat) (hk : k < 5) (hm0 : 0 < m) (hm : m < 3) (h0 : Byt c0) (h1 : Byt c1) (h2 : Byt c2) (h3 : Byt c3) (h10 : Byt c10) :
    bits .xor .u32 (encV (xf 0 k m c0) (xf 1 k m c1) (xf 2 k m c2) (xf 3 k m c3) b4 b5 b6 b7 b8 b9 (xf 4 k m c10) o0 o1 o2 o3) (encV c0 c1 c2 c3 b4 b5 b6 b7 b8 b9 c10 o0 o1 o2 o3) = dS (2 * k + (m - 1)) := by
  have gm : Byt (m : Int) := ⟨by omega, by omega⟩
  rw [xor_enc _ _ _ _ _ _ _ _ _ _ _ _ _ _ _ _ _ _ _ _ _ _ _ _ _ _ _ _ _ _ h0 h1 h2 h3 h10 (byt_xf 0 k m c0 h0 gm) (byt_xf 1 k m c1 h1 gm) (byt_xf 2 k m c2 h2 gm) (byt_xf 3 k m c3 h3 gm) (byt_xf 4 k m c10 h10 gm)]
  have t0 := tab0 ⟨lo c0, lo_lt _⟩ ⟨lo c1, lo_lt _⟩ ⟨lo c2, lo_lt _⟩ ⟨lo c3, lo_lt _⟩ ⟨m, hm⟩ hm0
  have t1 := tab1 b4 b5 b6 b7 b8 b9 ⟨lo c10, lo_lt _⟩ ⟨m, hm⟩ hm0
  simp only at t0 t1
  obtain ⟨t00, t01, t02, t03⟩ := t0
  have hc : k = 0 ∨ k = 1 ∨ k = 2 ∨ k = 3 ∨ k = 4 := by omega
  have hc2 : m = 1 ∨ m = 2 := by omega
  rcases hc with rfl | rfl | rfl | rfl | rfl
  · have e0 : xf 0 0 (m : Int) c0 = bits .xor .u8 c0 m := rfl
    have e1 : xf 1 0 (m : Int) c1 = c1 := rfl
    have e2 : xf 2 0 (m : Int) c2 = c2 := rfl
    have e3 : xf 3 0 (m : Int) c3 = c3 := rfl
    have e4 : xf 4 0 (m : Int) c10 = c10 := rfl
    rw [e0, e1, e2, e3, e4, lo_xor c0 m h0 (by omega), t00, Nat.xor_self, Nat.xor_self]
    rcases hc2 with rfl | rfl <;> decide
  · have e0 : xf 0 1 (m : Int) c0 = c0 := rfl
    have e1 : xf 1 1 (m : Int) c1 = bits .xor .u8 c1 m := rfl
    have e2 : xf 2 1 (m : Int) c2 = c2 := rfl
    have e3 : xf 3 1 (m : Int) c3 = c3 := rfl
    have e4 : xf 4 1 (m : Int) c10 = c10 := rfl
    rw [e0, e1, e2, e3, e4, lo_xor c1 m h1 (by omega), t01, Nat.xor_self, Nat.xor_self]
    rcases hc2 with rfl | rfl <;> decide
  · have e0 : xf 0 2 (m : Int) c0 = c0 := rfl
    have e1 : xf 1 2 (m : Int) c1 = c1 := rfl
    have e2 : xf 2 2 (m : Int) c2 = bits .xor .u8 c2 m := rfl
    have e3 : xf 3 2 (m : Int) c3 = c3 := rfl
    have e4 : xf 4 2 (m : Int) c10 = c10 := rfl
    rw [e0, e1, e2, e3, e4, lo_xor c2 m h2 (by omega), t02, Nat.xor_self, Nat.xor_self]
    rcases hc2 with rfl | rfl <;> decide
  · have e0 : xf 0 3 (m : Int) c0 = c0 := rfl
    have e1 : xf 1 3 (m : Int) c1 = c1 := rfl
    have e2 : xf 2 3 (m : Int) c2 = c2 := rfl
    have e3 : xf 3 3 (m : Int) c3 = bits .xor .u8 c3 m := rfl
    have e4 : xf 4 3 (m : Int) c10 = c10 := rfl
    rw [e0, e1, e2, e3, e4, lo_xor c3 m h3 (by omega), t03, Nat.xor_self, Nat.xor_self]
    rcases hc2 with rfl | rfl <;> decide
  · have e0 : xf 0 4 (m : Int) c0 = c0 := rfl
    have e1 : xf 1 4 (m : Int) c1 = c1 := rfl
    have e2 : xf 2 4 (m : Int) c2 = c2 := rfl
    have e3 : xf 3 4 (m : Int) c3 = c3 := rfl
    have e4 : xf 4 4 (m : Int) c10 = bits .xor .u8 c10 m := rfl
    rw [e0, e1, e2, e3, e4, lo_xor c10 m h10 (by omega), t1, Nat.xor_self, Nat.xor_self]
    rcases hc2 with rfl | rfl <;> decide

theorem lo_high (i k : Nat) (c : Int) (hc : Byt c) : lo (xf i k 252 c) = lo c := by
  unfold xf; split
  · have h := (xor_mod4 c 252 hc ⟨by decide, by decide⟩).2
    unfold lo
    rw [h]
    have e : ((252 : Int) % 4).toNat = 0 := by decide
    rw [e, Nat.xor_zero]; omega
  · rfl
theorem stepHigh (k : Nat) (h0 : Byt c0) (h1 : Byt c1) (h2 : Byt c2) (h3 : Byt c3) (h10 : Byt c10) :
    encV (xf 0 k 252 c0) (xf 1 k 252 c1) (xf 2 k 252 c2) (xf 3 k 252 c3) b4 b5 b6 b7 b8 b9 (xf 4 k 252 c10) o0 o1 o2 o3 = encV c0 c1 c2 c3 b4 b5 b6 b7 b8 b9 c10 o0 o1 o2 o3 := by
  have gm : Byt 252 := ⟨by decide, by decide⟩
  rw [encV_nat c0 c1 c2 c3 b4 b5 b6 b7 b8 b9 c10 o0 o1 o2 o3 h0 h1 h2 h3 h10, encV_nat _ _ _ _ _ _ _ _ _ _ _ _ _ _ _ (byt_xf 0 k 252 c0 h0 gm) (byt_xf 1 k 252 c1 h1 gm) (byt_xf 2 k 252 c2 h2 gm) (byt_xf 3 k 252 c3 h3 gm) (byt_xf 4 k 252 c10 h10 gm)]
  rw [lo_high 0 k c0 h0, lo_high 1 k c1 h1, lo_high 2 k c2 h2, lo_high 3 k c3 h3, lo_high 4 k c10 h10]

theorem stepB (k : Nat) (hk : k < 6) (h0 : Byt c0) (h1 : Byt c1) (h2 : Byt c2) (h3 : Byt c3) (h10 : Byt c10) :
    bits .xor .u32 (encV c0 c1 c2 c3 (xb 0 k b4) (xb 1 k b5) (xb 2 k b6) (xb 3 k b7) (xb 4 k b8) (xb 5 k b9) c10 o0 o1 o2 o3) (encV c0 c1 c2 c3 b4 b5 b6 b7 b8 b9 c10 o0 o1 o2 o3) = dS (10 + k) := by
  rw [xor_enc _ _ _ _ _ _ _ _ _ _ _ _ _ _ _ _ _ _ _ _ _ _ _ _ _ _ _ _ _ _ h0 h1 h2 h3 h10 h0 h1 h2 h3 h10]
  have t1 := tab1b b4 b5 b6 b7 b8 b9 ⟨lo c10, lo_lt _⟩ ⟨k, hk⟩
  simp only at t1
  rw [t1, Nat.xor_self, Nat.xor_self]
  have hc : k = 0 ∨ k = 1 ∨ k = 2 ∨ k = 3 ∨ k = 4 ∨ k = 5 := by omega
  rcases hc with rfl | rfl | rfl | rfl | rfl | rfl <;> decide

theorem stepO (k : Nat) (hk : k < 4) (h0 : Byt c0) (h1 : Byt c1) (h2 : Byt c2) (h3 : Byt c3) (h10 : Byt c10) :
    bits .xor .u32 (encV c0 c1 c2 c3 b4 b5 b6 b7 b8 b9 c10 (xb 0 k o0) (xb 1 k o1) (xb 2 k o2) (xb 3 k o3)) (encV c0 c1 c2 c3 b4 b5 b6 b7 b8 b9 c10 o0 o1 o2 o3) = dS (16 + k) := by
  rw [xor_enc _ _ _ _ _ _ _ _ _ _ _ _ _ _ _ _ _ _ _ _ _ _ _ _ _ _ _ _ _ _ h0 h1 h2 h3 h10 h0 h1 h2 h3 h10]
  have t2 := tab2 o0 o1 o2 o3 ⟨k, hk⟩
  simp only at t2
  rw [t2, Nat.xor_self, Nat.xor_self]
  have hc : k = 0 ∨ k = 1 ∨ k = 2 ∨ k = 3 := by omega
  rcases hc with rfl | rfl | rfl | rfl <;> decide
end
end Go.Proofs.Qxb6628779a
