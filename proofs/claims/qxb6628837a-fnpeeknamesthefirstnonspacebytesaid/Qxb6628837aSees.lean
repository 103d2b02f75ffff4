/- The law FnPeekSeesOnlyTheFirstNonSpaceByte walked. -/
import Derived.Test.Qxb6628837aCarry
namespace Go.Proofs.Qxb6628837a
open Go.RowKit

/-- Too long, or the position lies outside: true at once. -/
theorem sees_early (a k : Option Addr) (n cn m cm : Nat) (pos depth : Int) (w : World) (hn : n ≤ maxLen) (hm : m ≤ maxLen) (h : 1048576 < n + m) :
    Calls Try.prog 4 #[.slice a n cn, .int .i64 pos, .int .i64 depth, .slice k m cm] w fun e w' => e = .returned (.bool true) ∧ Below w.heap.size w w' := by
  go_enter Try.func4, Try.ntmps4
  go_wp2_with (go_at_call 16; refine (zb2_no a k n cn m cm pos depth _ hn hm h).mono ?_; rintro e w' ⟨rfl, rfl⟩)
  go_ret
  exact ⟨rfl, Below.refl _ _⟩
theorem sees_out (a k : Option Addr) (n cn m cm : Nat) (pos depth : Int) (w : World) (h : n + m ≤ 1048576) (hp : pos < 0 ∨ (n : Int) < pos) :
    Calls Try.prog 4 #[.slice a n cn, .int .i64 pos, .int .i64 depth, .slice k m cm] w fun e w' => e = .returned (.bool true) ∧ Below w.heap.size w w' := by
  have h1 : (n : Int) ≤ 1048576 := by omega
  have h2 : (m : Int) ≤ 1048576 - (n : Int) := by omega
  rcases hp with hp | hp
  · go_enter Try.func4, Try.ntmps4
    go_wp2_with (go_at_call 16; refine (zb2_yes a k n cn m cm pos depth _ h).mono ?_; rintro e w' ⟨rfl, rfl⟩)
    go_ret
    exact ⟨rfl, Below.refl _ _⟩
  · have hp0 : ¬ (pos < 0) := by omega
    go_enter Try.func4, Try.ntmps4
    go_wp2_with (go_at_call 16; refine (zb2_yes a k n cn m cm pos depth _ h).mono ?_; rintro e w' ⟨rfl, rfl⟩)
    go_ret
    exact ⟨rfl, Below.refl _ _⟩

/-- A new decoder is peeked into: what is handed on. -/
theorem new_facts (a k : Option Addr) (n m : Nat) (p : Int) (depth : Int) (w : World) :
    let W := w.alloc (.cells #[.slice a n n, .int .i64 p, .int .i64 depth, .slice k m m] 35)
    W.cell? ⟨w.heap.size, 0, none⟩ = some (.slice a n n) ∧ W.cell? ⟨w.heap.size, 1, none⟩ = some (.int .i64 p) ∧ W.cell? ⟨w.heap.size, 2, none⟩ = some (.int .i64 depth) ∧ W.cell? ⟨w.heap.size, 3, none⟩ = some (.slice k m m) ∧ W.frozen? ⟨w.heap.size, 1, none⟩ = false ∧ Below w.heap.size w W := by
  refine ⟨by simp, by simp, by simp, by simp, ?_, (Below.refl _ _).alloc (Nat.le_refl _) _⟩
  rw [frozen?_alloc_cells]
  simp [World.frozen?]

theorem clone_at (a : Option Addr) (zs : List Int) (n c : Nat) (w : World) (hn : zs.length = n) (hl : n ≤ 1048576) (hs : Seg w a zs) (hc : a = none → c = 0) :
    Calls Try.prog 6 #[.slice a n c] w fun e w' => ∃ a', e = .returned (.slice a' n n) ∧ Own w' w.heap.size a' zs ∧ Below w.heap.size w w' := by
  subst hn
  refine (clone_any a zs c w hl hs hc).mono ?_
  rintro e w1 ⟨a', rfl, _, ho, hb⟩
  exact ⟨a', rfl, ho, hb⟩
theorem peek_at (B d : Nat) (a : Option Addr) (zs : List Int) (n p : Nat) (w : World) (hn : zs.length = n) (c0 : w.cell? ⟨d, 0, none⟩ = some (.slice a n n)) (c1 : w.cell? ⟨d, 1, none⟩ = some (.int .i64 p)) (fr : w.frozen? ⟨d, 1, none⟩ = false)
    (ho : Own w B a zs) (hne : ∀ g, a = some ⟨g, 0, none⟩ → ¬ (g = d)) (hp : p ≤ n) (hl : n ≤ 1048576) :
    Calls Try.prog 8 #[.pointer (some ⟨d, 0, none⟩)] w fun e w' => ∃ q, e = .returned (.int .i64 (kindAt zs q)) ∧ IsFirst zs p q ∧ Moved w w' d q := by
  subst hn
  exact peek_any B d a zs p w c0 c1 fr ho hne hp hl

set_option maxHeartbeats 2000000 in
theorem sees_walk (a k : Option Addr) (zs ks : List Int) (ca ck p : Nat) (depth : Int) (w : World) (hl : zs.length + ks.length ≤ 1048576) (hp : p ≤ zs.length) (hs : Seg w a zs) (hca : a = none → ca = 0) (hk : Seg w k ks) (hck : k = none → ck = 0) :
    Calls Try.prog 4 #[.slice a zs.length ca, .int .i64 p, .int .i64 depth, .slice k ks.length ck] w fun e w' => e = .returned (.bool true) ∧ Below w.heap.size w w' := by
  have h1 : (zs.length : Int) ≤ 1048576 := by omega
  have h2 : (ks.length : Int) ≤ 1048576 - (zs.length : Int) := by omega
  have h3 : ¬ ((zs.length : Int) < (p : Int)) := by omega
  have h4 : ¬ ((p : Int) < 0) := by omega
  go_enter Try.func4, Try.ntmps4
  go_wp2_with fail
  refine (zb2_yes a k _ ca _ ck p depth _ hl).mono ?_
  rintro e w ⟨rfl, rfl⟩
  go_wp2_with fail
  refine (clone_any a zs ca _ (by omega) hs hca).mono ?_
  rintro e w1 ⟨a1, rfl, hn1, ho1, hb1⟩
  go_wp2_with fail
  refine (clone_any k ks ck _ (by omega) (hk.below hb1) hck).mono ?_
  rintro e w2 ⟨k1, rfl, hn2, ho2, hb2⟩
  go_wp2_with fail
  refine (clone_any a1 zs zs.length _ (by omega) ((ho1.below hb2).seg) ?_).mono ?_
  · intro e
    rcases ho1 with ⟨_, h⟩ | ⟨g, h, _⟩
    · rw [h]; rfl
    · rw [h] at e; cases e
  rintro e w3 ⟨a2, rfl, hn3, ho3, hb3⟩
  go_wp2_with fail
  refine (new_any a1 k1 zs.length ks.length p depth _).mono ?_
  rintro e w4 ⟨rfl, hw4⟩
  obtain ⟨c0, c1, c2, c3, fr, hb4⟩ := new_facts a1 k1 zs.length ks.length p depth w3
  rw [← hw4] at c0 c1 c2 c3 fr hb4
  clear hw4 hn1 hn2 hn3 c2 c3
  have HO4 := ((ho1.below hb2).below hb3).below hb4
  have HOW := ho3.below hb4
  have hne4 := Own.ne ((ho1.below hb2).below hb3) (Nat.le_refl _)
  have hneW := Own.ne ho3 (Nat.le_refl _)
  have G4 : Below w.heap.size w w4 := ((hb1.trans (hb2.mono hb1.size)).trans (hb3.mono (Nat.le_trans hb1.size hb2.size))).trans (hb4.mono (Nat.le_trans (Nat.le_trans hb1.size hb2.size) hb3.size))
  have s3 : w.heap.size ≤ w3.heap.size := Nat.le_trans (Nat.le_trans hb1.size hb2.size) hb3.size
  clear hb1 hb2 hb3 hb4 ho1 ho2 ho3
  go_wp2_with fail
  refine (peek_any _ _ a1 zs p _ c0 c1 fr HO4 hne4 hp (by omega)).mono ?_
  rintro e w5 ⟨q, rfl, hf, hm⟩
  have HOW5 := HOW.moved hm hneW
  have G5 : Below w.heap.size w w5 := G4.trans (hm.below.mono s3)
  have c5 := hm.cell
  clear HOW hm c0 c1 fr HO4 hne4 hneW G4
  go_wp2_with fail
  refine (pos_any _ _ _ c5).mono ?_
  rintro e w5 ⟨rfl, rfl⟩
  clear c5
  go_wp2_with fail
  refine (first_any _ a2 zs p q _ HOW5 hf (by omega)).mono ?_
  rintro e w5 ⟨rfl, rfl⟩
  have hsl := slice_from a2 zs.length p hp
  go_wp2_with fail
  refine (clone_at (fromA a2 zs.length p) (zs.drop p) (zs.length - p) _ _ (by simp) (by omega) (HOW5.seg.rest p hp) ?_).mono ?_
  · intro e
    rcases HOW5 with ⟨_, h⟩ | ⟨g, h, _⟩
    · rw [h]; simp
    · unfold fromA at e
      rw [h] at e
      split at e <;> simp at e
  rintro e w6 ⟨a3, rfl, ho6, hb6⟩
  clear hsl
  have HOW6 := HOW5.below hb6
  have G6 : Below w.heap.size w w6 := G5.trans (hb6.mono G5.size)
  clear HOW5 G5 hb6
  go_wp2_with fail
  refine (new_any a3 none (zs.length - p) 0 0 0 _).mono ?_
  rintro e w7 ⟨rfl, hw7⟩
  obtain ⟨c0, c1, _, _, fr, hb7⟩ := new_facts a3 none (zs.length - p) 0 0 0 w6
  rw [← hw7] at c0 c1 fr hb7
  clear hw7
  have hne := Own.ne ho6 (Nat.le_refl _)
  have hneW := Own.ne HOW6 (Nat.le_refl _)
  have HO7 := ho6.below hb7
  have HOW7 := HOW6.below hb7
  have G7 : Below w.heap.size w w7 := G6.trans (hb7.mono G6.size)
  have s6 := G6.size
  clear ho6 HOW6 G6 hb7
  go_wp2_with fail
  refine (peek_at _ _ a3 (zs.drop p) _ 0 _ (by simp) c0 c1 fr HO7 hne (by omega) (by omega)).mono ?_
  rintro e w8 ⟨q2, rfl, hf2, hm⟩
  have HOW8 := HOW7.moved hm hneW
  have G8 : Below w.heap.size w w8 := G7.trans (hm.below.mono s6)
  have c5 := hm.cell
  have hq2 : p + q2 = q := (IsFirst.of_drop hp hf2).unique hf
  have hk2 : kindAt (zs.drop p) q2 = kindAt zs q := by rw [kindAt_drop, hq2]
  rw [hk2]
  clear HOW7 hm c0 c1 fr HO7 hne hneW G7 hk2 hf2 s6
  go_wp2_with fail
  refine (pos_any _ _ _ c5).mono ?_
  rintro e w8 ⟨rfl, rfl⟩
  clear c5
  have hsum : ((p : Int) + (q2 : Int) != (q : Int)) = false := by simp; omega
  have hqz := hf.hi
  have b2 : q2 ≤ 1048576 := by omega
  have b3 : (q2 : Int) ≤ 1048576 := by omega
  have b4 : (q : Int) ≤ 1048576 := by omega
  clear hq2
  by_cases hlt : q < zs.length
  · have hi : (q : Int) < (zs.length : Int) := by omega
    have hsl := slice_to a2 zs.length (q + 1) (by omega)
    go_wp2_with fail
    refine (clone_at a2 (zs.take (q + 1)) (q + 1) _ _ (by simp; omega) (by omega) (HOW8.seg.head (q + 1)) ?_).mono ?_
    · intro e
      rcases HOW8 with ⟨_, h⟩ | ⟨g, h, _⟩
      · rw [h]; rfl
      · rw [h] at e; cases e
    rintro e w9 ⟨a4, rfl, ho9, hb9⟩
    clear hsl
    have G9 : Below w.heap.size w w9 := G8.trans (hb9.mono G8.size)
    clear HOW8 G8 hb9
    go_wp2_with fail
    refine (new_any a4 none (q + 1) 0 p depth _).mono ?_
    rintro e w10 ⟨rfl, hw10⟩
    obtain ⟨c0, c1, _, _, fr, hb10⟩ := new_facts a4 none (q + 1) 0 p depth w9
    rw [← hw10] at c0 c1 fr hb10
    clear hw10
    have hne := Own.ne ho9 (Nat.le_refl _)
    have HO10 := ho9.below hb10
    have G10 : Below w.heap.size w w10 := G9.trans (hb10.mono G9.size)
    have s9 := G9.size
    have hlo := hf.lo
    clear ho9 G9 hb10
    go_wp2_with fail
    refine (peek_at _ _ a4 (zs.take (q + 1)) _ p _ (by simp; omega) c0 c1 fr HO10 hne (by omega) (by omega)).mono ?_
    rintro e w11 ⟨q3, rfl, hf3, hm⟩
    have G11 : Below w.heap.size w w11 := G10.trans (hm.below.mono s9)
    have c5 := hm.cell
    obtain rfl : q = q3 := (hf.to_take hlt).unique hf3
    rw [kindAt_take zs q hlt]
    clear hm c0 c1 fr HO10 hne G10 hf3
    go_wp2_with fail
    refine (pos_any _ _ _ c5).mono ?_
    rintro e w11 ⟨rfl, rfl⟩
    go_wp2
    go_ret
    exact ⟨rfl, G11⟩
  · have hi : ¬ ((q : Int) < (zs.length : Int)) := by omega
    have hk : kindAt zs q = 0 := by unfold kindAt; rw [if_neg hlt]
    go_wp2
    go_ret
    exact ⟨rfl, G8⟩
end Go.Proofs.Qxb6628837a
