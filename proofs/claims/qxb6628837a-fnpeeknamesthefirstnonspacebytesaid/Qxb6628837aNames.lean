/- The law FnPeekNamesTheFirstNonSpaceByte walked. -/
import Derived.Test.Qxb6628837aSees
namespace Go.Proofs.Qxb6628837a
open Go.RowKit

/-- Too long, or the position lies outside: true at once. -/
theorem names_early (a k : Option Addr) (n cn m cm : Nat) (pos depth : Int) (w : World) (hn : n ≤ maxLen) (hm : m ≤ maxLen) (h : 1048576 < n + m) :
    Calls Try.prog 3 #[.slice a n cn, .int .i64 pos, .int .i64 depth, .slice k m cm] w fun e w' => e = .returned (.bool true) ∧ Below w.heap.size w w' := by
  go_enter Try.func3, Try.ntmps3
  go_wp2_with (go_at_call 5; refine (zb_no a k n cn m cm pos depth _ hn hm h).mono ?_; rintro e w' ⟨rfl, rfl⟩)
  go_ret
  exact ⟨rfl, Below.refl _ _⟩
theorem names_out (a k : Option Addr) (n cn m cm : Nat) (pos depth : Int) (w : World) (h : n + m ≤ 1048576) (hp : pos < 0 ∨ (n : Int) < pos) :
    Calls Try.prog 3 #[.slice a n cn, .int .i64 pos, .int .i64 depth, .slice k m cm] w fun e w' => e = .returned (.bool true) ∧ Below w.heap.size w w' := by
  have h1 : (n : Int) ≤ 1048576 := by omega
  have h2 : (m : Int) ≤ 1048576 - (n : Int) := by omega
  rcases hp with hp | hp
  · go_enter Try.func3, Try.ntmps3
    go_wp2_with (go_at_call 5; refine (zb_yes a k n cn m cm pos depth _ h).mono ?_; rintro e w' ⟨rfl, rfl⟩)
    go_ret
    exact ⟨rfl, Below.refl _ _⟩
  · have hp0 : ¬ (pos < 0) := by omega
    go_enter Try.func3, Try.ntmps3
    go_wp2_with (go_at_call 5; refine (zb_yes a k n cn m cm pos depth _ h).mono ?_; rintro e w' ⟨rfl, rfl⟩)
    go_ret
    exact ⟨rfl, Below.refl _ _⟩

theorem IsFirst.again {zs : List Int} {p q : Nat} (h : IsFirst zs p q) : IsFirst zs q q := ⟨Nat.le_refl _, h.hi, fun i h1 h2 => by omega, h.stop⟩

set_option maxHeartbeats 2000000 in
theorem names_walk (a k : Option Addr) (zs ks : List Int) (ca ck p : Nat) (depth : Int) (w : World) (hl : zs.length + ks.length ≤ 1048576) (hp : p ≤ zs.length) (hs : Seg w a zs) (hca : a = none → ca = 0) (hk : Seg w k ks) (hck : k = none → ck = 0) :
    Calls Try.prog 3 #[.slice a zs.length ca, .int .i64 p, .int .i64 depth, .slice k ks.length ck] w fun e w' => e = .returned (.bool true) ∧ Below w.heap.size w w' := by
  have h1 : (zs.length : Int) ≤ 1048576 := by omega
  have h2 : (ks.length : Int) ≤ 1048576 - (zs.length : Int) := by omega
  have h3 : ¬ ((zs.length : Int) < (p : Int)) := by omega
  have h4 : ¬ ((p : Int) < 0) := by omega
  go_enter Try.func3, Try.ntmps3
  go_wp2_with fail
  refine (zb_yes a k _ ca _ ck p depth _ hl).mono ?_
  rintro e w ⟨rfl, rfl⟩
  go_wp2_with fail
  refine (clone_any a zs ca _ (by omega) hs hca).mono ?_
  rintro e w1 ⟨a1, rfl, hn1, ho1, hb1⟩
  clear hn1
  go_wp2_with fail
  refine (clone_any k ks ck _ (by omega) (hk.below hb1) hck).mono ?_
  rintro e w2 ⟨k1, rfl, hn2, ho2, hb2⟩
  clear hn2
  go_wp2_with fail
  refine (clone_any a1 zs zs.length _ (by omega) ((ho1.below hb2).seg) ?_).mono ?_
  · intro e
    rcases ho1 with ⟨_, h⟩ | ⟨g, h, _⟩
    · rw [h]; rfl
    · rw [h] at e; cases e
  rintro e w3 ⟨a2, rfl, hn3, ho3, hb3⟩
  have HN3 : Hid (a1.isNone = a2.isNone) := hn3.symm
  clear hn3
  go_wp2_with fail
  refine (clone_any k1 ks ks.length _ (by omega) ((ho2.below hb3).seg) ?_).mono ?_
  · intro e
    rcases ho2 with ⟨_, h⟩ | ⟨g, h, _⟩
    · rw [h]; rfl
    · rw [h] at e; cases e
  rintro e w4 ⟨k2, rfl, hn4, ho4, hb4⟩
  have HN4 : Hid (k1.isNone = k2.isNone) := hn4.symm
  clear hn4
  have O1 := ((ho1.below hb2).below hb3).below hb4
  have O2 := (ho2.below hb3).below hb4
  have O3 := ho3.below hb4
  have G4 : Below w.heap.size w w4 := ((hb1.trans (hb2.mono hb1.size)).trans (hb3.mono (Nat.le_trans hb1.size hb2.size))).trans (hb4.mono (Nat.le_trans (Nat.le_trans hb1.size hb2.size) hb3.size))
  clear hb1 hb2 hb3 hb4 ho1 ho2 ho3
  go_wp2_with fail
  refine (new_any a1 k1 zs.length ks.length p depth _).mono ?_
  rintro e w5 ⟨rfl, hw5⟩
  obtain ⟨c0, c1, c2, c3, fr, hb5⟩ := new_facts a1 k1 zs.length ks.length p depth w4
  rw [← hw5] at c0 c1 c2 c3 fr hb5
  clear hw5
  have n1 := Own.ne O1 (Nat.le_refl _)
  have n2 := Own.ne O2 (Nat.le_refl _)
  have n3 := Own.ne O3 (Nat.le_refl _)
  have n4 := Own.ne ho4 (Nat.le_refl _)
  have P1 := O1.below hb5
  have P2 := O2.below hb5
  have P3 := O3.below hb5
  have P4 := ho4.below hb5
  have G5 : Below w.heap.size w w5 := G4.trans (hb5.mono G4.size)
  have s4 := G4.size
  clear O1 O2 O3 ho4 hb5 G4
  go_wp2_with fail
  refine (peek_any _ _ a1 zs p _ c0 c1 fr P1 n1 hp (by omega)).mono ?_
  rintro e w6 ⟨q, rfl, hf, hm⟩
  have Q1 := P1.moved hm n1
  have Q2 := P2.moved hm n2
  have Q3 := P3.moved hm n3
  have Q4 := P4.moved hm n4
  have G6 : Below w.heap.size w w6 := G5.trans (hm.below.mono s4)
  have e0 : w6.cell? ⟨w4.heap.size, 0, none⟩ = some (.slice a1 zs.length zs.length) := by rw [hm.others _ _ (by omega)]; exact c0
  have e1 := hm.cell
  have e2 : w6.cell? ⟨w4.heap.size, 2, none⟩ = some (.int .i64 depth) := by rw [hm.others _ _ (by omega)]; exact c2
  have e3 : w6.cell? ⟨w4.heap.size, 3, none⟩ = some (.slice k1 ks.length ks.length) := by rw [hm.others _ _ (by omega)]; exact c3
  have ef : w6.frozen? ⟨w4.heap.size, 1, none⟩ = false := by rw [hm.free]; exact fr
  clear P1 P2 P3 P4 c0 c1 c2 c3 fr G5 hm
  have C : Aside (w6.cell? ⟨w4.heap.size, 0, none⟩ = some (.slice a1 zs.length zs.length) ∧ w6.cell? ⟨w4.heap.size, 1, none⟩ = some (.int .i64 q) ∧ w6.cell? ⟨w4.heap.size, 2, none⟩ = some (.int .i64 depth) ∧ w6.cell? ⟨w4.heap.size, 3, none⟩ = some (.slice k1 ks.length ks.length) ∧ w6.frozen? ⟨w4.heap.size, 1, none⟩ = false) := ⟨e0, e1, e2, e3, ef⟩
  clear e0 e1 e2 e3 ef
  go_wp2_with fail
  refine (pos_any _ _ _ C.out.2.1).mono ?_
  rintro e w6 ⟨rfl, rfl⟩
  go_wp2_with fail
  refine (first_any _ a2 zs p q _ Q3 hf (by omega)).mono ?_
  rintro e w6 ⟨rfl, rfl⟩
  have hqz := hf.hi
  have D : ∃ B3, Own w6 B3 a2 zs := ⟨_, Q3⟩
  by_cases hlt : q < zs.length
  · have hi : (q : Int) < (zs.length : Int) := by omega
    rcases Q3 with ⟨rfl, rfl⟩ | ⟨g, rfl, _, _, ht⟩
    · simp at hlt
    have hg : zs.getD q 0 = zs[q] := by simp [hlt]
    have r3 := ht q hlt
    rw [hg] at r3
    have hk : kindAt zs q = kd zs[q] := by simp [kindAt, hlt]
    clear ht hg n3
    go_wp2_with fail
    refine (kind_any _ _).mono ?_
    rintro e w6 ⟨rfl, rfl⟩
    go_wp2_with fail
    refine (depth_any _ _ _ C.out.2.2.1).mono ?_
    rintro e w6 ⟨rfl, rfl⟩
    go_wp2_with fail
    refine (text_any _ _ _ _ _ C.out.1).mono ?_
    rintro e w6 ⟨rfl, rfl⟩
    go_wp2_with fail
    obtain ⟨B3, Q3'⟩ := D
    refine (same_any _ _ _ _ zs _ Q1 Q3' HN3.out (by omega)).mono ?_
    rintro e w7 ⟨rfl, n7, rfl⟩
    go_wp2_with fail
    refine (kept_any _ _ _ _ _ (by exact C.out.2.2.2.1)).mono ?_
    rintro e w8 ⟨rfl, rfl⟩
    go_wp2_with fail
    refine (same_any _ _ _ _ ks _ (Q2.drewN _) (Q4.drewN _) HN4.out (by omega)).mono ?_
    rintro e w9 ⟨rfl, n9, rfl⟩
    go_wp2_with fail
    refine (peek_any _ _ a1 zs q _ (by exact C.out.1) (by exact C.out.2.1) (by exact C.out.2.2.2.2) (by exact Q1) n1 hqz (by omega)).mono ?_
    rintro e w10 ⟨q', rfl, hf', hm'⟩
    obtain rfl : q = q' := hf.again.unique hf'
    have c10 := hm'.cell
    have G10 : Below w.heap.size w w10 := (G6.trans ⟨rfl, rfl, rfl, Nat.le_refl _, fun _ _ => rfl⟩ : Below w.heap.size w (w6.drewN (n7 + n9))).trans (hm'.below.mono s4)
    clear hm'
    go_wp2_with fail
    refine (pos_any _ _ _ c10).mono ?_
    rintro e w10 ⟨rfl, rfl⟩
    go_wp2
    go_ret
    exact ⟨rfl, G10⟩
  · have hi : ¬ ((q : Int) < (zs.length : Int)) := by omega
    have hk : kindAt zs q = 0 := by unfold kindAt; rw [if_neg hlt]
    go_wp2_with fail
    refine (depth_any _ _ _ C.out.2.2.1).mono ?_
    rintro e w6 ⟨rfl, rfl⟩
    go_wp2_with fail
    refine (text_any _ _ _ _ _ C.out.1).mono ?_
    rintro e w6 ⟨rfl, rfl⟩
    go_wp2_with fail
    obtain ⟨B3, Q3'⟩ := D
    refine (same_any _ _ _ _ zs _ Q1 Q3' HN3.out (by omega)).mono ?_
    rintro e w7 ⟨rfl, n7, rfl⟩
    go_wp2_with fail
    refine (kept_any _ _ _ _ _ (by exact C.out.2.2.2.1)).mono ?_
    rintro e w8 ⟨rfl, rfl⟩
    go_wp2_with fail
    refine (same_any _ _ _ _ ks _ (Q2.drewN _) (Q4.drewN _) HN4.out (by omega)).mono ?_
    rintro e w9 ⟨rfl, n9, rfl⟩
    go_wp2_with fail
    refine (peek_any _ _ a1 zs q _ (by exact C.out.1) (by exact C.out.2.1) (by exact C.out.2.2.2.2) (by exact Q1) n1 hqz (by omega)).mono ?_
    rintro e w10 ⟨q', rfl, hf', hm'⟩
    obtain rfl : q = q' := hf.again.unique hf'
    have c10 := hm'.cell
    have G10 : Below w.heap.size w w10 := (G6.trans ⟨rfl, rfl, rfl, Nat.le_refl _, fun _ _ => rfl⟩ : Below w.heap.size w (w6.drewN (n7 + n9))).trans (hm'.below.mono s4)
    clear hm'
    go_wp2_with fail
    refine (pos_any _ _ _ c10).mono ?_
    rintro e w10 ⟨rfl, rfl⟩
    go_wp2
    go_ret
    exact ⟨rfl, G10⟩
end Go.Proofs.Qxb6628837a
