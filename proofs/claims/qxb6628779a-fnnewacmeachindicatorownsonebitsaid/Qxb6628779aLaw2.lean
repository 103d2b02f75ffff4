/- The law FnNewACMEachIndicatorOwnsOneBit walked. -/
import Derived.Test.Qxb6628779aEnc
namespace Go.Proofs.Qxb6628779a
open Go.RowKit

theorem keepH {w4 W w' : World} (hb : Below W.heap.size W w') (h : (∀ b o, b < w4.heap.size → W.cell? ⟨b, o, none⟩ = w4.cell? ⟨b, o, none⟩) ∧ Below w4.heap.size w4 W) :
    (∀ b o, b < w4.heap.size → w'.cell? ⟨b, o, none⟩ = w4.cell? ⟨b, o, none⟩) ∧ Below w4.heap.size w4 w' :=
  ⟨fun b o hl => by rw [hb.cell (p := ⟨b, o, none⟩) (Nat.lt_of_lt_of_le hl h.2.size)]; exact h.1 b o hl, h.2.trans (hb.mono h.2.size)⟩
theorem keepD {w4 W : World} (h : (∀ b o, b < w4.heap.size → W.cell? ⟨b, o, none⟩ = w4.cell? ⟨b, o, none⟩) ∧ Below w4.heap.size w4 W) :
    (∀ b o, b < w4.heap.size → W.drew.cell? ⟨b, o, none⟩ = w4.cell? ⟨b, o, none⟩) ∧ Below w4.heap.size w4 W.drew := ⟨fun b o hl => h.1 b o hl, h.2.drew⟩

set_option maxRecDepth 100000 in
set_option maxHeartbeats 2000000 in
theorem law2 (cic c0 c1 c2 c3 : Int) (b4 b5 b6 b7 b8 b9 : Bool) (c10 : Int) (o0 o1 o2 o3 : Bool) (w : World) (h0 : Byt c0) (h1 : Byt c1) (h2 : Byt c2) (h3 : Byt c3) (h10 : Byt c10) :
    Calls Try.prog 4 #[.int .u16 cic, .agg #[.int .u8 c0, .int .u8 c1, .int .u8 c2, .int .u8 c3, .bool b4, .bool b5, .bool b6, .bool b7, .bool b8, .bool b9, .int .u8 c10], .agg #[.bool o0, .bool o1, .bool o2, .bool o3]] w fun e w' =>
      e = .returned (.bool true) ∧ Below w.heap.size w w' := by
  go_enter Try.func4, Try.ntmps4
  go_wp2_with fail
  refine (enc_any cic c0 c1 c2 c3 b4 b5 b6 b7 b8 b9 c10 o0 o1 o2 o3 _ h0 h1 h2 h3 h10).mono ?_
  rintro e w1 ⟨rfl, hb1⟩
  have hs1 := hb1.size
  simp at hs1
  have hB1 : Below w.heap.size w w1 := by
    refine Below.trans ?_ (hb1.mono (by simp; omega))
    go_grown
  obtain ⟨hb0c, hoc⟩ : (∀ o, w1.cell? ⟨w.heap.size, o, none⟩ = (#[.int .u8 c0, .int .u8 c1, .int .u8 c2, .int .u8 c3, .bool b4, .bool b5, .bool b6, .bool b7, .bool b8, .bool b9, .int .u8 c10] : Array Value)[o]?) ∧ (∀ o, w1.cell? ⟨w.heap.size + 1, o, none⟩ = (#[.bool o0, .bool o1, .bool o2, .bool o3] : Array Value)[o]?) := by
    refine ⟨fun o => ?_, fun o => ?_⟩
    · rw [hb1.cell (p := ⟨w.heap.size, o, none⟩) (by simp; omega)]; simp [go_sem]
    · rw [hb1.cell (p := ⟨w.heap.size + 1, o, none⟩) (by simp)]; simp [go_sem]
  have z0 : w.heap.size < w1.heap.size := by omega
  have z1 : w.heap.size + 1 < w1.heap.size := by omega
  clear hb1
  go_wp2
  go_loopw [9, 10] (fun used k wr => ∃ n : Nat, n ≤ 5 ∧ k = .int .i64 n ∧ used = .int .u32 (usS (2 * n)) ∧ (∀ b o, b < w1.heap.size → wr.cell? ⟨b, o, none⟩ = w1.cell? ⟨b, o, none⟩) ∧ Below w1.heap.size w1 wr) (fun _ k _ => 5 - (intOf k).toNat)
  case atStart => exact ⟨0, by omega, rfl, rfl, fun _ _ _ => rfl, Below.refl _ _⟩
  case round =>
    obtain ⟨n, hn, rfl, rfl, hcr, hbr⟩ := hrel
    by_cases hlt : n < 5
    · have hi : (n : Int) < 5 := by omega
      have n0 : 2 * n < 20 := by omega
      have n1 : 2 * n + 1 < 20 := by omega
      have x1 : bits .xor .u32 (encV (xf 0 n 1 c0) (xf 1 n 1 c1) (xf 2 n 1 c2) (xf 3 n 1 c3) b4 b5 b6 b7 b8 b9 (xf 4 n 1 c10) o0 o1 o2 o3) (encV c0 c1 c2 c3 b4 b5 b6 b7 b8 b9 c10 o0 o1 o2 o3) = dS (2 * n) := stepU c0 c1 c2 c3 b4 b5 b6 b7 b8 b9 c10 o0 o1 o2 o3 n 1 hlt (by omega) (by omega) h0 h1 h2 h3 h10
      have x2 : bits .xor .u32 (encV (xf 0 n 2 c0) (xf 1 n 2 c1) (xf 2 n 2 c2) (xf 3 n 2 c3) b4 b5 b6 b7 b8 b9 (xf 4 n 2 c10) o0 o1 o2 o3) (encV c0 c1 c2 c3 b4 b5 b6 b7 b8 b9 c10 o0 o1 o2 o3) = dS (2 * n + 1) := stepU c0 c1 c2 c3 b4 b5 b6 b7 b8 b9 c10 o0 o1 o2 o3 n 2 hlt (by omega) (by omega) h0 h1 h2 h3 h10
      have x3 := stepHigh c0 c1 c2 c3 b4 b5 b6 b7 b8 b9 c10 o0 o1 o2 o3 n h0 h1 h2 h3 h10
      have u1 := dS_new _ n0
      have u2 := dS_new _ n1
      have u3 := dS_or _ n0
      have u4 := dS_or _ n1
      have y0 : w.heap.size < wr.heap.size := by have := hbr.size; omega
      have y1 : w.heap.size + 1 < wr.heap.size := by have := hbr.size; omega
      have g1 : Byt 1 := ⟨by decide, by decide⟩
      have g2 : Byt 2 := ⟨by decide, by decide⟩
      have g3 : Byt 252 := ⟨by decide, by decide⟩
      go_wp2
      refine wp_loop_rounds 3 ?_
      rw [rounds_succ]
      go_wp2
      go_region_held3 (fun w' => (∀ b o, b < wr.heap.size → w'.cell? ⟨b, o, none⟩ = wr.cell? ⟨b, o, none⟩) ∧ Below wr.heap.size wr w') (first | exact ⟨fun b o h => rfl, (Below.refl _ _).drew⟩ | exact keepH ‹_› ‹_›)
        (first
          | (go_at_call 10; refine (xor_any c0 c1 c2 c3 b4 b5 b6 b7 b8 b9 c10 n 1 _ hlt).mono ?_; rintro e w5 ⟨rfl, hb5⟩)
          | (go_at_call 9; refine (enc_any cic _ _ _ _ b4 b5 b6 b7 b8 b9 _ o0 o1 o2 o3 _ (byt_xf 0 n 1 c0 h0 g1) (byt_xf 1 n 1 c1 h1 g1) (byt_xf 2 n 1 c2 h2 g1) (byt_xf 3 n 1 c3 h3 g1) (byt_xf 4 n 1 c10 h10 g1)).mono ?_; rintro e w6 ⟨rfl, hb6⟩))
      go_wp2_with (go_at_call 11; refine (oneBit_any _ _ (dS_ne _ n0) (dS_one _ n0)).mono ?_; rintro e wx ⟨rfl, rfl⟩)
      rw [rounds_succ]
      go_wp2
      go_region_held3 (fun w' => (∀ b o, b < wr.heap.size → w'.cell? ⟨b, o, none⟩ = wr.cell? ⟨b, o, none⟩) ∧ Below wr.heap.size wr w') (first | exact keepD ‹_› | exact keepH ‹_› ‹_›)
        (first
          | (go_at_call 10; refine (xor_any c0 c1 c2 c3 b4 b5 b6 b7 b8 b9 c10 n 2 _ hlt).mono ?_; rintro e w5 ⟨rfl, hb5⟩)
          | (go_at_call 9; refine (enc_any cic _ _ _ _ b4 b5 b6 b7 b8 b9 _ o0 o1 o2 o3 _ (byt_xf 0 n 2 c0 h0 g2) (byt_xf 1 n 2 c1 h1 g2) (byt_xf 2 n 2 c2 h2 g2) (byt_xf 3 n 2 c3 h3 g2) (byt_xf 4 n 2 c10 h10 g2)).mono ?_; rintro e w6 ⟨rfl, hb6⟩))
      go_wp2_with (go_at_call 11; refine (oneBit_any _ _ (dS_ne _ n1) (dS_one _ n1)).mono ?_; rintro e wx ⟨rfl, rfl⟩)
      rw [rounds_succ]
      go_wp2
      go_region_held3 (fun w' => (∀ b o, b < wr.heap.size → w'.cell? ⟨b, o, none⟩ = wr.cell? ⟨b, o, none⟩) ∧ Below wr.heap.size wr w') (first | exact keepD ‹_› | exact keepH ‹_› ‹_›)
        (first
          | (go_at_call 10; refine (xor_any c0 c1 c2 c3 b4 b5 b6 b7 b8 b9 c10 n 252 _ hlt).mono ?_; rintro e w5 ⟨rfl, hb5⟩)
          | (go_at_call 9; refine (enc_any cic _ _ _ _ b4 b5 b6 b7 b8 b9 _ o0 o1 o2 o3 _ (byt_xf 0 n 252 c0 h0 g3) (byt_xf 1 n 252 c1 h1 g3) (byt_xf 2 n 252 c2 h2 g3) (byt_xf 3 n 252 c3 h3 g3) (byt_xf 4 n 252 c10 h10 g3)).mono ?_; rintro e w6 ⟨rfl, hb6⟩))
      go_wp2
      go_roundw
      case rel =>
        rename_i hHeld
        exact ⟨n + 1, by omega, by go_num, rfl, fun b o hl => by rw [hHeld.1 b o (by have := hbr.size; omega)]; exact hcr b o hl, hbr.trans (hHeld.2.mono hbr.size)⟩
      case measure => simp [intOf]; omega
    · obtain rfl : n = 5 := by omega
      have y0 : w.heap.size < wr.heap.size := by have := hbr.size; omega
      have y1 : w.heap.size + 1 < wr.heap.size := by have := hbr.size; omega
      go_wp2
      go_loopw [9, 17] (fun used k wr => ∃ m : Nat, m ≤ 6 ∧ k = .int .i64 m ∧ used = .int .u32 (usS (10 + m)) ∧ (∀ b o, b < w1.heap.size → wr.cell? ⟨b, o, none⟩ = w1.cell? ⟨b, o, none⟩) ∧ Below w1.heap.size w1 wr) (fun _ k _ => 6 - (intOf k).toNat)
      case atStart => exact ⟨0, by omega, rfl, rfl, hcr, hbr⟩
      case round =>
        clear hcr hbr y0 y1
        obtain ⟨m, hm, rfl, rfl, hcs, hbs⟩ := hrel
        by_cases mlt : m < 6
        · have mi : (m : Int) < 6 := by omega
          have m0 : 10 + m < 20 := by omega
          have x1 := stepB c0 c1 c2 c3 b4 b5 b6 b7 b8 b9 c10 o0 o1 o2 o3 m mlt h0 h1 h2 h3 h10
          have u1 := dS_new _ m0
          have u3 := dS_or _ m0
          have y0 : w.heap.size < wr.heap.size := by have := hbs.size; omega
          have y1 : w.heap.size + 1 < wr.heap.size := by have := hbs.size; omega
          go_wp2
          go_region_held3 (fun w' => (∀ b o, b < wr.heap.size → w'.cell? ⟨b, o, none⟩ = wr.cell? ⟨b, o, none⟩) ∧ Below wr.heap.size wr w') (first | exact ⟨fun b o h => rfl, (Below.refl _ _).drew⟩ | exact keepH ‹_› ‹_›)
            (first
              | (go_at_call 12; refine (flipB_any c0 c1 c2 c3 b4 b5 b6 b7 b8 b9 c10 m _ mlt).mono ?_; rintro e w5 ⟨rfl, hb5⟩)
              | (go_at_call 9; refine (enc_any cic c0 c1 c2 c3 _ _ _ _ _ _ c10 o0 o1 o2 o3 _ h0 h1 h2 h3 h10).mono ?_; rintro e w6 ⟨rfl, hb6⟩))
          go_wp2_with (go_at_call 11; refine (oneBit_any _ _ (dS_ne _ m0) (dS_one _ m0)).mono ?_; rintro e wx ⟨rfl, rfl⟩)
          go_roundw
          case rel =>
            rename_i hHeld
            repeat apply Exists.intro
            exact ⟨⟨m + 1, by omega, by go_num, rfl, fun b o hl => by rw [hHeld.1 b o (by have := hbs.size; omega)]; exact hcs b o hl, hbs.trans (hHeld.2.mono hbs.size)⟩, rfl⟩
          case measure => simp [intOf]; omega
        · obtain rfl : m = 6 := by omega
          have y0 : w.heap.size < wr.heap.size := by have := hbs.size; omega
          have y1 : w.heap.size + 1 < wr.heap.size := by have := hbs.size; omega
          go_wp2
          go_loopw [9, 21] (fun used k wr => ∃ l : Nat, l ≤ 4 ∧ k = .int .i64 l ∧ used = .int .u32 (usS (16 + l)) ∧ (∀ b o, b < w1.heap.size → wr.cell? ⟨b, o, none⟩ = w1.cell? ⟨b, o, none⟩) ∧ Below w1.heap.size w1 wr) (fun _ k _ => 4 - (intOf k).toNat)
          case atStart => exact ⟨0, by omega, rfl, rfl, hcs, hbs⟩
          case round =>
            clear hcs hbs y0 y1
            obtain ⟨l, hl, rfl, rfl, hct, hbt⟩ := hrel
            by_cases llt : l < 4
            · have li : (l : Int) < 4 := by omega
              have l0 : 16 + l < 20 := by omega
              have x1 := stepO c0 c1 c2 c3 b4 b5 b6 b7 b8 b9 c10 o0 o1 o2 o3 l llt h0 h1 h2 h3 h10
              have u1 := dS_new _ l0
              have u3 := dS_or _ l0
              have y0 : w.heap.size < wr.heap.size := by have := hbt.size; omega
              have y1 : w.heap.size + 1 < wr.heap.size := by have := hbt.size; omega
              go_wp2
              go_region_held3 (fun w' => (∀ b o, b < wr.heap.size → w'.cell? ⟨b, o, none⟩ = wr.cell? ⟨b, o, none⟩) ∧ Below wr.heap.size wr w') (first | exact ⟨fun b o h => rfl, (Below.refl _ _).drew⟩ | exact keepH ‹_› ‹_›)
                (first
                  | (go_at_call 13; refine (flipO_any o0 o1 o2 o3 l _ llt).mono ?_; rintro e w5 ⟨rfl, hb5⟩)
                  | (go_at_call 9; refine (enc_any cic c0 c1 c2 c3 b4 b5 b6 b7 b8 b9 c10 _ _ _ _ _ h0 h1 h2 h3 h10).mono ?_; rintro e w6 ⟨rfl, hb6⟩))
              go_wp2_with (go_at_call 11; refine (oneBit_any _ _ (dS_ne _ l0) (dS_one _ l0)).mono ?_; rintro e wx ⟨rfl, rfl⟩)
              go_roundw
              case rel =>
                rename_i hHeld
                repeat apply Exists.intro
                exact ⟨⟨l + 1, by omega, by go_num, rfl, fun b o hl => by rw [hHeld.1 b o (by have := hbt.size; omega)]; exact hct b o hl, hbt.trans (hHeld.2.mono hbt.size)⟩, rfl⟩
              case measure => simp [intOf]; omega
            · obtain rfl : l = 4 := by omega
              have hend : (usS (16 + 4) == 1048575) = true := by rw [show (16 + 4 : Nat) = 20 from rfl, usS_end]; rfl
              go_wp2
              go_ret
              exact ⟨rfl, hB1.trans (hbt.mono (by omega))⟩
end Go.Proofs.Qxb6628779a
