/- 'encACM' walked. -/
import Derived.Test.Qxb6628779aAny
import Derived.Test.Qxb6628779aSteps
namespace Go.Proofs.Qxb6628779a
open Go.RowKit
set_option maxHeartbeats 1000000 in
theorem enc_zero (cic c0 c1 c2 c3 : Int) (b4 b5 b6 b7 b8 b9 : Bool) (c10 : Int) (o0 o1 o2 o3 : Bool) (w : World) (h0 : Byt c0) (h1 : Byt c1) (h2 : Byt c2) (h3 : Byt c3) (h10 : Byt c10) (hz : zeroO o0 o1 o2 o3 = true) :
    Calls Try.prog 9 #[.int .u16 cic, .agg #[.int .u8 c0, .int .u8 c1, .int .u8 c2, .int .u8 c3, .bool b4, .bool b5, .bool b6, .bool b7, .bool b8, .bool b9, .int .u8 c10], .agg #[.bool o0, .bool o1, .bool o2, .bool o3]] w fun e w' =>
      e = .returned (.tuple #[.int .u32 (encV c0 c1 c2 c3 b4 b5 b6 b7 b8 b9 c10 o0 o1 o2 o3), .bool true]) ∧ Below w.heap.size w w' := by
  have hform := enc_form _ _ _ (oct0_byt c0 c1 c2 c3 h0 h1 h2 h3) (oct1_byt b4 b5 b6 b7 b8 b9 c10 h10) (octO_bd o0 o1 o2 o3).1 (octO_bd o0 o1 o2 o3).2
  have hz' : octO o0 o1 o2 o3 = 0 := octO_zero hz
  rw [hz'] at hform
  have hform' : bits .or .u32 (bits .or .u32 (oct0 c0 c1 c2 c3 % 4294967296) (oct1 b4 b5 b6 b7 b8 b9 c10 % 4294967296 * 256 % 4294967296)) 0 = encV c0 c1 c2 c3 b4 b5 b6 b7 b8 b9 c10 o0 o1 o2 o3 := by
    unfold encV; rw [hz']; exact hform
  have HF := show Hid _ from hform'
  clear hz' hform hform'
  go_enter Try.func9, Try.ntmps9
  go_wp2_with fail
  refine (acm_zero cic c0 c1 c2 c3 b4 b5 b6 b7 b8 b9 c10 o0 o1 o2 o3 _ hz).mono ?_
  rintro e w1 ⟨fb, rfl, hf, hb1⟩
  obtain ⟨hc1, hfr1⟩ := bcell hb1
  have hs1 := hb1.size
  simp at hs1
  have z0 : w.heap.size < w1.heap.size := by omega
  have z1 : w.heap.size + 1 < w1.heap.size := by omega
  go_wp2_with fail
  refine (wf_zero cic fb o0 o1 o2 o3 _ hz).mono ?_
  rintro e w2 ⟨rfl, hb2⟩
  obtain ⟨hc2, hfr2⟩ := bcell hb2
  have hs2 := hb2.size
  simp at hs2
  have y0 : w.heap.size < w2.heap.size := by omega
  have y1 : w.heap.size + 1 < w2.heap.size := by omega
  have y2 : w1.heap.size < w2.heap.size := by omega
  have hf2 := (hf.below ((Below.refl _ _).alloc (Nat.le_refl _) _)).below hb2
  obtain ⟨_, hfi, hf0, hf1⟩ := hf2
  clear hf
  go_wp2
  go_quiet (fail)
  go_wp2
  go_ret2
  refine ⟨?_, ?_⟩
  · rw [← HF.out]; rfl
  · refine bdrewN ?_ _
    refine Below.trans (Below.alloc (Below.trans ?_ (hb1.mono (by simp; omega))) (by omega) _) (hb2.mono (by simp; omega))
    go_grown
set_option maxHeartbeats 1000000 in
theorem enc_non (cic c0 c1 c2 c3 : Int) (b4 b5 b6 b7 b8 b9 : Bool) (c10 : Int) (o0 o1 o2 o3 : Bool) (w : World) (h0 : Byt c0) (h1 : Byt c1) (h2 : Byt c2) (h3 : Byt c3) (h10 : Byt c10) (hz : zeroO o0 o1 o2 o3 = false) :
    Calls Try.prog 9 #[.int .u16 cic, .agg #[.int .u8 c0, .int .u8 c1, .int .u8 c2, .int .u8 c3, .bool b4, .bool b5, .bool b6, .bool b7, .bool b8, .bool b9, .int .u8 c10], .agg #[.bool o0, .bool o1, .bool o2, .bool o3]] w fun e w' =>
      e = .returned (.tuple #[.int .u32 (encV c0 c1 c2 c3 b4 b5 b6 b7 b8 b9 c10 o0 o1 o2 o3), .bool true]) ∧ Below w.heap.size w w' := by
  have hform := enc_form _ _ _ (oct0_byt c0 c1 c2 c3 h0 h1 h2 h3) (oct1_byt b4 b5 b6 b7 b8 b9 c10 h10) (octO_bd o0 o1 o2 o3).1 (octO_bd o0 o1 o2 o3).2
  have hform' : bits .or .u32 (bits .or .u32 (oct0 c0 c1 c2 c3 % 4294967296) (oct1 b4 b5 b6 b7 b8 b9 c10 % 4294967296 * 256 % 4294967296)) (octO o0 o1 o2 o3 % 4294967296 * 65536 % 4294967296) = encV c0 c1 c2 c3 b4 b5 b6 b7 b8 b9 c10 o0 o1 o2 o3 := hform
  have HF := show Hid _ from hform'
  clear hform hform'
  go_enter Try.func9, Try.ntmps9
  go_wp2_with fail
  refine (acm_non cic c0 c1 c2 c3 b4 b5 b6 b7 b8 b9 c10 o0 o1 o2 o3 _ hz).mono ?_
  rintro e w1 ⟨fb, pb, vb, rfl, hf, ho, hb1⟩
  obtain ⟨hc1, hfr1⟩ := bcell hb1
  have hs1 := hb1.size
  simp at hs1
  have z0 : w.heap.size < w1.heap.size := by omega
  have z1 : w.heap.size + 1 < w1.heap.size := by omega
  go_wp2_with fail
  refine (wf_non cic _ _ fb pb vb o0 o1 o2 o3 _ hz (ho.below ((Below.refl _ _).alloc (Nat.le_refl _) _)) (octO_low ..) (octO_ne _ _ _ _ hz)).mono ?_
  rintro e w2 ⟨rfl, hb2⟩
  obtain ⟨hc2, hfr2⟩ := bcell hb2
  have hs2 := hb2.size
  simp at hs2
  have y0 : w.heap.size < w2.heap.size := by omega
  have y1 : w.heap.size + 1 < w2.heap.size := by omega
  have y2 : w1.heap.size < w2.heap.size := by omega
  have hf2 := (hf.below ((Below.refl _ _).alloc (Nat.le_refl _) _)).below hb2
  have ho2 := (ho.below ((Below.refl _ _).alloc (Nat.le_refl _) _)).below hb2
  obtain ⟨_, hfi, hf0, hf1⟩ := hf2
  obtain ⟨_, hpi, _, hvi, hp0, hp1, hv0⟩ := ho2
  clear hf ho
  go_wp2
  go_quiet (fail)
  go_wp2
  go_ret2
  refine ⟨?_, ?_⟩
  · rw [← HF.out]; rfl
  · refine bdrewN ?_ _
    refine Below.trans (Below.alloc (Below.trans ?_ (hb1.mono (by simp; omega))) (by omega) _) (hb2.mono (by simp; omega))
    go_grown

theorem enc_any (cic c0 c1 c2 c3 : Int) (b4 b5 b6 b7 b8 b9 : Bool) (c10 : Int) (o0 o1 o2 o3 : Bool) (w : World) (h0 : Byt c0) (h1 : Byt c1) (h2 : Byt c2) (h3 : Byt c3) (h10 : Byt c10) :
    Calls Try.prog 9 #[.int .u16 cic, .agg #[.int .u8 c0, .int .u8 c1, .int .u8 c2, .int .u8 c3, .bool b4, .bool b5, .bool b6, .bool b7, .bool b8, .bool b9, .int .u8 c10], .agg #[.bool o0, .bool o1, .bool o2, .bool o3]] w fun e w' =>
      e = .returned (.tuple #[.int .u32 (encV c0 c1 c2 c3 b4 b5 b6 b7 b8 b9 c10 o0 o1 o2 o3), .bool true]) ∧ Below w.heap.size w w' := by
  cases hz : zeroO o0 o1 o2 o3
  · exact enc_non cic c0 c1 c2 c3 b4 b5 b6 b7 b8 b9 c10 o0 o1 o2 o3 w h0 h1 h2 h3 h10 hz
  · exact enc_zero cic c0 c1 c2 c3 b4 b5 b6 b7 b8 b9 c10 o0 o1 o2 o3 w h0 h1 h2 h3 h10 hz
end Go.Proofs.Qxb6628779a
