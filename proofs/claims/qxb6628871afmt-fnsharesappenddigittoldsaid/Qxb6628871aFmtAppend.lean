/- The law FnSharesAppendDigit walked. -/
import Derived.Test.Qxb6628871aFmtSnoc
import Derived.Laws.BytesString
namespace Go.Proofs.Qxb6628871aFmt
open Go.RowKit Go.Extern.Stop Go.Stop Go.Extern

theorem conv1 (c : UInt8) (W : World) : (convert 32 9 (.slice (some ⟨W.heap.size, 0, none⟩) 1 1)).run Tryf.prog (W.alloc (.cells #[.int .u8 (c.toNat : Int)] 5)) = .ok (.string ⟨#[c]⟩) (W.alloc (.cells #[.int .u8 (c.toNat : Int)] 5)) := by
  have h := run_bytesToString (P := Tryf.prog) (W.alloc (.cells #[.int .u8 (c.toNat : Int)] 5)) ⟨W.heap.size, 0, none⟩ 1 1 [(c.toNat : Int)] (by simp [go_sem])
  rw [run_convert_bytes_string (P := Tryf.prog) _ 32 9 5 _ 1 1 Tryf.underlying32 Tryf.underlying5 Tryf.underlying9, h]
  simp
  rfl
theorem app_list (s : ByteArray) (c : UInt8) : (s ++ ⟨#[c]⟩ : ByteArray).data.toList = s.data.toList ++ [c] := by
  rw [ByteArray.data_append, Array.toList_append]
theorem app_size (s : ByteArray) (c : UInt8) : (s ++ ⟨#[c]⟩ : ByteArray).size = s.size + 1 := by
  rw [ByteArray.size_append]; rfl

theorem app_big (s : ByteArray) (d : Int) (w : World) (h : 1048576 < s.size) : Calls Tryf.prog 4 #[.string s, .int .u8 d] w fun e w' => e = .returned (.bool true) ∧ Below w.heap.size w w' := by
  go_enter Tryf.func4, Tryf.ntmps4
  go_wp2_with (go_at_call 9; refine (zbA_no s d _ h).mono ?_; rintro e w ⟨rfl, rfl⟩)
  go_ret
  exact ⟨rfl, Below.refl _ _⟩

section
attribute [local go_sem] conv1
set_option maxHeartbeats 1000000 in
theorem nd_lo_y (F : Interp) (s : ByteArray) (c : UInt8) (w : World) (hF : F.answers w.tape) (hs : s.size ≤ 1048576) (hn : okB s.data.toList = true) (hm : okB (s.data.toList ++ [c]) = false) (hlo : (c.toNat : Int) < 48) : Calls Tryf.prog 4 #[.string s, .int .u8 (c.toNat : Int)] w fun e w' => e = .returned (.bool true) ∧ Below w.heap.size w w' := by
  have h1 : (s.size : Int) ≤ 1048576 := by omega
  have hx : c.toNat < 256 := c.toNat_lt
  rw [← app_list] at hm
  have HN := show Hid _ from hn
  have HM := show Hid _ from hm
  have HZ : (s ++ ⟨#[c]⟩ : ByteArray).size ≤ 1048577 := by rw [app_size]; omega
  clear hn hm
  go_enter Tryf.func4, Tryf.ntmps4
  go_wp2_with (first
    | (go_at_call 9; refine (zbA_yes s _ _ hs).mono ?_; rintro e w ⟨rfl, rfl⟩)
    | (go_at_call 7; have hFq := hF; clear hF; refine (shares_any F s _ (by exact hFq) (by omega)).mono ?_; intro e w1 hR; obtain ⟨hb, rfl⟩ := shares_yes hR HN.out; have hb1 := hb.alloc hb.size (.cells #[.int .u8 (c.toNat : Int)] 5); have hF1 : F.answers (w1.alloc (.cells #[.int .u8 (c.toNat : Int)] 5)).tape := (by rw [hb1.tape]; exact hFq))
    | (go_at_call 7; refine (shares_any F _ _ (by exact hF1) HZ).mono ?_; intro e w2 hR2; obtain ⟨hb2, t2, b2, rfl⟩ := shares_no hR2 HM.out))
  go_ret
  exact ⟨rfl, hb1.trans (hb2.mono hb1.size)⟩
set_option maxHeartbeats 1000000 in
theorem nd_hi_y (F : Interp) (s : ByteArray) (c : UInt8) (w : World) (hF : F.answers w.tape) (hs : s.size ≤ 1048576) (hn : okB s.data.toList = true) (hm : okB (s.data.toList ++ [c]) = false) (hhi : 57 < (c.toNat : Int)) : Calls Tryf.prog 4 #[.string s, .int .u8 (c.toNat : Int)] w fun e w' => e = .returned (.bool true) ∧ Below w.heap.size w w' := by
  have h1 : (s.size : Int) ≤ 1048576 := by omega
  have hx : c.toNat < 256 := c.toNat_lt
  rw [← app_list] at hm
  have hge : 48 ≤ (c.toNat : Int) := by omega
  have HN := show Hid _ from hn
  have HM := show Hid _ from hm
  have HZ : (s ++ ⟨#[c]⟩ : ByteArray).size ≤ 1048577 := by rw [app_size]; omega
  clear hn hm
  go_enter Tryf.func4, Tryf.ntmps4
  go_wp2_with (first
    | (go_at_call 9; refine (zbA_yes s _ _ hs).mono ?_; rintro e w ⟨rfl, rfl⟩)
    | (go_at_call 7; have hFq := hF; clear hF; refine (shares_any F s _ (by exact hFq) (by omega)).mono ?_; intro e w1 hR; obtain ⟨hb, rfl⟩ := shares_yes hR HN.out; have hb1 := hb.alloc hb.size (.cells #[.int .u8 (c.toNat : Int)] 5); have hF1 : F.answers (w1.alloc (.cells #[.int .u8 (c.toNat : Int)] 5)).tape := (by rw [hb1.tape]; exact hFq))
    | (go_at_call 7; refine (shares_any F _ _ (by exact hF1) HZ).mono ?_; intro e w2 hR2; obtain ⟨hb2, t2, b2, rfl⟩ := shares_no hR2 HM.out))
  go_ret
  exact ⟨rfl, hb1.trans (hb2.mono hb1.size)⟩
set_option maxHeartbeats 1000000 in
theorem nd_lo_n (F : Interp) (s : ByteArray) (c : UInt8) (w : World) (hF : F.answers w.tape) (hs : s.size ≤ 1048576) (hn : okB s.data.toList = false) (hm : okB (s.data.toList ++ [c]) = false) (hlo : (c.toNat : Int) < 48) : Calls Tryf.prog 4 #[.string s, .int .u8 (c.toNat : Int)] w fun e w' => e = .returned (.bool true) ∧ Below w.heap.size w w' := by
  have h1 : (s.size : Int) ≤ 1048576 := by omega
  have hx : c.toNat < 256 := c.toNat_lt
  rw [← app_list] at hm
  have HN := show Hid _ from hn
  have HM := show Hid _ from hm
  have HZ : (s ++ ⟨#[c]⟩ : ByteArray).size ≤ 1048577 := by rw [app_size]; omega
  clear hn hm
  go_enter Tryf.func4, Tryf.ntmps4
  go_wp2_with (first
    | (go_at_call 9; refine (zbA_yes s _ _ hs).mono ?_; rintro e w ⟨rfl, rfl⟩)
    | (go_at_call 7; have hFq := hF; clear hF; refine (shares_any F s _ (by exact hFq) (by omega)).mono ?_; intro e w1 hR; obtain ⟨hb, t1, b1, rfl⟩ := shares_no hR HN.out; have hb1 := hb.alloc hb.size (.cells #[.int .u8 (c.toNat : Int)] 5); have hF1 : F.answers (w1.alloc (.cells #[.int .u8 (c.toNat : Int)] 5)).tape := (by rw [hb1.tape]; exact hFq))
    | (go_at_call 7; refine (shares_any F _ _ (by exact hF1) HZ).mono ?_; intro e w2 hR2; obtain ⟨hb2, t2, b2, rfl⟩ := shares_no hR2 HM.out))
  go_ret
  exact ⟨rfl, hb1.trans (hb2.mono hb1.size)⟩
set_option maxHeartbeats 1000000 in
theorem nd_hi_n (F : Interp) (s : ByteArray) (c : UInt8) (w : World) (hF : F.answers w.tape) (hs : s.size ≤ 1048576) (hn : okB s.data.toList = false) (hm : okB (s.data.toList ++ [c]) = false) (hhi : 57 < (c.toNat : Int)) : Calls Tryf.prog 4 #[.string s, .int .u8 (c.toNat : Int)] w fun e w' => e = .returned (.bool true) ∧ Below w.heap.size w w' := by
  have h1 : (s.size : Int) ≤ 1048576 := by omega
  have hx : c.toNat < 256 := c.toNat_lt
  rw [← app_list] at hm
  have hge : 48 ≤ (c.toNat : Int) := by omega
  have HN := show Hid _ from hn
  have HM := show Hid _ from hm
  have HZ : (s ++ ⟨#[c]⟩ : ByteArray).size ≤ 1048577 := by rw [app_size]; omega
  clear hn hm
  go_enter Tryf.func4, Tryf.ntmps4
  go_wp2_with (first
    | (go_at_call 9; refine (zbA_yes s _ _ hs).mono ?_; rintro e w ⟨rfl, rfl⟩)
    | (go_at_call 7; have hFq := hF; clear hF; refine (shares_any F s _ (by exact hFq) (by omega)).mono ?_; intro e w1 hR; obtain ⟨hb, t1, b1, rfl⟩ := shares_no hR HN.out; have hb1 := hb.alloc hb.size (.cells #[.int .u8 (c.toNat : Int)] 5); have hF1 : F.answers (w1.alloc (.cells #[.int .u8 (c.toNat : Int)] 5)).tape := (by rw [hb1.tape]; exact hFq))
    | (go_at_call 7; refine (shares_any F _ _ (by exact hF1) HZ).mono ?_; intro e w2 hR2; obtain ⟨hb2, t2, b2, rfl⟩ := shares_no hR2 HM.out))
  go_ret
  exact ⟨rfl, hb1.trans (hb2.mono hb1.size)⟩
set_option maxHeartbeats 1000000 in
theorem d_y_short (F : Interp) (s : ByteArray) (c : UInt8) (w : World) (hF : F.answers w.tape) (hs : s.size ≤ 1048576) (hn : okB s.data.toList = true) (hm : okB (s.data.toList ++ [c]) = true) (hd1 : 48 ≤ (c.toNat : Int)) (hd2 : (c.toNat : Int) ≤ 57) (hl : (s.size : Int) ≤ 17) (hv0 : 0 ≤ val s.data.toList) (hv1 : val s.data.toList < 100000000000000000) (hv : val (s.data.toList ++ [c]) = 10 * val s.data.toList + ((c.toNat : Int) - 48)) : Calls Tryf.prog 4 #[.string s, .int .u8 (c.toNat : Int)] w fun e w' => e = .returned (.bool true) ∧ Below w.heap.size w w' := by
  have h1 : (s.size : Int) ≤ 1048576 := by omega
  have hx : c.toNat < 256 := c.toNat_lt
  rw [← app_list] at hm
  have HV : Hid (val (s.data.toList ++ [c]) = 10 * val s.data.toList + ((c.toNat : Int) - 48)) := hv
  clear hv
  have HN := show Hid _ from hn
  have HM := show Hid _ from hm
  have HZ : (s ++ ⟨#[c]⟩ : ByteArray).size ≤ 1048577 := by rw [app_size]; omega
  clear hn hm
  go_enter Tryf.func4, Tryf.ntmps4
  go_wp2_with (first
    | (go_at_call 9; refine (zbA_yes s _ _ hs).mono ?_; rintro e w ⟨rfl, rfl⟩)
    | (go_at_call 7; have hFq := hF; clear hF; refine (shares_any F s _ (by exact hFq) (by omega)).mono ?_; intro e w1 hR; obtain ⟨hb, rfl⟩ := shares_yes hR HN.out; have hb1 := hb.alloc hb.size (.cells #[.int .u8 (c.toNat : Int)] 5); have hF1 : F.answers (w1.alloc (.cells #[.int .u8 (c.toNat : Int)] 5)).tape := (by rw [hb1.tape]; exact hFq))
    | (go_at_call 7; refine (shares_any F _ _ (by exact hF1) HZ).mono ?_; intro e w2 hR2; obtain ⟨hb2, rfl⟩ := shares_yes hR2 HM.out; rw [app_list, HV.out]))
  go_ret
  exact ⟨rfl, hb1.trans (hb2.mono hb1.size)⟩
set_option maxHeartbeats 1000000 in
theorem d_y_long (F : Interp) (s : ByteArray) (c : UInt8) (w : World) (hF : F.answers w.tape) (hs : s.size ≤ 1048576) (hn : okB s.data.toList = true) (hm : okB (s.data.toList ++ [c]) = false) (hd1 : 48 ≤ (c.toNat : Int)) (hd2 : (c.toNat : Int) ≤ 57) (hl : 17 < (s.size : Int)) : Calls Tryf.prog 4 #[.string s, .int .u8 (c.toNat : Int)] w fun e w' => e = .returned (.bool true) ∧ Below w.heap.size w w' := by
  have h1 : (s.size : Int) ≤ 1048576 := by omega
  have hx : c.toNat < 256 := c.toNat_lt
  rw [← app_list] at hm
  have HN := show Hid _ from hn
  have HM := show Hid _ from hm
  have HZ : (s ++ ⟨#[c]⟩ : ByteArray).size ≤ 1048577 := by rw [app_size]; omega
  clear hn hm
  go_enter Tryf.func4, Tryf.ntmps4
  go_wp2_with (first
    | (go_at_call 9; refine (zbA_yes s _ _ hs).mono ?_; rintro e w ⟨rfl, rfl⟩)
    | (go_at_call 7; have hFq := hF; clear hF; refine (shares_any F s _ (by exact hFq) (by omega)).mono ?_; intro e w1 hR; obtain ⟨hb, rfl⟩ := shares_yes hR HN.out; have hb1 := hb.alloc hb.size (.cells #[.int .u8 (c.toNat : Int)] 5); have hF1 : F.answers (w1.alloc (.cells #[.int .u8 (c.toNat : Int)] 5)).tape := (by rw [hb1.tape]; exact hFq))
    | (go_at_call 7; refine (shares_any F _ _ (by exact hF1) HZ).mono ?_; intro e w2 hR2; obtain ⟨hb2, t2, b2, rfl⟩ := shares_no hR2 HM.out))
  go_ret
  exact ⟨rfl, hb1.trans (hb2.mono hb1.size)⟩
set_option maxHeartbeats 1000000 in
theorem d_n_first (F : Interp) (s : ByteArray) (c : UInt8) (w : World) (hF : F.answers w.tape) (hs : s.size ≤ 1048576) (hn : okB s.data.toList = false) (hm : okB (s.data.toList ++ [c]) = true) (hd1 : 48 ≤ (c.toNat : Int)) (hd2 : (c.toNat : Int) ≤ 57) (hl : (s.size : Int) ≤ 17) (h48 : (c.toNat : Int) ≠ 48) (hz : zeros s.data.toList = true) (hv : val (s.data.toList ++ [c]) = (c.toNat : Int) - 48) : Calls Tryf.prog 4 #[.string s, .int .u8 (c.toNat : Int)] w fun e w' => e = .returned (.bool true) ∧ Below w.heap.size w w' := by
  have h1 : (s.size : Int) ≤ 1048576 := by omega
  have hx : c.toNat < 256 := c.toNat_lt
  rw [← app_list] at hm
  have HV : Hid (val (s.data.toList ++ [c]) = (c.toNat : Int) - 48) := hv
  have HZR : Hid (zeros s.data.toList = true) := hz
  have hne : (((c.toNat : Int) - 48) != 0) = true := by simp; omega
  clear hv hz
  have HN := show Hid _ from hn
  have HM := show Hid _ from hm
  have HZ : (s ++ ⟨#[c]⟩ : ByteArray).size ≤ 1048577 := by rw [app_size]; omega
  clear hn hm
  go_enter Tryf.func4, Tryf.ntmps4
  go_wp2_with (first
    | (go_at_call 9; refine (zbA_yes s _ _ hs).mono ?_; rintro e w ⟨rfl, rfl⟩)
    | (go_at_call 10; refine (zeros_any s _ (by omega)).mono ?_; rw [HZR.out]; rintro e w2 ⟨rfl, rfl⟩)
    | (go_at_call 7; have hFq := hF; clear hF; refine (shares_any F s _ (by exact hFq) (by omega)).mono ?_; intro e w1 hR; obtain ⟨hb, t1, b1, rfl⟩ := shares_no hR HN.out; have hb1 := hb.alloc hb.size (.cells #[.int .u8 (c.toNat : Int)] 5); have hF1 : F.answers (w1.alloc (.cells #[.int .u8 (c.toNat : Int)] 5)).tape := (by rw [hb1.tape]; exact hFq))
    | (go_at_call 7; refine (shares_any F _ _ (by exact hF1) HZ).mono ?_; intro e w2 hR2; obtain ⟨hb2, rfl⟩ := shares_yes hR2 HM.out; rw [app_list, HV.out]))
  go_ret
  exact ⟨rfl, hb1.trans (hb2.mono hb1.size)⟩
set_option maxHeartbeats 1000000 in
theorem d_n_zero (F : Interp) (s : ByteArray) (c : UInt8) (w : World) (hF : F.answers w.tape) (hs : s.size ≤ 1048576) (hn : okB s.data.toList = false) (hm : okB (s.data.toList ++ [c]) = false) (hd1 : 48 ≤ (c.toNat : Int)) (hd2 : (c.toNat : Int) ≤ 57) (hl : (s.size : Int) ≤ 17) (h48 : (c.toNat : Int) = 48) (hz : zeros s.data.toList = true) : Calls Tryf.prog 4 #[.string s, .int .u8 (c.toNat : Int)] w fun e w' => e = .returned (.bool true) ∧ Below w.heap.size w w' := by
  have h1 : (s.size : Int) ≤ 1048576 := by omega
  have hx : c.toNat < 256 := c.toNat_lt
  rw [← app_list] at hm
  have HZR : Hid (zeros s.data.toList = true) := hz
  have hne : (((c.toNat : Int) - 48) != 0) = false := by simp; omega
  clear hz h48
  have HN := show Hid _ from hn
  have HM := show Hid _ from hm
  have HZ : (s ++ ⟨#[c]⟩ : ByteArray).size ≤ 1048577 := by rw [app_size]; omega
  clear hn hm
  go_enter Tryf.func4, Tryf.ntmps4
  go_wp2_with (first
    | (go_at_call 9; refine (zbA_yes s _ _ hs).mono ?_; rintro e w ⟨rfl, rfl⟩)
    | (go_at_call 10; refine (zeros_any s _ (by omega)).mono ?_; rw [HZR.out]; rintro e w2 ⟨rfl, rfl⟩)
    | (go_at_call 7; have hFq := hF; clear hF; refine (shares_any F s _ (by exact hFq) (by omega)).mono ?_; intro e w1 hR; obtain ⟨hb, t1, b1, rfl⟩ := shares_no hR HN.out; have hb1 := hb.alloc hb.size (.cells #[.int .u8 (c.toNat : Int)] 5); have hF1 : F.answers (w1.alloc (.cells #[.int .u8 (c.toNat : Int)] 5)).tape := (by rw [hb1.tape]; exact hFq))
    | (go_at_call 7; refine (shares_any F _ _ (by exact hF1) HZ).mono ?_; intro e w2 hR2; obtain ⟨hb2, t2, b2, rfl⟩ := shares_no hR2 HM.out))
  go_ret
  exact ⟨rfl, hb1.trans (hb2.mono hb1.size)⟩
set_option maxHeartbeats 1000000 in
theorem d_n_bad (F : Interp) (s : ByteArray) (c : UInt8) (w : World) (hF : F.answers w.tape) (hs : s.size ≤ 1048576) (hn : okB s.data.toList = false) (hm : okB (s.data.toList ++ [c]) = false) (hd1 : 48 ≤ (c.toNat : Int)) (hd2 : (c.toNat : Int) ≤ 57) (hl : (s.size : Int) ≤ 17) (hz : zeros s.data.toList = false) : Calls Tryf.prog 4 #[.string s, .int .u8 (c.toNat : Int)] w fun e w' => e = .returned (.bool true) ∧ Below w.heap.size w w' := by
  have h1 : (s.size : Int) ≤ 1048576 := by omega
  have hx : c.toNat < 256 := c.toNat_lt
  rw [← app_list] at hm
  have HZR : Hid (zeros s.data.toList = false) := hz
  clear hz
  have HN := show Hid _ from hn
  have HM := show Hid _ from hm
  have HZ : (s ++ ⟨#[c]⟩ : ByteArray).size ≤ 1048577 := by rw [app_size]; omega
  clear hn hm
  go_enter Tryf.func4, Tryf.ntmps4
  go_wp2_with (first
    | (go_at_call 9; refine (zbA_yes s _ _ hs).mono ?_; rintro e w ⟨rfl, rfl⟩)
    | (go_at_call 10; refine (zeros_any s _ (by omega)).mono ?_; rw [HZR.out]; rintro e w2 ⟨rfl, rfl⟩)
    | (go_at_call 7; have hFq := hF; clear hF; refine (shares_any F s _ (by exact hFq) (by omega)).mono ?_; intro e w1 hR; obtain ⟨hb, t1, b1, rfl⟩ := shares_no hR HN.out; have hb1 := hb.alloc hb.size (.cells #[.int .u8 (c.toNat : Int)] 5); have hF1 : F.answers (w1.alloc (.cells #[.int .u8 (c.toNat : Int)] 5)).tape := (by rw [hb1.tape]; exact hFq))
    | (go_at_call 7; refine (shares_any F _ _ (by exact hF1) HZ).mono ?_; intro e w2 hR2; obtain ⟨hb2, t2, b2, rfl⟩ := shares_no hR2 HM.out))
  go_ret
  exact ⟨rfl, hb1.trans (hb2.mono hb1.size)⟩
set_option maxHeartbeats 1000000 in
theorem d_n_long (F : Interp) (s : ByteArray) (c : UInt8) (w : World) (hF : F.answers w.tape) (hs : s.size ≤ 1048576) (hn : okB s.data.toList = false) (hm : okB (s.data.toList ++ [c]) = false) (hd1 : 48 ≤ (c.toNat : Int)) (hd2 : (c.toNat : Int) ≤ 57) (hl : 17 < (s.size : Int)) : Calls Tryf.prog 4 #[.string s, .int .u8 (c.toNat : Int)] w fun e w' => e = .returned (.bool true) ∧ Below w.heap.size w w' := by
  have h1 : (s.size : Int) ≤ 1048576 := by omega
  have hx : c.toNat < 256 := c.toNat_lt
  rw [← app_list] at hm
  have HN := show Hid _ from hn
  have HM := show Hid _ from hm
  have HZ : (s ++ ⟨#[c]⟩ : ByteArray).size ≤ 1048577 := by rw [app_size]; omega
  clear hn hm
  go_enter Tryf.func4, Tryf.ntmps4
  go_wp2_with (first
    | (go_at_call 9; refine (zbA_yes s _ _ hs).mono ?_; rintro e w ⟨rfl, rfl⟩)
    | (go_at_call 7; have hFq := hF; clear hF; refine (shares_any F s _ (by exact hFq) (by omega)).mono ?_; intro e w1 hR; obtain ⟨hb, t1, b1, rfl⟩ := shares_no hR HN.out; have hb1 := hb.alloc hb.size (.cells #[.int .u8 (c.toNat : Int)] 5); have hF1 : F.answers (w1.alloc (.cells #[.int .u8 (c.toNat : Int)] 5)).tape := (by rw [hb1.tape]; exact hFq))
    | (go_at_call 7; refine (shares_any F _ _ (by exact hF1) HZ).mono ?_; intro e w2 hR2; obtain ⟨hb2, t2, b2, rfl⟩ := shares_no hR2 HM.out))
  go_ret
  exact ⟨rfl, hb1.trans (hb2.mono hb1.size)⟩
end

theorem append_walk (F : Interp) (s : ByteArray) (c : UInt8) (w : World) (hF : F.answers w.tape) : Calls Tryf.prog 4 #[.string s, .int .u8 (c.toNat : Int)] w fun e w' => e = .returned (.bool true) ∧ Below w.heap.size w w' := by
  by_cases hs : s.size ≤ 1048576
  · have hlen := len_at s
    by_cases hlo : (c.toNat : Int) < 48
    · have hm : okB (s.data.toList ++ [c]) = false := snoc_nd _ (by simp [dg]; omega)
      cases hn : okB s.data.toList
      · exact nd_lo_n F s c w hF hs hn hm hlo
      · exact nd_lo_y F s c w hF hs hn hm hlo
    by_cases hhi : 57 < (c.toNat : Int)
    · have hm : okB (s.data.toList ++ [c]) = false := snoc_nd _ (by simp [dg]; omega)
      cases hn : okB s.data.toList
      · exact nd_hi_n F s c w hF hs hn hm hhi
      · exact nd_hi_y F s c w hF hs hn hm hhi
    have hd1 : 48 ≤ (c.toNat : Int) := by omega
    have hd2 : (c.toNat : Int) ≤ 57 := by omega
    have hdg : dg c = true := by simp [dg]; omega
    by_cases hl : 17 < s.size
    · have hm : okB (s.data.toList ++ [c]) = false := snoc_long (by omega)
      cases hn : okB s.data.toList
      · exact d_n_long F s c w hF hs hn hm hd1 hd2 (by omega)
      · exact d_y_long F s c w hF hs hn hm hd1 hd2 (by omega)
    cases hn : okB s.data.toList
    · cases hz : zeros s.data.toList
      · exact d_n_bad F s c w hF hs hn (snoc_bad hn hz) hd1 hd2 (by omega) hz
      · by_cases h48 : c.toNat = 48
        · exact d_n_zero F s c w hF hs hn (snoc_zero hz h48) hd1 hd2 (by omega) (by omega) hz
        · obtain ⟨hm, hv⟩ := snoc_first hz (by omega) hdg h48
          exact d_n_first F s c w hF hs hn hm hd1 hd2 (by omega) (by omega) hz hv
    · obtain ⟨hm, hv0, hv1, hv⟩ := snoc_ok hn (by omega) hdg
      exact d_y_short F s c w hF hs hn hm hd1 hd2 (by omega) hv0 hv1 hv
  · exact app_big s _ w (by omega)
end Go.Proofs.Qxb6628871aFmt
