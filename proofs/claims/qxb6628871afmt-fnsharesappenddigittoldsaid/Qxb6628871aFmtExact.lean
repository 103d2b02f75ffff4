/- The law FnSharesExactSpec walked. -/
import Derived.Test.Qxb6628871aFmtModel
namespace Go.Proofs.Qxb6628871aFmt
open Go.RowKit Go.Extern.Stop Go.Stop Go.Extern

theorem exact_big (s : ByteArray) (w : World) (h : 1048576 < s.size) : Calls Tryf.prog 3 #[.string s] w fun e w' => e = .returned (.bool true) ∧ Below w.heap.size w w' := by
  go_enter Tryf.func3, Tryf.ntmps3
  go_wp2_with (go_at_call 5; refine (zbE_no s _ h).mono ?_; rintro e w ⟨rfl, rfl⟩)
  go_ret
  exact ⟨rfl, Below.refl _ _⟩

theorem fixed_yes {w w' : World} {l : List UInt8} {e : Ending} (h : FixedR w w' l e) (hn : num l = true) : Below w.heap.size w w' ∧ e = .returned (.tuple #[.int .i64 (val l), .int .i32 0, .nilIface]) := by
  rcases h with ⟨hb, ⟨_, he⟩ | ⟨h, _⟩ | ⟨h, _⟩⟩
  · exact ⟨hb, he⟩
  · rw [hn] at h; cases h
  · rw [hn] at h; cases h
theorem shares_yes {w w' : World} {l : List UInt8} {e : Ending} (h : SharesR w w' l e) (hn : okB l = true) : Below w.heap.size w w' ∧ e = .returned (.tuple #[.int .i64 (val l), .nilIface]) := by
  rcases h with ⟨hb, ⟨_, he⟩ | ⟨h, _⟩⟩
  · exact ⟨hb, he⟩
  · rw [hn] at h; cases h
theorem shares_no {w w' : World} {l : List UInt8} {e : Ending} (h : SharesR w w' l e) (hn : okB l = false) : Below w.heap.size w w' ∧ ∃ t b, e = .returned (.tuple #[.int .i64 0, .iface t (.pointer (some ⟨b, 0, none⟩))]) := by
  rcases h with ⟨hb, ⟨h, _⟩ | ⟨_, h⟩⟩
  · rw [hn] at h; cases h
  · exact ⟨hb, h⟩

set_option maxHeartbeats 1000000 in
theorem exact_no (F : Interp) (s : ByteArray) (w : World) (hF : F.answers w.tape) (hs : s.size ≤ 1048576) (hn : okB s.data.toList = false) : Calls Tryf.prog 3 #[.string s] w fun e w' => e = .returned (.bool true) ∧ Below w.heap.size w w' := by
  have h1 : (s.size : Int) ≤ 1048576 := by omega
  have HN := show Hid _ from hn
  clear hn
  go_enter Tryf.func3, Tryf.ntmps3
  go_wp2_with (first
    | (go_at_call 5; refine (zbE_yes s _ hs).mono ?_; rintro e w ⟨rfl, rfl⟩)
    | (go_at_call 6; refine (model_any s _ (by omega)).mono ?_; rw [modelV_no HN.out]; rintro e w ⟨rfl, rfl⟩)
    | (go_at_call 7; refine (shares_any F s _ (by exact hF) (by omega)).mono ?_; intro e w1 hR; obtain ⟨hb, t, b, rfl⟩ := shares_no hR HN.out))
  go_ret
  exact ⟨rfl, hb⟩

set_option maxHeartbeats 1000000 in
theorem exact_yes (F : Interp) (s : ByteArray) (w : World) (hF : F.answers w.tape) (hs : s.size ≤ 1048576) (hn : okB s.data.toList = true) : Calls Tryf.prog 3 #[.string s] w fun e w' => e = .returned (.bool true) ∧ Below w.heap.size w w' := by
  have h1 : (s.size : Int) ≤ 1048576 := by omega
  have hnum : num s.data.toList = true := by
    unfold okB at hn; rw [Bool.and_eq_true] at hn; exact hn.1
  have HN := show Hid _ from hn
  have HM := show Hid _ from hnum
  clear hn hnum
  go_enter Tryf.func3, Tryf.ntmps3
  go_wp2_with (first
    | (go_at_call 5; refine (zbE_yes s _ hs).mono ?_; rintro e w ⟨rfl, rfl⟩)
    | (go_at_call 6; refine (model_any s _ (by omega)).mono ?_; rw [modelV_yes HN.out]; rintro e w ⟨rfl, rfl⟩)
    | (go_at_call 7; refine (shares_any F s _ (by exact hF) (by omega)).mono ?_; intro e w1 hR; obtain ⟨hb, rfl⟩ := shares_yes hR HN.out)
    | (go_at_call 8; refine (fixed_any F s _ (by rw [hb.tape]; exact hF) (by omega)).mono ?_; intro e w2 hR2; obtain ⟨hb2, rfl⟩ := fixed_yes hR2 HM.out))
  go_ret
  exact ⟨rfl, hb.trans (hb2.mono hb.size)⟩

theorem exact_walk (F : Interp) (s : ByteArray) (w : World) (hF : F.answers w.tape) : Calls Tryf.prog 3 #[.string s] w fun e w' => e = .returned (.bool true) ∧ Below w.heap.size w w' := by
  by_cases hs : s.size ≤ 1048576
  · cases hn : okB s.data.toList
    · exact exact_no F s w hF hs hn
    · exact exact_yes F s w hF hs hn
  · exact exact_big s w (by omega)
end Go.Proofs.Qxb6628871aFmt
