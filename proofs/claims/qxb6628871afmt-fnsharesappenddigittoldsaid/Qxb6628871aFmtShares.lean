/- 'Fixed', 'checkPlaces', 'FixedPlaces', 'Shares' walked. -/
import Derived.Test.Qxb6628871aFmtParse
namespace Go.Proofs.Qxb6628871aFmt
open Go.RowKit Go.Extern.Stop Go.Stop Go.Extern

theorem NewErr.since {w w1 w' : World} {b : Nat} (h : NewErr w1 w' b) (hb : Below w.heap.size w w1) : NewErr w w' b :=
  ⟨Nat.le_trans hb.size h.lo, h.hi, h.text, hb.trans (h.below.mono hb.size)⟩

/-- How Fixed ends. -/
def FixedR (w w' : World) (l : List UInt8) (e : Ending) : Prop :=
  Below w.heap.size w w' ∧
  ((num l = true ∧ e = .returned (.tuple #[.int .i64 (val l), .int .i32 0, .nilIface])) ∨
   (num l = false ∧ ∃ c x b, e = .returned (.tuple #[.int .i64 c, .int .i32 x, .iface 42 (.pointer (some ⟨b, 0, none⟩))]) ∧ NewErr w w' b) ∨
   (num l = false ∧ ∃ c x, e = .returned (.tuple #[.int .i64 c, .int .i32 x, .nilIface]) ∧ (x < 0 ∨ (x = 0 ∧ c ≤ 0))))

set_option maxHeartbeats 1000000 in
theorem fixed_any (F : Interp) (s : ByteArray) (w : World) (hF : F.answers w.tape) (hs : s.size ≤ 1048577) :
    Calls Tryf.prog 8 #[.string s] w fun e w' => FixedR w w' s.data.toList e := by
  go_enter Tryf.func8, Tryf.ntmps8
  go_wp2_with fail
  refine (parse_any F s _ hF hs).mono ?_
  rintro e w1 ⟨hb, h⟩
  rcases h with ⟨hn, rfl⟩ | ⟨hn, b, rfl, hne⟩ | ⟨hn, rfl⟩ | ⟨hn, c, x, rfl, hx⟩
  · have HN := show Hid _ from hn
    clear hn
    go_wp2
    go_ret3
    exact ⟨hb, .inl ⟨HN.out, rfl⟩⟩
  · have HN := show Hid _ from hn
    clear hn
    go_wp2
    go_ret3
    exact ⟨hb, .inr (.inl ⟨HN.out, _, _, b, rfl, hne⟩)⟩
  · have HN := show Hid _ from hn
    have hF1 : F.answers w1.tape := by rw [hb.tape]; exact hF
    clear hn
    go_wp2_with (go_at_call 12; refine (errorfB F s 18 _ _ (by exact hF1) (by simp [go_sem]) (by simp [go_sem])).mono ?_; rintro e w2 ⟨b, rfl, hne⟩)
    go_ret3
    have hne' := hne.behind.since hb
    exact ⟨hne'.below, .inr (.inl ⟨HN.out, _, _, b, rfl, hne'⟩)⟩
  · have HN : Hid (num s.data.toList = false ∧ (x < 0 ∨ (x = 0 ∧ c ≤ 0))) := ⟨hn, hx⟩
    clear hn hx
    go_wp2
    go_ret3
    exact ⟨hb, .inr (.inr ⟨HN.out.1, _, _, rfl, HN.out.2⟩)⟩

theorem check_nil (s : ByteArray) (x : Int) (w : World) (hx : 0 ≤ x) : Calls Tryf.prog 14 #[.string s, .int .i32 x, .int .i32 0] w fun e w' => e = .returned .nilIface ∧ w' = w := by
  go_enter Tryf.func14, Tryf.ntmps14
  go_wp2
  go_ret
  exact ⟨rfl, rfl⟩
theorem check_err (F : Interp) (s : ByteArray) (x : Int) (w : World) (hF : F.answers w.tape) (hx : x < 0) : Calls Tryf.prog 14 #[.string s, .int .i32 x, .int .i32 0] w fun e w' => ∃ b, e = .returned (.iface 42 (.pointer (some ⟨b, 0, none⟩))) ∧ NewErr w w' b := by
  go_enter Tryf.func14, Tryf.ntmps14
  go_wp2_with (go_at_call 12; refine (errorfC F s 0 _ _ (by exact hF) (by simp [go_sem]) (by simp [go_sem])).mono ?_; rintro e w2 ⟨b, rfl, hne⟩)
  go_ret
  exact ⟨b, rfl, hne.behind⟩

/-- How FixedPlaces ends at no places. -/
def PlacesR (w w' : World) (l : List UInt8) (e : Ending) : Prop :=
  Below w.heap.size w w' ∧
  ((num l = true ∧ e = .returned (.tuple #[.int .i64 (val l), .int .i32 0, .nilIface])) ∨
   (num l = false ∧ ∃ c x b, e = .returned (.tuple #[.int .i64 c, .int .i32 x, .iface 42 (.pointer (some ⟨b, 0, none⟩))]) ∧ NewErr w w' b) ∨
   (num l = false ∧ ∃ c x, e = .returned (.tuple #[.int .i64 c, .int .i32 x, .nilIface]) ∧ c ≤ 0))

set_option maxHeartbeats 1000000 in
theorem places_any (F : Interp) (s : ByteArray) (w : World) (hF : F.answers w.tape) (hs : s.size ≤ 1048577) :
    Calls Tryf.prog 11 #[.string s, .int .i32 0] w fun e w' => PlacesR w w' s.data.toList e := by
  go_enter Tryf.func11, Tryf.ntmps11
  go_wp2_with fail
  refine (fixed_any F s _ hF hs).mono ?_
  rintro e w1 ⟨hb, h⟩
  rcases h with ⟨hn, rfl⟩ | ⟨hn, c, x, b, rfl, hne⟩ | ⟨hn, c, x, rfl, hx⟩
  · have HN := show Hid _ from hn
    clear hn
    go_wp2_with (go_at_call 14; refine (check_nil s 0 _ (Int.le_refl _)).mono ?_; rintro e w1 ⟨rfl, rfl⟩)
    go_ret3
    exact ⟨hb, .inl ⟨HN.out, rfl⟩⟩
  · have HN := show Hid _ from hn
    clear hn
    go_wp2
    go_ret3
    exact ⟨hb, .inr (.inl ⟨HN.out, _, _, b, rfl, hne⟩)⟩
  · have HN := show Hid _ from hn
    clear hn
    rcases hx with hx | ⟨rfl, hc⟩
    · have hF1 : F.answers w1.tape := by rw [hb.tape]; exact hF
      go_wp2_with (go_at_call 14; refine (check_err F s x _ (by exact hF1) hx).mono ?_; rintro e w2 ⟨b, rfl, hne⟩)
      go_ret3
      have hne' := hne.since hb
      exact ⟨hne'.below, .inr (.inl ⟨HN.out, _, _, b, rfl, hne'⟩)⟩
    · go_wp2_with (go_at_call 14; refine (check_nil s 0 _ (Int.le_refl _)).mono ?_; rintro e w1 ⟨rfl, rfl⟩)
      go_ret3
      exact ⟨hb, .inr (.inr ⟨HN.out, _, _, rfl, hc⟩)⟩

/-- What Shares accepts. -/
def okB (l : List UInt8) : Bool := num l && decide (0 < val l)
/-- How Shares ends. -/
def SharesR (w w' : World) (l : List UInt8) (e : Ending) : Prop :=
  Below w.heap.size w w' ∧
  ((okB l = true ∧ e = .returned (.tuple #[.int .i64 (val l), .nilIface])) ∨ (okB l = false ∧ ∃ t b, e = .returned (.tuple #[.int .i64 0, .iface t (.pointer (some ⟨b, 0, none⟩))])))

set_option maxHeartbeats 1000000 in
theorem shares_any (F : Interp) (s : ByteArray) (w : World) (hF : F.answers w.tape) (hs : s.size ≤ 1048577) :
    Calls Tryf.prog 7 #[.string s] w fun e w' => SharesR w w' s.data.toList e := by
  go_enter Tryf.func7, Tryf.ntmps7
  go_wp2_with fail
  refine (places_any F s _ hF hs).mono ?_
  rintro e w1 ⟨hb, h⟩
  have hF1 : F.answers w1.tape := by rw [hb.tape]; exact hF
  have hal : ∀ (o : Obj), Below w.heap.size w (w1.alloc o) := fun o => hb.alloc hb.size o
  have HAL := show Hid _ from hal
  clear hal
  rcases h with ⟨hn, rfl⟩ | ⟨hn, c, x, b, rfl, hne⟩ | ⟨hn, c, x, rfl, hx⟩
  · by_cases hv : 0 < val s.data.toList
    · have hok : okB s.data.toList = true := by simp [okB, hn, hv]
      have HOK := show Hid _ from hok
      clear hok hn
      go_wp2
      go_ret2
      exact ⟨hb, .inl ⟨HOK.out, rfl⟩⟩
    · have hok : okB s.data.toList = false := by simp [okB, hv]
      have HOK := show Hid _ from hok
      have hv' : val s.data.toList ≤ 0 := by omega
      clear hok hn hv
      go_wp2_with (go_at_call 12; refine (errorfE F s _ _ (by exact hF1) (by simp [go_sem])).mono ?_; rintro e w2 ⟨b, rfl, hne⟩)
      go_ret2
      exact ⟨(hne.behind.since hb).below, .inr ⟨HOK.out, _, _, rfl⟩⟩
  · have hok : okB s.data.toList = false := by simp [okB, hn]
    have HOK := show Hid _ from hok
    obtain ⟨tx, htx⟩ := hne.text
    have hbi := hne.hi
    clear hok hn hne
    go_wp2_with (go_at_call 12; refine (errorfD F ⟨b, 0, none⟩ tx _ _ (by exact hF1) (by simp [go_sem]) (by simp [go_sem, htx, hbi])).mono ?_; rintro e w2 ⟨b', rfl, hb2⟩)
    go_ret2
    exact ⟨(HAL.out _).trans (hb2.mono (by have := hb.size; simp; omega)), .inr ⟨HOK.out, _, _, rfl⟩⟩
  · have hok : okB s.data.toList = false := by simp [okB, hn]
    have HOK := show Hid _ from hok
    clear hok hn
    go_wp2_with (go_at_call 12; refine (errorfE F s _ _ (by exact hF1) (by simp [go_sem])).mono ?_; rintro e w2 ⟨b, rfl, hne⟩)
    go_ret2
    exact ⟨(hne.behind.since hb).below, .inr ⟨HOK.out, _, _, rfl⟩⟩
end Go.Proofs.Qxb6628871aFmt
