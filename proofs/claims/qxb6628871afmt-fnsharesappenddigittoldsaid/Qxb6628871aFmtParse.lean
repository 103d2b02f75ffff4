/- 'strings.HasPrefix' at a minus sign and 'parsePlain' walked. -/
import Derived.Test.Qxb6628871aFmtPlain
namespace Go.Proofs.Qxb6628871aFmt
open Go.RowKit Go.Extern.Stop Go.Stop Go.Extern

theorem mn_form (s : ByteArray) (h : 1 ≤ s.size) : ((s.extract 0 1).toList == [45]) = mn s.data.toList := by
  rw [ByteArray.toList_eq]
  obtain ⟨⟨l⟩⟩ := s
  cases l with
  | nil => simp [ByteArray.size] at h
  | cons c t => simp [mn, ByteArray.data_extract]
theorem hp_any (s : ByteArray) (w : World) : Calls Tryf.prog 17 #[.string s, .string ⟨#[45]⟩] w fun e w' => e = .returned (.bool (mn s.data.toList)) ∧ w' = w := by
  by_cases hp : 1 ≤ s.size
  · have hi : (1 : Int) ≤ (s.size : Int) := by omega
    have hd : decide ((1 : Int) ≤ (s.size : Int)) = true := by simpa using hi
    rw [← mn_form s hp]
    go_enter Tryf.func17, Tryf.ntmps17
    go_wp2
    go_ret
    exact ⟨rfl, rfl⟩
  · have hi : ¬ ((1 : Int) ≤ (s.size : Int)) := by omega
    have hd : decide ((1 : Int) ≤ (s.size : Int)) = false := by simpa using hi
    have e : mn s.data.toList = false := by
      obtain ⟨⟨l⟩⟩ := s
      cases l with
      | nil => rfl
      | cons c t => simp [ByteArray.size] at hp
    rw [e]; clear e
    go_enter Tryf.func17, Tryf.ntmps17
    go_wp2
    go_ret
    exact ⟨rfl, rfl⟩

/-- How parsePlain ends. -/
def Parsed (w w' : World) (l : List UInt8) (e : Ending) : Prop :=
  Below w.heap.size w w' ∧
  ((num l = true ∧ e = .returned (.tuple #[.int .i64 (val l), .int .i32 0, .bool true, .nilIface])) ∨
   (num l = false ∧ ∃ b, e = .returned (.tuple #[.int .i64 0, .int .i32 0, .bool false, .iface 42 (.pointer (some ⟨b, 0, none⟩))]) ∧ NewErr w w' b) ∨
   (num l = false ∧ e = .returned (.tuple #[.int .i64 0, .int .i32 0, .bool false, .nilIface])) ∨
   (num l = false ∧ ∃ c x, e = .returned (.tuple #[.int .i64 c, .int .i32 x, .bool true, .nilIface]) ∧ (x < 0 ∨ (x = 0 ∧ c ≤ 0))))

theorem byte_at (s : ByteArray) (k : Nat) (h : k < s.size) : s.data.toList.getD k 0 = s[k] := by
  have hk : k < s.data.toList.length := by simpa using h
  rw [List.getD_eq_getElem?_getD, List.getElem?_eq_getElem hk]
  rfl
theorem len_at (s : ByteArray) : s.data.toList.length = s.size := by simp

/-- What errorf makes behind the variadic slice's block. -/
theorem NewErr.behind {w w' : World} {o : Obj} {b : Nat} (h : NewErr (w.alloc o) w' b) : NewErr w w' b :=
  ⟨by have := h.lo; simp at this; omega, h.hi, h.text, ((Below.refl _ _).alloc (Nat.le_refl _) o).trans (h.below.mono (by simp))⟩

set_option maxHeartbeats 4000000 in
theorem parse_0 (F : Interp) (s : ByteArray) (w : World) (hF : F.answers w.tape) (hs : s.size ≤ 1048577) (hm : mn s.data.toList = false) :
    Calls Tryf.prog 13 #[.string s] w fun e w' => Parsed w w' s.data.toList e := by
  go_enter Tryf.func13, Tryf.ntmps13
  go_wp2_with (go_at_call 17; refine (hp_any _ _).mono ?_; rintro e w ⟨rfl, rfl⟩)
  go_loop [2, 7, 8] (fun cf dt i => ∃ (k : Nat) (c d : Int), 0 ≤ k ∧ k ≤ s.size ∧ i = .int .i64 k ∧ cf = .int .i64 c ∧ dt = .int .i64 d ∧ Inv s.data.toList 0 k c d) (fun _ _ i => s.size - (intOf i).toNat)
  case atStart => exact ⟨0, 0, -1, Nat.le_refl _, by omega, rfl, rfl, rfl, Inv.start _ 0⟩
  case round =>
    obtain ⟨k, c, d, hk0, hk, rfl, rfl, rfl, hinv⟩ := hrel
    have hdd : d = -1 ∨ 0 ≤ d := by
      rcases hinv with ⟨h, _⟩ | ⟨m, h, _⟩
      · exact .inl h
      · exact .inr (by omega)
    by_cases hlt : k < s.size
    · have hi : (k : Int) < (s.size : Int) := by omega
      have hb := byte_at s k hlt
      have hx : s[k].toNat < 256 := s[k].toNat_lt
      by_cases hdig : 48 ≤ (s[k].toNat : Int) ∧ (s[k].toNat : Int) ≤ 57
      · obtain ⟨hd1, hd2⟩ := hdig
        have hdg : dg (s.data.toList.getD k 0) = true := by rw [hb]; simp [dg]; omega
        have hnext : Inv s.data.toList 0 (k + 1) (wrap64 (wrap64 (c * 10) + ((s[k].toNat : Int) - 48))) d := by
          refine hinv.digit hk0 (by rw [len_at]; exact hlt) hdg (fun h1 h2 => ?_)
          rw [hb]
          simp only [wrap64]
          omega
        have HN := show Hid _ from hnext
        clear hnext hinv hdg hb hdd
        go_wp2
        go_round
        case rel => exact ⟨k + 1, _, _, by omega, by omega, by go_num, rfl, rfl, HN.out⟩
        case measure => simp [intOf]; omega
      · have hnd : dg (s.data.toList.getD k 0) = false := by rw [hb]; simp [dg]; omega
        have HND := show Hid _ from hnd
        by_cases hpt : s[k].toNat = 46 ∧ d = -1
        · obtain ⟨hx46, rfl⟩ := hpt
          have hnext := hinv.point hk0 hnd
          have HN := show Hid _ from hnext
          have e46 : (s[k].toNat : Int) = 46 := by omega
          clear hnext hinv hb hdd hdig hnd hx46 hx
          go_wp2
          go_round
          case rel => exact ⟨k + 1, _, _, by omega, by omega, by go_num, rfl, rfl, HN.out⟩
          case measure => simp [intOf]; omega
        · have hc5 : ((s[k].toNat : Int) = 46 ∧ 0 ≤ d) ∨ ((s[k].toNat : Int) < 48 ∧ ¬ (s[k].toNat : Int) = 46 ∧ d = -1) ∨ ((s[k].toNat : Int) < 48 ∧ ¬ (s[k].toNat : Int) = 46 ∧ 0 ≤ d) ∨ (57 < (s[k].toNat : Int) ∧ d = -1) ∨ (57 < (s[k].toNat : Int) ∧ 0 ≤ d) := by omega
          have hnum : num s.data.toList = false := num_false_of (m := k) (by rw [len_at]; exact hlt) HND.out
          have HNU := show Hid _ from hnum
          clear hdig hpt hnd hinv hb hx hdd hnum
          rcases hc5 with ⟨g1, g2⟩ | ⟨g1, g2, rfl⟩ | ⟨g1, g2, g3⟩ | ⟨g1, rfl⟩ | ⟨g1, g2⟩
          all_goals
            go_wp2_with (go_at_call 12; refine (errorfA F s _ _ (by exact hF) (by simp [go_sem])).mono ?_; rintro e w1 ⟨b, rfl, hne⟩)
            refine bodyPost_ret (v := .tuple #[.int .i64 0, .int .i32 0, .bool false, .iface 42 (.pointer (some ⟨b, 0, none⟩))]) (by simp [results, Tryf.results13, go_sem]) rfl ?_
            exact ⟨hne.behind.below, .inr (.inl ⟨HNU.out, b, rfl, hne.behind⟩)⟩
    · obtain rfl : k = s.size := by omega
      have hi : ¬ ((s.size : Int) < (s.size : Int)) := by omega
      clear hdd hlt
      rcases hinv with ⟨rfl, hall, hv⟩ | ⟨m, rfl, h1, h2, h3⟩
      · by_cases h0 : s.size = 0
        · have hnum : num s.data.toList = false := num_false_len (by rw [len_at]; omega)
          have HNU := show Hid _ from hnum
          clear hnum hv hall
          have z0 : (s.size : Int) = 0 := by omega
          go_wp2_with (go_at_call 12; refine (errorfA F s _ _ (by exact hF) (by simp [go_sem])).mono ?_; rintro e w1 ⟨b, rfl, hne⟩)
          refine bodyPost_ret (v := .tuple #[.int .i64 0, .int .i32 0, .bool false, .iface 42 (.pointer (some ⟨b, 0, none⟩))]) (by simp [results, Tryf.results13, go_sem]) rfl ?_
          exact ⟨hne.behind.below, .inr (.inl ⟨HNU.out, b, rfl, hne.behind⟩)⟩
        · have z1 : 0 < (s.size : Int) := by omega
          have z2 : ((-1 : Int) == (s.size : Int) - 1) = false := by simp; omega
          have z4 : ((s.size : Int) == 0) = false := beq_eq_false_iff_ne.2 (by omega)
          by_cases h18 : 18 + 0 < s.size
          · have hnum : num s.data.toList = false := num_false_len (by rw [len_at]; omega)
            have HNU := show Hid _ from hnum
            have z3 : 18 + 0 < (s.size : Int) := by omega
            clear hnum hv hall h0
            go_wp2
            refine bodyPost_ret (v := .tuple #[.int .i64 0, .int .i32 0, .bool false, .nilIface]) (by simp [results, Tryf.results13, go_sem]) rfl ?_
            exact ⟨Below.refl _ _, .inr (.inr (.inl ⟨HNU.out, rfl⟩))⟩
          · have z3 : (s.size : Int) ≤ 18 + 0 := by omega
            have hv0 := hv (by omega)
            have hall0 : ∀ j, j < s.data.toList.length → dg (s.data.toList.getD j 0) = true := fun j hj => hall j (Nat.zero_le _) (by rw [len_at] at hj; exact hj)
            have hnum : num s.data.toList = true := num_true_of (by rw [len_at]; omega) (by rw [len_at]; omega) hall0
            have hc0 : c = val s.data.toList := by rw [hv0, List.drop_zero, List.take_of_length_le (by rw [len_at]; exact Nat.le_refl _)]
            have HNU := show Hid _ from hnum
            have HC := show Hid _ from hc0
            clear hnum hc0 hv hall hv0 hall0
            go_wp2
            refine bodyPost_ret (v := .tuple #[.int .i64 c, .int .i32 0, .bool true, .nilIface]) (by simp [results, Tryf.results13, go_sem]) rfl ?_
            exact ⟨Below.refl _ _, .inl ⟨HNU.out, by rw [HC.out]⟩⟩
      · have hnum : num s.data.toList = false := num_false_of (m := m) (by rw [len_at]; omega) h3
        have HNU := show Hid _ from hnum
        have m1 : (0 : Int) ≤ (m : Int) := by omega
        have m2 : (m : Int) < (s.size : Int) := by omega
        clear hnum h3
        by_cases e1 : m = 0
        · have e2 : ((m : Int) == 0) = true := by simp; omega
          go_wp2_with (go_at_call 12; refine (errorfA F s _ _ (by exact hF) (by simp [go_sem])).mono ?_; rintro e w1 ⟨b, rfl, hne⟩)
          refine bodyPost_ret (v := .tuple #[.int .i64 0, .int .i32 0, .bool false, .iface 42 (.pointer (some ⟨b, 0, none⟩))]) (by simp [results, Tryf.results13, go_sem]) rfl ?_
          exact ⟨hne.behind.below, .inr (.inl ⟨HNU.out, b, rfl, hne.behind⟩)⟩
        have e4 : ((m : Int) == 0) = false := by simp; omega
        by_cases e2 : m = s.size - 1
        · have e3 : ((m : Int) == (s.size : Int) - 1) = true := by simp; omega
          go_wp2_with (go_at_call 12; refine (errorfA F s _ _ (by exact hF) (by simp [go_sem])).mono ?_; rintro e w1 ⟨b, rfl, hne⟩)
          refine bodyPost_ret (v := .tuple #[.int .i64 0, .int .i32 0, .bool false, .iface 42 (.pointer (some ⟨b, 0, none⟩))]) (by simp [results, Tryf.results13, go_sem]) rfl ?_
          exact ⟨hne.behind.below, .inr (.inl ⟨HNU.out, b, rfl, hne.behind⟩)⟩
        have e3 : ((m : Int) == (s.size : Int) - 1) = false := by simp; omega
        have e5 : ((s.size : Int) - 1 == 0) = false := by simp; omega
        have e6 : (m : Int) < (s.size : Int) - 1 := by omega
        by_cases h18 : 18 < (s.size : Int) - 1
        · go_wp2
          refine bodyPost_ret (v := .tuple #[.int .i64 0, .int .i32 0, .bool false, .nilIface]) (by simp [results, Tryf.results13, go_sem]) rfl ?_
          exact ⟨Below.refl _ _, .inr (.inr (.inl ⟨HNU.out, rfl⟩))⟩
        · go_wp2
          go_returns
          exact ⟨Below.refl _ _, .inr (.inr (.inr ⟨HNU.out, _, _, rfl, .inl (by omega)⟩))⟩

set_option maxHeartbeats 4000000 in
theorem parse_1 (F : Interp) (s : ByteArray) (w : World) (hF : F.answers w.tape) (hs : s.size ≤ 1048577) (hm : mn s.data.toList = true) :
    Calls Tryf.prog 13 #[.string s] w fun e w' => Parsed w w' s.data.toList e := by
  have hl1 : 1 ≤ s.size := by have := (mn_num hm).2; rwa [len_at] at this
  go_enter Tryf.func13, Tryf.ntmps13
  go_wp2_with (go_at_call 17; refine (hp_any _ _).mono ?_; rintro e w ⟨rfl, rfl⟩)
  go_loop [2, 7, 8] (fun cf dt i => ∃ (k : Nat) (c d : Int), 1 ≤ k ∧ k ≤ s.size ∧ i = .int .i64 k ∧ cf = .int .i64 c ∧ dt = .int .i64 d ∧ Inv s.data.toList 1 k c d) (fun _ _ i => s.size - (intOf i).toNat)
  case atStart => exact ⟨1, 0, -1, Nat.le_refl _, by omega, rfl, rfl, rfl, Inv.start _ 1⟩
  case round =>
    obtain ⟨k, c, d, hk0, hk, rfl, rfl, rfl, hinv⟩ := hrel
    have hdd : d = -1 ∨ 0 ≤ d := by
      rcases hinv with ⟨h, _⟩ | ⟨m, h, _⟩
      · exact .inl h
      · exact .inr (by omega)
    by_cases hlt : k < s.size
    · have hi : (k : Int) < (s.size : Int) := by omega
      have hb := byte_at s k hlt
      have hx : s[k].toNat < 256 := s[k].toNat_lt
      by_cases hdig : 48 ≤ (s[k].toNat : Int) ∧ (s[k].toNat : Int) ≤ 57
      · obtain ⟨hd1, hd2⟩ := hdig
        have hdg : dg (s.data.toList.getD k 0) = true := by rw [hb]; simp [dg]; omega
        have hnext : Inv s.data.toList 1 (k + 1) (wrap64 (wrap64 (c * 10) + ((s[k].toNat : Int) - 48))) d := by
          refine hinv.digit hk0 (by rw [len_at]; exact hlt) hdg (fun h1 h2 => ?_)
          rw [hb]
          simp only [wrap64]
          omega
        have HN := show Hid _ from hnext
        clear hnext hinv hdg hb hdd
        go_wp2
        go_round
        case rel => exact ⟨k + 1, _, _, by omega, by omega, by go_num, rfl, rfl, HN.out⟩
        case measure => simp [intOf]; omega
      · have hnd : dg (s.data.toList.getD k 0) = false := by rw [hb]; simp [dg]; omega
        have HND := show Hid _ from hnd
        by_cases hpt : s[k].toNat = 46 ∧ d = -1
        · obtain ⟨hx46, rfl⟩ := hpt
          have hnext := hinv.point hk0 hnd
          have HN := show Hid _ from hnext
          have e46 : (s[k].toNat : Int) = 46 := by omega
          clear hnext hinv hb hdd hdig hnd hx46 hx
          go_wp2
          go_round
          case rel => exact ⟨k + 1, _, _, by omega, by omega, by go_num, rfl, rfl, HN.out⟩
          case measure => simp [intOf]; omega
        · have hc5 : ((s[k].toNat : Int) = 46 ∧ 0 ≤ d) ∨ ((s[k].toNat : Int) < 48 ∧ ¬ (s[k].toNat : Int) = 46 ∧ d = -1) ∨ ((s[k].toNat : Int) < 48 ∧ ¬ (s[k].toNat : Int) = 46 ∧ 0 ≤ d) ∨ (57 < (s[k].toNat : Int) ∧ d = -1) ∨ (57 < (s[k].toNat : Int) ∧ 0 ≤ d) := by omega
          have hnum : num s.data.toList = false := (mn_num hm).1
          have HNU := show Hid _ from hnum
          clear hdig hpt hnd hinv hb hx hdd hnum
          rcases hc5 with ⟨g1, g2⟩ | ⟨g1, g2, rfl⟩ | ⟨g1, g2, g3⟩ | ⟨g1, rfl⟩ | ⟨g1, g2⟩
          all_goals
            go_wp2_with (go_at_call 12; refine (errorfA F s _ _ (by exact hF) (by simp [go_sem])).mono ?_; rintro e w1 ⟨b, rfl, hne⟩)
            refine bodyPost_ret (v := .tuple #[.int .i64 0, .int .i32 0, .bool false, .iface 42 (.pointer (some ⟨b, 0, none⟩))]) (by simp [results, Tryf.results13, go_sem]) rfl ?_
            exact ⟨hne.behind.below, .inr (.inl ⟨HNU.out, b, rfl, hne.behind⟩)⟩
    · obtain rfl : k = s.size := by omega
      have hi : ¬ ((s.size : Int) < (s.size : Int)) := by omega
      clear hdd hlt
      rcases hinv with ⟨rfl, hall, hv⟩ | ⟨m, rfl, h1, h2, h3⟩
      · by_cases h0 : s.size = 1
        · have hnum : num s.data.toList = false := (mn_num hm).1
          have HNU := show Hid _ from hnum
          clear hnum hv hall
          have z0 : (s.size : Int) = 1 := by omega
          go_wp2_with (go_at_call 12; refine (errorfA F s _ _ (by exact hF) (by simp [go_sem])).mono ?_; rintro e w1 ⟨b, rfl, hne⟩)
          refine bodyPost_ret (v := .tuple #[.int .i64 0, .int .i32 0, .bool false, .iface 42 (.pointer (some ⟨b, 0, none⟩))]) (by simp [results, Tryf.results13, go_sem]) rfl ?_
          exact ⟨hne.behind.below, .inr (.inl ⟨HNU.out, b, rfl, hne.behind⟩)⟩
        · have z1 : 1 < (s.size : Int) := by omega
          have z2 : ((-1 : Int) == (s.size : Int) - 1) = false := by simp; omega
          have z4 : ((s.size : Int) - 1 == 0) = false := beq_eq_false_iff_ne.2 (by omega)
          by_cases h18 : 18 + 1 < s.size
          · have hnum : num s.data.toList = false := (mn_num hm).1
            have HNU := show Hid _ from hnum
            have z3 : 18 + 1 < (s.size : Int) := by omega
            clear hnum hv hall h0
            go_wp2
            refine bodyPost_ret (v := .tuple #[.int .i64 0, .int .i32 0, .bool false, .nilIface]) (by simp [results, Tryf.results13, go_sem]) rfl ?_
            exact ⟨Below.refl _ _, .inr (.inr (.inl ⟨HNU.out, rfl⟩))⟩
          · have z3 : (s.size : Int) ≤ 18 + 1 := by omega
            have hv0 := hv (by omega)
            have hbd := val_lt ((s.data.toList.take s.size).drop 1) (mem_part (by rw [len_at]; exact Nat.le_refl _) hall) (by simp; omega)
            rw [← hv0] at hbd
            obtain ⟨hb0, hb1⟩ := hbd
            have hnum : num s.data.toList = false := (mn_num hm).1
            have HNU := show Hid _ from hnum
            clear hnum hv hall hv0
            go_wp2
            refine bodyPost_ret (v := .tuple #[.int .i64 (-c), .int .i32 0, .bool true, .nilIface]) (by simp [results, Tryf.results13, go_sem]) rfl ?_
            exact ⟨Below.refl _ _, .inr (.inr (.inr ⟨HNU.out, _, _, rfl, .inr ⟨rfl, by omega⟩⟩))⟩
      · have hnum : num s.data.toList = false := (mn_num hm).1
        have HNU := show Hid _ from hnum
        have m1 : (1 : Int) ≤ (m : Int) := by omega
        have m2 : (m : Int) < (s.size : Int) := by omega
        clear hnum h3
        by_cases e1 : m = 1
        · have e2 : ((m : Int) == 1) = true := by simp; omega
          go_wp2_with (go_at_call 12; refine (errorfA F s _ _ (by exact hF) (by simp [go_sem])).mono ?_; rintro e w1 ⟨b, rfl, hne⟩)
          refine bodyPost_ret (v := .tuple #[.int .i64 0, .int .i32 0, .bool false, .iface 42 (.pointer (some ⟨b, 0, none⟩))]) (by simp [results, Tryf.results13, go_sem]) rfl ?_
          exact ⟨hne.behind.below, .inr (.inl ⟨HNU.out, b, rfl, hne.behind⟩)⟩
        have e4 : ((m : Int) == 1) = false := by simp; omega
        by_cases e2 : m = s.size - 1
        · have e3 : ((m : Int) == (s.size : Int) - 1) = true := by simp; omega
          go_wp2_with (go_at_call 12; refine (errorfA F s _ _ (by exact hF) (by simp [go_sem])).mono ?_; rintro e w1 ⟨b, rfl, hne⟩)
          refine bodyPost_ret (v := .tuple #[.int .i64 0, .int .i32 0, .bool false, .iface 42 (.pointer (some ⟨b, 0, none⟩))]) (by simp [results, Tryf.results13, go_sem]) rfl ?_
          exact ⟨hne.behind.below, .inr (.inl ⟨HNU.out, b, rfl, hne.behind⟩)⟩
        have e3 : ((m : Int) == (s.size : Int) - 1) = false := by simp; omega
        have e5 : ((s.size : Int) - 1 - 1 == 0) = false := by simp; omega
        have e6 : (m : Int) < (s.size : Int) - 1 := by omega
        by_cases h18 : 18 < (s.size : Int) - 1 - 1
        · go_wp2
          refine bodyPost_ret (v := .tuple #[.int .i64 0, .int .i32 0, .bool false, .nilIface]) (by simp [results, Tryf.results13, go_sem]) rfl ?_
          exact ⟨Below.refl _ _, .inr (.inr (.inl ⟨HNU.out, rfl⟩))⟩
        · go_wp2
          go_returns
          exact ⟨Below.refl _ _, .inr (.inr (.inr ⟨HNU.out, _, _, rfl, .inl (by omega)⟩))⟩

theorem parse_any (F : Interp) (s : ByteArray) (w : World) (hF : F.answers w.tape) (hs : s.size ≤ 1048577) :
    Calls Tryf.prog 13 #[.string s] w fun e w' => Parsed w w' s.data.toList e := by
  cases hm : mn s.data.toList
  · exact parse_0 F s w hF hs hm
  · exact parse_1 F s w hF hs hm
end Go.Proofs.Qxb6628871aFmt
