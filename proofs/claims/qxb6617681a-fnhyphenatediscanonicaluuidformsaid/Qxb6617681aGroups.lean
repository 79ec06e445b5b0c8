import Derived.Test.Qxb6617681aPre
namespace Go.Proofs.Qxb6617681a
open Go.ChangeShapes Go.WideShapes Go.ChangeAt Go.RowKit

/-- where the canonical text is walked: the groups' array behind k bytes -/
def St (w : World) (k : Nat) (g : Value) (wr : World) : Prop :=
  ∃ m : Nat, (k = m ∧ m ≤ 8 ∧ g = .int .i64 0 ∧ wr = w.alloc (.cells #[.int .i64 m, .int .i64 0, .int .i64 0, .int .i64 0, .int .i64 0] 23)) ∨
    (k = 9 + m ∧ m ≤ 4 ∧ g = .int .i64 1 ∧ wr = w.alloc (.cells #[.int .i64 8, .int .i64 m, .int .i64 0, .int .i64 0, .int .i64 0] 23)) ∨
    (k = 14 + m ∧ m ≤ 4 ∧ g = .int .i64 2 ∧ wr = w.alloc (.cells #[.int .i64 8, .int .i64 4, .int .i64 m, .int .i64 0, .int .i64 0] 23)) ∨
    (k = 19 + m ∧ m ≤ 4 ∧ g = .int .i64 3 ∧ wr = w.alloc (.cells #[.int .i64 8, .int .i64 4, .int .i64 4, .int .i64 m, .int .i64 0] 23)) ∨
    (k = 24 + m ∧ m ≤ 12 ∧ g = .int .i64 4 ∧ wr = w.alloc (.cells #[.int .i64 8, .int .i64 4, .int .i64 4, .int .i64 4, .int .i64 m] 23))

set_option maxHeartbeats 2000000 in
theorem grp_yes (s : ByteArray) (w : World) (hf : Form s) :
    Calls Try.prog 6 #[.string s] w fun e w' => e = .returned (.bool true) ∧ Grown w w' := by
  obtain ⟨hs, hall⟩ := hf
  have HA : Hid (∀ k (h : k < s.size), okAt k (s[k]'h).toNat) := hall
  have hle : s.size ≤ 36 := by omega
  have hge : 36 ≤ s.size := by omega
  clear hall hs
  go_enter Try.func6, Try.ntmps6
  go_wp2
  go_loopw [4, 5] (fun g i wr => ∃ k : Nat, i = .int .i64 k ∧ k ≤ 36 ∧ St w k g wr) (fun _ i _ => 36 - (intOf i).toNat)
  case atStart => exact ⟨0, rfl, by omega, 0, .inl ⟨rfl, by omega, rfl, rfl⟩⟩
  case round =>
    obtain ⟨k, rfl, hk, m, h⟩ := hrel
    rcases h with ⟨e, hm, rfl, rfl⟩ | ⟨e, hm, rfl, rfl⟩ | ⟨e, hm, rfl, rfl⟩ | ⟨e, hm, rfl, rfl⟩ | ⟨e, hm, rfl, rfl⟩
    · have HE : Hid (k = m) := e
      have hlt : k < s.size := by omega
      clear e
      rcases HA.out k hlt with ⟨hd, hc⟩ | ⟨hd, hc⟩
      · obtain rfl : m = 8 := by have := HE.out; unfold isDash at hd; omega
        have h1 : ((s[k].toNat : Int) == 45) = true := by simp only [beq_iff_eq]; omega
        clear hc hd
        go_wp2
        go_roundw
        case rel => exact ⟨k + 1, by go_num, by omega, 0, .inr (.inl ⟨by have := HE.out; omega, by omega, rfl, rfl⟩)⟩
        case measure => simp [intOf]; omega
      · have h1 : ((s[k].toNat : Int) == 45) = false := by
          have := hc; unfold isHex at this; simp only [beq_eq_false_iff_ne]; omega
        have hm' : m < 8 := by have := HE.out; unfold isDash at hd; omega
        have HC : Hid (isHex (s[k]'hlt).toNat) := hc
        have HD : Hid (¬ isDash k) := hd
        clear hc hd
        go_wp2_with (go_at_call 8; refine (hex_yes _ _ HC.out).mono ?_; rintro e w' ⟨v, hv, rfl, rfl⟩)
        go_roundw
        case rel => exact ⟨k + 1, by go_num, by omega, m + 1, .inl ⟨by have := HE.out; omega, by omega, rfl, by simp⟩⟩
        case measure => simp [intOf]; omega
    · have HE : Hid (k = 9 + m) := e
      have hlt : k < s.size := by omega
      clear e
      rcases HA.out k hlt with ⟨hd, hc⟩ | ⟨hd, hc⟩
      · obtain rfl : m = 4 := by have := HE.out; unfold isDash at hd; omega
        have h1 : ((s[k].toNat : Int) == 45) = true := by simp only [beq_iff_eq]; omega
        clear hc hd
        go_wp2
        go_roundw
        case rel => exact ⟨k + 1, by go_num, by omega, 0, .inr (.inr (.inl ⟨by have := HE.out; omega, by omega, rfl, rfl⟩))⟩
        case measure => simp [intOf]; omega
      · have h1 : ((s[k].toNat : Int) == 45) = false := by
          have := hc; unfold isHex at this; simp only [beq_eq_false_iff_ne]; omega
        have hm' : m < 4 := by have := HE.out; unfold isDash at hd; omega
        have HC : Hid (isHex (s[k]'hlt).toNat) := hc
        have HD : Hid (¬ isDash k) := hd
        clear hc hd
        go_wp2_with (go_at_call 8; refine (hex_yes _ _ HC.out).mono ?_; rintro e w' ⟨v, hv, rfl, rfl⟩)
        go_roundw
        case rel => exact ⟨k + 1, by go_num, by omega, m + 1, .inr (.inl ⟨by have := HE.out; omega, by omega, rfl, by simp⟩)⟩
        case measure => simp [intOf]; omega
    · have HE : Hid (k = 14 + m) := e
      have hlt : k < s.size := by omega
      clear e
      rcases HA.out k hlt with ⟨hd, hc⟩ | ⟨hd, hc⟩
      · obtain rfl : m = 4 := by have := HE.out; unfold isDash at hd; omega
        have h1 : ((s[k].toNat : Int) == 45) = true := by simp only [beq_iff_eq]; omega
        clear hc hd
        go_wp2
        go_roundw
        case rel => exact ⟨k + 1, by go_num, by omega, 0, .inr (.inr (.inr (.inl ⟨by have := HE.out; omega, by omega, rfl, rfl⟩)))⟩
        case measure => simp [intOf]; omega
      · have h1 : ((s[k].toNat : Int) == 45) = false := by
          have := hc; unfold isHex at this; simp only [beq_eq_false_iff_ne]; omega
        have hm' : m < 4 := by have := HE.out; unfold isDash at hd; omega
        have HC : Hid (isHex (s[k]'hlt).toNat) := hc
        have HD : Hid (¬ isDash k) := hd
        clear hc hd
        go_wp2_with (go_at_call 8; refine (hex_yes _ _ HC.out).mono ?_; rintro e w' ⟨v, hv, rfl, rfl⟩)
        go_roundw
        case rel => exact ⟨k + 1, by go_num, by omega, m + 1, .inr (.inr (.inl ⟨by have := HE.out; omega, by omega, rfl, by simp⟩))⟩
        case measure => simp [intOf]; omega
    · have HE : Hid (k = 19 + m) := e
      have hlt : k < s.size := by omega
      clear e
      rcases HA.out k hlt with ⟨hd, hc⟩ | ⟨hd, hc⟩
      · obtain rfl : m = 4 := by have := HE.out; unfold isDash at hd; omega
        have h1 : ((s[k].toNat : Int) == 45) = true := by simp only [beq_iff_eq]; omega
        clear hc hd
        go_wp2
        go_roundw
        case rel => exact ⟨k + 1, by go_num, by omega, 0, .inr (.inr (.inr (.inr (⟨by have := HE.out; omega, by omega, rfl, rfl⟩))))⟩
        case measure => simp [intOf]; omega
      · have h1 : ((s[k].toNat : Int) == 45) = false := by
          have := hc; unfold isHex at this; simp only [beq_eq_false_iff_ne]; omega
        have hm' : m < 4 := by have := HE.out; unfold isDash at hd; omega
        have HC : Hid (isHex (s[k]'hlt).toNat) := hc
        have HD : Hid (¬ isDash k) := hd
        clear hc hd
        go_wp2_with (go_at_call 8; refine (hex_yes _ _ HC.out).mono ?_; rintro e w' ⟨v, hv, rfl, rfl⟩)
        go_roundw
        case rel => exact ⟨k + 1, by go_num, by omega, m + 1, .inr (.inr (.inr (.inl ⟨by have := HE.out; omega, by omega, rfl, by simp⟩)))⟩
        case measure => simp [intOf]; omega
    · have HE : Hid (k = 24 + m) := e
      by_cases hlt : k < s.size
      · clear e
        rcases HA.out k hlt with ⟨hd, hc⟩ | ⟨hd, hc⟩
        · exfalso; have := HE.out; unfold isDash at hd; omega
        · have h1 : ((s[k].toNat : Int) == 45) = false := by
            have := hc; unfold isHex at this; simp only [beq_eq_false_iff_ne]; omega
          have hm' : m < 12 := by have := HE.out; unfold isDash at hd; omega
          have HC : Hid (isHex (s[k]'hlt).toNat) := hc
          have HD : Hid (¬ isDash k) := hd
          clear hc hd
          go_wp2_with (go_at_call 8; refine (hex_yes _ _ HC.out).mono ?_; rintro e w' ⟨v, hv, rfl, rfl⟩)
          go_roundw
          case rel => exact ⟨k + 1, by go_num, by omega, m + 1, .inr (.inr (.inr (.inr (⟨by have := HE.out; omega, by omega, rfl, by simp⟩))))⟩
          case measure => simp [intOf]; omega
      · obtain rfl : m = 12 := by omega
        clear e
        go_wp2
        go_ret
        exact ⟨rfl, (Grown.refl _).alloc _ _⟩
end Go.Proofs.Qxb6617681a
