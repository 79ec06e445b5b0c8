import Derived.Test.Qxb6617681aPre
namespace Go.Proofs.Qxb6617681a
open Go.ChangeShapes Go.WideShapes Go.ChangeAt Go.RowKit

theorem pre_bd {s : ByteArray} {k g n0 n1 n2 n3 n4 : Nat} (hp : Pre s k g n0 n1 n2 n3 n4) : g ≤ 4 ∧ n0 ≤ k ∧ n1 ≤ k ∧ n2 ≤ k ∧ n3 ≤ k ∧ n4 ≤ k := by
  obtain ⟨a1, a2, _⟩ := hp
  omega

/-- what the walk over any text keeps: the array holds the groups' lengths -/
def Sn (s : ByteArray) (w : World) (k : Nat) (g : Value) (wr : World) : Prop :=
  ∃ gn n0 n1 n2 n3 n4 : Nat, g = .int .i64 gn ∧ wr = w.alloc (.cells #[.int .i64 n0, .int .i64 n1, .int .i64 n2, .int .i64 n3, .int .i64 n4] 23) ∧ Pre s k gn n0 n1 n2 n3 n4

set_option maxHeartbeats 4000000 in
theorem grp_no (s : ByteArray) (w : World) (hs : s.size ≤ 1048576) (hbad : ¬ Form s) :
    Calls Try.prog 6 #[.string s] w fun e w' => e = .returned (.bool false) ∧ Grown w w' := by
  have HB : Hid (¬ Form s) := hbad
  clear hbad
  go_enter Try.func6, Try.ntmps6
  go_wp2
  go_loopw [4, 5] (fun g i wr => ∃ k : Nat, i = .int .i64 k ∧ k ≤ s.size ∧ Sn s w k g wr) (fun _ i _ => s.size - (intOf i).toNat)
  case atStart => exact ⟨0, rfl, by omega, 0, 0, 0, 0, 0, 0, rfl, rfl, pre_start s⟩
  case round =>
    obtain ⟨k, rfl, hk, gn, n0, n1, n2, n3, n4, rfl, rfl, hp⟩ := hrel
    obtain ⟨hg, b0, b1, b2, b3, b4⟩ := pre_bd hp
    by_cases hlt : k < s.size
    · by_cases hd : (s[k]'hlt).toNat = 45
      · have h1 : ((s[k].toNat : Int) == 45) = true := by simp only [beq_iff_eq]; omega
        by_cases hg4 : gn < 4
        · have HP : Hid (Pre s (k + 1) (gn + 1) n0 n1 n2 n3 n4) := pre_dash hp hlt hg4 hd
          clear hd hp
          go_wp2
          go_roundw
          case rel => exact ⟨k + 1, by go_num, by omega, gn + 1, n0, n1, n2, n3, n4, by go_num, rfl, HP⟩
          case measure => simp [intOf]; omega
        · clear hd hp
          go_wp2
          go_ret
          exact ⟨rfl, (Grown.refl _).alloc _ _⟩
      · have h1 : ((s[k].toNat : Int) == 45) = false := by simp only [beq_eq_false_iff_ne]; omega
        clear hd
        by_cases hc : isHex (s[k]'hlt).toNat
        · have HC : Hid (isHex (s[k]'hlt).toNat) := hc
          have hgs : gn = 0 ∨ gn = 1 ∨ gn = 2 ∨ gn = 3 ∨ gn = 4 := by omega
          rcases hgs with rfl | rfl | rfl | rfl | rfl
          · have HP : Hid (Pre s (k + 1) 0 (n0 + 1) n1 n2 n3 n4) := pre_hex0 hp hlt hc
            clear hp hc
            go_wp2_with (go_at_call 8; refine (hex_yes _ _ HC.out).mono ?_; rintro e w' ⟨v, hv, rfl, rfl⟩)
            go_roundw
            case rel => exact ⟨k + 1, by go_num, by omega, 0, n0 + 1, n1, n2, n3, n4, rfl, by simp, HP⟩
            case measure => simp [intOf]; omega
          · have HP : Hid (Pre s (k + 1) 1 n0 (n1 + 1) n2 n3 n4) := pre_hex1 hp hlt hc
            clear hp hc
            go_wp2_with (go_at_call 8; refine (hex_yes _ _ HC.out).mono ?_; rintro e w' ⟨v, hv, rfl, rfl⟩)
            go_roundw
            case rel => exact ⟨k + 1, by go_num, by omega, 1, n0, n1 + 1, n2, n3, n4, rfl, by simp, HP⟩
            case measure => simp [intOf]; omega
          · have HP : Hid (Pre s (k + 1) 2 n0 n1 (n2 + 1) n3 n4) := pre_hex2 hp hlt hc
            clear hp hc
            go_wp2_with (go_at_call 8; refine (hex_yes _ _ HC.out).mono ?_; rintro e w' ⟨v, hv, rfl, rfl⟩)
            go_roundw
            case rel => exact ⟨k + 1, by go_num, by omega, 2, n0, n1, n2 + 1, n3, n4, rfl, by simp, HP⟩
            case measure => simp [intOf]; omega
          · have HP : Hid (Pre s (k + 1) 3 n0 n1 n2 (n3 + 1) n4) := pre_hex3 hp hlt hc
            clear hp hc
            go_wp2_with (go_at_call 8; refine (hex_yes _ _ HC.out).mono ?_; rintro e w' ⟨v, hv, rfl, rfl⟩)
            go_roundw
            case rel => exact ⟨k + 1, by go_num, by omega, 3, n0, n1, n2, n3 + 1, n4, rfl, by simp, HP⟩
            case measure => simp [intOf]; omega
          · have HP : Hid (Pre s (k + 1) 4 n0 n1 n2 n3 (n4 + 1)) := pre_hex4 hp hlt hc
            clear hp hc
            go_wp2_with (go_at_call 8; refine (hex_yes _ _ HC.out).mono ?_; rintro e w' ⟨v, hv, rfl, rfl⟩)
            go_roundw
            case rel => exact ⟨k + 1, by go_num, by omega, 4, n0, n1, n2, n3, n4 + 1, rfl, by simp, HP⟩
            case measure => simp [intOf]; omega
        · have HC : Hid (¬ isHex (s[k]'hlt).toNat) := hc
          clear hp hc
          go_wp2_with (go_at_call 8; refine (hex_no _ _ HC.out).mono ?_; rintro e w' ⟨rfl, rfl⟩)
          go_ret
          exact ⟨rfl, (Grown.refl _).alloc _ _⟩
    · by_cases hg4 : gn < 4
      · clear hp
        go_wp2
        go_ret
        exact ⟨rfl, (Grown.refl _).alloc _ _⟩
      · obtain rfl : gn = 4 := by omega
        obtain rfl : k = s.size := by omega
        have HP : Hid (Pre s s.size 4 n0 n1 n2 n3 n4) := hp
        clear hp
        by_cases q0 : n0 = 8
        · have f0 : ((n0 : Int) == 8) = true := by simp only [beq_iff_eq]; omega
          have Q0 : Hid (n0 = 8) := q0
          clear q0
          by_cases q1 : n1 = 4
          · have f1 : ((n1 : Int) == 4) = true := by simp only [beq_iff_eq]; omega
            have Q1 : Hid (n1 = 4) := q1
            clear q1
            by_cases q2 : n2 = 4
            · have f2 : ((n2 : Int) == 4) = true := by simp only [beq_iff_eq]; omega
              have Q2 : Hid (n2 = 4) := q2
              clear q2
              by_cases q3 : n3 = 4
              · have f3 : ((n3 : Int) == 4) = true := by simp only [beq_iff_eq]; omega
                have Q3 : Hid (n3 = 4) := q3
                clear q3
                by_cases q4 : n4 = 12
                · have f4 : ((n4 : Int) == 12) = true := by simp only [beq_iff_eq]; omega
                  have Q4 : Hid (n4 = 12) := q4
                  clear q4
                  exfalso
                  refine HB.out (pre_form ?_)
                  have := HP.out
                  rwa [Q0.out, Q1.out, Q2.out, Q3.out, Q4.out] at this
                · have f4 : ((n4 : Int) == 12) = false := by simp only [beq_eq_false_iff_ne]; omega
                  clear q4
                  go_wp2
                  go_ret
                  exact ⟨rfl, (Grown.refl _).alloc _ _⟩
              · have f3 : ((n3 : Int) == 4) = false := by simp only [beq_eq_false_iff_ne]; omega
                clear q3
                go_wp2
                go_ret
                exact ⟨rfl, (Grown.refl _).alloc _ _⟩
            · have f2 : ((n2 : Int) == 4) = false := by simp only [beq_eq_false_iff_ne]; omega
              clear q2
              go_wp2
              go_ret
              exact ⟨rfl, (Grown.refl _).alloc _ _⟩
          · have f1 : ((n1 : Int) == 4) = false := by simp only [beq_eq_false_iff_ne]; omega
            clear q1
            go_wp2
            go_ret
            exact ⟨rfl, (Grown.refl _).alloc _ _⟩
        · have f0 : ((n0 : Int) == 8) = false := by simp only [beq_eq_false_iff_ne]; omega
          clear q0
          go_wp2
          go_ret
          exact ⟨rfl, (Grown.refl _).alloc _ _⟩
end Go.Proofs.Qxb6617681a
