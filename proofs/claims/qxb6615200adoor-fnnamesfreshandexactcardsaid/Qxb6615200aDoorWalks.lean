import Derived.Test.Qxb6615200aDoorRows
import Derived.WalkKit
import Derived.ProofKit
import Derived.OwnWalk
import Derived.WalkSmall
import Derived.Deep.QuietTactic
import Derived.BigQuiet
import Derived.Lib.SliceRun
namespace Go.Proofs.Qxb6615200aDoor
open Go.ChangeShapes Go.WideShapes Go.ChangeAt Go.RowKit

/-- what the loop of zzIsDocumented keeps: nothing old has turned; the documented list lies in the first new block -/
def Dc (w wr : World) : Prop := Below w.heap.size w wr ∧ wr.cell? ⟨w.heap.size, 0, none⟩ = some (.string (⟨#[114, 101, 97, 100, 45, 117, 110, 99, 111, 109, 109, 105, 116, 116, 101, 100]⟩ : ByteArray)) ∧ wr.cell? ⟨w.heap.size, 1, none⟩ = some (.string (⟨#[114, 101, 97, 100, 45, 99, 111, 109, 109, 105, 116, 116, 101, 100]⟩ : ByteArray)) ∧ wr.cell? ⟨w.heap.size, 2, none⟩ = some (.string (⟨#[114, 101, 112, 101, 97, 116, 97, 98, 108, 101, 45, 114, 101, 97, 100]⟩ : ByteArray)) ∧ wr.cell? ⟨w.heap.size, 3, none⟩ = some (.string (⟨#[115, 101, 114, 105, 97, 108, 105, 122, 97, 98, 108, 101]⟩ : ByteArray))

theorem Dc.drewN {w wr : World} (h : Dc w wr) (n : Nat) : Dc w (wr.drewN n) := by
  obtain ⟨hb, d0, d1, d2, d3⟩ := h
  exact ⟨below_drewN hb n, by simpa using d0, by simpa using d1, by simpa using d2, by simpa using d3⟩

set_option maxHeartbeats 1000000 in
/-- zzIsDocumented of a slice that holds the four documented names -/
theorem doc_any (g cap : Nat) (w : World) (hg : g < w.heap.size)
    (c0 : w.cell? ⟨g, 0, none⟩ = some (.string (⟨#[114, 101, 97, 100, 45, 117, 110, 99, 111, 109, 109, 105, 116, 116, 101, 100]⟩ : ByteArray))) (c1 : w.cell? ⟨g, 1, none⟩ = some (.string (⟨#[114, 101, 97, 100, 45, 99, 111, 109, 109, 105, 116, 116, 101, 100]⟩ : ByteArray))) (c2 : w.cell? ⟨g, 2, none⟩ = some (.string (⟨#[114, 101, 112, 101, 97, 116, 97, 98, 108, 101, 45, 114, 101, 97, 100]⟩ : ByteArray))) (c3 : w.cell? ⟨g, 3, none⟩ = some (.string (⟨#[115, 101, 114, 105, 97, 108, 105, 122, 97, 98, 108, 101]⟩ : ByteArray))) :
    Calls Tryd.prog 8 #[.slice (some ⟨g, 0, none⟩) 4 cap] w fun e w' => e = .returned (.bool true) ∧ Below w.heap.size w w' := by
  go_enter Tryd.func8, Tryd.ntmps8
  go_wp2
  go_loopw [4] (fun i wr => ∃ k : Nat, k ≤ 4 ∧ i = .int .i64 k ∧ Dc w wr) (fun i _ => 4 - (intOf i).toNat)
  case atStart => exact ⟨0, by omega, rfl, (Below.refl _ _).alloc (Nat.le_refl _) _, by simp [go_sem], by simp [go_sem], by simp [go_sem], by simp [go_sem]⟩
  case round =>
    rename_i wr
    obtain ⟨k, hk, rfl, hD⟩ := hrel
    have HD : Hid (Dc w wr) := hD
    obtain ⟨hb, d0, d1, d2, d3⟩ := hD
    have e0 := (hb.cell (p := ⟨g, 0, none⟩) hg).trans c0
    have e1 := (hb.cell (p := ⟨g, 1, none⟩) hg).trans c1
    have e2 := (hb.cell (p := ⟨g, 2, none⟩) hg).trans c2
    have e3 := (hb.cell (p := ⟨g, 3, none⟩) hg).trans c3
    clear hb c0 c1 c2 c3
    have hks : k = 0 ∨ k = 1 ∨ k = 2 ∨ k = 3 ∨ k = 4 := by omega
    rcases hks with rfl | rfl | rfl | rfl | rfl
    · go_wp2
      go_quiet (fail)
      go_wp2
      exact ⟨⟨1, by omega, by go_num, HD.out.drewN _⟩, by simp [intOf]⟩
    · go_wp2
      go_quiet (fail)
      go_wp2
      exact ⟨⟨2, by omega, by go_num, HD.out.drewN _⟩, by simp [intOf]⟩
    · go_wp2
      go_quiet (fail)
      go_wp2
      exact ⟨⟨3, by omega, by go_num, HD.out.drewN _⟩, by simp [intOf]⟩
    · go_wp2
      go_quiet (fail)
      go_wp2
      exact ⟨⟨4, by omega, by go_num, HD.out.drewN _⟩, by simp [intOf]⟩
    · go_wp2
      go_ret
      exact ⟨rfl, HD.out.1⟩

/-- the four names as cells -/
def four : List Value := [.string (⟨#[114, 101, 97, 100, 45, 117, 110, 99, 111, 109, 109, 105, 116, 116, 101, 100]⟩ : ByteArray), .string (⟨#[114, 101, 97, 100, 45, 99, 111, 109, 109, 105, 116, 116, 101, 100]⟩ : ByteArray), .string (⟨#[114, 101, 112, 101, 97, 116, 97, 98, 108, 101, 45, 114, 101, 97, 100]⟩ : ByteArray), .string (⟨#[115, 101, 114, 105, 97, 108, 105, 122, 97, 98, 108, 101]⟩ : ByteArray)]

theorem info9 : (Tryd.prog.info? 9).map (fun i => (i.zero, i.size, i.bytes)) = some (some (.string (⟨#[]⟩ : ByteArray)), 1, 16) := by kernel_rfl

set_option maxHeartbeats 1000000 in
/-- Names: a slice of the call's own that holds the four names -/
theorem names_any (w : World) (h0 : 0 < w.heap.size)
    (v1 : w.cell? ⟨0, 1, none⟩ = some (.string (⟨#[114, 101, 97, 100, 45, 117, 110, 99, 111, 109, 109, 105, 116, 116, 101, 100]⟩ : ByteArray))) (v2 : w.cell? ⟨0, 2, none⟩ = some (.string (⟨#[114, 101, 97, 100, 45, 99, 111, 109, 109, 105, 116, 116, 101, 100]⟩ : ByteArray))) (v3 : w.cell? ⟨0, 3, none⟩ = some (.string (⟨#[114, 101, 112, 101, 97, 116, 97, 98, 108, 101, 45, 114, 101, 97, 100]⟩ : ByteArray))) (v4 : w.cell? ⟨0, 4, none⟩ = some (.string (⟨#[115, 101, 114, 105, 97, 108, 105, 122, 97, 98, 108, 101]⟩ : ByteArray))) :
    Calls Tryd.prog 5 #[] w fun e w' => ∃ g cap, e = .returned (.slice (some ⟨g, 0, none⟩) 4 cap) ∧ w'.ownsRow w.heap.size 9 1 (.slice (some ⟨g, 0, none⟩) 4 cap) 4 four ∧ Below w.heap.size w w' := by
  obtain ⟨i, hi, hz0, hz1, hz2⟩ := info_parts info9
  have q22 : ∀ (w : World) (a : Option Addr) (n c n' c' : Nat), (binOp .eql 22 (.slice a n c) (.slice none n' c')).run Tryd.prog w = .ok (.bool a.isNone) w := fun w a n c n' c' => Lib.run_eql_slice_nil w _ _ a n c n' c' Tryd.underlying22
  have A : Hid (∀ j u, four[j]? = some u → w.cell? ⟨0, 1 + j, none⟩ = some u) := by
    intro j u hj
    have hj4 : j < 4 := (List.getElem?_eq_some_iff.1 hj).1
    have hjs : j = 0 ∨ j = 1 ∨ j = 2 ∨ j = 3 := by omega
    rcases hjs with rfl | rfl | rfl | rfl
    · exact v1.trans hj
    · exact v2.trans hj
    · exact v3.trans hj
    · exact v4.trans hj
  have H0 : Hid (0 < w.heap.size) := h0
  clear v1 v2 v3 v4 h0
  go_enter Tryd.func5, Tryd.ntmps5
  go_wp2_with (first
    | (go_at_call 9; go_in)
    | (at_builtin; refine wpList_append_own _ rfl _ _ 22 rfl w.heap.size 9 i (.string (⟨#[]⟩ : ByteArray)) 1 16 Tryd.underlying22 hi hz0 hz1 hz2 rfl (by decide) _ _ _ rfl (World.ownsRow_made w #[] 0 (Nat.le_refl _) (Nat.zero_le _) rfl) ⟨0, 1, none⟩ 4 4 four rfl ?qc1 ?qc2 ?qc3 ?qc4 ?qc5 ?qc6 ?_))
  case qc1 => rfl
  case qc2 =>
    intro j u hj
    rw [Addr.add_lit, World.cell?_alloc_lt _ _ _ H0.out]
    exact A.out j u hj
  case qc3 => intro u hu; simp [four] at hu; rcases hu with rfl | rfl | rfl | rfl <;> rfl
  case qc4 => unfold maxLen; omega
  case qc5 => omega
  case qc6 => simp
  intro v' w1 hown hgrow hnil
  obtain ⟨g, cap, rfl⟩ : ∃ g cap, v' = .slice (some ⟨g, 0, none⟩) 4 cap := by
    rcases hown.2 with ⟨_, h⟩ | ⟨g, cap, _, h, _⟩
    · omega
    · exact ⟨g, cap, h⟩
  have hO : w1.ownsRow w.heap.size 9 1 (.slice (some ⟨g, 0, none⟩) 4 cap) 4 four := by simpa using hown
  have HO : Hid (w1.ownsRow w.heap.size 9 1 (.slice (some ⟨g, 0, none⟩) 4 cap) 4 four) := hO
  clear hown hnil hO
  go_wp2
  go_ret
  refine ⟨g, cap, rfl, HO.out, ?_⟩
  exact ((Below.refl _ w).alloc (Nat.le_refl _) _).grown hgrow (by simp) (by intro k hk; simp [Value.ownBlock] at hk; omega)
end Go.Proofs.Qxb6615200aDoor
