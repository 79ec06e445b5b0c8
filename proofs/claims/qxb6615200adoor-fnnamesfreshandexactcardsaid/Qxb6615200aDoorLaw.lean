import Derived.Test.Qxb6615200aDoorWalks
namespace Go.Proofs.Qxb6615200aDoor
open Go.ChangeShapes Go.WideShapes Go.ChangeAt Go.RowKit

/-- an owned row stays owned where nothing below B turns -/
theorem owns_below {B base n cap g : Nat} {e : TypeId} {size : Nat} {w w' : World} {xs : List Value} (hb : Below B w w') (hg : g < B)
    (h : w.ownsRow base e size (.slice (some ⟨g, 0, none⟩) n cap) n xs) : w'.ownsRow base e size (.slice (some ⟨g, 0, none⟩) n cap) n xs := by
  obtain ⟨h1, h2⟩ := h
  refine ⟨h1, ?_⟩
  rcases h2 with ⟨h, _⟩ | ⟨g', cap', cur, e1, e2, e3, e4⟩
  · cases h
  · cases e1
    exact .inr ⟨g, cap, cur, rfl, e2, (hb.block g hg).trans e3, e4⟩

/-- what the law's loop keeps: nothing old has turned; the slice lies in memory of the call's own -/
def Lw (w : World) (g cap : Nat) (wr : World) : Prop :=
  Below w.heap.size w wr ∧ g < wr.heap.size ∧ w.heap.size ≤ g ∧ ∃ xs, wr.ownsRow w.heap.size 9 1 (.slice (some ⟨g, 0, none⟩) 4 cap) 4 xs

theorem Lw.stored {w wr : World} {g cap : Nat} (h : Lw w g cap wr) (k : Nat) (u : Value) : Lw w g cap (wr.setCell ⟨g, k, none⟩ u) := by
  obtain ⟨hb, hg, hl, xs, ho⟩ := h
  exact ⟨hb.setCell hl u, by simpa [World.setCell] using hg, hl, _, (ho.stored k u).1⟩
theorem Lw.spot {w wr : World} {g cap : Nat} (h : Lw w g cap wr) (k : Nat) (hk : k < 4) : (∃ v, wr.cell? ⟨g, k, none⟩ = some v) ∧ wr.frozen? ⟨g, k, none⟩ = false := by
  obtain ⟨hb, hg, hl, xs, ho⟩ := h
  refine ⟨?_, ho.frozenAt k⟩
  rw [ho.cellAt k (by omega)]
  exact ⟨_, List.getElem?_eq_getElem (by rw [ho.1]; omega)⟩

set_option maxHeartbeats 1000000 in
theorem law_main (s : ByteArray) (w : World) (hz : s.size ≤ 1048576) (h0 : 0 < w.heap.size)
    (v1 : w.cell? ⟨0, 1, none⟩ = some (.string (⟨#[114, 101, 97, 100, 45, 117, 110, 99, 111, 109, 109, 105, 116, 116, 101, 100]⟩ : ByteArray))) (v2 : w.cell? ⟨0, 2, none⟩ = some (.string (⟨#[114, 101, 97, 100, 45, 99, 111, 109, 109, 105, 116, 116, 101, 100]⟩ : ByteArray))) (v3 : w.cell? ⟨0, 3, none⟩ = some (.string (⟨#[114, 101, 112, 101, 97, 116, 97, 98, 108, 101, 45, 114, 101, 97, 100]⟩ : ByteArray))) (v4 : w.cell? ⟨0, 4, none⟩ = some (.string (⟨#[115, 101, 114, 105, 97, 108, 105, 122, 97, 98, 108, 101]⟩ : ByteArray))) :
    Calls Tryd.prog 4 #[.string s] w fun e w' => e = .returned (.bool true) ∧ Below w.heap.size w w' := by
  go_enter Tryd.func4, Tryd.ntmps4
  go_wp2_with (go_at_call 7; go_in)
  refine (names_any w h0 v1 v2 v3 v4).mono ?_
  rintro e w1 ⟨g, cap, rfl, hown, hb⟩
  have hgl := hown.lt g rfl
  have c0 := hown.cellAt 0 (by omega)
  have c1 := hown.cellAt 1 (by omega)
  have c2 := hown.cellAt 2 (by omega)
  have c3 := hown.cellAt 3 (by omega)
  have HO : Hid (w1.ownsRow w.heap.size 9 1 (.slice (some ⟨g, 0, none⟩) 4 cap) 4 four) := hown
  have HB : Hid (Below w.heap.size w w1) := hb
  have HG : Hid (w.heap.size ≤ g ∧ g < w1.heap.size) := hgl
  have HV : Hid (w.cell? ⟨0, 1, none⟩ = some (.string (⟨#[114, 101, 97, 100, 45, 117, 110, 99, 111, 109, 109, 105, 116, 116, 101, 100]⟩ : ByteArray)) ∧ w.cell? ⟨0, 2, none⟩ = some (.string (⟨#[114, 101, 97, 100, 45, 99, 111, 109, 109, 105, 116, 116, 101, 100]⟩ : ByteArray)) ∧ w.cell? ⟨0, 3, none⟩ = some (.string (⟨#[114, 101, 112, 101, 97, 116, 97, 98, 108, 101, 45, 114, 101, 97, 100]⟩ : ByteArray)) ∧ w.cell? ⟨0, 4, none⟩ = some (.string (⟨#[115, 101, 114, 105, 97, 108, 105, 122, 97, 98, 108, 101]⟩ : ByteArray))) := ⟨v1, v2, v3, v4⟩
  have D1 : Hid (Calls Tryd.prog 8 #[.slice (some ⟨g, 0, none⟩) 4 cap] w1 fun e w' => e = .returned (.bool true) ∧ Below w1.heap.size w1 w') :=
    doc_any g cap w1 hgl.2 c0 c1 c2 c3
  clear hown hb hgl c0 c1 c2 c3 v1 v2 v3 v4
  go_wp2_with fail
  refine D1.out.mono ?_
  rintro e w2 ⟨rfl, hb2⟩
  have HL : Hid (Lw w g cap w2) :=
    ⟨HB.out.trans (hb2.mono HB.out.size), Nat.lt_of_lt_of_le HG.out.2 hb2.size, HG.out.1, four, owns_below hb2 HG.out.2 HO.out⟩
  clear hb2 D1 HO HB HG
  go_wp2_with fail
  go_loopw [5] (fun i wr => ∃ k : Nat, k ≤ 4 ∧ i = .int .i64 k ∧ Hid (Lw w g cap wr)) (fun i _ => 4 - (intOf i).toNat)
  case atStart => exact ⟨0, by omega, rfl, HL⟩
  case round =>
    rename_i wr
    clear HL
    obtain ⟨k, hk, rfl, HL⟩ := hrel
    by_cases hlt : k < 4
    · obtain ⟨⟨u, hu⟩, hf⟩ := HL.out.spot k hlt
      go_wp2
      go_roundw
      case rel => exact ⟨k + 1, by omega, by go_num, HL.out.stored _ _⟩
      case measure => simp [intOf]; omega
    · have hbr := HL.out.1
      have hr0 : 0 < wr.heap.size := Nat.lt_of_lt_of_le h0 hbr.size
      obtain ⟨v1, v2, v3, v4⟩ := HV.out
      have N2 : Hid (Calls Tryd.prog 5 #[] wr fun e w' => ∃ g cap, e = .returned (.slice (some ⟨g, 0, none⟩) 4 cap) ∧ w'.ownsRow wr.heap.size 9 1 (.slice (some ⟨g, 0, none⟩) 4 cap) 4 four ∧ Below wr.heap.size wr w') :=
        names_any wr hr0 ((hbr.cell (p := ⟨0, 1, none⟩) h0).trans v1) ((hbr.cell (p := ⟨0, 2, none⟩) h0).trans v2) ((hbr.cell (p := ⟨0, 3, none⟩) h0).trans v3) ((hbr.cell (p := ⟨0, 4, none⟩) h0).trans v4)
      have HR : Hid (Below w.heap.size w wr) := hbr
      clear hbr v1 v2 v3 v4 HV HL
      go_wp2_with fail
      refine N2.out.mono ?_
      rintro e w3 ⟨g', cap', rfl, hown, hb3⟩
      have hgl := hown.lt g' rfl
      have c0 := hown.cellAt 0 (by omega)
      have c1 := hown.cellAt 1 (by omega)
      have c2 := hown.cellAt 2 (by omega)
      have c3 := hown.cellAt 3 (by omega)
      have D2 : Hid (Calls Tryd.prog 8 #[.slice (some ⟨g', 0, none⟩) 4 cap'] w3 fun e w' => e = .returned (.bool true) ∧ Below w3.heap.size w3 w') :=
        doc_any g' cap' w3 hgl.2 c0 c1 c2 c3
      have HR3 : Hid (Below w.heap.size w w3) := HR.out.trans (hb3.mono HR.out.size)
      clear hown hb3 hgl c0 c1 c2 c3 N2 HR
      go_wp2_with fail
      refine D2.out.mono ?_
      rintro e w4 ⟨rfl, hb4⟩
      have HR4 : Hid (Below w.heap.size w w4) := HR3.out.trans (hb4.mono HR3.out.size)
      clear hb4 HR3 D2
      go_wp2
      go_ret
      exact ⟨rfl, HR4.out⟩
end Go.Proofs.Qxb6615200aDoor
