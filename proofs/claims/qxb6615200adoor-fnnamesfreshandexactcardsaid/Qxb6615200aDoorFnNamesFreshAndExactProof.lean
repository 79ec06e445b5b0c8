import Derived.Test.Qxb6615200aDoorRows
import Derived.Test.Qxb6615200aDoorLaw
import Derived.ProofKit
import Derived.LaidMore
import Derived.OpenShut
import Derived.ShutString
import Derived.ChangeVars
import Derived.Stop.Joined
namespace Go.Proofs.Qxb6615200aDoor
open Go.ChangeShapes Go.WideShapes Go.ChangeAt Go.WideMaps Go.WideElems Go.RowKit
open Go.ChangeMaps (open_string shut_string)

theorem own : ownKnob Tryd.prog.godebug = none := by kernel_rfl
/-- the listed variable's name, taken from the row -/
def nm : String := Rows.fnNamesFreshAndExactRow.named.headD ""
/-- the row's list, under a name of its own -/
def laid1 : List (String × DataW Unit) := [(nm, Rows.laid_example_com_isoprobe_isoprobe_pkg_isolation_names)]
theorem gNames : Tryd.prog.globalNamed nm = some 0 := by kernel_rfl
theorem tNames : (Tryd.prog.globals[0]?).map (·.type) = some 30 := by kernel_rfl
theorem cells30 : Tryd.prog.cellsOf 30 = 5 := by kernel_rfl
theorem cells9 : Tryd.prog.cellsOf 9 = 1 := by kernel_rfl

/-- the variable's five cells -/
def cells5 : Array Value := #[.string (⟨#[]⟩ : ByteArray), .string (⟨#[114, 101, 97, 100, 45, 117, 110, 99, 111, 109, 109, 105, 116, 116, 101, 100]⟩ : ByteArray), .string (⟨#[114, 101, 97, 100, 45, 99, 111, 109, 109, 105, 116, 116, 101, 100]⟩ : ByteArray), .string (⟨#[114, 101, 112, 101, 97, 116, 97, 98, 108, 101, 45, 114, 101, 97, 100]⟩ : ByteArray), .string (⟨#[115, 101, 114, 105, 97, 108, 105, 122, 97, 98, 108, 101]⟩ : ByteArray)]

theorem bytes_eq (a : ByteArray) (l : List UInt8) (h : a.data.toList = l) : a = ⟨l.toArray⟩ := by
  cases a
  subst h
  simp

/-- WHAT THE CONDITION GIVES: the variable's cells -/
theorem cells_of_laid {W : World} (h : laidMetH Tryd.prog laid1 W) : W.var? Tryd.prog nm = some cells5 := by
  rw [MakeChecks.laidMetH_plain _ _ _ (by kernel_rfl)] at h
  obtain ⟨ps, ⟨g, t, cs, fuel, p, q, hg, ht, hvar, hd, _, _⟩, _⟩ := h
  obtain rfl := Option.some.inj (gNames.symm.trans hg)
  obtain rfl := Option.some.inj (tNames.symm.trans ht)
  rw [hvar]
  congr 1
  obtain ⟨l⟩ := cs
  obtain ⟨xs, m, rfl, hx, hlen, hn, hel⟩ := DataW.trod_array Tryd.underlying30 hd
  rw [cells30] at hlen
  rw [cells9] at hel
  obtain ⟨c0, c1, c2, c3, c4, rfl⟩ : ∃ c0 c1 c2 c3 c4, l = [c0, c1, c2, c3, c4] := by
    match l, hlen with
    | [a, b, c, d, e], _ => exact ⟨a, b, c, d, e, rfl⟩
  obtain ⟨x0, x1, x2, x3, x4, rfl⟩ : ∃ x0 x1 x2 x3 x4, xs = [x0, x1, x2, x3, x4] := by
    match xs, hn with
    | [a, b, c, d, e], _ => exact ⟨a, b, c, d, e, rfl⟩
  obtain ⟨s0, e0, y0, _⟩ := DataW.trod_string Tryd.underlying9 (hel 0 (by omega))
  obtain ⟨s1, e1, y1, _⟩ := DataW.trod_string Tryd.underlying9 (hel 1 (by omega))
  obtain ⟨s2, e2, y2, _⟩ := DataW.trod_string Tryd.underlying9 (hel 2 (by omega))
  obtain ⟨s3, e3, y3, _⟩ := DataW.trod_string Tryd.underlying9 (hel 3 (by omega))
  obtain ⟨s4, e4, y4, _⟩ := DataW.trod_string Tryd.underlying9 (hel 4 (by omega))
  simp at e0 e1 e2 e3 e4 y0 y1 y2 y3 y4
  subst e0 e1 e2 e3 e4 y0 y1 y2 y3 y4
  simp [Rows.laid_example_com_isoprobe_isoprobe_pkg_isolation_names] at hx
  obtain ⟨⟨h0, h1, h2, h3, h4⟩, _⟩ := hx
  have f0 : s0 = ⟨#[]⟩ := bytes_eq s0 [] (by rw [h0])
  have f1 := bytes_eq s1 _ h1.symm
  have f2 := bytes_eq s2 _ h2.symm
  have f3 := bytes_eq s3 _ h3.symm
  have f4 := bytes_eq s4 _ h4.symm
  rw [f0, f1, f2, f3, f4]
  rfl

/-- the door's own heap meets the condition -/
theorem door_met (os : Os) (args : Array Value) : laidMetH Tryd.prog laid1 ((World.doorLaid Tryd.prog 14 os).forCall (fun _ _ => 0) ⟨#[], args, []⟩).memory :=
  laidMetH_of_parts3 (fuel := 8) (laidMet_of_run' 8 (by kernel_rfl) (by kernel_rfl)) (by kernel_rfl) (by kernel_rfl)

/-- what the cells read as -/
theorem reads_names {H : Type} (enc : TypeId × Value → H) (W : World) (sp : Nat → Bool) :
    DataW.trod enc Tryd.prog W 0 sp true 3 30 cells5.toList = some (Rows.laid_example_com_isoprobe_isoprobe_pkg_isolation_names, []) := by kernel_rfl

set_option maxHeartbeats 400000 in
theorem law_long (a0 : ByteArray) (w : World) (w0 : a0.size ≤ maxLen) (hz : 1048576 < a0.size) :
    Calls Tryd.prog 4 #[.string a0] w fun e w' => e = .returned (.bool true) ∧ Below w.heap.size w w' := by
  unfold maxLen at w0
  go_enter Tryd.func4, Tryd.ntmps4
  go_wp2
  go_ret
  exact ⟨rfl, Below.refl _ _⟩

/-- THE WALK, of every string -/
theorem walk (a0 : ByteArray) (w0 : a0.size ≤ maxLen) (w : World) (hv : w.var? Tryd.prog nm = some cells5) :
    Calls Tryd.prog 4 #[.string a0] w fun e w' => e = .returned (.bool true) ∧ Below w.heap.size w w' := by
  by_cases hz : a0.size ≤ 1048576
  · have c1 := World.var?_cell gNames hv 1
    have c2 := World.var?_cell gNames hv 2
    have c3 := World.var?_cell gNames hv 3
    have c4 := World.var?_cell gNames hv 4
    exact law_main a0 w hz (World.block_lt_of_cell? w ⟨0, 1, none⟩ c1) c1 c2 c3 c4
  · exact law_long a0 w w0 (by omega)

set_option maxRecDepth 100000 in
theorem lifted (os : Os) (started : os.Started) (H : Type) (enc : TypeId × Value → H) :
    ReturnsInHanded {} Tryd.checked os 4 .any (fun w args => (Rows.fnNamesFreshAndExactSpec.pre enc Tryd.prog Tryd.f4 [] false w args ∧ laidMetH Tryd.prog laid1 w) ∧ sizedMet enc Tryd.prog Tryd.f4 (OpenSpec.ofChange Rows.fnNamesFreshAndExactSpec) false w args)
      (Rows.fnNamesFreshAndExactSpec.post enc Tryd.prog Tryd.f4 false true false false) := by
  refine returnsInHanded_of_change_and (C := Tryd.checked) (X := fun w _ => laidMetH Tryd.prog laid1 w) (fun _ _ _ hh h => h.of_heap hh) own started (by kernel_rfl) Tryd.func4
    (ChangeSpec.witness_shaped (enc := enc) (C := Tryd.checked) (os := os) (X := fun w _ => laidMetH Tryd.prog laid1 w) false (World.doorLaid Tryd.prog 14 os) #[.string ByteArray.empty] 8 rfl (World.shaped_of_RefB (by kernel_rfl) (by kernel_rfl)) (by kernel_rfl) (by kernel_rfl) (by kernel_rfl) (door_met os _)) ?_
  intro W base args ds gs before hval0 hW _ _ hL _
  have hval : ∀ (j : Nat) t v, Tryd.f4.params[j]? = some t → args[j]? = some v → Value.okWide Tryd.prog W .any base t v := hval0
  have hW' := hW
  obtain ⟨p, q, hA0, hV0, rfl, hfz, hnd⟩ := hW
  have hA : DataW.TrodAll enc Tryd.prog W 0 (fun _ => true) true Tryd.f4.params.toList args.toList ds p := hA0
  have hV : DataW.TrodVars enc Tryd.prog W (fun _ => true) [nm] gs q := hV0
  rw [Tryd.params4] at hA hval
  obtain ⟨v0, d0, rfl, rfl, h0⟩ := trodAll_one hA
  obtain ⟨a0, rfl, rfl, rfl, w0⟩ := open_string Tryd.underlying9 (hval 0 9 v0 rfl rfl) h0
  obtain ⟨g, t, cs, fuel, d, p', rfl, hg, ht, hvar, hd, rfl⟩ := trodVars_one hV
  obtain rfl := Option.some.inj (gNames.symm.trans hg)
  obtain rfl := Option.some.inj (tNames.symm.trans ht)
  obtain rfl : cs = cells5 := Option.some.inj (hvar.symm.trans (cells_of_laid hL))
  obtain ⟨rfl, rfl⟩ := DataW.Trod.unique (v := .agg cells5) ⟨fuel, hd⟩ ⟨3, reads_names enc W _⟩
  clear hA0 hV0 hval0
  have hc1 := World.var?_cell gNames hvar 1
  have h0W : 0 < W.heap.size := World.block_lt_of_cell? W ⟨0, 1, none⟩ hc1
  refine (walk a0 w0 W hvar).mono fun e W' ⟨he, bel⟩ => ?_
  subst he
  exact ⟨_, rfl, _, _, _, [], [], _, hW', trodAll_mk1 (shut_bool Tryd.underlying4 _), trodAll_mk1 (shut_string Tryd.underlying9 w0),
    trodVars_mk1 hg ht (var?_below bel hg h0W hvar) (reads_names enc W' _), bel.frame _, fun h => by cases h⟩

theorem over : Rows.FnNamesFreshAndExactSaid :=
  OpenClaim.holds_of_wide 4 Tryd.f4 rfl rfl rfl rfl rfl rfl rfl ⟨rfl, rfl, rfl, rfl, rfl⟩ rfl rfl rfl rfl rfl (by kernel_rfl) Tryd.func4 (by kernel_rfl)
    (of_decide_eq_true (by kernel_rfl)) (by unfold Func.isWrapper; first | (rw [if_pos (by decide +kernel)]; kernel_rfl) | (rw [if_neg (by decide +kernel)]; exact ⟨rfl, rfl⟩))
    (fun os started H enc _ => lifted os started H enc)
end Go.Proofs.Qxb6615200aDoor
