import Derived.Test.Qxb6600768aGreatDoorWalkR
import Derived.Test.Qxb6600768aGreatDoorTie
import Derived.Test.Qxb6600768aGreatDoorCards
import Derived.ProofKit
import Derived.Lay
import Derived.ShutString
import Derived.Stop.Joined
import Derived.SevenTiedAt
import Derived.Lib.LaidTab
namespace Go.Proofs.Qxb6600768aGreatDoor
open Go.ChangeShapes Go.WideShapes Go.ChangeAt Go.WideMaps Go.WideElems Go.RowKit
open Go.ChangeMaps (open_string shut_string)

def key_laid2 : List (String × DataW Unit) := Rows.fnNumberKeyExactSpecRow.laid

theorem key_own : ownKnob Tryz.prog.godebug = none := by kernel_rfl
theorem key_tabName : Tryz.prog.globalNamed (Rows.fnNumberKeyExactSpecRow.named.getD 6 "") = some 6 := by kernel_rfl
theorem key_tabType : (Tryz.prog.globals[6]?).map (·.type) = some 122 := by kernel_rfl
theorem key_tabCells : Tryz.prog.cellsOf 122 = 20 := by kernel_rfl
theorem key_tabCell : Tryz.prog.cellsOf 41 = 1 := by kernel_rfl
theorem key_tabData : Rows.laid_internal_strconv_uint64pow10 (H := Unit) = Lib.tabData .u64 Lib.pow10Tab := by kernel_rfl
set_option maxRecDepth 100000 in
theorem key_tab_of {W : World} (hL : laidMetH Tryz.prog key_laid2 W) : Tab W := by
  rw [MakeChecks.laidMetH_plain _ _ _ (by kernel_rfl)] at hL
  obtain ⟨ps, hV, _⟩ := hL
  obtain ⟨_, _, _, _, _, q1, _, _, _, _, hV, _⟩ := hV
  obtain ⟨_, _, _, _, _, q2, _, _, _, _, hV, _⟩ := hV
  obtain ⟨g, t, cs, fuel, p, q3, hg, ht, hvar, hd, _⟩ := hV
  obtain rfl : 6 = g := Option.some.inj (key_tabName.symm.trans hg)
  obtain rfl : 122 = t := Option.some.inj (key_tabType.symm.trans ht)
  rw [key_tabData] at hd
  have := Lib.cells_of_tab (n := 20) Tryz.underlying122 Tryz.underlying41 key_tabCell key_tabCells hd
  show W.var? Tryz.prog _ = _
  refine hvar.trans ?_
  rw [← this]

set_option maxRecDepth 100000 in
theorem key_lifted (os : Os) (started : os.Started) (H : Type) (enc : TypeId × Value → H) :
    ReturnsInHanded {} Tryz.checked os 5 .any (fun w args => (Rows.fnNumberKeyExactSpecSpec.pre enc Tryz.prog Tryz.f5 [] false w args ∧ laidMetH Tryz.prog key_laid2 w) ∧ sizedMet enc Tryz.prog Tryz.f5 (OpenSpec.ofChange Rows.fnNumberKeyExactSpecSpec) false w args)
      (Rows.fnNumberKeyExactSpecSpec.post enc Tryz.prog Tryz.f5 false true false false) := by
  refine returnsInHanded_of_change_and (C := Tryz.checked) (X := fun w _ => laidMetH Tryz.prog key_laid2 w) (fun _ _ _ hh h => h.of_heap hh) key_own started (by kernel_rfl) Tryz.func5
    (ChangeSpec.witness_shaped (enc := enc) (C := Tryz.checked) (os := os) (X := fun w _ => laidMetH Tryz.prog key_laid2 w) false (World.laidAll Tryz.prog os key_laid2) #[.string ByteArray.empty] 8 (World.laidAll_os _ _ _)
      (World.shaped_of_ZipB (by kernel_rfl) (by kernel_rfl)) (by kernel_rfl) (by kernel_rfl) (by kernel_rfl)
      (by rw [MakeChecks.laidMetH_plain _ _ _ (by kernel_rfl)]; exact laidMet_laidAll _ (by kernel_rfl) (by kernel_rfl))) ?_
  intro W base args ds gs before hval0 hW h1 h2 h3 h4
  have hval : ∀ (j : Nat) t v, Tryz.f5.params[j]? = some t → args[j]? = some v → Value.okWide Tryz.prog W .any base t v := hval0
  have hW' := hW
  obtain ⟨p, q, hA0, hV, rfl, _, _⟩ := hW
  have hA : DataW.TrodAll enc Tryz.prog W 0 (fun _ => true) true Tryz.f5.params.toList args.toList ds p := hA0
  rw [Tryz.params5] at hA hval
  obtain ⟨v0, d0, rfl, rfl, h0⟩ := trodAll_one hA
  obtain ⟨rfl, rfl⟩ := trodVars_none hV
  obtain ⟨s, rfl, rfl, rfl, hs⟩ := open_string Tryz.underlying9 (hval 0 9 v0 rfl rfl) h0
  simp only [List.append_nil] at hW'
  refine (law5_any s W (by unfold maxLen at hs; omega) (by first | exact key_tab_of h4 | exact key_tab_of h3 | exact key_tab_of h2 | exact key_tab_of h1)).mono fun e W' ⟨he, hb⟩ => ?_
  subst he
  exact ⟨_, rfl, _, _, _, [], [], [], hW', trodAll_mk1 (shut_bool Tryz.underlying4 _), trodAll_mk1 (shut_string Tryz.underlying9 hs), rfl, hb.frame _, fun h => by cases h⟩

theorem key_row_holds : Rows.FnNumberKeyExactSpecSaid :=
  OpenClaim.holds_of_wide 5 Tryz.f5 rfl rfl rfl rfl rfl rfl rfl ⟨rfl, rfl, rfl, rfl, rfl⟩ rfl rfl rfl rfl rfl (by kernel_rfl) Tryz.func5 (by kernel_rfl)
    (of_decide_eq_true (by kernel_rfl)) (by unfold Func.isWrapper; first | (rw [if_pos (by decide +kernel)]; kernel_rfl) | (rw [if_neg (by decide +kernel)]; exact ⟨rfl, rfl⟩))
    (fun os started H enc _ => key_lifted os started H enc)

theorem key_card_holds : Rows.FnNumberKeyExactSpecCardSaid :=
  Claim7.holds_tied_plain_at .later [] [.data, .data, .data, .data, .sentinel, .sentinel, .pinned, .pinned] true Rows.fnNumberKeyExactSpecCard.stood.harness true
    key_row_holds (fun _ h => by cases h) (by kernel_rfl) (fun _ h => by cases h) fnNumberKeyExactSpec_row_tie rfl ⟨rfl, rfl⟩ (by kernel_rfl) rfl
    (fun f fn hf hfn => by
      obtain rfl : f = 5 := Option.some.inj ((show Tryz.prog.funcNamed Rows.fnNumberKeyExactSpecRow.func = some 5 by kernel_rfl).symm.trans hf) |>.symm
      obtain rfl : fn = Tryz.f5 := (Option.some.inj (Tryz.func5.symm.trans hfn)).symm
      exact ⟨by kernel_rfl, fun j t ht => by
        rw [Tryz.params5] at ht
        have hm : t ∈ [9] := by simpa using Array.mem_of_getElem? ht
        have hall : ([9].all fun u => !Tryz.prog.wantsStandIn u) = true := by kernel_rfl
        exact (show Tryz.prog.wantsStandIn t = false by simpa using List.all_eq_true.1 hall t hm)⟩)
    (by kernel_rfl)
end Go.Proofs.Qxb6600768aGreatDoor
