import Derived.Test.Qxb6600405aDoorWalkG
import Derived.Test.Qxb6600405aDoorTie
import Derived.Test.Qxb6600405aDoorCards
import Derived.ProofKit
import Derived.Lay
import Derived.SliceStrings
import Derived.Carry
import Derived.Stop.Joined
import Derived.SevenTiedAt
namespace Go.Proofs.Qxb6600405aDoor
open Go.ChangeShapes Go.WideShapes Go.ChangeAt Go.WideMaps Go.WideElems Go.RowKit

def laidJ : List (String × DataW Unit) := Rows.fnSplitListInvertsJoinRow.laid

theorem ownJ : ownKnob Tryd.prog.godebug = none := by kernel_rfl
theorem laidOutJ : laidOutB Tryd.prog = true := by kernel_rfl
theorem cells9J : Tryd.prog.cellsOf 9 = 1 := by kernel_rfl

theorem view_of_cells {W : World} {a : Addr} {len : Nat} {ss : List ByteArray} (hl : len ≤ ss.length) (hc : ∀ i, i < ss.length → W.cell? (a.add i) = some (.string (ss.getD i ByteArray.empty))) : viewS W (some a) (ss.take len) := by
  intro i hi
  have hi' : i < len := by simp at hi; omega
  obtain ⟨b, off, spot⟩ := a
  have hspot : spot = none := by simpa [Addr.add] using World.cell?_spot (hc 0 (by omega))
  subst hspot
  refine ⟨b, off, rfl, ?_⟩
  rw [← Go.WideShapes.add_plain, hc i (by omega), List.getD_eq_getElem?_getD, List.getD_eq_getElem?_getD, List.getElem?_take_of_lt hi']

set_option maxRecDepth 100000 in
theorem liftedJ (os : Os) (started : os.Started) (H : Type) (enc : TypeId × Value → H) :
    ReturnsInHanded {} Tryd.checked os 4 .any (fun w args => (Rows.fnSplitListInvertsJoinSpec.pre enc Tryd.prog Tryd.f4 [] false w args ∧ laidMetH Tryd.prog laidJ w) ∧ sizedMet enc Tryd.prog Tryd.f4 (OpenSpec.ofChange Rows.fnSplitListInvertsJoinSpec) false w args)
      (Rows.fnSplitListInvertsJoinSpec.post enc Tryd.prog Tryd.f4 false true false false) := by
  refine returnsInHanded_of_change_and (C := Tryd.checked) (X := fun w _ => laidMetH Tryd.prog laidJ w) (fun _ _ _ hh h => h.of_heap hh) ownJ started (by kernel_rfl) Tryd.func4
    (ChangeSpec.witness_shaped (enc := enc) (C := Tryd.checked) (os := os) (X := fun w _ => laidMetH Tryd.prog laidJ w) false (World.laidAll Tryd.prog os laidJ) #[.slice none 0 0] 8 (World.laidAll_os _ _ _)
      (World.shaped_of_ZipB (by kernel_rfl) (by kernel_rfl)) (by kernel_rfl) (by kernel_rfl) (by kernel_rfl)
      (by rw [MakeChecks.laidMetH_plain _ _ _ (by kernel_rfl)]; exact laidMet_laidAll _ (by kernel_rfl) (by kernel_rfl))) ?_
  intro W base args ds gs before hval0 hW _ _ _ _
  have hval : ∀ (j : Nat) t v, Tryd.f4.params[j]? = some t → args[j]? = some v → Value.okWide Tryd.prog W .any base t v := hval0
  have hW' := hW
  obtain ⟨p, q, hA0, hV, rfl, _, _⟩ := hW
  have hA : DataW.TrodAll enc Tryd.prog W 0 (fun _ => true) true Tryd.f4.params.toList args.toList ds p := hA0
  rw [Tryd.params4] at hA hval
  obtain ⟨v0, d0, rfl, rfl, h0⟩ := trodAll_one hA
  obtain ⟨rfl, rfl⟩ := trodVars_none hV
  simp only [List.append_nil] at hW'
  have h0k := h0
  have hlt : ∀ x ∈ p, x.block < W.heap.size := fun x hx => by simpa using hW'.lt x hx
  obtain ⟨a0, len, cap, rfl⟩ := okWide_slice Tryd.underlying23 (hval 0 23 v0 rfl rfl)
  obtain ⟨fuel, hf⟩ := h0
  have key : Calls Tryd.prog 4 #[.slice a0 len cap] W fun e w' => e = .returned (.bool true) ∧ Below W.heap.size W w' := by
    rcases open_strings Tryd.underlying23 Tryd.underlying9 cells9J hf with ⟨hcs, _⟩ | ⟨a, len', cap', ss, hcs, _, hl, hm, hz, _, hcell, hws⟩
    · simp [Value.cells] at hcs
      obtain ⟨rfl, rfl, rfl⟩ := hcs
      exact law4_any [] none 0 W (fun i hi => absurd hi (Nat.not_lt_zero _)) (by simp) (by simp)
    · simp [Value.cells] at hcs
      obtain ⟨rfl, rfl, rfl⟩ := hcs
      have hz' : ss.length = cap := by simpa using hz
      have hv := view_of_cells (len := len) (by omega) hcell
      have hlen : (ss.take len).length = len := by simp; omega
      have := law4_any (ss.take len) (some a) cap W hv (by rw [hlen]; unfold maxLen at hm; omega) (fun p hp => hws p (List.mem_of_mem_take hp))
      rw [hlen] at this
      exact this
  refine key.mono fun e W' ⟨he, hb⟩ => ?_
  subst he
  exact ⟨_, rfl, _, _, _, [], _, [], hW', trodAll_mk1 (shut_bool Tryd.underlying4 _), trodAll_mk1 (Below.trod laidOutJ (by kernel_rfl) (of_decide_eq_true (by kernel_rfl)) h0k hb hlt), rfl, hb.frame _, fun h => by cases h⟩

theorem row_holdsJ : Rows.FnSplitListInvertsJoinSaid :=
  OpenClaim.holds_of_wide 4 Tryd.f4 rfl rfl rfl rfl rfl rfl rfl ⟨rfl, rfl, rfl, rfl, rfl⟩ rfl rfl rfl rfl rfl (by kernel_rfl) Tryd.func4 (by kernel_rfl)
    (of_decide_eq_true (by kernel_rfl)) (by unfold Func.isWrapper; first | (rw [if_pos (by decide +kernel)]; kernel_rfl) | (rw [if_neg (by decide +kernel)]; exact ⟨rfl, rfl⟩))
    (fun os started H enc _ => liftedJ os started H enc)

theorem join_card_holds : Rows.FnSplitListInvertsJoinCardSaid :=
  Claim7.holds_tied_plain_at .later [] [.data, .pinned] true Rows.fnSplitListInvertsJoinCard.stood.harness false
    row_holdsJ (fun _ h => by cases h) (by kernel_rfl) (fun _ h => by cases h) fnSplitListInvertsJoin_row_tie rfl ⟨rfl, rfl⟩ (by kernel_rfl) rfl
    (fun f fn hf hfn => by
      obtain rfl : f = 4 := Option.some.inj ((show Tryd.prog.funcNamed Rows.fnSplitListInvertsJoinRow.func = some 4 by kernel_rfl).symm.trans hf) |>.symm
      obtain rfl : fn = Tryd.f4 := (Option.some.inj (Tryd.func4.symm.trans hfn)).symm
      exact ⟨by kernel_rfl, fun j t ht => by
        rw [Tryd.params4] at ht
        have hm : t ∈ [23] := by simpa using Array.mem_of_getElem? ht
        have hall : ([23].all fun u => !Tryd.prog.wantsStandIn u) = true := by kernel_rfl
        exact (show Tryd.prog.wantsStandIn t = false by simpa using List.all_eq_true.1 hall t hm)⟩)
    (by kernel_rfl)
end Go.Proofs.Qxb6600405aDoor
