import Derived.Test.Qxb6600405aDoorWalkA
import Derived.Below
namespace Go.Proofs.Qxb6600405aDoor
open Go.RowKit Go.Shelf

set_option maxHeartbeats 1000000 in
/-- strings.Split at a separator of one byte: no package-level variable is read. -/
theorem split_one {P : Program} {ρ : Ren} (L : Lays.n146 P ρ) (hi9 : (P.info? (ρ.t 9)).map (fun i => (i.zero, i.size, i.bytes)) = some (some (.string ByteArray.empty), 1, 16)) (s : ByteArray) (c : UInt8) (w : World)
    (hs : s.size < 4294967281) :
    Calls P (ρ.f 146) #[.string s, .string ⟨#[c]⟩] w fun e w' =>
      e = .returned (.slice (some ⟨w.heap.size, 0, none⟩) (Lib.countB s ⟨#[c]⟩ + 1) (Lib.countB s ⟨#[c]⟩ + 1)) ∧ w' = w.alloc (.cells ((Lib.splitB ⟨#[c]⟩ 0 (Lib.countB s ⟨#[c]⟩) s).map Value.string).toArray (ρ.t 9)) := by
  have h1 : 1 ≤ (⟨#[c]⟩ : ByteArray).size := Nat.le_refl 1
  have hle := Lib.countB_le ⟨#[c]⟩ h1 s.size s (Nat.le_refl _)
  have hlen := Lib.splitB_all ⟨#[c]⟩ h1 0 _ s rfl
  have hI : ∀ (x : ByteArray) (cs : Array Value), x.size ≤ s.size → Calls P (ρ.f 143) #[.string x, .string ⟨#[c]⟩] (w.alloc (.cells cs (ρ.t 9))) fun e w' => e = .returned (.int .i64 (Lib.indexB x ⟨#[c]⟩)) ∧ w' = w.alloc (.cells cs (ρ.t 9)) := fun x cs _ => by
    refine (Any.strings_Index_one { L with } x c _).mono fun e w' ⟨he, hw⟩ => ⟨?_, hw⟩
    rw [he]
    show Ending.returned (Value.int .i64 _) = Ending.returned (Value.int .i64 (Lib.index x.data.toList [c]))
    rw [Lib.index_one]
  have hC : Calls P (ρ.f 138) #[.string s, .string ⟨#[c]⟩] w fun e w' => e = .returned (.int .i64 (Lib.countB s ⟨#[c]⟩)) ∧ w' = w := by
    refine (Any.strings_Count_one { L with } s c w).mono fun e w' ⟨he, hw⟩ => ⟨?_, hw⟩
    rw [he]
    show _ = Ending.returned (Value.int .i64 ((Lib.count s.data.toList [c] : Nat) : Int))
    rw [Lib.count_one]
    rfl
  have cc := Any.strings_genSplit_core { L with } hi9 s ⟨#[c]⟩ 0 (-1) (Lib.countB s ⟨#[c]⟩ + 1) w hs h1 (Nat.zero_le _) hI hC (by decide) (by decide) (by rw [if_pos (by decide)]; omega)
  rw [Nat.add_sub_cancel, hlen] at cc
  have e2 : Lib.cellsOf (Lib.splitB ⟨#[c]⟩ 0 (Lib.countB s ⟨#[c]⟩) s) (Lib.countB s ⟨#[c]⟩ + 1) = ((Lib.splitB ⟨#[c]⟩ 0 (Lib.countB s ⟨#[c]⟩) s).map Value.string).toArray := by rw [← hlen]; exact Lib.cellsOf_full _
  rw [e2] at cc
  clear hI hC
  have t3 := L.t3; have t9 := L.t9; have t31 := L.t31
  have a3 := L.a3; have a9 := L.a9; have a31 := L.a31
  have z3 := L.z3; have v3 := L.v3; have z9 := L.z9; have v9 := L.v9; have z31 := L.z31; have v31 := L.v31
  have e221 : ∀ args w, (callFunc (ρ.f 221) args).run P w = .ok (.enter (ρ.f 221) args) w := enters_of L.f221 (by kernel_rfl) rfl
  go_enter L.f146, Body.n146_ntmps ρ
  go_wp2_with (go_at_fn (ρ.f 221); refine cc.mono ?_; rintro e w' ⟨rfl, hw⟩; rw [hw])
  go_ret
  exact ⟨rfl, rfl⟩


/-- The pieces of s between its commas. -/
def pieces (s : ByteArray) : List ByteArray := Lib.splitB ⟨#[44]⟩ 0 (Lib.countB s ⟨#[44]⟩) s

theorem pieces_length (s : ByteArray) : (pieces s).length = Lib.countB s ⟨#[44]⟩ + 1 := Lib.splitB_all ⟨#[44]⟩ (Nat.le_refl 1) 0 _ s rfl
theorem pieces_cut (s : ByteArray) : (pieces s).map (·.data.toList) = cutAt 44 s.data.toList := split_pieces 44 s
theorem pieces_le (s : ByteArray) : (pieces s).length ≤ s.size + 1 := by
  have hc : Lib.countB s ⟨#[44]⟩ ≤ s.size := Lib.countB_le ⟨#[44]⟩ (Nat.le_refl 1) s.size s (Nat.le_refl _)
  rw [pieces_length]; omega

/-- v is a slice, not nil, that holds the strings ps. -/
def holdsS (w : World) (v : Value) (ps : List ByteArray) : Prop :=
  ∃ B cap, v = .slice (some ⟨B, 0, none⟩) ps.length cap ∧ ∀ i, i < ps.length → w.cell? ⟨B, i, none⟩ = some (.string (ps.getD i ByteArray.empty))
theorem holdsS.below {w w' : World} {v : Value} {ps : List ByteArray} (h : holdsS w v ps) (hb : Below w.heap.size w w') : holdsS w' v ps := by
  obtain ⟨B, cap, rfl, hc⟩ := h
  refine ⟨B, cap, rfl, fun i hi => ?_⟩
  have := hc i hi
  exact (hb.cell (World.block_lt_of_cell? _ _ this)).trans this
def firstBad (ps : List ByteArray) : Option ByteArray := ps.find? fun p => !vB p

theorem getD_at {ps : List ByteArray} {k : Nat} (hk : k < ps.length) : ps.getD k ByteArray.empty = ps[k] := by
  rw [List.getD_eq_getElem?_getD, List.getElem?_eq_getElem hk]; rfl
theorem bad_at {ps : List ByteArray} {k : Nat} {p : ByteArray} (hk : k < ps.length) (hp : ps.getD k ByteArray.empty = p) (ha : firstBad (ps.take k) = none) (h : (!vB p) = true) : firstBad ps = some p := by
  rw [getD_at hk] at hp
  unfold firstBad at *
  rw [← List.take_append_drop k ps, List.find?_append, ha, List.drop_eq_getElem_cons hk, hp, List.find?_cons, h]
  rfl
theorem bad_more {ps : List ByteArray} {k : Nat} {p : ByteArray} (hk : k < ps.length) (hp : ps.getD k ByteArray.empty = p) (ha : firstBad (ps.take k) = none) (h : (!vB p) = false) : firstBad (ps.take (k + 1)) = none := by
  rw [getD_at hk] at hp
  unfold firstBad at *
  rw [List.take_succ_eq_append_getElem hk, List.find?_append, ha, hp, List.find?_cons, h]
  rfl

theorem split_at (s : ByteArray) (w : World) (hs : s.size < 4294967281) :
    Calls Tryd.prog 12 #[.string s, .string ⟨#[44]⟩] w fun e w' => ∃ B, e = .returned (.slice (some ⟨B, 0, none⟩) (pieces s).length (pieces s).length) ∧ (∀ i, i < (pieces s).length → w'.cell? ⟨B, i, none⟩ = some (.string ((pieces s).getD i ByteArray.empty))) ∧ Below w.heap.size w w' := by
  have c : Calls Tryd.prog 12 #[.string s, .string ⟨#[44]⟩] w fun e w' => e = .returned (.slice (some ⟨w.heap.size, 0, none⟩) (Lib.countB s ⟨#[44]⟩ + 1) (Lib.countB s ⟨#[44]⟩ + 1)) ∧ w' = w.alloc (.cells ((pieces s).map Value.string).toArray 9) :=
    split_one Tryd.lays146 (by kernel_rfl) s 44 w (by omega)
  refine c.mono fun e w' ⟨he, hw⟩ => ⟨w.heap.size, ?_, fun i hi => ?_, ?_⟩
  · rw [he, pieces_length]
  · rw [hw, World.cell?_alloc_new, List.getElem?_toArray, List.getElem?_map, List.getD_eq_getElem?_getD, List.getElem?_eq_getElem hi]
    rfl
  · rw [hw]; exact (Below.refl _ _).alloc (Nat.le_refl _) _

set_option maxHeartbeats 400000 in
theorem list_empty (s : ByteArray) (w : World) (he : s.toList.isEmpty = true) :
    Calls Tryd.prog 6 #[.string s] w fun e w' => ∃ v, e = .returned (.tuple #[v, .string ByteArray.empty, .bool true]) ∧ holdsS w' v [] ∧ Below w.heap.size w w' := by
  go_enter Tryd.func6, Tryd.ntmps6
  go_wp2
  go_ret3
  exact ⟨_, rfl, ⟨_, _, rfl, fun i hi => absurd hi (Nat.not_lt_zero _)⟩, (Below.refl _ _).alloc (Nat.le_refl _) _⟩
set_option maxHeartbeats 400000 in
theorem list_some (s : ByteArray) (w : World) (he : s.toList.isEmpty = false) (ps : List ByteArray) (hlen : ps.length ≤ 4294967296)
    (hsplit : Calls Tryd.prog 12 #[.string s, .string ⟨#[44]⟩] w fun e w' => ∃ B, e = .returned (.slice (some ⟨B, 0, none⟩) ps.length ps.length) ∧ (∀ i, i < ps.length → w'.cell? ⟨B, i, none⟩ = some (.string (ps.getD i ByteArray.empty))) ∧ Below w.heap.size w w') :
    Calls Tryd.prog 6 #[.string s] w fun e w' => Below w.heap.size w w' ∧ ((firstBad ps = none ∧ ∃ v, e = .returned (.tuple #[v, .string ByteArray.empty, .bool true]) ∧ holdsS w' v ps) ∨
      (∃ p, firstBad ps = some p ∧ e = .returned (.tuple #[.slice none 0 0, .string p, .bool false]))) := by
  go_enter Tryd.func6, Tryd.ntmps6
  go_wp2_with fail
  refine hsplit.mono ?_
  clear hsplit
  rintro e w1 ⟨B, rfl, hcell, hb⟩
  have HC : Hid (∀ i, i < ps.length → w1.cell? ⟨B, i, none⟩ = some (.string (ps.getD i ByteArray.empty))) := hcell
  clear hcell
  go_wp2_with fail
  go_loop [2, 14] (fun v i => ∃ k : Nat, k ≤ ps.length ∧ v = .slice (some ⟨B, 0, none⟩) ps.length ps.length ∧ i = .int .i64 k ∧ firstBad (ps.take k) = none) (fun _ i => ps.length - (intOf i).toNat)
  case atStart => exact ⟨0, Nat.zero_le _, rfl, rfl, rfl⟩
  case round =>
    obtain ⟨k, hk, rfl, rfl, ha⟩ := hrel
    have HA : Hid (firstBad (ps.take k) = none) := ha
    clear ha
    by_cases hlt : k < ps.length
    · have hc := HC.out k hlt
      obtain ⟨p, hp⟩ : ∃ p, ps.getD k ByteArray.empty = p := ⟨_, rfl⟩
      rw [hp] at hc
      have HP : Hid (ps.getD k ByteArray.empty = p) := hp
      clear hp
      go_wp2_with (go_at_call 10; refine (valid_any _ _).mono ?_; rintro e w' ⟨rfl, rfl⟩)
      · go_ret3
        exact ⟨hb, .inr ⟨p, bad_at hlt HP.out HA.out ‹_›, rfl⟩⟩
      · go_round
        case rel => exact ⟨k + 1, by omega, rfl, by go_num, bad_more hlt HP.out HA.out ‹_›⟩
        case measure => simp [intOf]; omega
    · go_wp2
      go_ret3
      refine ⟨hb, .inl ⟨?_, _, rfl, B, _, rfl, HC.out⟩⟩
      have := HA.out
      rwa [List.take_of_length_le (by omega)] at this
end Go.Proofs.Qxb6600405aDoor
