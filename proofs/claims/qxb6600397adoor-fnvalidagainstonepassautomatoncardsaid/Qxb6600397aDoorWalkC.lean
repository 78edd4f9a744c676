import Derived.Test.Qxb6600397aDoorWalkB
import Derived.Test.Qxb6600397aDoorShelf
namespace Go.Proofs.Qxb6600397aDoor
open Go.RowKit Go.Shelf Go.Lib

set_option maxHeartbeats 1000000 in
/-- strings.Split at a separator of one byte: no package-level variable is read. -/
theorem split_one {P : Program} {ρ : Ren} (L : Lays.n146 P ρ) (hi9 : (P.info? (ρ.t 9)).map (fun i => (i.zero, i.size, i.bytes)) = some (some (.string ByteArray.empty), 1, 16)) (s : ByteArray) (c : UInt8) (w : World)
    (hs : s.size < 4294967281) :
    Calls P (ρ.f 146) #[.string s, .string ⟨#[c]⟩] w fun e w' =>
      e = .returned (.slice (some ⟨w.heap.size, 0, none⟩) (Lib.countB s ⟨#[c]⟩ + 1) (Lib.countB s ⟨#[c]⟩ + 1)) ∧ w' = w.alloc (.cells ((Lib.splitB ⟨#[c]⟩ 0 (Lib.countB s ⟨#[c]⟩) s).map Value.string).toArray (ρ.t 9)) := by
  have h1 : 1 ≤ (⟨#[c]⟩ : ByteArray).size := Nat.le_refl 1
  have hle := Lib.countB_le ⟨#[c]⟩ h1 s.size s (Nat.le_refl _)
  have hlen := Lib.splitB_all ⟨#[c]⟩ h1 0 _ s rfl
  have hI : ∀ (x : ByteArray) (cs : Array Value), x.size ≤ s.size → Calls P (ρ.f 143) #[.string x, .string ⟨#[c]⟩] (w.alloc (.cells cs (ρ.t 9))) fun e w' => e = .returned (.int .i64 (Lib.indexB x ⟨#[c]⟩)) ∧ w' = w.alloc (.cells cs (ρ.t 9)) := fun x cs _ => by
    refine (Any.strings_Index_one { L with } x c _).mono fun e w' ⟨he, hw⟩ => ⟨?_, hw⟩
    rw [he]
    show Ending.returned (Value.int .i64 _) = Ending.returned (Value.int .i64 (Lib.index x.data.toList [c]))
    rw [Lib.index_one]
  have hC : Calls P (ρ.f 138) #[.string s, .string ⟨#[c]⟩] w fun e w' => e = .returned (.int .i64 (Lib.countB s ⟨#[c]⟩)) ∧ w' = w := by
    refine (Any.strings_Count_one { L with } s c w).mono fun e w' ⟨he, hw⟩ => ⟨?_, hw⟩
    rw [he]
    show _ = Ending.returned (Value.int .i64 ((Lib.count s.data.toList [c] : Nat) : Int))
    rw [Lib.count_one]
    rfl
  have cc := Any.strings_genSplit_core { L with } hi9 s ⟨#[c]⟩ 0 (-1) (Lib.countB s ⟨#[c]⟩ + 1) w hs h1 (Nat.zero_le _) hI hC (by decide) (by decide) (by rw [if_pos (by decide)]; omega)
  rw [Nat.add_sub_cancel, hlen] at cc
  have e2 : Lib.cellsOf (Lib.splitB ⟨#[c]⟩ 0 (Lib.countB s ⟨#[c]⟩) s) (Lib.countB s ⟨#[c]⟩ + 1) = ((Lib.splitB ⟨#[c]⟩ 0 (Lib.countB s ⟨#[c]⟩) s).map Value.string).toArray := by rw [← hlen]; exact Lib.cellsOf_full _
  rw [e2] at cc
  clear hI hC
  have t3 := L.t3; have t9 := L.t9; have t31 := L.t31
  have a3 := L.a3; have a9 := L.a9; have a31 := L.a31
  have z3 := L.z3; have v3 := L.v3; have z9 := L.z9; have v9 := L.v9; have z31 := L.z31; have v31 := L.v31
  have e221 : ∀ args w, (callFunc (ρ.f 221) args).run P w = .ok (.enter (ρ.f 221) args) w := enters_of L.f221 (by kernel_rfl) rfl
  go_enter L.f146, Body.n146_ntmps ρ
  go_wp2_with (go_at_fn (ρ.f 221); refine cc.mono ?_; rintro e w' ⟨rfl, hw⟩; rw [hw])
  go_ret
  exact ⟨rfl, rfl⟩

/-- The pieces of s between its full stops. -/
def pieces (s : ByteArray) : List ByteArray := Lib.splitB ⟨#[46]⟩ 0 (Lib.countB s ⟨#[46]⟩) s

theorem pieces_length (s : ByteArray) : (pieces s).length = Lib.countB s ⟨#[46]⟩ + 1 := Lib.splitB_all ⟨#[46]⟩ (Nat.le_refl 1) 0 _ s rfl
theorem pieces_ok (s : ByteArray) : (pieces s).all okB = okAll (cutAt 46 s.data.toList) := by
  rw [← split_pieces]
  unfold okAll pieces
  rw [List.all_map]
  rfl
theorem cutAt_len (c : UInt8) : ∀ (l : List UInt8) (p : List UInt8), p ∈ cutAt c l → p.length ≤ l.length
  | [], p, h => by simp [cutAt] at h; simp [h]
  | x :: l, p, h => by
    have ih := cutAt_len c l
    unfold cutAt at h
    split at h
    · rcases List.mem_cons.1 h with rfl | h
      · simp
      · have := ih p h; simp; omega
    · split at h
      · next a t he =>
        rcases List.mem_cons.1 h with rfl | h
        · have := ih a (by rw [he]; simp); simp; omega
        · have := ih p (by rw [he]; simp [h]); simp; omega
      · simp at h; simp [h]
theorem pieces_size (s : ByteArray) (i : Nat) (h : i < (pieces s).length) : ((pieces s).getD i ByteArray.empty).size ≤ s.size := by
  rw [List.getD_eq_getElem?_getD, List.getElem?_eq_getElem h]
  show ((pieces s)[i]).size ≤ _
  have hm : ((pieces s)[i]).data.toList ∈ cutAt 46 s.data.toList := by
    rw [← split_pieces]
    exact List.mem_map.2 ⟨_, List.getElem_mem h, rfl⟩
  have := cutAt_len 46 _ _ hm
  simpa using this

theorem split_at (s : ByteArray) (w : World) (hs : s.size ≤ 1048576) :
    Calls Tryd.prog 9 #[.string s, .string ⟨#[46]⟩] w fun e w' => ∃ B, e = .returned (.slice (some ⟨B, 0, none⟩) (pieces s).length (pieces s).length) ∧ (∀ i, i < (pieces s).length → w'.cell? ⟨B, i, none⟩ = some (.string ((pieces s).getD i ByteArray.empty))) ∧ Below w.heap.size w w' := by
  have c : Calls Tryd.prog 9 #[.string s, .string ⟨#[46]⟩] w fun e w' => e = .returned (.slice (some ⟨w.heap.size, 0, none⟩) (Lib.countB s ⟨#[46]⟩ + 1) (Lib.countB s ⟨#[46]⟩ + 1)) ∧ w' = w.alloc (.cells ((pieces s).map Value.string).toArray 9) :=
    split_one Tryd.lays146 (by kernel_rfl) s 46 w (by omega)
  refine c.mono fun e w' ⟨he, hw⟩ => ⟨w.heap.size, ?_, fun i hi => ?_, ?_⟩
  · rw [he, pieces_length]
  · rw [hw, World.cell?_alloc_new, List.getElem?_toArray, List.getElem?_map, List.getD_eq_getElem?_getD, List.getElem?_eq_getElem hi]
    rfl
  · rw [hw]; exact (Below.refl _ _).alloc (Nat.le_refl _) _

theorem valid_any (s : ByteArray) (w : World) (hs : s.size ≤ 1048576) :
    Calls Tryd.prog 6 #[.string s] w fun e w' => e = .returned (.bool (aut true s.data.toList)) ∧ Below w.heap.size w w' := by
  by_cases he : s.toList.isEmpty = true
  · have h0 : s.data.toList = [] := by rw [Lib.toList_data] at he; simpa using he
    have HA : Hid (aut true s.data.toList = false) := by rw [h0]; rfl
    clear h0
    go_enter Tryd.func6, Tryd.ntmps6
    go_wp2
    go_ret
    exact ⟨ret_b HA.out.symm, Below.refl _ _⟩
  · have hc : Lib.countB s ⟨#[46]⟩ ≤ s.size := Lib.countB_le ⟨#[46]⟩ (Nat.le_refl 1) s.size s (Nat.le_refl _)
    have := valid_of_split s w (pieces s) (by simpa using he) (by rw [pieces_length]; omega) (fun i hi => Nat.le_trans (pieces_size s i hi) hs) (split_at s w hs)
    rw [pieces_ok, ← (aut_cut _).1] at this
    exact this

set_option maxHeartbeats 400000 in
theorem law_any (s : ByteArray) (w : World) (hs : s.size ≤ maxLen) :
    Calls Tryd.prog 3 #[.string s] w fun e w' => e = .returned (.bool true) ∧ Below w.heap.size w w' := by
  unfold maxLen at hs
  by_cases hb : s.size ≤ 1048576
  · go_enter Tryd.func3, Tryd.ntmps3
    go_wp2_with (first | (go_at_call 6; refine (valid_any _ _ hb).mono ?_; rintro e w1 ⟨rfl, hw1⟩) | (go_at_call 7; refine (model_any _ _ hb).mono ?_; rintro e w2 ⟨rfl, rfl⟩) | go_in)
    go_ret
    exact ⟨ret_b (by simp), hw1⟩
  · go_enter Tryd.func3, Tryd.ntmps3
    go_wp2
    go_ret
    exact ⟨rfl, Below.refl _ _⟩
end Go.Proofs.Qxb6600397aDoor
