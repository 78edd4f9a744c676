import Derived.Test.Qxb6600694aDoorWalkE
import Derived.Laws.OwnMore
namespace Go.Proofs.Qxb6600694aDoor
open Go.RowKit Go.Shelf

theorem tcells_at : ∀ (ts : List (Bool × List UInt8)) (k : Nat) (h : k < ts.length), (tcells ts)[k * 2]? = some (.bool ts[k].1) ∧ (tcells ts)[k * 2 + 1]? = some (.string ⟨ts[k].2.toArray⟩)
  | [], k, h => absurd h (Nat.not_lt_zero _)
  | t :: ts, 0, _ => ⟨rfl, rfl⟩
  | t :: ts, k + 1, h => by
    have := tcells_at ts k (by simpa using h)
    have e1 : (k + 1) * 2 = k * 2 + 1 + 1 := by omega
    rw [e1]
    simpa [tcells] using this
theorem wcells_take {ts : List (Bool × List UInt8)} {k : Nat} (h : k < ts.length) : wcells (ts.take (k + 1)) = wcells (ts.take k) ++ [.bool ts[k].1] := by
  unfold wcells
  rw [List.take_succ_eq_append_getElem h, List.map_append]; rfl
theorem ocells_take {ts : List (Bool × List UInt8)} {k : Nat} (h : k < ts.length) : ocells (ts.take (k + 1)) = ocells (ts.take k) ++ [.string ⟨ts[k].2.toArray⟩] := by
  unfold ocells
  rw [List.take_succ_eq_append_getElem h, List.map_append]; rfl

theorem tview {w : World} {B : Nat} {v : Value} {ts : List (Bool × List UInt8)} (h : w.ownsRow B 40 2 v ts.length (tcells ts)) :
    ∃ ao cap, v = .slice ao ts.length cap ∧ ∀ k (hk : k < ts.length), ∃ g, ao = some ⟨g, 0, none⟩ ∧ w.cell? ⟨g, k * 2, none⟩ = some (.bool ts[k].1) ∧ w.cell? ⟨g, k * 2 + 1, none⟩ = some (.string ⟨ts[k].2.toArray⟩) := by
  rcases h.2 with ⟨rfl, hn⟩ | ⟨g, cap, cur, rfl, _⟩
  · exact ⟨none, 0, by rw [hn], fun k hk => by omega⟩
  · refine ⟨some ⟨g, 0, none⟩, cap, rfl, fun k hk => ⟨g, rfl, ?_, ?_⟩⟩
    · rw [h.cellAt (k * 2) (by omega)]; exact (tcells_at ts k hk).1
    · rw [h.cellAt (k * 2 + 1) (by omega)]; exact (tcells_at ts k hk).2
def zzP (w : World) (l : List UInt8) (e : Ending) (w' : World) : Prop := Below w.heap.size w w' ∧
      ((star l = true ∧ e = .returned (.tuple #[.bool false, .bool true, .slice none 0 0, .slice none 0 0, .bool true])) ∨
       (star l = false ∧ M false l = none ∧ e = .returned (.tuple #[.bool true, .bool false, .slice none 0 0, .slice none 0 0, .bool false])) ∨
       (star l = false ∧ ∃ ts vw vo, M false l = some ts ∧ e = .returned (.tuple #[.bool false, .bool false, vw, vo, .bool true]) ∧ ts.length ≤ 1048576 ∧ viewV w' vw (wcells ts) ∧ viewV w' vo (ocells ts)))

set_option linter.unusedSimpArgs false
set_option maxRecDepth 20000 in
set_option maxHeartbeats 2000000 in
theorem zz_any (s : ByteArray) (w : World) (hs : s.size ≤ 1048576) : Calls Tryd.prog 6 #[.string s] w (zzP w s.data.toList) := by
  have c13 := parse_any s w hs
  obtain ⟨i4, hi4, hy0, hy1, hy2⟩ := info_parts info4
  obtain ⟨i9, hi9, hz0, hz1, hz2⟩ := info_parts info9
  go_enter Tryd.func6, Tryd.ntmps6
  go_wp2_with fail
  refine c13.mono ?_
  clear c13
  rintro e w1 ⟨hb1, ⟨hst, T, rfl, hT0, hT1⟩ | ⟨hst, hM, rfl⟩ | ⟨hst, ts, T, v, hM, rfl, hlen, hT0, hT1, hTf, hown⟩⟩
  · have HS := hid hst
    clear hst
    go_wp2
    go_loop [4, 5, 8] (fun vw vo i => vw = .slice none 0 0 ∧ vo = .slice none 0 0 ∧ i = .int .i64 0) (fun _ _ _ => 0)
    case atStart => exact ⟨rfl, rfl, rfl⟩
    case round =>
      obtain ⟨rfl, rfl, rfl⟩ := hrel
      go_wp2
      go_quiet (fail)
      go_wp2
      exact bodyPost_ret (v := .tuple #[.bool false, .bool true, .slice none 0 0, .slice none 0 0, .bool true]) (by simp [results, Tryd.results6, go_sem]) rfl ⟨below_drewN hb1 _, .inl ⟨HS.out, rfl⟩⟩
  · have HS := hid hst
    have HM := hid hM
    clear hst hM
    go_wp2
    exact bodyPost_ret (v := .tuple #[.bool true, .bool false, .slice none 0 0, .slice none 0 0, .bool false]) (by simp [results, Tryd.results6, go_sem]) rfl ⟨hb1, .inr (.inl ⟨HS.out, HM.out, rfl⟩)⟩
  · have HS := hid hst
    have HM := hid hM
    obtain ⟨ao, cap, rfl, hview⟩ := tview hown
    have HV := hid hview
    have hTlt := World.block_lt_of_cell? _ _ hT0
    clear hst hM hview hown hTf
    go_wp2
    go_loopw [4, 5, 8] (fun vw0 vo0 i wr => ∃ (vw vo : Value) (k : Nat), vw = vw0 ∧ vo = vo0 ∧ i = .int .i64 k ∧ k ≤ ts.length ∧
        wr.ownsRow w1.heap.size 4 1 vw k (wcells (ts.take k)) ∧ wr.ownsRow w1.heap.size 9 1 vo k (ocells (ts.take k)) ∧ Below w1.heap.size w1 wr) (fun _ _ i _ => ts.length - (intOf i).toNat)
    case atStart => exact ⟨_, _, 0, rfl, rfl, rfl, Nat.zero_le _, World.ownsRow_nil _ _ _ _, World.ownsRow_nil _ _ _ _, Below.refl _ _⟩
    case round =>
      obtain ⟨vw, vo, k, rfl, rfl, rfl, hk, how, hoo, hbel⟩ := hrel
      have HB := hid hbel
      have HOo := hid hoo
      have hr0 : wr.cell? ⟨T, 0, none⟩ = some (.bool false) := (hbel.cell hTlt).trans hT0
      have hr1 : wr.cell? ⟨T, 1, none⟩ = some (.slice ao ts.length cap) := (hbel.cell (p := ⟨T, 1, none⟩) hTlt).trans hT1
      have hsz := hbel.size
      clear hbel hoo
      by_cases hlt : k < ts.length
      · obtain ⟨g, rfl, hg0, hg1⟩ := HV.out k hlt
        have hglt := World.block_lt_of_cell? _ _ hg0
        have hgr0 : wr.cell? ⟨g, k * 2, none⟩ = some (.bool ts[k].1) := (HB.out.cell (p := ⟨g, k * 2, none⟩) hglt).trans hg0
        have hgr1 : wr.cell? ⟨g, k * 2 + 1, none⟩ = some (.string ⟨ts[k].2.toArray⟩) := (HB.out.cell (p := ⟨g, k * 2 + 1, none⟩) hglt).trans hg1
        go_wp2_with (at_builtin; refine wpList_append_own _ rfl (.tmp 26) (.tmp 35) 23 rfl w1.heap.size 4 i4 (.bool false) 1 1 Tryd.underlying23 hi4 hy0 hy1 hy2 rfl (by decide) _ _ _ rfl (how.alloc _) ⟨wr.heap.size, 0, none⟩ 1 1 [.bool ts[k].1] rfl rfl ?c1 ?c2 ?c3 ?c4 ?c5 ?_)
        case c2 => first | rfl | (intro u hu; simp at hu; subst hu; rfl)
        case c3 => unfold maxLen; omega
        case c4 => omega
        case c5 => first | omega | (simp; omega)
        intro vw2 w2 how2 hgrow2 hnn2
        have HOw2 := hid (show w2.ownsRow w1.heap.size 4 1 vw2 (k + 1) (wcells (ts.take (k + 1))) by rw [wcells_take hlt]; exact how2)
        have hoo2 := kept_other (how.alloc _) (HOo.out.alloc _) hgrow2 (by decide)
        have HB2 := hid ((HB.out.alloc hsz _).grown hgrow2 (by simp; omega) (fun k hk => (how.lt k hk).1))
        have hsz2 := HB2.out.size
        have hs0 : w2.cell? ⟨T, 0, none⟩ = some (.bool false) := (HB2.out.cell hTlt).trans hT0
        have hs1 : w2.cell? ⟨T, 1, none⟩ = some (.slice (some ⟨g, 0, none⟩) ts.length cap) := (HB2.out.cell (p := ⟨T, 1, none⟩) hTlt).trans hT1
        have hgs1 : w2.cell? ⟨g, k * 2 + 1, none⟩ = some (.string ⟨ts[k].2.toArray⟩) := (HB2.out.cell (p := ⟨g, k * 2 + 1, none⟩) hglt).trans hg1
        have hHT0 := hid hT0
        have hHT1 := hid hT1
        clear how2 hgrow2 hnn2 how HOo HB hr0 hr1 hgr0 hgr1 hg0 hg1 hT0 hT1
        go_wp2_with (at_builtin; refine wpList_append_own _ rfl (.tmp 37) (.tmp 46) 24 rfl w1.heap.size 9 i9 (.string ByteArray.empty) 1 16 Tryd.underlying24 hi9 hz0 hz1 hz2 rfl (by decide) _ _ _ rfl (hoo2.alloc _) ⟨w2.heap.size, 0, none⟩ 1 1 [.string ⟨ts[k].2.toArray⟩] rfl rfl ?d1 ?d2 ?d3 ?d4 ?d5 ?_)
        case d1 => exact cell_one_new _ _ _
        case d2 => first | rfl | (intro u hu; simp at hu; subst hu; rfl)
        case d3 => unfold maxLen; omega
        case d4 => omega
        case d5 => first | omega | (simp; omega)
        intro vo3 w3 hoo3 hgrow3 hnn3
        have HOo3 := hid (show w3.ownsRow w1.heap.size 9 1 vo3 (k + 1) (ocells (ts.take (k + 1))) by rw [ocells_take hlt]; exact hoo3)
        have HOw3 := hid (kept_other (hoo2.alloc _) (HOw2.out.alloc _) hgrow3 (by decide))
        have HB3 := hid ((HB2.out.alloc hsz2 _).grown hgrow3 (by simp; omega) (fun k hk => (hoo2.lt k hk).1))
        clear hoo3 hgrow3 hnn3 hoo2 HOw2 HB2
        go_wp2
        go_roundw
        case rel => exact ⟨vw2, vo3, k + 1, rfl, rfl, by go_num, by omega, HOw3.out, HOo3.out, HB3.out⟩
        case measure => simp [intOf]; omega
      · go_wp2
        go_quiet (fail)
        go_wp2
        exact bodyPost_ret (v := .tuple #[.bool false, .bool false, vw, vo, .bool true]) (by simp [results, Tryd.results6, go_sem]) rfl ⟨below_drewN (hb1.trans (HB.out.mono hb1.size)) _, .inr (.inr ⟨HS.out, ts, vw, vo, HM.out, rfl, hlen, by have := viewV_of_owns how; rw [List.take_of_length_le (by omega)] at this; exact this.below (below_drewN (Below.refl _ _) _), by have := viewV_of_owns HOo.out; rw [List.take_of_length_le (by omega)] at this; exact this.below (below_drewN (Below.refl _ _) _)⟩)⟩
end Go.Proofs.Qxb6600694aDoor
