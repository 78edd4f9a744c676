import Derived.Test.Qxb6600768aGreatDoorWalkM
namespace Go.Proofs.Qxb6600768aGreatDoor
open Go.RowKit Go.Shelf

theorem dec_parts (neg : Bool) (W f : List UInt8) (en : Bool) (e : List UInt8) : ∃ a b c, decA neg W f en e = .agg #[.bool neg, .string a, .bool b, .string c] ∧ decT neg W f en e = .tuple #[.bool neg, .string a, .bool b, .string c] := by
  unfold decA decT
  by_cases h : trim (W ++ f) = []
  · rw [if_pos h, if_pos h]; exact ⟨_, _, _, rfl, rfl⟩
  · rw [if_neg h, if_neg h]; exact ⟨_, _, _, rfl, rfl⟩

set_option maxRecDepth 20000 in
set_option maxHeartbeats 2000000 in
theorem zzParse_any (s : ByteArray) (w : World) (hs : s.size ≤ 1048576) {neg en : Bool} {W fp f ep e : List UInt8} (hN : Num s.data.toList neg W fp f ep en e) (ht : Tab w) :
    Calls Tryz.prog 8 #[.string s] w fun x w' => x = .returned (decT neg W f en e) ∧ Below w.heap.size w w' := by
  obtain ⟨a, b, c, hA, hT⟩ := dec_parts neg W f en e
  have hp := parseDec_any s w hs hN ht
  rw [hA] at hp
  rw [hT]
  have HP := hid hp
  clear hp hN ht hA hT
  go_enter Tryz.func8, Tryz.ntmps8
  go_wp2_with fail
  refine HP.out.mono ?_
  rintro x w1 ⟨rfl, hb1⟩
  have HB := hid hb1
  clear hb1
  go_wp2
  go_quiet (fail)
  go_wp2
  exact bodyPost_ret (v := .tuple #[.bool neg, .string a, .bool b, .string c]) (by simp [results, Tryz.results8, go_sem]) rfl ⟨rfl, by
    refine below_drewN ?_ _
    repeat first | exact HB.out | refine Below.setCell ?_ (by have := HB.out.size; simp; omega) _ | refine Below.alloc ?_ HB.out.size _⟩
end Go.Proofs.Qxb6600768aGreatDoor
