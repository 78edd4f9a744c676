import Derived.Test.Qxb6600768aGreatDoorWalkJ
namespace Go.Proofs.Qxb6600768aGreatDoor
open Go.RowKit Go.Shelf

theorem index_found : ∀ (p q : List UInt8) (c : UInt8), (∀ x ∈ p, x ≠ c) → Lib.indexByte (p ++ c :: q) c = (p.length : Int)
  | [], q, c, _ => by simp [Lib.indexByte]
  | x :: p, q, c, h => by
    have ih := index_found p q c fun y hy => h y (List.mem_cons_of_mem _ hy)
    have hx : (x == c) = false := by simpa using h x (List.mem_cons_self ..)
    show (if x == c then 0 else if Lib.indexByte (p ++ c :: q) c == -1 then -1 else Lib.indexByte (p ++ c :: q) c + 1) = _
    rw [hx, ih]
    simp
theorem index_none : ∀ (l : List UInt8) (c : UInt8), (∀ x ∈ l, x ≠ c) → Lib.indexByte l c = -1
  | [], c, _ => rfl
  | x :: l, c, h => by
    have ih := index_none l c fun y hy => h y (List.mem_cons_of_mem _ hy)
    have hx : (x == c) = false := by simpa using h x (List.mem_cons_self ..)
    show (if x == c then 0 else if Lib.indexByte l c == -1 then -1 else Lib.indexByte l c + 1) = _
    rw [hx, ih]
    rfl

set_option maxRecDepth 20000 in
set_option maxHeartbeats 1000000 in
theorem cut36_found (s : ByteArray) (p q : List UInt8) (c : UInt8) (h : s.data.toList = p ++ c :: q) (hc : ∀ x ∈ p, x ≠ c) (hs : s.size ≤ 4294967296) (w : World) :
    Calls Tryz.prog 36 #[.string s, .string ⟨#[c]⟩] w fun x w' => x = .returned (.tuple #[.string ⟨p.toArray⟩, .string ⟨q.toArray⟩, .bool true]) ∧ Below w.heap.size w w' := by
  have hi := Any.stringslite_Index_one Tryz.lays219 s c
  rw [h, index_found p q c hc] at hi
  have hl : p.length < s.size := by rw [← size_eq_data, h]; simp
  have hl1 : p.length + 1 ≤ s.size := by omega
  have h1 : s.extract 0 p.length = ⟨p.toArray⟩ := extract_mid (p := []) (d := p) (q := c :: q) (by rw [h]; rfl) rfl (by simp)
  have h2 : s.extract (p.length + 1) s.size = ⟨q.toArray⟩ := extract_rest (p := p ++ [c]) (d := q) (by rw [h]; simp) (by simp)
  have HI := hid hi
  clear hi h hc
  go_enter Tryz.func36, Tryz.ntmps36
  go_wp2_with fail
  refine (HI.out _).mono ?_
  rintro x w1 ⟨rfl, hw1⟩
  subst hw1
  go_wp2
  go_quiet (fail)
  go_wp2
  go_ret3
  exact ⟨rfl, below_drewN (Below.refl _ _) _⟩
theorem cut36_none (s : ByteArray) (c : UInt8) (hc : ∀ x ∈ s.data.toList, x ≠ c) (w : World) :
    Calls Tryz.prog 36 #[.string s, .string ⟨#[c]⟩] w fun x w' => x = .returned (.tuple #[.string s, .string ⟨#[]⟩, .bool false]) ∧ w' = w := by
  have hi := Any.stringslite_Index_one Tryz.lays219 s c
  rw [index_none _ c hc] at hi
  have HI := hid hi
  clear hi hc
  go_enter Tryz.func36, Tryz.ntmps36
  go_wp2_with fail
  refine (HI.out _).mono ?_
  rintro x w1 ⟨rfl, hw1⟩
  subst hw1
  go_wp2
  go_ret3
  exact ⟨rfl, rfl⟩
theorem cut_found (s : ByteArray) (p q : List UInt8) (c : UInt8) (h : s.data.toList = p ++ c :: q) (hc : ∀ x ∈ p, x ≠ c) (hs : s.size ≤ 4294967296) (w : World) :
    Calls Tryz.prog 28 #[.string s, .string ⟨#[c]⟩] w fun x w' => x = .returned (.tuple #[.string ⟨p.toArray⟩, .string ⟨q.toArray⟩, .bool true]) ∧ Below w.heap.size w w' := by
  go_enter Tryz.func28, Tryz.ntmps28
  go_wp2_with fail
  refine (cut36_found s p q c h hc hs _).mono ?_
  rintro x w1 ⟨rfl, hw1⟩
  go_wp2
  go_ret3
  exact ⟨rfl, hw1⟩
theorem cut_none (s : ByteArray) (c : UInt8) (hc : ∀ x ∈ s.data.toList, x ≠ c) (w : World) :
    Calls Tryz.prog 28 #[.string s, .string ⟨#[c]⟩] w fun x w' => x = .returned (.tuple #[.string s, .string ⟨#[]⟩, .bool false]) ∧ w' = w := by
  go_enter Tryz.func28, Tryz.ntmps28
  go_wp2_with fail
  refine (cut36_none s c hc _).mono ?_
  rintro x w1 ⟨rfl, hw1⟩
  subst hw1
  go_wp2
  go_ret3
  exact ⟨rfl, rfl⟩
end Go.Proofs.Qxb6600768aGreatDoor
