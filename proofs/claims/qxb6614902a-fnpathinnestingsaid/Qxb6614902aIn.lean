/-
  PATHS: the plain functions, and the walks over Path.In and what it calls.
-/
import Derived.Test.Qxb6614902aRows
import Derived.WalkKit
import Derived.WalkSpells
namespace Go.Proofs.Qxb6614902a.In
open Go.RowKit

/-- p is d, or lies below it. -/
def inL (p d : List UInt8) : Bool := (p.take d.length == d) && ((p.drop d.length).isEmpty || (p.drop d.length).head? == some 47)

theorem inL_app (d r : List UInt8) : inL (d ++ r) d = (r.isEmpty || r.head? == some 47) := by
  simp [inL]
theorem inL_short (p d : List UInt8) (h : p.length < d.length) : inL p d = false := by
  unfold inL
  have : (p.take d.length == d) = false := by
    rw [beq_eq_false_iff_ne]
    intro e
    have := congrArg List.length e
    simp at this
    omega
  rw [this]; rfl

theorem ret_bool {a b : Bool} (h : a = b) : Ending.returned (.bool a) = .returned (.bool b) := by rw [h]

theorem len_list (p : ByteArray) : p.data.toList.length = p.size := Array.length_toList

theorem take_list (p : ByteArray) (n : Nat) : (p.extract 0 n).toList = p.data.toList.take n := by
  rw [ByteArray.toList_eq, ByteArray.data_extract]
  simp

theorem drop_list (p : ByteArray) (n : Nat) : (p.extract n p.size).data.toList = p.data.toList.drop n := by
  rw [ByteArray.data_extract]
  simp
  apply List.take_of_length_le
  rw [List.length_drop, len_list]
  exact Nat.le_refl _

/-- The test that 'HasPrefix' makes. -/
def hasL (p d : List UInt8) : Bool := p.take d.length == d

theorem has_size (p d : ByteArray) (h : hasL p.data.toList d.data.toList = true) : d.size ≤ p.size := by
  have := congrArg List.length (eq_of_beq h)
  have h1 := len_list p
  have h2 := len_list d
  simp at this
  omega

set_option maxHeartbeats 400000 in
theorem has_any (p d : ByteArray) (w : World) :
    Calls Try.prog 10 #[.string p, .string d] w fun e w' => e = .returned (.bool (hasL p.data.toList d.data.toList)) ∧ w' = w := by
  by_cases h : d.size ≤ p.size
  · go_enter Try.func10, Try.ntmps10
    go_wp2
    go_ret
    exact ⟨ret_bool (by rw [take_list p _, hasL, len_list, ByteArray.toList_eq]), rfl⟩
  · have hf : hasL p.data.toList d.data.toList = false := by
      rw [Bool.eq_false_iff]
      intro e
      exact h (has_size p d e)
    have Hf : Hid _ := hf
    clear hf
    go_enter Try.func10, Try.ntmps10
    go_wp2
    go_ret
    exact ⟨ret_bool (by rw [Hf.out]), rfl⟩

set_option maxHeartbeats 400000 in
theorem cut_yes (p d : ByteArray) (w : World) (h : hasL p.data.toList d.data.toList = true) :
    Calls Try.prog 8 #[.string p, .string d] w fun e w' => e = .returned (.tuple #[.string (p.extract d.size p.size), .bool true]) ∧ w' = w := by
  have hs := has_size p d h
  go_enter Try.func8, Try.ntmps8
  go_wp2_with (first | (go_at_call 9; go_in) | (go_at_call 10; refine (has_any _ _ _).mono ?_; rintro e w' ⟨rfl, rfl⟩))
  go_ret2
  exact ⟨rfl, rfl⟩

set_option maxHeartbeats 400000 in
theorem cut_no (p d : ByteArray) (w : World) (h : hasL p.data.toList d.data.toList = false) :
    Calls Try.prog 8 #[.string p, .string d] w fun e w' => e = .returned (.tuple #[.string p, .bool false]) ∧ w' = w := by
  go_enter Try.func8, Try.ntmps8
  go_wp2_with (first | (go_at_call 9; go_in) | (go_at_call 10; refine (has_any _ _ _).mono ?_; rintro e w' ⟨rfl, rfl⟩))
  go_ret2
  exact ⟨rfl, rfl⟩

theorem cut_ex (p d : ByteArray) (w : World) (h : hasL p.data.toList d.data.toList = true) :
    Calls Try.prog 8 #[.string p, .string d] w fun e w' => ∃ r : ByteArray, e = .returned (.tuple #[.string r, .bool true]) ∧ Hid (r.data.toList = p.data.toList.drop d.data.toList.length) ∧ w' = w :=
  (cut_yes p d w h).mono fun _ _ ⟨he, hw⟩ => ⟨_, he, by show _ = _; rw [drop_list, len_list], hw⟩

theorem empty_true (s : ByteArray) (h : s.size = 0) : s.toList.isEmpty = true := by
  rw [ByteArray.toList_eq, List.isEmpty_iff_length_eq_zero, len_list]; exact h
theorem empty_false (s : ByteArray) (h : ¬ s.size = 0) : s.toList.isEmpty = false := by
  rw [ByteArray.toList_eq, Bool.eq_false_iff]
  intro e
  rw [List.isEmpty_iff_length_eq_zero, len_list] at e
  exact h e

/-- What In answers behind the cut. -/
theorem inL_has (p d : List UInt8) (h : hasL p d = true) : inL p d = ((p.drop d.length).isEmpty || (p.drop d.length).head? == some 47) := by
  unfold inL; unfold hasL at h; rw [h]; rfl
theorem inL_hasnot (p d : List UInt8) (h : hasL p d = false) : inL p d = false := by
  unfold inL; unfold hasL at h; rw [h]; rfl

theorem head_at (r : ByteArray) (h : 0 < r.size) : (r.data.toList.head? == some 47) = ((r[0].toNat : Int) == 47) := by
  have h' : 0 < r.data.toList.length := by rw [len_list]; exact h
  rw [List.head?_eq_getElem?, List.getElem?_eq_getElem h']
  show (some r[0] == some 47) = _
  rw [Bool.eq_iff_iff]
  simp
  constructor
  · intro e; rw [e]; rfl
  · intro e
    apply UInt8.toNat_inj.1
    have : r[0].toNat = 47 := by omega
    rw [this]; rfl

set_option maxHeartbeats 400000 in
theorem in_any (p d : ByteArray) (w : World) :
    Calls Try.prog 6 #[.string p, .string d] w fun e w' => e = .returned (.bool (inL p.data.toList d.data.toList)) ∧ w' = w := by
  cases h : hasL p.data.toList d.data.toList
  · have HL : Hid _ := inL_hasnot _ _ h
    have Hh : Hid _ := h
    clear h
    go_enter Try.func6, Try.ntmps6
    go_wp2_with (go_at_call 8; refine (cut_no _ _ _ Hh.out).mono ?_; rintro e w' ⟨rfl, rfl⟩)
    go_ret
    exact ⟨ret_bool (by rw [HL.out]), rfl⟩
  · have HL : Hid _ := inL_has _ _ h
    have Hh : Hid _ := h
    clear h
    go_enter Try.func6, Try.ntmps6
    go_wp2_with fail
    refine (cut_ex _ _ _ Hh.out).mono ?_
    rintro e w' ⟨r, rfl, hr, rfl⟩
    rw [← hr.out] at HL
    by_cases h0 : r.size = 0
    · have he := empty_true r h0
      have HQ : Hid (inL p.data.toList d.data.toList = true) := by
        show _ = _
        rw [HL.out, ← ByteArray.toList_eq, he]; rfl
      clear h0
      go_wp2
      go_ret
      exact ⟨ret_bool (by rw [HQ.out]), rfl⟩
    · have he := empty_false r h0
      have hpos : 0 < r.size := by omega
      have HQ : Hid (inL p.data.toList d.data.toList = ((r[0].toNat : Int) == 47)) := by
        show _ = _
        rw [HL.out, ← head_at r hpos, ← ByteArray.toList_eq, he]; rfl
      clear h0
      go_wp2
      go_ret
      exact ⟨ret_bool (by rw [HQ.out]), rfl⟩

end Go.Proofs.Qxb6614902a.In
