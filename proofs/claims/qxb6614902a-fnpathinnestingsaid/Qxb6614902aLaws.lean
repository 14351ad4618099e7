/-
  THE TWO LAWS ON PATHS: their walks.
-/
import Derived.Test.Qxb6614902aIn
namespace Go.Proofs.Qxb6614902a.In
open Go.RowKit

/-- In's answer, of the two texts themselves (so that the walk does not look into them). -/
def inA (p d : ByteArray) : Bool := inL p.data.toList d.data.toList

theorem inA_any (p d : ByteArray) (w : World) : Calls Try.prog 6 #[.string p, .string d] w fun e w' => e = .returned (.bool (inA p d)) ∧ w' = w := in_any p d w

/-- x begins as d does and goes on by '/', or is d. -/
theorem in_yes (x d : ByteArray) (r : List UInt8) (h : x.data.toList = d.data.toList ++ r) (hr : (r.isEmpty || r.head? == some 47) = true) : inA x d = true := by
  rw [inA, h, inL_app, hr]
theorem in_no (x d : ByteArray) (r : List UInt8) (h : x.data.toList = d.data.toList ++ r) (hr : (r.isEmpty || r.head? == some 47) = false) : inA x d = false := by
  rw [inA, h, inL_app, hr]
theorem in_short (x d : ByteArray) (h : x.size < d.size) : inA x d = false := by
  apply inL_short; rw [len_list, len_list]; exact h

theorem one : (⟨#[47]⟩ : ByteArray).size = 1 := rfl

set_option maxHeartbeats 400000 in
theorem bytes5_yes (a b c : ByteArray) (w : World) (h : a.size + b.size + c.size ≤ 1048576) :
    Calls Try.prog 5 #[.string a, .string b, .string c] w fun e w' => e = .returned (.bool true) ∧ w' = w := by
  go_enter Try.func5, Try.ntmps5
  go_wp2
  go_ret
  exact ⟨rfl, rfl⟩

set_option maxHeartbeats 400000 in
theorem bytes7_yes (a b c : ByteArray) (w : World) (h : a.size + b.size + c.size ≤ 1048576) :
    Calls Try.prog 7 #[.string a, .string b, .string c] w fun e w' => e = .returned (.bool true) ∧ w' = w := by
  go_enter Try.func7, Try.ntmps7
  go_wp2
  go_ret
  exact ⟨rfl, rfl⟩

set_option maxHeartbeats 400000 in
theorem bytes5_no (a b c : ByteArray) (w : World) (ha : a.size ≤ maxLen) (hb : b.size ≤ maxLen) (hc : c.size ≤ maxLen) (h : ¬ a.size + b.size + c.size ≤ 1048576) :
    Calls Try.prog 5 #[.string a, .string b, .string c] w fun e w' => e = .returned (.bool false) ∧ w' = w := by
  unfold maxLen at ha hb hc
  by_cases h1 : a.size ≤ 1048576
  · by_cases h2 : b.size ≤ 1048576
    · by_cases h3 : a.size + b.size ≤ 1048576
      · by_cases h4 : c.size ≤ 1048576
        · go_enter Try.func5, Try.ntmps5
          go_wp2
          go_ret
          exact ⟨rfl, rfl⟩
        · go_enter Try.func5, Try.ntmps5
          go_wp2
          go_ret
          exact ⟨rfl, rfl⟩
      · go_enter Try.func5, Try.ntmps5
        go_wp2
        go_ret
        exact ⟨rfl, rfl⟩
    · go_enter Try.func5, Try.ntmps5
      go_wp2
      go_ret
      exact ⟨rfl, rfl⟩
  · go_enter Try.func5, Try.ntmps5
    go_wp2
    go_ret
    exact ⟨rfl, rfl⟩

set_option maxHeartbeats 400000 in
theorem bytes7_no (a b c : ByteArray) (w : World) (ha : a.size ≤ maxLen) (hb : b.size ≤ maxLen) (hc : c.size ≤ maxLen) (h : ¬ a.size + b.size + c.size ≤ 1048576) :
    Calls Try.prog 7 #[.string a, .string b, .string c] w fun e w' => e = .returned (.bool false) ∧ w' = w := by
  unfold maxLen at ha hb hc
  by_cases h1 : a.size ≤ 1048576
  · by_cases h2 : b.size ≤ 1048576
    · by_cases h3 : a.size + b.size ≤ 1048576
      · by_cases h4 : c.size ≤ 1048576
        · go_enter Try.func7, Try.ntmps7
          go_wp2
          go_ret
          exact ⟨rfl, rfl⟩
        · go_enter Try.func7, Try.ntmps7
          go_wp2
          go_ret
          exact ⟨rfl, rfl⟩
      · go_enter Try.func7, Try.ntmps7
        go_wp2
        go_ret
        exact ⟨rfl, rfl⟩
    · go_enter Try.func7, Try.ntmps7
      go_wp2
      go_ret
      exact ⟨rfl, rfl⟩
  · go_enter Try.func7, Try.ntmps7
    go_wp2
    go_ret
    exact ⟨rfl, rfl⟩

set_option maxHeartbeats 1600000 in
theorem nesting_body (a b c : ByteArray) (w : World) (hs : a.size + b.size + c.size ≤ 1048576) (ha : a.size ≤ 262144) (hb : b.size ≤ 262144) (hc : c.size ≤ 262144) :
    Calls Try.prog 3 #[.string a, .string b, .string c] w fun e w' => e = .returned (.bool true) ∧ w' = w := by
  have f1 : inA (a ++ ⟨#[47]⟩ ++ b ++ ⟨#[47]⟩ ++ c) (a ++ ⟨#[47]⟩ ++ b) = true := in_yes _ _ ([47] ++ c.data.toList) (by simp [ByteArray.data_append]) rfl
  have f2 : inA (a ++ ⟨#[47]⟩ ++ b) a = true := in_yes _ _ ([47] ++ b.data.toList) (by simp [ByteArray.data_append]) rfl
  have f3 : inA (a ++ ⟨#[47]⟩ ++ b ++ ⟨#[47]⟩ ++ c) a = true := in_yes _ _ ([47] ++ b.data.toList ++ [47] ++ c.data.toList) (by simp [ByteArray.data_append]) rfl
  have f4 : ∀ x : ByteArray, inA x x = true := fun x => in_yes _ _ [] (by simp) rfl
  have f5 : inA a (a ++ ⟨#[47]⟩ ++ b) = false := in_short _ _ (by simp only [ByteArray.size_append, one]; omega)
  have f6 : inA (a ++ ⟨#[47]⟩ ++ b) (a ++ ⟨#[47]⟩ ++ b ++ ⟨#[47]⟩ ++ c) = false := in_short _ _ (by simp only [ByteArray.size_append, one]; omega)
  have f7 : inA a (a ++ ⟨#[47]⟩ ++ b ++ ⟨#[47]⟩ ++ c) = false := in_short _ _ (by simp only [ByteArray.size_append, one]; omega)
  go_enter Try.func3, Try.ntmps3
  go_wp2_with (first | (go_at_call 5; refine (bytes5_yes _ _ _ _ hs).mono ?_; rintro e w' ⟨rfl, rfl⟩) | (go_at_call 6; refine (inA_any _ _ _).mono ?_; rintro e w' ⟨rfl, rfl⟩))
  go_ret
  exact ⟨rfl, rfl⟩

set_option maxHeartbeats 400000 in
theorem nesting_far (a b c : ByteArray) (w : World) (ha : a.size ≤ maxLen) (hb : b.size ≤ maxLen) (hc : c.size ≤ maxLen) (h : ¬ (a.size + b.size + c.size ≤ 1048576 ∧ a.size ≤ 262144 ∧ b.size ≤ 262144 ∧ c.size ≤ 262144)) :
    Calls Try.prog 3 #[.string a, .string b, .string c] w fun e w' => e = .returned (.bool true) ∧ w' = w := by
  by_cases hs : a.size + b.size + c.size ≤ 1048576
  · by_cases h1 : a.size ≤ 262144
    · by_cases h2 : b.size ≤ 262144
      · have h3 : ¬ c.size ≤ 262144 := fun h3 => h ⟨hs, h1, h2, h3⟩
        clear h
        go_enter Try.func3, Try.ntmps3
        go_wp2_with (first | (go_at_call 5; refine (bytes5_yes _ _ _ _ hs).mono ?_; rintro e w' ⟨rfl, rfl⟩))
        go_ret
        exact ⟨rfl, rfl⟩
      · clear h
        go_enter Try.func3, Try.ntmps3
        go_wp2_with (first | (go_at_call 5; refine (bytes5_yes _ _ _ _ hs).mono ?_; rintro e w' ⟨rfl, rfl⟩))
        go_ret
        exact ⟨rfl, rfl⟩
    · clear h
      go_enter Try.func3, Try.ntmps3
      go_wp2_with (first | (go_at_call 5; refine (bytes5_yes _ _ _ _ hs).mono ?_; rintro e w' ⟨rfl, rfl⟩))
      go_ret
      exact ⟨rfl, rfl⟩
  · clear h
    go_enter Try.func3, Try.ntmps3
    go_wp2_with (first | (go_at_call 5; refine (bytes5_no _ _ _ _ ha hb hc hs).mono ?_; rintro e w' ⟨rfl, rfl⟩))
    go_ret
    exact ⟨rfl, rfl⟩

theorem nesting_all (a b c : ByteArray) (w : World) (ha : a.size ≤ maxLen) (hb : b.size ≤ maxLen) (hc : c.size ≤ maxLen) :
    Calls Try.prog 3 #[.string a, .string b, .string c] w fun e w' => e = .returned (.bool true) ∧ w' = w := by
  by_cases h : a.size + b.size + c.size ≤ 1048576 ∧ a.size ≤ 262144 ∧ b.size ≤ 262144 ∧ c.size ≤ 262144
  · exact nesting_body a b c w h.1 h.2.1 h.2.2.1 h.2.2.2
  · exact nesting_far a b c w ha hb hc h

/-! ### The second law -/
theorem first_at (t : ByteArray) (h : 0 < t.size) (g : ((t[0].toNat : Int) == 47) = false) (r : List UInt8) : ((t.data.toList ++ r).isEmpty || (t.data.toList ++ r).head? == some 47) = false := by
  have hh := head_at t h
  rw [g] at hh
  cases hl : t.data.toList with
  | nil => have := len_list t; rw [hl] at this; simp at this; omega
  | cons x xs => rw [hl] at hh; simpa using hh

set_option maxHeartbeats 1600000 in
theorem mere_body (d t u : ByteArray) (w : World) (hs : d.size + t.size + u.size ≤ 1048576) (ha : d.size ≤ 262144) (hb : t.size ≤ 262144) (hc : u.size ≤ 262144) (h0 : 0 < t.size) (g : ((t[0].toNat : Int) == 47) = false) :
    Calls Try.prog 4 #[.string d, .string t, .string u] w fun e w' => e = .returned (.bool true) ∧ w' = w := by
  have f1 : inA (d ++ t) d = false := in_no _ _ t.data.toList (by simp [ByteArray.data_append]) (by have := first_at t h0 g []; simpa using this)
  have f2 : inA (d ++ t ++ ⟨#[47]⟩ ++ u) d = false := in_no _ _ (t.data.toList ++ ([47] ++ u.data.toList)) (by simp [ByteArray.data_append]) (first_at t h0 g _)
  have f3 : inA d (d ++ t) = false := in_short _ _ (by simp only [ByteArray.size_append]; omega)
  have f4 : inA (d ++ ⟨#[47]⟩ ++ t) d = true := in_yes _ _ ([47] ++ t.data.toList) (by simp [ByteArray.data_append]) rfl
  have f5 : inA (d ++ ⟨#[47]⟩ ++ t ++ ⟨#[47]⟩ ++ u) (d ++ ⟨#[47]⟩ ++ t) = true := in_yes _ _ ([47] ++ u.data.toList) (by simp [ByteArray.data_append]) rfl
  have f6 : inA (d ++ ⟨#[47]⟩ ++ t ++ ⟨#[47]⟩ ++ u) d = true := in_yes _ _ ([47] ++ t.data.toList ++ [47] ++ u.data.toList) (by simp [ByteArray.data_append]) rfl
  have k0 : ((t.size : Int) == 0) = false := beq_eq_false_iff_ne.2 (by omega)
  go_enter Try.func4, Try.ntmps4
  go_wp2_with (first | (go_at_call 7; refine (bytes7_yes _ _ _ _ hs).mono ?_; rintro e w' ⟨rfl, rfl⟩) | (go_at_call 6; refine (inA_any _ _ _).mono ?_; rintro e w' ⟨rfl, rfl⟩))
  go_ret
  exact ⟨rfl, rfl⟩

set_option maxHeartbeats 400000 in
theorem mere_empty (d t u : ByteArray) (w : World) (hs : d.size + t.size + u.size ≤ 1048576) (ha : d.size ≤ 262144) (hb : t.size ≤ 262144) (hc : u.size ≤ 262144) (h0 : t.size = 0) :
    Calls Try.prog 4 #[.string d, .string t, .string u] w fun e w' => e = .returned (.bool true) ∧ w' = w := by
  have k0 : ((t.size : Int) == 0) = true := beq_iff_eq.2 (by omega)
  have Hs : Hid _ := hs
  clear h0 hs
  go_enter Try.func4, Try.ntmps4
  go_wp2_with (first | (go_at_call 7; refine (bytes7_yes _ _ _ _ Hs.out).mono ?_; rintro e w' ⟨rfl, rfl⟩))
  go_ret
  exact ⟨rfl, rfl⟩

set_option maxHeartbeats 400000 in
theorem mere_slash (d t u : ByteArray) (w : World) (hs : d.size + t.size + u.size ≤ 1048576) (ha : d.size ≤ 262144) (hb : t.size ≤ 262144) (hc : u.size ≤ 262144) (h0 : 0 < t.size) (g : ((t[0].toNat : Int) == 47) = true) :
    Calls Try.prog 4 #[.string d, .string t, .string u] w fun e w' => e = .returned (.bool true) ∧ w' = w := by
  have k0 : ((t.size : Int) == 0) = false := beq_eq_false_iff_ne.2 (by omega)
  go_enter Try.func4, Try.ntmps4
  go_wp2_with (first | (go_at_call 7; refine (bytes7_yes _ _ _ _ hs).mono ?_; rintro e w' ⟨rfl, rfl⟩))
  go_ret
  exact ⟨rfl, rfl⟩

set_option maxHeartbeats 400000 in
theorem mere_far (a b c : ByteArray) (w : World) (ha : a.size ≤ maxLen) (hb : b.size ≤ maxLen) (hc : c.size ≤ maxLen) (h : ¬ (a.size + b.size + c.size ≤ 1048576 ∧ a.size ≤ 262144 ∧ b.size ≤ 262144 ∧ c.size ≤ 262144)) :
    Calls Try.prog 4 #[.string a, .string b, .string c] w fun e w' => e = .returned (.bool true) ∧ w' = w := by
  by_cases hs : a.size + b.size + c.size ≤ 1048576
  · by_cases h1 : a.size ≤ 262144
    · by_cases h2 : b.size ≤ 262144
      · have h3 : ¬ c.size ≤ 262144 := fun h3 => h ⟨hs, h1, h2, h3⟩
        clear h
        go_enter Try.func4, Try.ntmps4
        go_wp2_with (first | (go_at_call 7; refine (bytes7_yes _ _ _ _ hs).mono ?_; rintro e w' ⟨rfl, rfl⟩))
        go_ret
        exact ⟨rfl, rfl⟩
      · clear h
        go_enter Try.func4, Try.ntmps4
        go_wp2_with (first | (go_at_call 7; refine (bytes7_yes _ _ _ _ hs).mono ?_; rintro e w' ⟨rfl, rfl⟩))
        go_ret
        exact ⟨rfl, rfl⟩
    · clear h
      go_enter Try.func4, Try.ntmps4
      go_wp2_with (first | (go_at_call 7; refine (bytes7_yes _ _ _ _ hs).mono ?_; rintro e w' ⟨rfl, rfl⟩))
      go_ret
      exact ⟨rfl, rfl⟩
  · clear h
    go_enter Try.func4, Try.ntmps4
    go_wp2_with (first | (go_at_call 7; refine (bytes7_no _ _ _ _ ha hb hc hs).mono ?_; rintro e w' ⟨rfl, rfl⟩))
    go_ret
    exact ⟨rfl, rfl⟩

theorem mere_all (a b c : ByteArray) (w : World) (ha : a.size ≤ maxLen) (hb : b.size ≤ maxLen) (hc : c.size ≤ maxLen) :
    Calls Try.prog 4 #[.string a, .string b, .string c] w fun e w' => e = .returned (.bool true) ∧ w' = w := by
  by_cases h : a.size + b.size + c.size ≤ 1048576 ∧ a.size ≤ 262144 ∧ b.size ≤ 262144 ∧ c.size ≤ 262144
  · by_cases h0 : b.size = 0
    · exact mere_empty a b c w h.1 h.2.1 h.2.2.1 h.2.2.2 h0
    · have hp : 0 < b.size := by omega
      cases g : ((b[0].toNat : Int) == 47)
      · exact mere_body a b c w h.1 h.2.1 h.2.2.1 h.2.2.2 hp g
      · exact mere_slash a b c w h.1 h.2.1 h.2.2.1 h.2.2.2 hp g
  · exact mere_far a b c w ha hb hc h

end Go.Proofs.Qxb6614902a.In
