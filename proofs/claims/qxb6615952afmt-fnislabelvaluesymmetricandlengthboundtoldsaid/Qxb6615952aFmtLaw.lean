/-
  IsLabelValue by its contract (fmt's text told), and the two guards.
-/
import Derived.Test.Qxb6615952aFmtWalks2
import Derived.Test.Qxb6615952aFmtMake
namespace Go.Proofs.Qxb6615952aFmt
open Go.RowKit Go.Extern.Stop Go.Stop Go.Extern

/-- The text that fmt gives there: real Go's bytes. -/
def told : List UInt8 := [105, 115, 32, 110, 111, 116, 32, 97, 32, 108, 97, 98, 101, 108, 32, 118, 97, 108, 117, 101, 58, 32, 101, 109, 112, 116, 121, 44, 32, 111, 114, 32, 97, 116, 32, 109, 111, 115, 116, 32, 54, 51, 32, 99, 104, 97, 114, 97, 99, 116, 101, 114, 115, 32, 111, 102, 32, 108, 101, 116, 116, 101, 114, 115, 44, 32, 100, 105, 103, 105, 116, 115, 44, 32, 39, 45, 39, 44, 32, 39, 95, 39, 32, 97, 110, 100, 32, 39, 46, 39, 44, 32, 98, 101, 103, 105, 110, 110, 105, 110, 103, 32, 97, 110, 100, 32, 101, 110, 100, 105, 110, 103, 32, 119, 105, 116, 104, 32, 97, 32, 108, 101, 116, 116, 101, 114, 32, 111, 114, 32, 100, 105, 103, 105, 116]

theorem told_text : FmtText.text "fmt.Sprintf" reading = some told := by decide +kernel

theorem told_not_empty (F : Interp) : (FmtStop.textOf (F.told "fmt.Sprintf" reading 0)).toList.isEmpty = false := by
  rw [ByteArray.toList_eq, Kit.textOf_list, told_string F told_text (by decide +kernel)]
  rfl

set_option maxHeartbeats 400000 in
theorem isLV_any (F : Interp) (s : ByteArray) (w : World) (hF : F.told.answers w.tape) (hs : s.size ≤ maxLen) :
    Calls Tryf.prog 6 #[.string s] w fun e w' => e = .returned (.bool (Lv.lv s.data.toList)) ∧ Below w.heap.size w w' := by
  have hlen : s.data.toList.length = s.size := Array.length_toList
  by_cases h0 : s.size = 0
  · have HL : Hid (Lv.lv s.data.toList = true) := by show _ = _; rw [Lv.nil_of s h0]; rfl
    go_enter Tryf.func6, Tryf.ntmps6
    go_wp2_with (go_at_call 11; refine (labelValue_empty _ _ h0).mono ?_; rintro e w' ⟨rfl, rfl⟩)
    go_ret
    exact ⟨ret_bool (by rw [HL.out]), Below.refl _ _⟩
  · by_cases h63 : s.size ≤ 63
    · by_cases hq : Lv.qual s.data.toList = true
      · have HL : Hid (Lv.lv s.data.toList = true) := by show _ = _; rw [Lv.lv_iff]; exact .inr ⟨by omega, hq⟩
        have Hq := hide hq
        clear hq hlen
        go_enter Tryf.func6, Tryf.ntmps6
        go_wp2_with (go_at_call 11; refine (labelValue_good _ _ (by omega) h63 Hq.out).mono ?_; rintro e w' ⟨rfl, rfl⟩)
        go_ret
        exact ⟨ret_bool (by rw [HL.out]), Below.refl _ _⟩
      · have hq' : Lv.qual s.data.toList = false := by simpa using hq
        have HL : Hid (Lv.lv s.data.toList = false) := by
          show _ = _
          rw [Bool.eq_false_iff]
          intro h
          rw [Lv.lv_iff] at h
          rcases h with h | ⟨_, h⟩
          · rw [h] at hlen; simp at hlen; omega
          · exact hq h
        have Hq := hide hq'
        have hne := told_not_empty F
        clear hq hq' hlen
        go_enter Tryf.func6, Tryf.ntmps6
        go_wp2_with (go_at_call 11; refine (labelValue_bad F.told _ _ (by exact hF) (by omega) h63 Hq.out).mono ?_; rintro e w' ⟨rfl, rfl⟩)
        go_ret
        exact ⟨ret_bool (by rw [HL.out]), ((Below.refl _ _).alloc (Nat.le_refl _) _).drew⟩
    · have HL : Hid (Lv.lv s.data.toList = false) := by
        show _ = _
        rw [Bool.eq_false_iff]
        intro h
        rw [Lv.lv_iff] at h
        rcases h with h | ⟨h, _⟩
        · rw [h] at hlen; simp at hlen; omega
        · omega
      have hne := told_not_empty F
      clear hlen
      go_enter Tryf.func6, Tryf.ntmps6
      go_wp2_with (go_at_call 11; refine (labelValue_long F.told _ _ (by exact hF) hs (by omega)).mono ?_; rintro e w' ⟨rfl, rfl⟩)
      go_ret
      exact ⟨ret_bool (by rw [HL.out]), ((Below.refl _ _).alloc (Nat.le_refl _) _).drew⟩

set_option maxHeartbeats 400000 in
theorem bytes5_any (s : ByteArray) (w : World) (hs : s.size ≤ maxLen) :
    Calls Tryf.prog 5 #[.string s] w fun e w' => e = .returned (.bool (decide (s.size ≤ 1048576))) ∧ w' = w := by
  unfold maxLen at hs
  by_cases h : s.size ≤ 1048576
  · go_enter Tryf.func5, Tryf.ntmps5
    go_wp2
    go_ret
    exact ⟨ret_bool (by simp [h]), rfl⟩
  · go_enter Tryf.func5, Tryf.ntmps5
    go_wp2
    go_ret
    exact ⟨ret_bool (by simp [h]), rfl⟩

set_option maxHeartbeats 400000 in
theorem bytes10_yes (a b : ByteArray) (k : Int) (w : World) (h : a.size + b.size ≤ 1048576) :
    Calls Tryf.prog 10 #[.string a, .string b, .int .u8 k] w fun e w' => e = .returned (.bool true) ∧ w' = w := by
  go_enter Tryf.func10, Tryf.ntmps10
  go_wp2
  go_ret
  exact ⟨rfl, rfl⟩

set_option maxHeartbeats 400000 in
theorem bytes10_no (a b : ByteArray) (k : Int) (w : World) (ha : a.size ≤ maxLen) (hb : b.size ≤ maxLen) (h : ¬ a.size + b.size ≤ 1048576) :
    Calls Tryf.prog 10 #[.string a, .string b, .int .u8 k] w fun e w' => e = .returned (.bool false) ∧ w' = w := by
  unfold maxLen at ha hb
  by_cases h1 : a.size ≤ 1048576
  · by_cases h2 : b.size ≤ 1048576
    · go_enter Tryf.func10, Tryf.ntmps10
      go_wp2
      go_ret
      exact ⟨rfl, rfl⟩
    · go_enter Tryf.func10, Tryf.ntmps10
      go_wp2
      go_ret
      exact ⟨rfl, rfl⟩
  · go_enter Tryf.func10, Tryf.ntmps10
    go_wp2
    go_ret
    exact ⟨rfl, rfl⟩

end Go.Proofs.Qxb6615952aFmt
