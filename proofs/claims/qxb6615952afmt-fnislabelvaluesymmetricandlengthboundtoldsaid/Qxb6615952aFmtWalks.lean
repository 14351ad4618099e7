/-
  THE WALKS: each Go function on the road by its contract.
-/
import Derived.Test.Qxb6615952aFmtRows
import Derived.Test.Qxb6615952aFmtPlain
import Derived.WalkKit
import Derived.WalkSpells
namespace Go.Proofs.Qxb6615952aFmt
open Go.RowKit Go.Extern.Stop Go.Stop Go.Extern

theorem ret_bool {a b : Bool} (h : a = b) : Ending.returned (.bool a) = .returned (.bool b) := by rw [h]

set_option maxHeartbeats 400000 in
theorem isAlnum_any (n : Int) (w : World) : Calls Tryf.prog 14 #[.int .u8 n] w fun e w' => e = .returned (.bool (Lv.alnB n)) ∧ w' = w := by
  go_enter Tryf.func14, Tryf.ntmps14
  go_wp2
  all_goals go_ret
  all_goals refine ⟨ret_bool ?_, rfl⟩
  all_goals (rw [Bool.eq_iff_iff]; simp [Lv.alnB]; omega)

theorem empty_true (s : ByteArray) (h : s.size = 0) : s.toList.isEmpty = true := by
  rw [ByteArray.toList_eq]; rw [Lv.nil_of s h]; rfl
theorem empty_false (s : ByteArray) (h : ¬ s.size = 0) : s.toList.isEmpty = false := by
  rw [ByteArray.toList_eq]
  cases hc : s.data.toList with
  | nil => exfalso
           apply h
           have h1 : s.data.toList.length = 0 := by rw [hc]; rfl
           have h2 : s.data.toList.length = s.size := Array.length_toList
           omega
  | cons _ _ => rfl

set_option maxHeartbeats 1600000 in
theorem isQualified_any (s : ByteArray) (w : World) (hs : s.size ≤ maxLen) :
    Calls Tryf.prog 12 #[.string s] w fun e w' => e = .returned (.bool (Lv.qual s.data.toList)) ∧ w' = w := by
  unfold maxLen at hs
  by_cases h0 : s.size = 0
  · have HQ : Hid (Lv.qual s.data.toList = false) := Lv.qual_empty s h0
    have he : s.toList.isEmpty = true := empty_true s h0
    clear h0
    go_enter Tryf.func12, Tryf.ntmps12
    go_wp2
    go_ret
    exact ⟨ret_bool (by rw [HQ.out]), rfl⟩
  · have he : s.toList.isEmpty = false := empty_false s h0
    have hp : 0 < s.size := by omega
    have hl : s.size - 1 < s.size := by omega
    have HQ : Hid (Lv.qual s.data.toList = (Lv.alnB (s[0].toNat : Int) && Lv.alnB (s[s.size - 1].toNat : Int) && s.data.toList.all Lv.okc)) := Lv.qual_of s hp hl
    clear h0
    by_cases a0 : Lv.alnB (s[0].toNat : Int) = true
    · by_cases a1 : Lv.alnB (s[s.size - 1].toNat : Int) = true
      · have HQ' : Hid (Lv.qual s.data.toList = s.data.toList.all Lv.okc) := by
          show _ = _
          rw [HQ.out, a0, a1]; simp
        go_enter Tryf.func12, Tryf.ntmps12
        go_wp2_with (go_at_call 14; refine (isAlnum_any _ _).mono ?_; rintro e w' ⟨rfl, rfl⟩)
        go_loop [3] (fun i => ∃ k : Nat, k ≤ s.size ∧ i = .int .i64 k ∧ Hid ((s.data.toList.take k).all Lv.okc = true)) (fun i => s.size - (intOf i).toNat)
        case atStart => exact ⟨0, Nat.zero_le _, rfl, by show _ = _; simp⟩
        case round =>
          obtain ⟨k, hk, rfl, hall⟩ := hrel
          by_cases hlt : k < s.size
          · have HS : Hid ((s.data.toList.take (k + 1)).all Lv.okc = ((s.data.toList.take k).all Lv.okc && Lv.okB (s[k].toNat : Int))) := Lv.all_snoc s k hlt
            have HF : Hid (Lv.okB (s[k].toNat : Int) = false → s.data.toList.all Lv.okc = false) := Lv.all_false s k hlt
            go_wp2_with (go_at_call 14; refine (isAlnum_any _ _).mono ?_; rintro e w' ⟨rfl, rfl⟩)
            all_goals first
              | (have hno : Lv.okB (s[k].toNat : Int) = false := Lv.ok_no _ ‹_› ‹_›
                 go_ret
                 exact ⟨ret_bool (by rw [HQ'.out, HF.out hno]), rfl⟩)
              | (have hyes : Lv.okB (s[k].toNat : Int) = true := by first | exact Lv.ok_yes1 _ ‹_› | exact Lv.ok_yes2 _ ‹_› | exact Lv.ok_yes3 _ ‹_› | exact Lv.ok_yes4 _ ‹_› ‹_› ‹_›
                 have HS' : Hid ((s.data.toList.take (k + 1)).all Lv.okc = true) := by show _ = _; rw [HS.out, hall.out, hyes]; rfl
                 go_round
                 case rel => exact ⟨k + 1, by omega, by go_num, HS'⟩
                 case measure => simp [intOf]; omega)
          · go_wp2
            go_ret
            refine ⟨ret_bool ?_, rfl⟩
            rw [HQ'.out, ← hall.out, List.take_of_length_le (by simp; omega)]
      · have a1' : Lv.alnB (s[s.size - 1].toNat : Int) = false := by simpa using a1
        have HQ' : Hid (Lv.qual s.data.toList = false) := by
          show _ = _
          rw [HQ.out, a1']; simp
        go_enter Tryf.func12, Tryf.ntmps12
        go_wp2_with (go_at_call 14; refine (isAlnum_any _ _).mono ?_; rintro e w' ⟨rfl, rfl⟩)
        go_ret
        exact ⟨ret_bool (by rw [HQ'.out]), rfl⟩
    · have a0' : Lv.alnB (s[0].toNat : Int) = false := by simpa using a0
      have HQ' : Hid (Lv.qual s.data.toList = false) := by
        show _ = _
        rw [HQ.out, a0']; simp
      go_enter Tryf.func12, Tryf.ntmps12
      go_wp2_with (go_at_call 14; refine (isAlnum_any _ _).mono ?_; rintro e w' ⟨rfl, rfl⟩)
      go_ret
      exact ⟨ret_bool (by rw [HQ'.out]), rfl⟩

end Go.Proofs.Qxb6615952aFmt
