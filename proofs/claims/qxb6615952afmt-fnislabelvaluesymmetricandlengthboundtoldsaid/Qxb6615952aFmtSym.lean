/-
  THE LAW 'FnIsLabelValueSymmetricAndLengthBound': its walk.
-/
import Derived.Test.Qxb6615952aFmtLaw
namespace Go.Proofs.Qxb6615952aFmt.symmetric
open Go.RowKit Go.Extern.Stop Go.Stop Go.Extern

theorem ans_next {F : Interp} {B : Nat} {w w1 : World} (hF : F.told.answers w.tape) (hb : Below B w w1) : F.told.answers w1.tape := by rw [hb.tape]; exact hF

theorem below_next {w w1 w2 : World} (h : Below w.heap.size w w1) (k : Below w1.heap.size w1 w2) : Below w.heap.size w w2 := h.trans (k.mono h.size)

/-- lvReverse's, lvFlipCase's, lvAllA's text, each as a text of its own. -/
theorem lvReverse_ex (s : ByteArray) (w : World) (hs : s.size ≤ 65536) :
    Calls Tryf.prog 7 #[.string s] w fun e w' => ∃ x : ByteArray, e = .returned (.string x) ∧ Hid (x.data.toList = s.data.toList.reverse) ∧ x.size ≤ 65536 ∧ Below w.heap.size w w' :=
  (lvReverse_any s w hs).mono fun _ _ ⟨he, hb⟩ => ⟨_, he, rfl, by rw [ByteArray.size]; simpa using hs, hb⟩
theorem lvFlip_ex (s : ByteArray) (w : World) (hs : s.size ≤ 65536) :
    Calls Tryf.prog 8 #[.string s] w fun e w' => ∃ x : ByteArray, e = .returned (.string x) ∧ Hid (x.data.toList = s.data.toList.map Lv.flip) ∧ x.size ≤ 65536 ∧ Below w.heap.size w w' :=
  (lvFlipCase_any s w hs).mono fun _ _ ⟨he, hb⟩ => ⟨_, he, rfl, by rw [ByteArray.size]; simpa using hs, hb⟩
theorem lvAllA_ex (s : ByteArray) (w : World) (hs : s.size ≤ 65536) :
    Calls Tryf.prog 9 #[.string s] w fun e w' => ∃ x : ByteArray, e = .returned (.string x) ∧ Hid (x.data.toList = List.replicate s.size 97) ∧ x.size ≤ 65536 ∧ Below w.heap.size w w' :=
  (lvAllA_any s w hs).mono fun _ _ ⟨he, hb⟩ => ⟨_, he, rfl, by rw [ByteArray.size]; simpa using hs, hb⟩

set_option maxHeartbeats 1600000 in
theorem sym_body (F : Interp) (v : ByteArray) (w : World) (hF : F.told.answers w.tape) (hv : v.size ≤ 65536) :
    Calls Tryf.prog 3 #[.string v] w fun e w' => e = .returned (.bool true) ∧ Below w.heap.size w w' := by
  have hd : decide (v.size ≤ 1048576) = true := decide_eq_true (by omega)
  go_enter Tryf.func3, Tryf.ntmps3
  go_wp2_with (go_at_call 5; refine (bytes5_any _ _ (by unfold maxLen; omega)).mono ?_; rintro e w' ⟨rfl, rfl⟩)
  refine (isLV_any F _ _ (by exact hF) (by unfold maxLen; omega)).mono ?_
  rintro e w1 ⟨rfl, hb1⟩
  have hF1 := ans_next hF hb1
  generalize hr1 : Lv.lv v.data.toList = r1
  have Hr1 := hide hr1
  clear hr1 hF hd
  go_wp2_with fail
  refine (lvReverse_ex v _ hv).mono ?_
  rintro e w2 ⟨x, rfl, hx, sx, hb2⟩
  have hF2 := ans_next hF1 hb2
  have B2 := below_next hb1 hb2
  clear hF1 hb1 hb2
  go_wp2_with fail
  refine (isLV_any F _ _ (by exact hF2) (by unfold maxLen; omega)).mono ?_
  rintro e w3 ⟨rfl, hb3⟩
  rw [show Lv.lv x.data.toList = r1 from by rw [hx.out, Lv.lv_reverse]; exact Hr1.out]
  have hF3 := ans_next hF2 hb3
  have B3 := below_next B2 hb3
  clear hF2 hb3 B2 hx sx
  go_wp2_with fail
  refine (lvFlip_ex v _ hv).mono ?_
  rintro e w4 ⟨y, rfl, hy, sy, hb4⟩
  have hF4 := ans_next hF3 hb4
  have B4 := below_next B3 hb4
  clear hF3 hb4 B3
  go_wp2_with fail
  refine (isLV_any F _ _ (by exact hF4) (by unfold maxLen; omega)).mono ?_
  rintro e w5 ⟨rfl, hb5⟩
  rw [show Lv.lv y.data.toList = r1 from by rw [hy.out, Lv.lv_flip]; exact Hr1.out]
  have hF5 := ans_next hF4 hb5
  have B5 := below_next B4 hb5
  clear hF4 hb5 B4 hy sy
  go_wp2_with fail
  refine (lvAllA_ex v _ hv).mono ?_
  rintro e w6 ⟨z, rfl, hz, sz, hb6⟩
  have hF6 := ans_next hF5 hb6
  have B6 := below_next B5 hb6
  clear hF5 hb6 B5
  go_wp2_with fail
  refine (isLV_any F _ _ (by exact hF6) (by unfold maxLen; omega)).mono ?_
  rintro e w7 ⟨rfl, hb7⟩
  rw [show Lv.lv z.data.toList = decide (v.size ≤ 63) from by rw [hz.out, Lv.lv_letters]]
  have B7 := below_next B6 hb7
  clear hF6 hb7 B6 hz sz
  cases r1
  all_goals
    go_wp2
    go_ret
    exact ⟨ret_bool (by simp <;> omega), B7⟩

set_option maxHeartbeats 400000 in
theorem sym_far (v : ByteArray) (w : World) (hm : v.size ≤ maxLen) (hv : ¬ v.size ≤ 65536) :
    Calls Tryf.prog 3 #[.string v] w fun e w' => e = .returned (.bool true) ∧ w' = w := by
  by_cases hs : v.size ≤ 1048576
  · have hd : decide (v.size ≤ 1048576) = true := decide_eq_true hs
    go_enter Tryf.func3, Tryf.ntmps3
    go_wp2_with (go_at_call 5; refine (bytes5_any _ _ hm).mono ?_; rintro e w' ⟨rfl, rfl⟩)
    go_ret
    exact ⟨rfl, rfl⟩
  · have hd : decide (v.size ≤ 1048576) = false := decide_eq_false hs
    go_enter Tryf.func3, Tryf.ntmps3
    go_wp2_with (go_at_call 5; refine (bytes5_any _ _ hm).mono ?_; rintro e w' ⟨rfl, rfl⟩)
    go_ret
    exact ⟨rfl, rfl⟩

theorem sym_all (F : Interp) (v : ByteArray) (w : World) (hF : F.told.answers w.tape) (hm : v.size ≤ maxLen) :
    Calls Tryf.prog 3 #[.string v] w fun e w' => e = .returned (.bool true) ∧ Below w.heap.size w w' := by
  by_cases h : v.size ≤ 65536
  · exact sym_body F v w hF h
  · exact (sym_far v w hm h).mono fun _ _ ⟨he, hw⟩ => ⟨he, hw ▸ Below.refl _ _⟩

end Go.Proofs.Qxb6615952aFmt.symmetric
