/-
  THE LAW 'FnIsLabelValueJoinBySeparator': its walk.
-/
import Derived.Test.Qxb6615952aFmtLaw
namespace Go.Proofs.Qxb6615952aFmt
open Go.RowKit Go.Extern.Stop Go.Stop Go.Extern

theorem ans_next {F : Interp} {B : Nat} {w w1 : World} (hF : F.told.answers w.tape) (hb : Below B w w1) : F.told.answers w1.tape := by rw [hb.tape]; exact hF

theorem below_next {w w1 w2 : World} (h : Below w.heap.size w w1) (k : Below w1.heap.size w1 w2) : Below w.heap.size w w2 := h.trans (k.mono h.size)

theorem app3 (a b : ByteArray) (s : UInt8) : (a ++ ⟨#[s]⟩ ++ b).data.toList = a.data.toList ++ [s] ++ b.data.toList := by
  simp [ByteArray.data_append]

theorem size3 (a b : ByteArray) (s : UInt8) : (a ++ ⟨#[s]⟩ ++ b).size = a.size + 1 + b.size := by
  simp [ByteArray.size_append]; rfl

theorem app2 (a : ByteArray) (s : UInt8) : (a ++ ⟨#[s]⟩).data.toList = a.data.toList ++ [s] := by
  simp [ByteArray.data_append]
theorem app2' (b : ByteArray) (s : UInt8) : (⟨#[s]⟩ ++ b : ByteArray).data.toList = [s] ++ b.data.toList := by
  simp [ByteArray.data_append]
theorem size2 (a : ByteArray) (s : UInt8) : (a ++ ⟨#[s]⟩).size = a.size + 1 := by
  simp [ByteArray.size_append]; rfl
theorem size2' (b : ByteArray) (s : UInt8) : (⟨#[s]⟩ ++ b : ByteArray).size = 1 + b.size := by
  simp [ByteArray.size_append]; rfl

/-- What the first law says, in the walk's letters. -/
theorem J1 (a b : ByteArray) (s : UInt8) (hs : Lv.aln s = false) (ho : Lv.okc s = true) (r1 r2 r3 A B : Bool) (h1 : Lv.lv (a.data.toList ++ [s] ++ b.data.toList) = r1) (h2 : Lv.lv (a.data.toList ++ [48]) = r2) (h3 : Lv.lv ([48] ++ b.data.toList) = r3)
    (ea : a.toList.isEmpty = A) (eb : b.toList.isEmpty = B) : r1 = (!A && !B && r2 && r3 && decide (a.size + b.size + 1 ≤ 63)) := by
  rw [ByteArray.toList_eq] at ea eb
  have sa : a.data.toList.length = a.size := Array.length_toList
  have sb : b.data.toList.length = b.size := Array.length_toList
  rw [← h1, Lv.lv_join _ _ s hs ho, ea, eb, h2, h3, sa, sb]

theorem empty_size (a : ByteArray) (A : Bool) (ea : a.toList.isEmpty = A) : decide (a.size ≠ 0) = !A := by
  by_cases h : a.size = 0
  · rw [empty_true a h] at ea; subst ea; simp [h]
  · rw [empty_false a h] at ea; subst ea; simp [h]

theorem J2 (a b x y : ByteArray) (s : UInt8) (hs : Lv.aln s = false) (ho : Lv.okc s = true) (r4 A B : Bool) (h1 : Lv.lv (x.data.toList ++ [s] ++ y.data.toList) = r4) (hx : x.data.toList = List.replicate a.size 97) (hy : y.data.toList = List.replicate b.size 97)
    (ea : a.toList.isEmpty = A) (eb : b.toList.isEmpty = B) : r4 = (!A && !B && decide (a.size + b.size + 1 ≤ 63)) := by
  rw [← h1, hx, hy, Lv.lv_join_letters _ _ s hs ho, empty_size a A ea, empty_size b B eb]

/-- lvAllA's text as a text of its own. -/
theorem lvAllA_ex (s : ByteArray) (w : World) (hs : s.size ≤ 65536) :
    Calls Tryf.prog 9 #[.string s] w fun e w' => ∃ x : ByteArray, e = .returned (.string x) ∧ Hid (x.data.toList = List.replicate s.size 97) ∧ x.size ≤ 65536 ∧ Below w.heap.size w w' :=
  (lvAllA_any s w hs).mono fun _ _ ⟨he, hb⟩ => ⟨_, he, rfl, by rw [ByteArray.size]; simpa using hs, hb⟩

set_option maxHeartbeats 1600000 in
theorem join_dash_fit (F : Interp) (a b : ByteArray) (k : Int) (w : World) (hF : F.told.answers w.tape) (ha : a.size ≤ 65536) (hb : b.size ≤ 65536) (hk : (k == 0) = true) (ea : a.toList.isEmpty = false) (eb : b.toList.isEmpty = false) (hf : a.size + b.size + 1 ≤ 63) :
    Calls Tryf.prog 4 #[.string a, .string b, .int .u8 k] w fun e w' => e = .returned (.bool true) ∧ Below w.heap.size w w' := by
  go_enter Tryf.func4, Tryf.ntmps4
  go_wp2_with (first | (go_at_call 10; refine (bytes10_yes _ _ _ _ (by omega)).mono ?_; rintro e w' ⟨rfl, rfl⟩))
  refine (isLV_any F _ _ (by exact hF) (by rw [size3]; unfold maxLen; omega)).mono ?_
  rintro e w1 ⟨rfl, hb1⟩
  rw [app3]
  have hF1 := ans_next hF hb1
  generalize hr1 : Lv.lv (a.data.toList ++ [45] ++ b.data.toList) = r1
  have Hr1 := hide hr1
  clear hr1 hF
  go_wp2_with fail
  refine (isLV_any F _ _ (by exact hF1) (by rw [size2]; unfold maxLen; omega)).mono ?_
  rintro e w2 ⟨rfl, hb2⟩
  rw [app2]
  have hF2 := ans_next hF1 hb2
  generalize hr2 : Lv.lv (a.data.toList ++ [48]) = r2
  have Hr2 := hide hr2
  have B2 := below_next hb1 hb2
  clear hr2 hF1 hb1 hb2
  go_wp2_with fail
  refine (isLV_any F _ _ (by exact hF2) (by rw [size2']; unfold maxLen; omega)).mono ?_
  rintro e w3 ⟨rfl, hb3⟩
  rw [app2']
  have hF3 := ans_next hF2 hb3
  generalize hr3 : Lv.lv ([48] ++ b.data.toList) = r3
  have J : r1 = _ := J1 a b 45 (by decide) (by decide) r1 r2 r3 false false Hr1.out Hr2.out hr3 ea eb
  rw [decide_eq_true hf] at J
  have B3 := below_next B2 hb3
  clear hr3 hF2 hb3 B2 Hr1 Hr2
  cases r2 <;> cases r3
  all_goals
    simp at J
    subst J
    go_wp2_with fail
    refine (lvAllA_ex a _ ha).mono ?_
    rintro e w4 ⟨x, rfl, hx, sx, hb4⟩
    have hF4 := ans_next hF3 hb4
    have B4 := below_next B3 hb4
    clear hb4
    go_wp2_with fail
    refine (lvAllA_ex b _ hb).mono ?_
    rintro e w5 ⟨y, rfl, hy, sy, hb5⟩
    have hF5 := ans_next hF4 hb5
    have B5 := below_next B4 hb5
    clear hb5 B4
    go_wp2_with fail
    refine (isLV_any F _ _ (by exact hF5) (by rw [size3]; unfold maxLen; omega)).mono ?_
    rintro e w6 ⟨rfl, hb6⟩
    rw [app3]
    generalize hr4 : Lv.lv (x.data.toList ++ [45] ++ y.data.toList) = r4
    have J' : r4 = _ := J2 a b x y 45 (by decide) (by decide) r4 false false hr4 hx.out hy.out ea eb
    rw [decide_eq_true hf] at J'
    have B6 := below_next B5 hb6
    clear hr4 hb6 B5 hF4 hF5 hF3 sx sy hx hy
    simp at J'
    subst J'
    go_wp2
    go_ret
    exact ⟨ret_bool (by simp <;> omega), B6⟩

set_option maxHeartbeats 1600000 in
theorem join_dash_wide (F : Interp) (a b : ByteArray) (k : Int) (w : World) (hF : F.told.answers w.tape) (ha : a.size ≤ 65536) (hb : b.size ≤ 65536) (hk : (k == 0) = true) (ea : a.toList.isEmpty = false) (eb : b.toList.isEmpty = false) (hf : ¬ a.size + b.size + 1 ≤ 63) :
    Calls Tryf.prog 4 #[.string a, .string b, .int .u8 k] w fun e w' => e = .returned (.bool true) ∧ Below w.heap.size w w' := by
  go_enter Tryf.func4, Tryf.ntmps4
  go_wp2_with (first | (go_at_call 10; refine (bytes10_yes _ _ _ _ (by omega)).mono ?_; rintro e w' ⟨rfl, rfl⟩))
  refine (isLV_any F _ _ (by exact hF) (by rw [size3]; unfold maxLen; omega)).mono ?_
  rintro e w1 ⟨rfl, hb1⟩
  rw [app3]
  have hF1 := ans_next hF hb1
  generalize hr1 : Lv.lv (a.data.toList ++ [45] ++ b.data.toList) = r1
  have Hr1 := hide hr1
  clear hr1 hF
  go_wp2_with fail
  refine (isLV_any F _ _ (by exact hF1) (by rw [size2]; unfold maxLen; omega)).mono ?_
  rintro e w2 ⟨rfl, hb2⟩
  rw [app2]
  have hF2 := ans_next hF1 hb2
  generalize hr2 : Lv.lv (a.data.toList ++ [48]) = r2
  have Hr2 := hide hr2
  have B2 := below_next hb1 hb2
  clear hr2 hF1 hb1 hb2
  go_wp2_with fail
  refine (isLV_any F _ _ (by exact hF2) (by rw [size2']; unfold maxLen; omega)).mono ?_
  rintro e w3 ⟨rfl, hb3⟩
  rw [app2']
  have hF3 := ans_next hF2 hb3
  generalize hr3 : Lv.lv ([48] ++ b.data.toList) = r3
  have J : r1 = _ := J1 a b 45 (by decide) (by decide) r1 r2 r3 false false Hr1.out Hr2.out hr3 ea eb
  rw [decide_eq_false hf] at J
  have B3 := below_next B2 hb3
  clear hr3 hF2 hb3 B2 Hr1 Hr2
  cases r2 <;> cases r3
  all_goals
    simp at J
    subst J
    go_wp2_with fail
    refine (lvAllA_ex a _ ha).mono ?_
    rintro e w4 ⟨x, rfl, hx, sx, hb4⟩
    have hF4 := ans_next hF3 hb4
    have B4 := below_next B3 hb4
    clear hb4
    go_wp2_with fail
    refine (lvAllA_ex b _ hb).mono ?_
    rintro e w5 ⟨y, rfl, hy, sy, hb5⟩
    have hF5 := ans_next hF4 hb5
    have B5 := below_next B4 hb5
    clear hb5 B4
    go_wp2_with fail
    refine (isLV_any F _ _ (by exact hF5) (by rw [size3]; unfold maxLen; omega)).mono ?_
    rintro e w6 ⟨rfl, hb6⟩
    rw [app3]
    generalize hr4 : Lv.lv (x.data.toList ++ [45] ++ y.data.toList) = r4
    have J' : r4 = _ := J2 a b x y 45 (by decide) (by decide) r4 false false hr4 hx.out hy.out ea eb
    rw [decide_eq_false hf] at J'
    have B6 := below_next B5 hb6
    clear hr4 hb6 B5 hF4 hF5 hF3 sx sy hx hy
    simp at J'
    subst J'
    go_wp2
    go_ret
    exact ⟨ret_bool (by simp <;> omega), B6⟩

set_option maxHeartbeats 1600000 in
theorem join_dash_ea (F : Interp) (a b : ByteArray) (k : Int) (w : World) (hF : F.told.answers w.tape) (ha : a.size ≤ 65536) (hb : b.size ≤ 65536) (hk : (k == 0) = true) (ea : a.toList.isEmpty = true) (B : Bool) (eb : b.toList.isEmpty = B) :
    Calls Tryf.prog 4 #[.string a, .string b, .int .u8 k] w fun e w' => e = .returned (.bool true) ∧ Below w.heap.size w w' := by
  go_enter Tryf.func4, Tryf.ntmps4
  go_wp2_with (first | (go_at_call 10; refine (bytes10_yes _ _ _ _ (by omega)).mono ?_; rintro e w' ⟨rfl, rfl⟩))
  refine (isLV_any F _ _ (by exact hF) (by rw [size3]; unfold maxLen; omega)).mono ?_
  rintro e w1 ⟨rfl, hb1⟩
  rw [app3]
  have hF1 := ans_next hF hb1
  generalize hr1 : Lv.lv (a.data.toList ++ [45] ++ b.data.toList) = r1
  have Hr1 := hide hr1
  clear hr1 hF
  go_wp2_with fail
  refine (isLV_any F _ _ (by exact hF1) (by rw [size2]; unfold maxLen; omega)).mono ?_
  rintro e w2 ⟨rfl, hb2⟩
  rw [app2]
  have hF2 := ans_next hF1 hb2
  generalize hr2 : Lv.lv (a.data.toList ++ [48]) = r2
  have Hr2 := hide hr2
  have B2 := below_next hb1 hb2
  clear hr2 hF1 hb1 hb2
  go_wp2_with fail
  refine (isLV_any F _ _ (by exact hF2) (by rw [size2']; unfold maxLen; omega)).mono ?_
  rintro e w3 ⟨rfl, hb3⟩
  rw [app2']
  have hF3 := ans_next hF2 hb3
  generalize hr3 : Lv.lv ([48] ++ b.data.toList) = r3
  have J : r1 = _ := J1 a b 45 (by decide) (by decide) r1 r2 r3 true B Hr1.out Hr2.out hr3 ea eb
  have B3 := below_next B2 hb3
  clear hr3 hF2 hb3 B2 Hr1 Hr2
  all_goals
    simp at J
    subst J
    go_wp2_with fail
    refine (lvAllA_ex a _ ha).mono ?_
    rintro e w4 ⟨x, rfl, hx, sx, hb4⟩
    have hF4 := ans_next hF3 hb4
    have B4 := below_next B3 hb4
    clear hb4
    go_wp2_with fail
    refine (lvAllA_ex b _ hb).mono ?_
    rintro e w5 ⟨y, rfl, hy, sy, hb5⟩
    have hF5 := ans_next hF4 hb5
    have B5 := below_next B4 hb5
    clear hb5 B4
    go_wp2_with fail
    refine (isLV_any F _ _ (by exact hF5) (by rw [size3]; unfold maxLen; omega)).mono ?_
    rintro e w6 ⟨rfl, hb6⟩
    rw [app3]
    generalize hr4 : Lv.lv (x.data.toList ++ [45] ++ y.data.toList) = r4
    have J' : r4 = _ := J2 a b x y 45 (by decide) (by decide) r4 true B hr4 hx.out hy.out ea eb
    have B6 := below_next B5 hb6
    clear hr4 hb6 B5 hF4 hF5 hF3 sx sy hx hy
    simp at J'
    subst J'
    go_wp2
    go_ret
    exact ⟨ret_bool (by simp <;> omega), B6⟩

set_option maxHeartbeats 1600000 in
theorem join_dash_eb (F : Interp) (a b : ByteArray) (k : Int) (w : World) (hF : F.told.answers w.tape) (ha : a.size ≤ 65536) (hb : b.size ≤ 65536) (hk : (k == 0) = true) (ea : a.toList.isEmpty = false) (eb : b.toList.isEmpty = true) :
    Calls Tryf.prog 4 #[.string a, .string b, .int .u8 k] w fun e w' => e = .returned (.bool true) ∧ Below w.heap.size w w' := by
  go_enter Tryf.func4, Tryf.ntmps4
  go_wp2_with (first | (go_at_call 10; refine (bytes10_yes _ _ _ _ (by omega)).mono ?_; rintro e w' ⟨rfl, rfl⟩))
  refine (isLV_any F _ _ (by exact hF) (by rw [size3]; unfold maxLen; omega)).mono ?_
  rintro e w1 ⟨rfl, hb1⟩
  rw [app3]
  have hF1 := ans_next hF hb1
  generalize hr1 : Lv.lv (a.data.toList ++ [45] ++ b.data.toList) = r1
  have Hr1 := hide hr1
  clear hr1 hF
  go_wp2_with fail
  refine (isLV_any F _ _ (by exact hF1) (by rw [size2]; unfold maxLen; omega)).mono ?_
  rintro e w2 ⟨rfl, hb2⟩
  rw [app2]
  have hF2 := ans_next hF1 hb2
  generalize hr2 : Lv.lv (a.data.toList ++ [48]) = r2
  have Hr2 := hide hr2
  have B2 := below_next hb1 hb2
  clear hr2 hF1 hb1 hb2
  go_wp2_with fail
  refine (isLV_any F _ _ (by exact hF2) (by rw [size2']; unfold maxLen; omega)).mono ?_
  rintro e w3 ⟨rfl, hb3⟩
  rw [app2']
  have hF3 := ans_next hF2 hb3
  generalize hr3 : Lv.lv ([48] ++ b.data.toList) = r3
  have J : r1 = _ := J1 a b 45 (by decide) (by decide) r1 r2 r3 false true Hr1.out Hr2.out hr3 ea eb
  have B3 := below_next B2 hb3
  clear hr3 hF2 hb3 B2 Hr1 Hr2
  all_goals
    simp at J
    subst J
    go_wp2_with fail
    refine (lvAllA_ex a _ ha).mono ?_
    rintro e w4 ⟨x, rfl, hx, sx, hb4⟩
    have hF4 := ans_next hF3 hb4
    have B4 := below_next B3 hb4
    clear hb4
    go_wp2_with fail
    refine (lvAllA_ex b _ hb).mono ?_
    rintro e w5 ⟨y, rfl, hy, sy, hb5⟩
    have hF5 := ans_next hF4 hb5
    have B5 := below_next B4 hb5
    clear hb5 B4
    go_wp2_with fail
    refine (isLV_any F _ _ (by exact hF5) (by rw [size3]; unfold maxLen; omega)).mono ?_
    rintro e w6 ⟨rfl, hb6⟩
    rw [app3]
    generalize hr4 : Lv.lv (x.data.toList ++ [45] ++ y.data.toList) = r4
    have J' : r4 = _ := J2 a b x y 45 (by decide) (by decide) r4 false true hr4 hx.out hy.out ea eb
    have B6 := below_next B5 hb6
    clear hr4 hb6 B5 hF4 hF5 hF3 sx sy hx hy
    simp at J'
    subst J'
    go_wp2
    go_ret
    exact ⟨ret_bool (by simp <;> omega), B6⟩

set_option maxHeartbeats 1600000 in
theorem join_low_fit (F : Interp) (a b : ByteArray) (k : Int) (w : World) (hF : F.told.answers w.tape) (ha : a.size ≤ 65536) (hb : b.size ≤ 65536) (hk : (k == 0) = false) (hk1 : (k == 1) = true) (ea : a.toList.isEmpty = false) (eb : b.toList.isEmpty = false) (hf : a.size + b.size + 1 ≤ 63) :
    Calls Tryf.prog 4 #[.string a, .string b, .int .u8 k] w fun e w' => e = .returned (.bool true) ∧ Below w.heap.size w w' := by
  go_enter Tryf.func4, Tryf.ntmps4
  go_wp2_with (first | (go_at_call 10; refine (bytes10_yes _ _ _ _ (by omega)).mono ?_; rintro e w' ⟨rfl, rfl⟩))
  refine (isLV_any F _ _ (by exact hF) (by rw [size3]; unfold maxLen; omega)).mono ?_
  rintro e w1 ⟨rfl, hb1⟩
  rw [app3]
  have hF1 := ans_next hF hb1
  generalize hr1 : Lv.lv (a.data.toList ++ [95] ++ b.data.toList) = r1
  have Hr1 := hide hr1
  clear hr1 hF
  go_wp2_with fail
  refine (isLV_any F _ _ (by exact hF1) (by rw [size2]; unfold maxLen; omega)).mono ?_
  rintro e w2 ⟨rfl, hb2⟩
  rw [app2]
  have hF2 := ans_next hF1 hb2
  generalize hr2 : Lv.lv (a.data.toList ++ [48]) = r2
  have Hr2 := hide hr2
  have B2 := below_next hb1 hb2
  clear hr2 hF1 hb1 hb2
  go_wp2_with fail
  refine (isLV_any F _ _ (by exact hF2) (by rw [size2']; unfold maxLen; omega)).mono ?_
  rintro e w3 ⟨rfl, hb3⟩
  rw [app2']
  have hF3 := ans_next hF2 hb3
  generalize hr3 : Lv.lv ([48] ++ b.data.toList) = r3
  have J : r1 = _ := J1 a b 95 (by decide) (by decide) r1 r2 r3 false false Hr1.out Hr2.out hr3 ea eb
  rw [decide_eq_true hf] at J
  have B3 := below_next B2 hb3
  clear hr3 hF2 hb3 B2 Hr1 Hr2
  cases r2 <;> cases r3
  all_goals
    simp at J
    subst J
    go_wp2_with fail
    refine (lvAllA_ex a _ ha).mono ?_
    rintro e w4 ⟨x, rfl, hx, sx, hb4⟩
    have hF4 := ans_next hF3 hb4
    have B4 := below_next B3 hb4
    clear hb4
    go_wp2_with fail
    refine (lvAllA_ex b _ hb).mono ?_
    rintro e w5 ⟨y, rfl, hy, sy, hb5⟩
    have hF5 := ans_next hF4 hb5
    have B5 := below_next B4 hb5
    clear hb5 B4
    go_wp2_with fail
    refine (isLV_any F _ _ (by exact hF5) (by rw [size3]; unfold maxLen; omega)).mono ?_
    rintro e w6 ⟨rfl, hb6⟩
    rw [app3]
    generalize hr4 : Lv.lv (x.data.toList ++ [95] ++ y.data.toList) = r4
    have J' : r4 = _ := J2 a b x y 95 (by decide) (by decide) r4 false false hr4 hx.out hy.out ea eb
    rw [decide_eq_true hf] at J'
    have B6 := below_next B5 hb6
    clear hr4 hb6 B5 hF4 hF5 hF3 sx sy hx hy
    simp at J'
    subst J'
    go_wp2
    go_ret
    exact ⟨ret_bool (by simp <;> omega), B6⟩

set_option maxHeartbeats 1600000 in
theorem join_low_wide (F : Interp) (a b : ByteArray) (k : Int) (w : World) (hF : F.told.answers w.tape) (ha : a.size ≤ 65536) (hb : b.size ≤ 65536) (hk : (k == 0) = false) (hk1 : (k == 1) = true) (ea : a.toList.isEmpty = false) (eb : b.toList.isEmpty = false) (hf : ¬ a.size + b.size + 1 ≤ 63) :
    Calls Tryf.prog 4 #[.string a, .string b, .int .u8 k] w fun e w' => e = .returned (.bool true) ∧ Below w.heap.size w w' := by
  go_enter Tryf.func4, Tryf.ntmps4
  go_wp2_with (first | (go_at_call 10; refine (bytes10_yes _ _ _ _ (by omega)).mono ?_; rintro e w' ⟨rfl, rfl⟩))
  refine (isLV_any F _ _ (by exact hF) (by rw [size3]; unfold maxLen; omega)).mono ?_
  rintro e w1 ⟨rfl, hb1⟩
  rw [app3]
  have hF1 := ans_next hF hb1
  generalize hr1 : Lv.lv (a.data.toList ++ [95] ++ b.data.toList) = r1
  have Hr1 := hide hr1
  clear hr1 hF
  go_wp2_with fail
  refine (isLV_any F _ _ (by exact hF1) (by rw [size2]; unfold maxLen; omega)).mono ?_
  rintro e w2 ⟨rfl, hb2⟩
  rw [app2]
  have hF2 := ans_next hF1 hb2
  generalize hr2 : Lv.lv (a.data.toList ++ [48]) = r2
  have Hr2 := hide hr2
  have B2 := below_next hb1 hb2
  clear hr2 hF1 hb1 hb2
  go_wp2_with fail
  refine (isLV_any F _ _ (by exact hF2) (by rw [size2']; unfold maxLen; omega)).mono ?_
  rintro e w3 ⟨rfl, hb3⟩
  rw [app2']
  have hF3 := ans_next hF2 hb3
  generalize hr3 : Lv.lv ([48] ++ b.data.toList) = r3
  have J : r1 = _ := J1 a b 95 (by decide) (by decide) r1 r2 r3 false false Hr1.out Hr2.out hr3 ea eb
  rw [decide_eq_false hf] at J
  have B3 := below_next B2 hb3
  clear hr3 hF2 hb3 B2 Hr1 Hr2
  cases r2 <;> cases r3
  all_goals
    simp at J
    subst J
    go_wp2_with fail
    refine (lvAllA_ex a _ ha).mono ?_
    rintro e w4 ⟨x, rfl, hx, sx, hb4⟩
    have hF4 := ans_next hF3 hb4
    have B4 := below_next B3 hb4
    clear hb4
    go_wp2_with fail
    refine (lvAllA_ex b _ hb).mono ?_
    rintro e w5 ⟨y, rfl, hy, sy, hb5⟩
    have hF5 := ans_next hF4 hb5
    have B5 := below_next B4 hb5
    clear hb5 B4
    go_wp2_with fail
    refine (isLV_any F _ _ (by exact hF5) (by rw [size3]; unfold maxLen; omega)).mono ?_
    rintro e w6 ⟨rfl, hb6⟩
    rw [app3]
    generalize hr4 : Lv.lv (x.data.toList ++ [95] ++ y.data.toList) = r4
    have J' : r4 = _ := J2 a b x y 95 (by decide) (by decide) r4 false false hr4 hx.out hy.out ea eb
    rw [decide_eq_false hf] at J'
    have B6 := below_next B5 hb6
    clear hr4 hb6 B5 hF4 hF5 hF3 sx sy hx hy
    simp at J'
    subst J'
    go_wp2
    go_ret
    exact ⟨ret_bool (by simp <;> omega), B6⟩

set_option maxHeartbeats 1600000 in
theorem join_low_ea (F : Interp) (a b : ByteArray) (k : Int) (w : World) (hF : F.told.answers w.tape) (ha : a.size ≤ 65536) (hb : b.size ≤ 65536) (hk : (k == 0) = false) (hk1 : (k == 1) = true) (ea : a.toList.isEmpty = true) (B : Bool) (eb : b.toList.isEmpty = B) :
    Calls Tryf.prog 4 #[.string a, .string b, .int .u8 k] w fun e w' => e = .returned (.bool true) ∧ Below w.heap.size w w' := by
  go_enter Tryf.func4, Tryf.ntmps4
  go_wp2_with (first | (go_at_call 10; refine (bytes10_yes _ _ _ _ (by omega)).mono ?_; rintro e w' ⟨rfl, rfl⟩))
  refine (isLV_any F _ _ (by exact hF) (by rw [size3]; unfold maxLen; omega)).mono ?_
  rintro e w1 ⟨rfl, hb1⟩
  rw [app3]
  have hF1 := ans_next hF hb1
  generalize hr1 : Lv.lv (a.data.toList ++ [95] ++ b.data.toList) = r1
  have Hr1 := hide hr1
  clear hr1 hF
  go_wp2_with fail
  refine (isLV_any F _ _ (by exact hF1) (by rw [size2]; unfold maxLen; omega)).mono ?_
  rintro e w2 ⟨rfl, hb2⟩
  rw [app2]
  have hF2 := ans_next hF1 hb2
  generalize hr2 : Lv.lv (a.data.toList ++ [48]) = r2
  have Hr2 := hide hr2
  have B2 := below_next hb1 hb2
  clear hr2 hF1 hb1 hb2
  go_wp2_with fail
  refine (isLV_any F _ _ (by exact hF2) (by rw [size2']; unfold maxLen; omega)).mono ?_
  rintro e w3 ⟨rfl, hb3⟩
  rw [app2']
  have hF3 := ans_next hF2 hb3
  generalize hr3 : Lv.lv ([48] ++ b.data.toList) = r3
  have J : r1 = _ := J1 a b 95 (by decide) (by decide) r1 r2 r3 true B Hr1.out Hr2.out hr3 ea eb
  have B3 := below_next B2 hb3
  clear hr3 hF2 hb3 B2 Hr1 Hr2
  all_goals
    simp at J
    subst J
    go_wp2_with fail
    refine (lvAllA_ex a _ ha).mono ?_
    rintro e w4 ⟨x, rfl, hx, sx, hb4⟩
    have hF4 := ans_next hF3 hb4
    have B4 := below_next B3 hb4
    clear hb4
    go_wp2_with fail
    refine (lvAllA_ex b _ hb).mono ?_
    rintro e w5 ⟨y, rfl, hy, sy, hb5⟩
    have hF5 := ans_next hF4 hb5
    have B5 := below_next B4 hb5
    clear hb5 B4
    go_wp2_with fail
    refine (isLV_any F _ _ (by exact hF5) (by rw [size3]; unfold maxLen; omega)).mono ?_
    rintro e w6 ⟨rfl, hb6⟩
    rw [app3]
    generalize hr4 : Lv.lv (x.data.toList ++ [95] ++ y.data.toList) = r4
    have J' : r4 = _ := J2 a b x y 95 (by decide) (by decide) r4 true B hr4 hx.out hy.out ea eb
    have B6 := below_next B5 hb6
    clear hr4 hb6 B5 hF4 hF5 hF3 sx sy hx hy
    simp at J'
    subst J'
    go_wp2
    go_ret
    exact ⟨ret_bool (by simp <;> omega), B6⟩

set_option maxHeartbeats 1600000 in
theorem join_low_eb (F : Interp) (a b : ByteArray) (k : Int) (w : World) (hF : F.told.answers w.tape) (ha : a.size ≤ 65536) (hb : b.size ≤ 65536) (hk : (k == 0) = false) (hk1 : (k == 1) = true) (ea : a.toList.isEmpty = false) (eb : b.toList.isEmpty = true) :
    Calls Tryf.prog 4 #[.string a, .string b, .int .u8 k] w fun e w' => e = .returned (.bool true) ∧ Below w.heap.size w w' := by
  go_enter Tryf.func4, Tryf.ntmps4
  go_wp2_with (first | (go_at_call 10; refine (bytes10_yes _ _ _ _ (by omega)).mono ?_; rintro e w' ⟨rfl, rfl⟩))
  refine (isLV_any F _ _ (by exact hF) (by rw [size3]; unfold maxLen; omega)).mono ?_
  rintro e w1 ⟨rfl, hb1⟩
  rw [app3]
  have hF1 := ans_next hF hb1
  generalize hr1 : Lv.lv (a.data.toList ++ [95] ++ b.data.toList) = r1
  have Hr1 := hide hr1
  clear hr1 hF
  go_wp2_with fail
  refine (isLV_any F _ _ (by exact hF1) (by rw [size2]; unfold maxLen; omega)).mono ?_
  rintro e w2 ⟨rfl, hb2⟩
  rw [app2]
  have hF2 := ans_next hF1 hb2
  generalize hr2 : Lv.lv (a.data.toList ++ [48]) = r2
  have Hr2 := hide hr2
  have B2 := below_next hb1 hb2
  clear hr2 hF1 hb1 hb2
  go_wp2_with fail
  refine (isLV_any F _ _ (by exact hF2) (by rw [size2']; unfold maxLen; omega)).mono ?_
  rintro e w3 ⟨rfl, hb3⟩
  rw [app2']
  have hF3 := ans_next hF2 hb3
  generalize hr3 : Lv.lv ([48] ++ b.data.toList) = r3
  have J : r1 = _ := J1 a b 95 (by decide) (by decide) r1 r2 r3 false true Hr1.out Hr2.out hr3 ea eb
  have B3 := below_next B2 hb3
  clear hr3 hF2 hb3 B2 Hr1 Hr2
  all_goals
    simp at J
    subst J
    go_wp2_with fail
    refine (lvAllA_ex a _ ha).mono ?_
    rintro e w4 ⟨x, rfl, hx, sx, hb4⟩
    have hF4 := ans_next hF3 hb4
    have B4 := below_next B3 hb4
    clear hb4
    go_wp2_with fail
    refine (lvAllA_ex b _ hb).mono ?_
    rintro e w5 ⟨y, rfl, hy, sy, hb5⟩
    have hF5 := ans_next hF4 hb5
    have B5 := below_next B4 hb5
    clear hb5 B4
    go_wp2_with fail
    refine (isLV_any F _ _ (by exact hF5) (by rw [size3]; unfold maxLen; omega)).mono ?_
    rintro e w6 ⟨rfl, hb6⟩
    rw [app3]
    generalize hr4 : Lv.lv (x.data.toList ++ [95] ++ y.data.toList) = r4
    have J' : r4 = _ := J2 a b x y 95 (by decide) (by decide) r4 false true hr4 hx.out hy.out ea eb
    have B6 := below_next B5 hb6
    clear hr4 hb6 B5 hF4 hF5 hF3 sx sy hx hy
    simp at J'
    subst J'
    go_wp2
    go_ret
    exact ⟨ret_bool (by simp <;> omega), B6⟩

set_option maxHeartbeats 1600000 in
theorem join_dot_fit (F : Interp) (a b : ByteArray) (k : Int) (w : World) (hF : F.told.answers w.tape) (ha : a.size ≤ 65536) (hb : b.size ≤ 65536) (hk : (k == 0) = false) (hk1 : (k == 1) = false) (ea : a.toList.isEmpty = false) (eb : b.toList.isEmpty = false) (hf : a.size + b.size + 1 ≤ 63) :
    Calls Tryf.prog 4 #[.string a, .string b, .int .u8 k] w fun e w' => e = .returned (.bool true) ∧ Below w.heap.size w w' := by
  go_enter Tryf.func4, Tryf.ntmps4
  go_wp2_with (first | (go_at_call 10; refine (bytes10_yes _ _ _ _ (by omega)).mono ?_; rintro e w' ⟨rfl, rfl⟩))
  refine (isLV_any F _ _ (by exact hF) (by rw [size3]; unfold maxLen; omega)).mono ?_
  rintro e w1 ⟨rfl, hb1⟩
  rw [app3]
  have hF1 := ans_next hF hb1
  generalize hr1 : Lv.lv (a.data.toList ++ [46] ++ b.data.toList) = r1
  have Hr1 := hide hr1
  clear hr1 hF
  go_wp2_with fail
  refine (isLV_any F _ _ (by exact hF1) (by rw [size2]; unfold maxLen; omega)).mono ?_
  rintro e w2 ⟨rfl, hb2⟩
  rw [app2]
  have hF2 := ans_next hF1 hb2
  generalize hr2 : Lv.lv (a.data.toList ++ [48]) = r2
  have Hr2 := hide hr2
  have B2 := below_next hb1 hb2
  clear hr2 hF1 hb1 hb2
  go_wp2_with fail
  refine (isLV_any F _ _ (by exact hF2) (by rw [size2']; unfold maxLen; omega)).mono ?_
  rintro e w3 ⟨rfl, hb3⟩
  rw [app2']
  have hF3 := ans_next hF2 hb3
  generalize hr3 : Lv.lv ([48] ++ b.data.toList) = r3
  have J : r1 = _ := J1 a b 46 (by decide) (by decide) r1 r2 r3 false false Hr1.out Hr2.out hr3 ea eb
  rw [decide_eq_true hf] at J
  have B3 := below_next B2 hb3
  clear hr3 hF2 hb3 B2 Hr1 Hr2
  cases r2 <;> cases r3
  all_goals
    simp at J
    subst J
    go_wp2_with fail
    refine (lvAllA_ex a _ ha).mono ?_
    rintro e w4 ⟨x, rfl, hx, sx, hb4⟩
    have hF4 := ans_next hF3 hb4
    have B4 := below_next B3 hb4
    clear hb4
    go_wp2_with fail
    refine (lvAllA_ex b _ hb).mono ?_
    rintro e w5 ⟨y, rfl, hy, sy, hb5⟩
    have hF5 := ans_next hF4 hb5
    have B5 := below_next B4 hb5
    clear hb5 B4
    go_wp2_with fail
    refine (isLV_any F _ _ (by exact hF5) (by rw [size3]; unfold maxLen; omega)).mono ?_
    rintro e w6 ⟨rfl, hb6⟩
    rw [app3]
    generalize hr4 : Lv.lv (x.data.toList ++ [46] ++ y.data.toList) = r4
    have J' : r4 = _ := J2 a b x y 46 (by decide) (by decide) r4 false false hr4 hx.out hy.out ea eb
    rw [decide_eq_true hf] at J'
    have B6 := below_next B5 hb6
    clear hr4 hb6 B5 hF4 hF5 hF3 sx sy hx hy
    simp at J'
    subst J'
    go_wp2
    go_ret
    exact ⟨ret_bool (by simp <;> omega), B6⟩

set_option maxHeartbeats 1600000 in
theorem join_dot_wide (F : Interp) (a b : ByteArray) (k : Int) (w : World) (hF : F.told.answers w.tape) (ha : a.size ≤ 65536) (hb : b.size ≤ 65536) (hk : (k == 0) = false) (hk1 : (k == 1) = false) (ea : a.toList.isEmpty = false) (eb : b.toList.isEmpty = false) (hf : ¬ a.size + b.size + 1 ≤ 63) :
    Calls Tryf.prog 4 #[.string a, .string b, .int .u8 k] w fun e w' => e = .returned (.bool true) ∧ Below w.heap.size w w' := by
  go_enter Tryf.func4, Tryf.ntmps4
  go_wp2_with (first | (go_at_call 10; refine (bytes10_yes _ _ _ _ (by omega)).mono ?_; rintro e w' ⟨rfl, rfl⟩))
  refine (isLV_any F _ _ (by exact hF) (by rw [size3]; unfold maxLen; omega)).mono ?_
  rintro e w1 ⟨rfl, hb1⟩
  rw [app3]
  have hF1 := ans_next hF hb1
  generalize hr1 : Lv.lv (a.data.toList ++ [46] ++ b.data.toList) = r1
  have Hr1 := hide hr1
  clear hr1 hF
  go_wp2_with fail
  refine (isLV_any F _ _ (by exact hF1) (by rw [size2]; unfold maxLen; omega)).mono ?_
  rintro e w2 ⟨rfl, hb2⟩
  rw [app2]
  have hF2 := ans_next hF1 hb2
  generalize hr2 : Lv.lv (a.data.toList ++ [48]) = r2
  have Hr2 := hide hr2
  have B2 := below_next hb1 hb2
  clear hr2 hF1 hb1 hb2
  go_wp2_with fail
  refine (isLV_any F _ _ (by exact hF2) (by rw [size2']; unfold maxLen; omega)).mono ?_
  rintro e w3 ⟨rfl, hb3⟩
  rw [app2']
  have hF3 := ans_next hF2 hb3
  generalize hr3 : Lv.lv ([48] ++ b.data.toList) = r3
  have J : r1 = _ := J1 a b 46 (by decide) (by decide) r1 r2 r3 false false Hr1.out Hr2.out hr3 ea eb
  rw [decide_eq_false hf] at J
  have B3 := below_next B2 hb3
  clear hr3 hF2 hb3 B2 Hr1 Hr2
  cases r2 <;> cases r3
  all_goals
    simp at J
    subst J
    go_wp2_with fail
    refine (lvAllA_ex a _ ha).mono ?_
    rintro e w4 ⟨x, rfl, hx, sx, hb4⟩
    have hF4 := ans_next hF3 hb4
    have B4 := below_next B3 hb4
    clear hb4
    go_wp2_with fail
    refine (lvAllA_ex b _ hb).mono ?_
    rintro e w5 ⟨y, rfl, hy, sy, hb5⟩
    have hF5 := ans_next hF4 hb5
    have B5 := below_next B4 hb5
    clear hb5 B4
    go_wp2_with fail
    refine (isLV_any F _ _ (by exact hF5) (by rw [size3]; unfold maxLen; omega)).mono ?_
    rintro e w6 ⟨rfl, hb6⟩
    rw [app3]
    generalize hr4 : Lv.lv (x.data.toList ++ [46] ++ y.data.toList) = r4
    have J' : r4 = _ := J2 a b x y 46 (by decide) (by decide) r4 false false hr4 hx.out hy.out ea eb
    rw [decide_eq_false hf] at J'
    have B6 := below_next B5 hb6
    clear hr4 hb6 B5 hF4 hF5 hF3 sx sy hx hy
    simp at J'
    subst J'
    go_wp2
    go_ret
    exact ⟨ret_bool (by simp <;> omega), B6⟩

set_option maxHeartbeats 1600000 in
theorem join_dot_ea (F : Interp) (a b : ByteArray) (k : Int) (w : World) (hF : F.told.answers w.tape) (ha : a.size ≤ 65536) (hb : b.size ≤ 65536) (hk : (k == 0) = false) (hk1 : (k == 1) = false) (ea : a.toList.isEmpty = true) (B : Bool) (eb : b.toList.isEmpty = B) :
    Calls Tryf.prog 4 #[.string a, .string b, .int .u8 k] w fun e w' => e = .returned (.bool true) ∧ Below w.heap.size w w' := by
  go_enter Tryf.func4, Tryf.ntmps4
  go_wp2_with (first | (go_at_call 10; refine (bytes10_yes _ _ _ _ (by omega)).mono ?_; rintro e w' ⟨rfl, rfl⟩))
  refine (isLV_any F _ _ (by exact hF) (by rw [size3]; unfold maxLen; omega)).mono ?_
  rintro e w1 ⟨rfl, hb1⟩
  rw [app3]
  have hF1 := ans_next hF hb1
  generalize hr1 : Lv.lv (a.data.toList ++ [46] ++ b.data.toList) = r1
  have Hr1 := hide hr1
  clear hr1 hF
  go_wp2_with fail
  refine (isLV_any F _ _ (by exact hF1) (by rw [size2]; unfold maxLen; omega)).mono ?_
  rintro e w2 ⟨rfl, hb2⟩
  rw [app2]
  have hF2 := ans_next hF1 hb2
  generalize hr2 : Lv.lv (a.data.toList ++ [48]) = r2
  have Hr2 := hide hr2
  have B2 := below_next hb1 hb2
  clear hr2 hF1 hb1 hb2
  go_wp2_with fail
  refine (isLV_any F _ _ (by exact hF2) (by rw [size2']; unfold maxLen; omega)).mono ?_
  rintro e w3 ⟨rfl, hb3⟩
  rw [app2']
  have hF3 := ans_next hF2 hb3
  generalize hr3 : Lv.lv ([48] ++ b.data.toList) = r3
  have J : r1 = _ := J1 a b 46 (by decide) (by decide) r1 r2 r3 true B Hr1.out Hr2.out hr3 ea eb
  have B3 := below_next B2 hb3
  clear hr3 hF2 hb3 B2 Hr1 Hr2
  all_goals
    simp at J
    subst J
    go_wp2_with fail
    refine (lvAllA_ex a _ ha).mono ?_
    rintro e w4 ⟨x, rfl, hx, sx, hb4⟩
    have hF4 := ans_next hF3 hb4
    have B4 := below_next B3 hb4
    clear hb4
    go_wp2_with fail
    refine (lvAllA_ex b _ hb).mono ?_
    rintro e w5 ⟨y, rfl, hy, sy, hb5⟩
    have hF5 := ans_next hF4 hb5
    have B5 := below_next B4 hb5
    clear hb5 B4
    go_wp2_with fail
    refine (isLV_any F _ _ (by exact hF5) (by rw [size3]; unfold maxLen; omega)).mono ?_
    rintro e w6 ⟨rfl, hb6⟩
    rw [app3]
    generalize hr4 : Lv.lv (x.data.toList ++ [46] ++ y.data.toList) = r4
    have J' : r4 = _ := J2 a b x y 46 (by decide) (by decide) r4 true B hr4 hx.out hy.out ea eb
    have B6 := below_next B5 hb6
    clear hr4 hb6 B5 hF4 hF5 hF3 sx sy hx hy
    simp at J'
    subst J'
    go_wp2
    go_ret
    exact ⟨ret_bool (by simp <;> omega), B6⟩

set_option maxHeartbeats 1600000 in
theorem join_dot_eb (F : Interp) (a b : ByteArray) (k : Int) (w : World) (hF : F.told.answers w.tape) (ha : a.size ≤ 65536) (hb : b.size ≤ 65536) (hk : (k == 0) = false) (hk1 : (k == 1) = false) (ea : a.toList.isEmpty = false) (eb : b.toList.isEmpty = true) :
    Calls Tryf.prog 4 #[.string a, .string b, .int .u8 k] w fun e w' => e = .returned (.bool true) ∧ Below w.heap.size w w' := by
  go_enter Tryf.func4, Tryf.ntmps4
  go_wp2_with (first | (go_at_call 10; refine (bytes10_yes _ _ _ _ (by omega)).mono ?_; rintro e w' ⟨rfl, rfl⟩))
  refine (isLV_any F _ _ (by exact hF) (by rw [size3]; unfold maxLen; omega)).mono ?_
  rintro e w1 ⟨rfl, hb1⟩
  rw [app3]
  have hF1 := ans_next hF hb1
  generalize hr1 : Lv.lv (a.data.toList ++ [46] ++ b.data.toList) = r1
  have Hr1 := hide hr1
  clear hr1 hF
  go_wp2_with fail
  refine (isLV_any F _ _ (by exact hF1) (by rw [size2]; unfold maxLen; omega)).mono ?_
  rintro e w2 ⟨rfl, hb2⟩
  rw [app2]
  have hF2 := ans_next hF1 hb2
  generalize hr2 : Lv.lv (a.data.toList ++ [48]) = r2
  have Hr2 := hide hr2
  have B2 := below_next hb1 hb2
  clear hr2 hF1 hb1 hb2
  go_wp2_with fail
  refine (isLV_any F _ _ (by exact hF2) (by rw [size2']; unfold maxLen; omega)).mono ?_
  rintro e w3 ⟨rfl, hb3⟩
  rw [app2']
  have hF3 := ans_next hF2 hb3
  generalize hr3 : Lv.lv ([48] ++ b.data.toList) = r3
  have J : r1 = _ := J1 a b 46 (by decide) (by decide) r1 r2 r3 false true Hr1.out Hr2.out hr3 ea eb
  have B3 := below_next B2 hb3
  clear hr3 hF2 hb3 B2 Hr1 Hr2
  all_goals
    simp at J
    subst J
    go_wp2_with fail
    refine (lvAllA_ex a _ ha).mono ?_
    rintro e w4 ⟨x, rfl, hx, sx, hb4⟩
    have hF4 := ans_next hF3 hb4
    have B4 := below_next B3 hb4
    clear hb4
    go_wp2_with fail
    refine (lvAllA_ex b _ hb).mono ?_
    rintro e w5 ⟨y, rfl, hy, sy, hb5⟩
    have hF5 := ans_next hF4 hb5
    have B5 := below_next B4 hb5
    clear hb5 B4
    go_wp2_with fail
    refine (isLV_any F _ _ (by exact hF5) (by rw [size3]; unfold maxLen; omega)).mono ?_
    rintro e w6 ⟨rfl, hb6⟩
    rw [app3]
    generalize hr4 : Lv.lv (x.data.toList ++ [46] ++ y.data.toList) = r4
    have J' : r4 = _ := J2 a b x y 46 (by decide) (by decide) r4 false true hr4 hx.out hy.out ea eb
    have B6 := below_next B5 hb6
    clear hr4 hb6 B5 hF4 hF5 hF3 sx sy hx hy
    simp at J'
    subst J'
    go_wp2
    go_ret
    exact ⟨ret_bool (by simp <;> omega), B6⟩

/-- Both texts of at most 65,536 bytes: the law's body. -/
theorem join_body (F : Interp) (a b : ByteArray) (k : Int) (w : World) (hF : F.told.answers w.tape) (ha : a.size ≤ 65536) (hb : b.size ≤ 65536) :
    Calls Tryf.prog 4 #[.string a, .string b, .int .u8 k] w fun e w' => e = .returned (.bool true) ∧ Below w.heap.size w w' := by
  by_cases hk : k = 0
  · have hk' : (k == 0) = true := by simpa using hk
    cases ea : a.toList.isEmpty
    · cases eb : b.toList.isEmpty
      · by_cases hf : a.size + b.size + 1 ≤ 63
        · exact join_dash_fit F a b k w hF ha hb hk' ea eb hf
        · exact join_dash_wide F a b k w hF ha hb hk' ea eb hf
      · exact join_dash_eb F a b k w hF ha hb hk' ea eb
    · exact join_dash_ea F a b k w hF ha hb hk' ea _ rfl
  · have hk' : (k == 0) = false := by simpa using hk
    by_cases hk1 : k = 1
    · have hk1' : (k == 1) = true := by simpa using hk1
      cases ea : a.toList.isEmpty
      · cases eb : b.toList.isEmpty
        · by_cases hf : a.size + b.size + 1 ≤ 63
          · exact join_low_fit F a b k w hF ha hb hk' hk1' ea eb hf
          · exact join_low_wide F a b k w hF ha hb hk' hk1' ea eb hf
        · exact join_low_eb F a b k w hF ha hb hk' hk1' ea eb
      · exact join_low_ea F a b k w hF ha hb hk' hk1' ea _ rfl
    · have hk1' : (k == 1) = false := by simpa using hk1
      cases ea : a.toList.isEmpty
      · cases eb : b.toList.isEmpty
        · by_cases hf : a.size + b.size + 1 ≤ 63
          · exact join_dot_fit F a b k w hF ha hb hk' hk1' ea eb hf
          · exact join_dot_wide F a b k w hF ha hb hk' hk1' ea eb hf
        · exact join_dot_eb F a b k w hF ha hb hk' hk1' ea eb
      · exact join_dot_ea F a b k w hF ha hb hk' hk1' ea _ rfl

set_option maxHeartbeats 400000 in
theorem join_far (a b : ByteArray) (k : Int) (w : World) (ha : a.size ≤ maxLen) (hb : b.size ≤ maxLen) (h : ¬ (a.size ≤ 65536 ∧ b.size ≤ 65536)) :
    Calls Tryf.prog 4 #[.string a, .string b, .int .u8 k] w fun e w' => e = .returned (.bool true) ∧ w' = w := by
  by_cases hs : a.size + b.size ≤ 1048576
  · by_cases h1 : a.size ≤ 65536
    · have h2 : ¬ b.size ≤ 65536 := fun h2 => h ⟨h1, h2⟩
      clear h
      go_enter Tryf.func4, Tryf.ntmps4
      go_wp2_with (first | (go_at_call 10; refine (bytes10_yes _ _ _ _ hs).mono ?_; rintro e w' ⟨rfl, rfl⟩))
      go_ret
      exact ⟨rfl, rfl⟩
    · clear h
      go_enter Tryf.func4, Tryf.ntmps4
      go_wp2_with (first | (go_at_call 10; refine (bytes10_yes _ _ _ _ hs).mono ?_; rintro e w' ⟨rfl, rfl⟩))
      go_ret
      exact ⟨rfl, rfl⟩
  · clear h
    go_enter Tryf.func4, Tryf.ntmps4
    go_wp2_with (first | (go_at_call 10; refine (bytes10_no _ _ _ _ ha hb hs).mono ?_; rintro e w' ⟨rfl, rfl⟩))
    go_ret
    exact ⟨rfl, rfl⟩

theorem join_all (F : Interp) (a b : ByteArray) (k : Int) (w : World) (hF : F.told.answers w.tape) (ha : a.size ≤ maxLen) (hb : b.size ≤ maxLen) :
    Calls Tryf.prog 4 #[.string a, .string b, .int .u8 k] w fun e w' => e = .returned (.bool true) ∧ Below w.heap.size w w' := by
  by_cases h : a.size ≤ 65536 ∧ b.size ≤ 65536
  · exact join_body F a b k w hF h.1 h.2
  · exact (join_far a b k w ha hb h).mono fun _ _ ⟨he, hw⟩ => ⟨he, hw ▸ Below.refl _ _⟩

end Go.Proofs.Qxb6615952aFmt
