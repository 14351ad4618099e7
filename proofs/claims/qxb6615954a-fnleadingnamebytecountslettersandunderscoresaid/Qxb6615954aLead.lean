/-
  THE BYTES OF A NAME: the plain functions and the walks.
-/
import Derived.Test.Qxb6615954aRows
import Derived.WalkKit
import Derived.WalkSpells
namespace Go.Proofs.Qxb6615954a.Lead
open Go.RowKit

def leadB (n : Int) : Bool := decide (97 ≤ n ∧ n ≤ 122 ∨ 65 ≤ n ∧ n ≤ 90 ∨ n = 95)
def nameB (n : Int) : Bool := leadB n || decide (48 ≤ n ∧ n ≤ 57 ∨ n = 45)

/-- How many numbers below k does p let? -/
def cnt (p : Int → Bool) : Nat → Nat
  | 0 => 0
  | k + 1 => cnt p k + if p (k : Int) then 1 else 0

theorem cnt_le (p : Int → Bool) : ∀ k, cnt p k ≤ k
  | 0 => Nat.le_refl _
  | k + 1 => by have := cnt_le p k; simp only [cnt]; split <;> omega

theorem lead256 : cnt leadB 256 = 53 := by decide +kernel
theorem name256 : cnt nameB 256 = 64 := by decide +kernel

theorem name_of_lead (n : Int) (h : leadB n = true) : nameB n = true := by simp [nameB, h]
theorem lead_range (n : Int) (h : leadB n = true) : 65 ≤ n ∧ n ≤ 122 := by simp [leadB] at h; omega

theorem lead_xor_fin : ∀ n : Fin 256, ((n.val : Int) != 95) = true → ((n.val : Int) != 127) = true → leadB (bits BinOp.xor IntKind.u8 (n.val : Int) 32) = leadB (n.val : Int) := by decide +kernel
theorem lead_xor (c : Int) (h0 : 0 ≤ c) (h1 : c ≤ 255) (g : (c != 95) = true) (g2 : (c != 127) = true) : leadB (bits BinOp.xor IntKind.u8 c 32) = leadB c := by
  have e : ((⟨c.toNat, by omega⟩ : Fin 256).val : Int) = c := by show ((c.toNat : Nat) : Int) = c; omega
  have := lead_xor_fin ⟨c.toNat, by omega⟩
  rw [e] at this
  exact this g g2

theorem ret_bool {a b : Bool} (h : a = b) : Ending.returned (.bool a) = .returned (.bool b) := by rw [h]

set_option maxHeartbeats 400000 in
theorem lead_any (n : Int) (w : World) : Calls Try.prog 14 #[.int .u8 n] w fun e w' => e = .returned (.bool (leadB n)) ∧ w' = w := by
  go_enter Try.func14, Try.ntmps14
  go_wp2
  all_goals go_ret
  all_goals refine ⟨ret_bool ?_, rfl⟩
  all_goals (rw [Bool.eq_iff_iff]; simp [leadB]; omega)

set_option maxHeartbeats 400000 in
theorem zzlead_any (n : Int) (w : World) : Calls Try.prog 6 #[.int .u8 n] w fun e w' => e = .returned (.bool (leadB n)) ∧ w' = w := by
  go_enter Try.func6, Try.ntmps6
  go_wp2_with (go_at_call 14; refine (lead_any _ _).mono ?_; rintro e w' ⟨rfl, rfl⟩)
  go_ret
  exact ⟨rfl, rfl⟩

set_option maxHeartbeats 400000 in
theorem name_any (n : Int) (w : World) : Calls Try.prog 15 #[.int .u8 n] w fun e w' => e = .returned (.bool (nameB n)) ∧ w' = w := by
  cases hl : leadB n
  · go_enter Try.func15, Try.ntmps15
    go_wp2_with (go_at_call 14; refine (lead_any _ _).mono ?_; rintro e w' ⟨rfl, rfl⟩)
    all_goals go_ret
    all_goals refine ⟨ret_bool ?_, rfl⟩
    all_goals (rw [Bool.eq_iff_iff]; simp [nameB, hl]; omega)
  · have hn := name_of_lead n hl
    go_enter Try.func15, Try.ntmps15
    go_wp2_with (go_at_call 14; refine (lead_any _ _).mono ?_; rintro e w' ⟨rfl, rfl⟩)
    go_ret
    exact ⟨ret_bool (by rw [hn]), rfl⟩

set_option maxHeartbeats 400000 in
theorem zzname_any (n : Int) (w : World) : Calls Try.prog 7 #[.int .u8 n] w fun e w' => e = .returned (.bool (nameB n)) ∧ w' = w := by
  go_enter Try.func7, Try.ntmps7
  go_wp2_with (go_at_call 15; refine (name_any _ _).mono ?_; rintro e w' ⟨rfl, rfl⟩)
  go_ret
  exact ⟨rfl, rfl⟩

set_option maxRecDepth 10000 in
set_option maxHeartbeats 800000 in
theorem law_any (c : Int) (w : World) (h0 : 0 ≤ c) (h1 : c ≤ 255) : Calls Try.prog 3 #[.int .u8 c] w fun e w' => e = .returned (.bool true) ∧ w' = w := by
  go_enter Try.func3, Try.ntmps3
  go_wp2
  go_loop [3, 4, 5] (fun a b i => ∃ k : Nat, k ≤ 256 ∧ i = .int .i64 k ∧ a = .int .i64 (cnt leadB k) ∧ b = .int .i64 (cnt nameB k)) (fun _ _ i => 256 - (intOf i).toNat)
  case atStart => exact ⟨0, Nat.zero_le _, rfl, rfl, rfl⟩
  case round =>
    obtain ⟨k, hk, rfl, rfl, rfl⟩ := hrel
    have c1 := cnt_le leadB k
    have c2 := cnt_le nameB k
    by_cases hlt : k < 256
    · have S1 : Hid (cnt leadB (k + 1) = cnt leadB k + if leadB (k : Int) then 1 else 0) := rfl
      have S2 : Hid (cnt nameB (k + 1) = cnt nameB k + if nameB (k : Int) then 1 else 0) := rfl
      cases hl : leadB (k : Int)
      · cases hn : nameB (k : Int)
        · have E1 : Hid (cnt leadB (k + 1) = cnt leadB k) := by show _ = _; rw [S1.out, hl]; rfl
          have E2 : Hid (cnt nameB (k + 1) = cnt nameB k) := by show _ = _; rw [S2.out, hn]; rfl
          go_wp2_with (first | (go_at_call 6; refine (zzlead_any _ _).mono ?_; rintro e w' ⟨rfl, rfl⟩) | (go_at_call 7; refine (zzname_any _ _).mono ?_; rintro e w' ⟨rfl, rfl⟩))
          go_round
          case rel => exact ⟨k + 1, by omega, by go_num, by rw [E1.out], by rw [E2.out]⟩
          case measure => simp [intOf]; omega
        · have E1 : Hid (cnt leadB (k + 1) = cnt leadB k) := by show _ = _; rw [S1.out, hl]; rfl
          have E2 : Hid (cnt nameB (k + 1) = cnt nameB k + 1) := by show _ = _; rw [S2.out, hn]; rfl
          go_wp2_with (first | (go_at_call 6; refine (zzlead_any _ _).mono ?_; rintro e w' ⟨rfl, rfl⟩) | (go_at_call 7; refine (zzname_any _ _).mono ?_; rintro e w' ⟨rfl, rfl⟩))
          go_round
          case rel => exact ⟨k + 1, by omega, by go_num, by rw [E1.out], by rw [E2.out]; go_num⟩
          case measure => simp [intOf]; omega
      · have hn := name_of_lead _ hl
        have hr := lead_range _ hl
        have r1 := hr.1
        have r2 := hr.2
        clear hr
        have E1 : Hid (cnt leadB (k + 1) = cnt leadB k + 1) := by show _ = _; rw [S1.out, hl]; rfl
        have E2 : Hid (cnt nameB (k + 1) = cnt nameB k + 1) := by show _ = _; rw [S2.out, hn]; rfl
        go_wp2_with (first | (go_at_call 6; refine (zzlead_any _ _).mono ?_; rintro e w' ⟨rfl, rfl⟩) | (go_at_call 7; refine (zzname_any _ _).mono ?_; rintro e w' ⟨rfl, rfl⟩))
        go_round
        case rel => exact ⟨k + 1, by omega, by go_num, by rw [E1.out]; go_num, by rw [E2.out]; go_num⟩
        case measure => simp [intOf]; omega
    · have hk256 : k = 256 := by omega
      subst hk256
      rw [lead256, name256]
      clear c1 c2 hlt hk
      by_cases h95 : c = 95
      · have g : (c != 95) = false := by simp [h95]
        clear h95
        go_wp2
        go_ret
        exact ⟨rfl, rfl⟩
      · have g : (c != 95) = true := by simp [h95]
        by_cases h127 : c = 127
        · have g2 : (c != 127) = false := by simp [h127]
          clear h127 h95
          go_wp2
          go_ret
          exact ⟨rfl, rfl⟩
        · have g2 : (c != 127) = true := by simp [h127]
          clear h127 h95
          go_wp2_with fail
          refine (zzlead_any _ _).mono ?_
          rintro e w' ⟨rfl, rfl⟩
          go_wp2_with fail
          refine (zzlead_any _ _).mono ?_
          rintro e w' ⟨rfl, rfl⟩
          rw [lead_xor c h0 h1 g g2]
          cases hl : leadB c
          all_goals
            go_wp2
            go_ret
            exact ⟨rfl, rfl⟩

end Go.Proofs.Qxb6615954a.Lead
