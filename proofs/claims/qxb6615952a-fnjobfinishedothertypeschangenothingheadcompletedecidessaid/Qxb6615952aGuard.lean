/-
  The guards on lengths: each answers some number or some bool and turns nothing.
-/
import Derived.Test.Qxb6615952aStrs
namespace Go.Proofs.Qxb6615952a.Jf
open Go.RowKit

/-- It returns an int. -/
def SomeInt (e : Ending) : Prop := ∃ z : Int, e = .returned (.int .i64 z)

set_option maxHeartbeats 1600000 in
theorem strBytes_any (a0 : Option Addr) (s0 : List ByteArray) (c0 : Nat) (x : Int) (w : World) (h0 : Strs w a0 s0) (l0 : s0.length ≤ maxLen) :
    Calls Try.prog 7 #[.slice a0 s0.length c0, .int .i64 x] w fun e w' => SomeInt e ∧ w' = w := by
  unfold maxLen at l0
  go_enter Try.func7, Try.ntmps7
  go_wp2
  go_loop [1, 5] (fun t i => (∃ z : Int, t = .int .i64 z) ∧ ∃ k : Nat, k ≤ s0.length ∧ i = .int .i64 k) (fun _ i => s0.length - (intOf i).toNat)
  case atStart => exact ⟨⟨_, rfl⟩, 0, Nat.zero_le _, rfl⟩
  case round =>
    obtain ⟨⟨z, rfl⟩, k, hk, rfl⟩ := hrel
    by_cases hlt : k < s0.length
    · obtain ⟨b, off, rfl, hb, hc⟩ := h0.at hlt
      go_wp2
      all_goals first
        | (go_round
           case rel => exact ⟨⟨_, rfl⟩, k + 1, by omega, by go_num⟩
           case measure => simp [intOf]; omega)
        | (go_ret; exact ⟨⟨_, rfl⟩, rfl⟩)
    · go_wp2
      go_ret
      exact ⟨⟨_, rfl⟩, rfl⟩

set_option maxHeartbeats 6400000 in
theorem bytes_any (a0 a1 a2 : Option Addr) (s0 s1 s2 : List ByteArray) (c0 c1 c2 : Nat) (p : Int) (q0 q1 q2 : ByteArray) (w : World) (h0 : Strs w a0 s0) (h1 : Strs w a1 s1) (h2 : Strs w a2 s2) (l0 : s0.length ≤ maxLen) (l1 : s1.length ≤ maxLen) (l2 : s2.length ≤ maxLen) :
    Calls Try.prog 11 #[.slice a0 s0.length c0, .slice a1 s1.length c1, .slice a2 s2.length c2, .int .i64 p, .string q0, .string q1, .string q2] w fun e w' => SomeBool e ∧ w' = w := by
  unfold maxLen at l0 l1 l2
  go_enter Try.func11, Try.ntmps11
  go_wp2
  · go_ret
    exact ⟨⟨_, rfl⟩, rfl⟩
  · go_loop [15, 16] (fun t i => (∃ z : Int, t = .int .i64 z) ∧ ∃ k : Nat, k ≤ s0.length ∧ i = .int .i64 k) (fun _ i => s0.length - (intOf i).toNat)
    case atStart => exact ⟨⟨_, rfl⟩, 0, Nat.zero_le _, rfl⟩
    case round =>
      obtain ⟨⟨z, rfl⟩, k, hk, rfl⟩ := hrel
      by_cases hlt : k < s0.length
      · obtain ⟨b, off, rfl, hb, hc⟩ := h0.at hlt
        go_wp2
        all_goals first
          | (go_round
             case rel => exact ⟨⟨_, rfl⟩, k + 1, by omega, by go_num⟩
             case measure => simp [intOf]; omega)
          | (go_ret; exact ⟨⟨_, rfl⟩, rfl⟩)
      · go_wp2
        · go_ret
          exact ⟨⟨_, rfl⟩, rfl⟩
        · go_ret
          exact ⟨⟨_, rfl⟩, rfl⟩
        · go_loop [15, 17] (fun t i => (∃ z : Int, t = .int .i64 z) ∧ ∃ k : Nat, k ≤ s1.length ∧ i = .int .i64 k) (fun _ i => s1.length - (intOf i).toNat)
          case atStart => exact ⟨⟨_, rfl⟩, 0, Nat.zero_le _, rfl⟩
          case round =>
            obtain ⟨⟨z, rfl⟩, k, hk, rfl⟩ := hrel
            by_cases hlt : k < s1.length
            · obtain ⟨b, off, rfl, hb, hc⟩ := h1.at hlt
              go_wp2
              all_goals first
                | (go_round
                   case rel => exact ⟨⟨_, rfl⟩, k + 1, by omega, by go_num⟩
                   case measure => simp [intOf]; omega)
                | (go_ret; exact ⟨⟨_, rfl⟩, rfl⟩)
            · go_wp2
              · go_ret
                exact ⟨⟨_, rfl⟩, rfl⟩
              · go_ret
                exact ⟨⟨_, rfl⟩, rfl⟩
              · go_loop [15, 18] (fun t i => (∃ z : Int, t = .int .i64 z) ∧ ∃ k : Nat, k ≤ s2.length ∧ i = .int .i64 k) (fun _ i => s2.length - (intOf i).toNat)
                case atStart => exact ⟨⟨_, rfl⟩, 0, Nat.zero_le _, rfl⟩
                case round =>
                  obtain ⟨⟨z, rfl⟩, k, hk, rfl⟩ := hrel
                  by_cases hlt : k < s2.length
                  · obtain ⟨b, off, rfl, hb, hc⟩ := h2.at hlt
                    go_wp2
                    all_goals first
                      | (go_round
                         case rel => exact ⟨⟨_, rfl⟩, k + 1, by omega, by go_num⟩
                         case measure => simp [intOf]; omega)
                      | (go_ret; exact ⟨⟨_, rfl⟩, rfl⟩)
                  · go_wp2
                    all_goals (go_ret; exact ⟨⟨_, rfl⟩, rfl⟩)

end Go.Proofs.Qxb6615952a.Jf
