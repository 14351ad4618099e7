/-
  SLICES OF STRINGS THAT CAME IN; the guards on lengths: each answers some bool and turns nothing.
-/
import Derived.Test.Qxb6615954aRows
import Derived.WalkKit
import Derived.WalkSpells
namespace Go.Proofs.Qxb6615954a.Al
open Go.RowKit

/-- The slice's elements are the strings ss: it is empty, or its cells hold them. -/
def Strs (w : World) (a : Option Addr) (ss : List ByteArray) : Prop :=
  ss = [] ∨ ∃ b off : Nat, a = some ⟨b, off, none⟩ ∧ b < w.heap.size ∧ ∀ j, j < ss.length → w.cell? ⟨b, off + j, none⟩ = some (.string (ss.getD j ByteArray.empty))

theorem Strs.at {w : World} {a : Option Addr} {ss : List ByteArray} (h : Strs w a ss) {k : Nat} (hk : k < ss.length) :
    ∃ b off : Nat, a = some ⟨b, off, none⟩ ∧ b < w.heap.size ∧ w.cell? ⟨b, off + k, none⟩ = some (.string (ss.getD k ByteArray.empty)) := by
  rcases h with h | ⟨b, off, ha, hb, hc⟩
  · rw [h] at hk; simp at hk
  · exact ⟨b, off, ha, hb, hc k hk⟩

theorem Strs.below {w w' : World} {a : Option Addr} {ss : List ByteArray} (h : Strs w a ss) {B : Nat} (hb : Below B w w') (hB : w.heap.size ≤ B) : Strs w' a ss := by
  rcases h with h | ⟨b, off, ha, hlt, hc⟩
  · exact .inl h
  · exact .inr ⟨b, off, ha, Nat.lt_of_lt_of_le hlt hb.size, fun j hj => by rw [hb.cell (by show b < B; omega)]; exact hc j hj⟩

/-- It returns a bool. -/
def SomeBool (e : Ending) : Prop := ∃ r : Bool, e = .returned (.bool r)

set_option maxHeartbeats 1600000 in
theorem fits_any (a0 a1 : Option Addr) (s0 s1 : List ByteArray) (c0 c1 : Nat) (x : Int) (w : World) (h0 : Strs w a0 s0) (h1 : Strs w a1 s1) (l0 : s0.length ≤ maxLen) (l1 : s1.length ≤ maxLen) :
    Calls Try.prog 9 #[.slice a0 s0.length c0, .slice a1 s1.length c1, .int .i64 x] w fun e w' => SomeBool e ∧ w' = w := by
  unfold maxLen at l0 l1
  go_enter Try.func9, Try.ntmps9
  go_wp2
  go_loop [7, 8] (fun t i => (∃ z : Int, t = .int .i64 z) ∧ ∃ k : Nat, k ≤ s0.length ∧ i = .int .i64 k) (fun _ i => s0.length - (intOf i).toNat)
  case atStart => exact ⟨⟨_, rfl⟩, 0, Nat.zero_le _, rfl⟩
  case round =>
    obtain ⟨⟨z, rfl⟩, k, hk, rfl⟩ := hrel
    by_cases hlt : k < s0.length
    · obtain ⟨b, off, rfl, hb, hc⟩ := h0.at hlt
      go_wp2
      · go_ret
        exact ⟨⟨_, rfl⟩, rfl⟩
      · go_round
        case rel => exact ⟨⟨_, rfl⟩, k + 1, by omega, by go_num⟩
        case measure => simp [intOf]; omega
    · go_wp2
      go_loop [7, 9] (fun t i => (∃ z : Int, t = .int .i64 z) ∧ ∃ k : Nat, k ≤ s1.length ∧ i = .int .i64 k) (fun _ i => s1.length - (intOf i).toNat)
      case atStart => exact ⟨⟨_, rfl⟩, 0, Nat.zero_le _, rfl⟩
      case round =>
        obtain ⟨⟨z, rfl⟩, k, hk, rfl⟩ := hrel
        by_cases hlt : k < s1.length
        · obtain ⟨b, off, rfl, hb, hc⟩ := h1.at hlt
          go_wp2
          · go_ret
            exact ⟨⟨_, rfl⟩, rfl⟩
          · go_round
            case rel => exact ⟨⟨_, rfl⟩, k + 1, by omega, by go_num⟩
            case measure => simp [intOf]; omega
        · go_wp2
          go_ret
          exact ⟨⟨_, rfl⟩, rfl⟩

set_option maxHeartbeats 3200000 in
theorem bytes8_any (a0 a1 : Option Addr) (s0 s1 : List ByteArray) (c0 c1 : Nat) (q : ByteArray) (w : World) (h0 : Strs w a0 s0) (h1 : Strs w a1 s1) (l0 : s0.length ≤ maxLen) (l1 : s1.length ≤ maxLen) :
    Calls Try.prog 8 #[.slice a0 s0.length c0, .slice a1 s1.length c1, .string q] w fun e w' => SomeBool e ∧ w' = w := by
  unfold maxLen at l0 l1
  go_enter Try.func8, Try.ntmps8
  go_wp2
  · go_ret
    exact ⟨⟨_, rfl⟩, rfl⟩
  · go_loop [7, 8] (fun t i => (∃ z : Int, t = .int .i64 z) ∧ ∃ k : Nat, k ≤ s0.length ∧ i = .int .i64 k) (fun _ i => s0.length - (intOf i).toNat)
    case atStart => exact ⟨⟨_, rfl⟩, 0, Nat.zero_le _, rfl⟩
    case round =>
      obtain ⟨⟨z, rfl⟩, k, hk, rfl⟩ := hrel
      by_cases hlt : k < s0.length
      · obtain ⟨b, off, rfl, hb, hc⟩ := h0.at hlt
        go_wp2
        all_goals first
          | (go_round
             case rel => exact ⟨⟨_, rfl⟩, k + 1, by omega, by go_num⟩
             case measure => simp [intOf]; omega)
          | (go_ret; exact ⟨⟨_, rfl⟩, rfl⟩)
      · go_wp2
        · go_ret
          exact ⟨⟨_, rfl⟩, rfl⟩
        · go_ret
          exact ⟨⟨_, rfl⟩, rfl⟩
        · go_loop [7, 9] (fun t i => (∃ z : Int, t = .int .i64 z) ∧ ∃ k : Nat, k ≤ s1.length ∧ i = .int .i64 k) (fun _ i => s1.length - (intOf i).toNat)
          case atStart => exact ⟨⟨_, rfl⟩, 0, Nat.zero_le _, rfl⟩
          case round =>
            obtain ⟨⟨z, rfl⟩, k, hk, rfl⟩ := hrel
            by_cases hlt : k < s1.length
            · obtain ⟨b, off, rfl, hb, hc⟩ := h1.at hlt
              go_wp2
              all_goals first
                | (go_round
                   case rel => exact ⟨⟨_, rfl⟩, k + 1, by omega, by go_num⟩
                   case measure => simp [intOf]; omega)
                | (go_ret; exact ⟨⟨_, rfl⟩, rfl⟩)
            · go_wp2
              all_goals (go_ret; exact ⟨⟨_, rfl⟩, rfl⟩)

set_option maxHeartbeats 3200000 in
theorem bytes13_any (a0 a1 : Option Addr) (s0 s1 : List ByteArray) (c0 c1 : Nat) (w : World) (h0 : Strs w a0 s0) (h1 : Strs w a1 s1) (l0 : s0.length ≤ maxLen) (l1 : s1.length ≤ maxLen) :
    Calls Try.prog 13 #[.slice a0 s0.length c0, .slice a1 s1.length c1] w fun e w' => SomeBool e ∧ w' = w := by
  unfold maxLen at l0 l1
  go_enter Try.func13, Try.ntmps13
  go_wp2
  · go_ret
    exact ⟨⟨_, rfl⟩, rfl⟩
  · go_loop [5, 6] (fun t i => (∃ z : Int, t = .int .i64 z) ∧ ∃ k : Nat, k ≤ s0.length ∧ i = .int .i64 k) (fun _ i => s0.length - (intOf i).toNat)
    case atStart => exact ⟨⟨_, rfl⟩, 0, Nat.zero_le _, rfl⟩
    case round =>
      obtain ⟨⟨z, rfl⟩, k, hk, rfl⟩ := hrel
      by_cases hlt : k < s0.length
      · obtain ⟨b, off, rfl, hb, hc⟩ := h0.at hlt
        go_wp2
        all_goals first
          | (go_round
             case rel => exact ⟨⟨_, rfl⟩, k + 1, by omega, by go_num⟩
             case measure => simp [intOf]; omega)
          | (go_ret; exact ⟨⟨_, rfl⟩, rfl⟩)
      · go_wp2
        · go_ret
          exact ⟨⟨_, rfl⟩, rfl⟩
        · go_ret
          exact ⟨⟨_, rfl⟩, rfl⟩
        · go_loop [5, 7] (fun t i => (∃ z : Int, t = .int .i64 z) ∧ ∃ k : Nat, k ≤ s1.length ∧ i = .int .i64 k) (fun _ i => s1.length - (intOf i).toNat)
          case atStart => exact ⟨⟨_, rfl⟩, 0, Nat.zero_le _, rfl⟩
          case round =>
            obtain ⟨⟨z, rfl⟩, k, hk, rfl⟩ := hrel
            by_cases hlt : k < s1.length
            · obtain ⟨b, off, rfl, hb, hc⟩ := h1.at hlt
              go_wp2
              all_goals first
                | (go_round
                   case rel => exact ⟨⟨_, rfl⟩, k + 1, by omega, by go_num⟩
                   case measure => simp [intOf]; omega)
                | (go_ret; exact ⟨⟨_, rfl⟩, rfl⟩)
            · go_wp2
              all_goals (go_ret; exact ⟨⟨_, rfl⟩, rfl⟩)

end Go.Proofs.Qxb6615954a.Al
