/-
  THE SECOND LAW's WALK: every kept alias, asked twice.
-/
import Derived.Test.Qxb6615954aAsk
namespace Go.Proofs.Qxb6615954a.Al
open Go.RowKit Go.Maps
open Go.MuLone

theorem Strs.cell {w : World} {b off : Nat} {ss : List ByteArray} (h : Strs w (some ⟨b, off, none⟩) ss) {k : Nat} (hk : k < ss.length) : w.cell? ⟨b, off + k, none⟩ = some (.string (nth ss k)) := by
  obtain ⟨b', off', e, _, hc⟩ := h.at hk
  simp at e
  obtain ⟨rfl, rfl⟩ := e
  exact hc

set_option maxHeartbeats 3200000 in
theorem twice_lt (a0 a1 : Option Addr) (s0 s1 : List ByteArray) (c0 c1 : Nat) (w : World) (h0 : Strs w a0 s0) (h1 : Strs w a1 s1) (l0 : s0.length ≤ 4096) (l1 : s1.length ≤ 4096)
    (z0 : ∀ i, (nth s0 i).size ≤ maxLen) (z1 : ∀ i, (nth s1 i).size ≤ maxLen) (hl : s1.length < s0.length) :
    Calls Try.prog 5 #[.slice a0 s0.length c0, .slice a1 s1.length c1] w fun e w' => e = .returned (.bool true) ∧ Below w.heap.size w w' := by
  have hB := build_any a0 a1 s0 s1 c0 c1 s1.length w h0 h1 (by omega) (by omega) (by omega) z0 z1
  have HB := hide hB
  have Z0 := hide z0
  clear hB z0 z1
  go_enter Try.func5, Try.ntmps5
  go_wp2_with fail
  refine (bytes13_any _ _ _ _ _ _ _ h0 h1 (by unfold maxLen; omega) (by unfold maxLen; omega)).mono ?_
  rintro e w' ⟨⟨r, rfl⟩, rfl⟩
  cases r
  · go_wp2
    go_ret
    exact ⟨rfl, Below.refl _ _⟩
  go_wp2_with fail
  refine (fits_any _ _ _ _ _ _ _ _ h0 h1 (by unfold maxLen; omega) (by unfold maxLen; omega)).mono ?_
  rintro e w' ⟨⟨r, rfl⟩, rfl⟩
  cases r
  · go_wp2
    go_ret
    exact ⟨rfl, Below.refl _ _⟩
  go_wp2_with fail
  refine HB.out.mono ?_
  rintro e w1 ⟨hb1, (rfl | ⟨rfl, hown, hap⟩)⟩
  · go_wp2
    go_ret
    exact ⟨rfl, hb1⟩
  have Hown := hide hown
  have Hap := hide hap
  clear hown hap HB
  go_wp2_with fail
  refine (new_any _ _ _).mono ?_
  rintro e w2 ⟨rfl, hw2⟩
  have K2 := kept_new w1 (some w'.heap.size) _ _ _ Hown.out
  rw [← hw2] at K2
  have hb2 : Below w'.heap.size w' w2 := by rw [hw2]; exact hb1.alloc hb1.size _
  clear hw2
  have hs1 := hb1.size
  clear hb1 Hown
  go_wp2
  go_loopw [10] (fun i wr => ∃ k : Nat, k ≤ s1.length ∧ i = .int .i64 k ∧ Kept w1.heap.size (w'.heap.size + 1) s1.length (DA s0 s1 s1.length) wr ∧ Below w'.heap.size w' wr) (fun i _ => s1.length - (intOf i).toNat)
  case atStart => exact ⟨0, Nat.zero_le _, rfl, K2, hb2⟩
  case round =>
    clear K2 hb2
    obtain ⟨k, hk, rfl, Kr, hbr⟩ := hrel
    by_cases hlt : k < s1.length
    · have h0' := h0.below hbr (Nat.le_refl _)
      obtain ⟨b0, f0, rfl, hb0, hc0⟩ := h0'.at (k := k) (by omega)
      change wr.cell? ⟨b0, f0 + k, none⟩ = some (.string (nth s0 k)) at hc0
      have hq := Z0.out k
      go_wp2_with fail
      refine (ask _ _ _ _ (nth s0 k) _ Kr hq).mono ?_
      rintro e w3 ⟨c, rfl, hat, K3, hb3⟩
      obtain ⟨hh, hc⟩ := found_at s0 s1 s1.length k (nth s0 k) c Hap.out hlt rfl hat.out
      rw [hh]
      have B3 := hbr.trans (hb3.mono hs1)
      have hc3 := (h0.below B3 (Nat.le_refl _)).cell (k := k) (by omega)
      clear hat hc0 h0' hb0 Kr hbr hb3 hh
      subst hc
      go_wp2_with fail
      refine (ask _ _ _ _ (nth s0 k) _ K3 hq).mono ?_
      rintro e w4 ⟨c, rfl, hat, K4, hb4⟩
      obtain ⟨hh, hc⟩ := found_at s0 s1 s1.length k (nth s0 k) c Hap.out hlt rfl hat.out
      rw [hh]
      subst hc
      have B4 := B3.trans (hb4.mono hs1)
      have h1' := h1.below B4 (Nat.le_refl _)
      obtain ⟨b1, f1, rfl, hb1, hc1⟩ := h1'.at (k := k) (by omega)
      change w4.cell? ⟨b1, f1 + k, none⟩ = some (.string (nth s1 k)) at hc1
      clear hat hc3 h1' hb1 hb4 hh K3 B3
      generalize nth s1 k = tk at *
      generalize nth s0 k = ak at *
      go_wp2
      go_roundw
      case rel => exact ⟨k + 1, by omega, by go_num, K4, B4⟩
      case measure => simp [intOf]; omega
    · go_wp2
      go_ret
      exact ⟨rfl, hbr⟩

set_option maxHeartbeats 3200000 in
theorem twice_ge (a0 a1 : Option Addr) (s0 s1 : List ByteArray) (c0 c1 : Nat) (w : World) (h0 : Strs w a0 s0) (h1 : Strs w a1 s1) (l0 : s0.length ≤ 4096) (l1 : s1.length ≤ 4096)
    (z0 : ∀ i, (nth s0 i).size ≤ maxLen) (z1 : ∀ i, (nth s1 i).size ≤ maxLen) (hl : ¬ s1.length < s0.length) :
    Calls Try.prog 5 #[.slice a0 s0.length c0, .slice a1 s1.length c1] w fun e w' => e = .returned (.bool true) ∧ Below w.heap.size w w' := by
  have hB := build_any a0 a1 s0 s1 c0 c1 s0.length w h0 h1 (by omega) (by omega) (by omega) z0 z1
  have HB := hide hB
  have Z0 := hide z0
  clear hB z0 z1
  go_enter Try.func5, Try.ntmps5
  go_wp2_with fail
  refine (bytes13_any _ _ _ _ _ _ _ h0 h1 (by unfold maxLen; omega) (by unfold maxLen; omega)).mono ?_
  rintro e w' ⟨⟨r, rfl⟩, rfl⟩
  cases r
  · go_wp2
    go_ret
    exact ⟨rfl, Below.refl _ _⟩
  go_wp2_with fail
  refine (fits_any _ _ _ _ _ _ _ _ h0 h1 (by unfold maxLen; omega) (by unfold maxLen; omega)).mono ?_
  rintro e w' ⟨⟨r, rfl⟩, rfl⟩
  cases r
  · go_wp2
    go_ret
    exact ⟨rfl, Below.refl _ _⟩
  go_wp2_with fail
  refine HB.out.mono ?_
  rintro e w1 ⟨hb1, (rfl | ⟨rfl, hown, hap⟩)⟩
  · go_wp2
    go_ret
    exact ⟨rfl, hb1⟩
  have Hown := hide hown
  have Hap := hide hap
  clear hown hap HB
  go_wp2_with fail
  refine (new_any _ _ _).mono ?_
  rintro e w2 ⟨rfl, hw2⟩
  have K2 := kept_new w1 (some w'.heap.size) _ _ _ Hown.out
  rw [← hw2] at K2
  have hb2 : Below w'.heap.size w' w2 := by rw [hw2]; exact hb1.alloc hb1.size _
  clear hw2
  have hs1 := hb1.size
  clear hb1 Hown
  go_wp2
  go_loopw [10] (fun i wr => ∃ k : Nat, k ≤ s0.length ∧ i = .int .i64 k ∧ Kept w1.heap.size (w'.heap.size + 1) s0.length (DA s0 s1 s0.length) wr ∧ Below w'.heap.size w' wr) (fun i _ => s0.length - (intOf i).toNat)
  case atStart => exact ⟨0, Nat.zero_le _, rfl, K2, hb2⟩
  case round =>
    clear K2 hb2
    obtain ⟨k, hk, rfl, Kr, hbr⟩ := hrel
    by_cases hlt : k < s0.length
    · have h0' := h0.below hbr (Nat.le_refl _)
      obtain ⟨b0, f0, rfl, hb0, hc0⟩ := h0'.at (k := k) (by omega)
      change wr.cell? ⟨b0, f0 + k, none⟩ = some (.string (nth s0 k)) at hc0
      have hq := Z0.out k
      go_wp2_with fail
      refine (ask _ _ _ _ (nth s0 k) _ Kr hq).mono ?_
      rintro e w3 ⟨c, rfl, hat, K3, hb3⟩
      obtain ⟨hh, hc⟩ := found_at s0 s1 s0.length k (nth s0 k) c Hap.out hlt rfl hat.out
      rw [hh]
      have B3 := hbr.trans (hb3.mono hs1)
      have hc3 := (h0.below B3 (Nat.le_refl _)).cell (k := k) (by omega)
      clear hat hc0 h0' hb0 Kr hbr hb3 hh
      subst hc
      go_wp2_with fail
      refine (ask _ _ _ _ (nth s0 k) _ K3 hq).mono ?_
      rintro e w4 ⟨c, rfl, hat, K4, hb4⟩
      obtain ⟨hh, hc⟩ := found_at s0 s1 s0.length k (nth s0 k) c Hap.out hlt rfl hat.out
      rw [hh]
      subst hc
      have B4 := B3.trans (hb4.mono hs1)
      have h1' := h1.below B4 (Nat.le_refl _)
      obtain ⟨b1, f1, rfl, hb1, hc1⟩ := h1'.at (k := k) (by omega)
      change w4.cell? ⟨b1, f1 + k, none⟩ = some (.string (nth s1 k)) at hc1
      clear hat hc3 h1' hb1 hb4 hh K3 B3
      generalize nth s1 k = tk at *
      generalize nth s0 k = ak at *
      go_wp2
      go_roundw
      case rel => exact ⟨k + 1, by omega, by go_num, K4, B4⟩
      case measure => simp [intOf]; omega
    · go_wp2
      go_ret
      exact ⟨rfl, hbr⟩

set_option maxHeartbeats 800000 in
theorem twice_far (a0 a1 : Option Addr) (s0 s1 : List ByteArray) (c0 c1 : Nat) (w : World) (h0 : Strs w a0 s0) (h1 : Strs w a1 s1) (m0 : s0.length ≤ maxLen) (m1 : s1.length ≤ maxLen)
    (h : ¬ (s0.length ≤ 4096 ∧ s1.length ≤ 4096)) :
    Calls Try.prog 5 #[.slice a0 s0.length c0, .slice a1 s1.length c1] w fun e w' => e = .returned (.bool true) ∧ Below w.heap.size w w' := by
  have hB := (bytes13_any a0 a1 s0 s1 c0 c1 w h0 h1 m0 m1)
  have HB := hide hB
  clear hB h0 h1
  by_cases x0 : s0.length ≤ 4096
  · have x1 : ¬ s1.length ≤ 4096 := fun x1 => h ⟨x0, x1⟩
    clear h
    go_enter Try.func5, Try.ntmps5
    go_wp2_with fail
    refine HB.out.mono ?_
    rintro e w' ⟨⟨r, rfl⟩, rfl⟩
    cases r
    all_goals
      go_wp2
      go_ret
      exact ⟨rfl, Below.refl _ _⟩
  · clear h
    go_enter Try.func5, Try.ntmps5
    go_wp2_with fail
    refine HB.out.mono ?_
    rintro e w' ⟨⟨r, rfl⟩, rfl⟩
    cases r
    all_goals
      go_wp2
      go_ret
      exact ⟨rfl, Below.refl _ _⟩

theorem twice_all (a0 a1 : Option Addr) (s0 s1 : List ByteArray) (c0 c1 : Nat) (w : World) (h0 : Strs w a0 s0) (h1 : Strs w a1 s1) (m0 : s0.length ≤ maxLen) (m1 : s1.length ≤ maxLen)
    (z0 : ∀ i, (nth s0 i).size ≤ maxLen) (z1 : ∀ i, (nth s1 i).size ≤ maxLen) :
    Calls Try.prog 5 #[.slice a0 s0.length c0, .slice a1 s1.length c1] w fun e w' => e = .returned (.bool true) ∧ Below w.heap.size w w' := by
  by_cases h : s0.length ≤ 4096 ∧ s1.length ≤ 4096
  · by_cases hl : s1.length < s0.length
    · exact twice_lt a0 a1 s0 s1 c0 c1 w h0 h1 h.1 h.2 z0 z1 hl
    · exact twice_ge a0 a1 s0 s1 c0 c1 w h0 h1 h.1 h.2 z0 z1 hl
  · exact twice_far a0 a1 s0 s1 c0 c1 w h0 h1 m0 m1 h

end Go.Proofs.Qxb6615954a.Al
