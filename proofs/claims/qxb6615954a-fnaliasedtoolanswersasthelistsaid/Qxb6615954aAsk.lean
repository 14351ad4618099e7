/-
  Asking for an alias: ZZaliasedTool on a run's state that is kept; and the first law's walk.
-/
import Derived.Test.Qxb6615954aBuild
namespace Go.Proofs.Qxb6615954a.Al
open Go.RowKit Go.Maps
open Go.MuLone

/-- The state at block sb: the lock free, byAlias the map in block bm, which holds D. -/
structure Kept (sb bm n : Nat) (D : DataW Unit) (w : World) : Prop where
  c0 : w.cell? ⟨sb, 0, none⟩ = some (.int .i32 0)
  c5 : w.cell? ⟨sb, 5, none⟩ = some (.map (some bm))
  f0 : w.frozen? ⟨sb, 0, none⟩ = false
  own : Own w bm n D
  lt : bm < sb

theorem kept_new (w1 : World) (m1 : Option Nat) (bm n : Nat) (D : DataW Unit) (h : Own w1 bm n D) : Kept w1.heap.size bm n D (w1.alloc (.cells (foundCells m1 (some bm)) 48)) :=
  ⟨by simp [foundCells], by simp [foundCells], by simp [foundCells], h.alloc _, h.lt⟩

theorem kept_asked {sb bm n : Nat} {D : DataW Unit} {w : World} (h : Kept sb bm n D w) : Kept sb bm n D ((w.setCell ⟨sb, 0, none⟩ (.int .i32 1)).setCell ⟨sb, 0, none⟩ (.int .i32 0)) := by
  have hne : bm ≠ sb := Nat.ne_of_lt h.lt
  refine ⟨?_, ?_, ?_, ?_, h.lt⟩
  · exact World.cell?_setCell_same _ _ _ (World.cell?_setCell_same w ⟨sb, 0, none⟩ (.int .i32 1) h.c0)
  · rw [World.cell?_setCell_other _ ⟨sb, 0, none⟩ ⟨sb, 5, none⟩ _ (by simp), World.cell?_setCell_other _ ⟨sb, 0, none⟩ ⟨sb, 5, none⟩ _ (by simp)]; exact h.c5
  · simp [h.f0]
  · exact (h.own.setCell (a := ⟨sb, 0, none⟩) hne _).setCell (a := ⟨sb, 0, none⟩) hne _

theorem below_asked (sb : Nat) (w : World) : Below sb w ((w.setCell ⟨sb, 0, none⟩ (.int .i32 1)).setCell ⟨sb, 0, none⟩ (.int .i32 0)) :=
  ((Below.refl _ _).setCell (p := ⟨sb, 0, none⟩) (Nat.le_refl _) _).setCell (p := ⟨sb, 0, none⟩) (Nat.le_refl _) _

theorem ask (sb bm n : Nat) (D : DataW Unit) (q : ByteArray) (w : World) (h : Kept sb bm n D w) (hq : q.size ≤ maxLen) :
    Calls Try.prog 12 #[.pointer (some ⟨sb, 0, none⟩), .string q] w fun e w' => ∃ c : ByteArray, e = .returned (.tuple #[.string c, .bool (Maps.has D (key q))]) ∧ Hid (D.atKey (key q) (elt ⟨#[]⟩) = elt c) ∧
      Kept sb bm n D w' ∧ Below sb w w' :=
  (zzaliased_any sb bm n D q w h.c0 h.c5 h.f0 (Nat.ne_of_lt h.lt) h.own hq).mono fun _ _ ⟨c, he, hat, hw⟩ => ⟨c, he, hat, hw ▸ kept_asked h, hw ▸ below_asked sb w⟩

theorem beq_true (a b : ByteArray) (h : a = b) : (a.toList == b.toList) = true := by rw [h]; simp
theorem beq_false (a b : ByteArray) (h : a ≠ b) : (a.toList == b.toList) = false := by
  rw [beq_eq_false_iff_ne]
  intro e
  rw [ByteArray.toList_eq, ByteArray.toList_eq] at e
  apply h
  apply key_inj
  simpa [key] using e

/-- The two answers agree: found at k. -/
theorem found_at (s0 s1 : List ByteArray) (n k : Nat) (q c : ByteArray) (hap : Apart s0 n) (hk : k < n) (e : nth s0 k = q) (hat : (DA s0 s1 n).atKey (key q) (elt ⟨#[]⟩) = elt c) :
    Maps.has (DA s0 s1 n) (key q) = true ∧ c = nth s1 k := by
  refine ⟨(has_DA s0 s1 q n).2 ⟨k, hk, e⟩, ?_⟩
  rw [← e, at_DA s0 s1 _ n hap k hk] at hat
  exact (elt_inj hat).symm

/-- The two answers agree: not found. -/
theorem found_not (s0 s1 : List ByteArray) (n : Nat) (q c : ByteArray) (h : ∀ j, j < n → nth s0 j ≠ q) (hat : (DA s0 s1 n).atKey (key q) (elt ⟨#[]⟩) = elt c) :
    Maps.has (DA s0 s1 n) (key q) = false ∧ c = ⟨#[]⟩ := by
  have hf : Maps.has (DA s0 s1 n) (key q) = false := by
    rw [Bool.eq_false_iff]
    intro e
    obtain ⟨j, hj, e'⟩ := (has_DA s0 s1 q n).1 e
    exact h j hj e'
  refine ⟨hf, ?_⟩
  rw [atKey_of_not_has hf] at hat
  exact (elt_inj hat).symm

set_option maxHeartbeats 3200000 in
theorem list_lt (a0 a1 : Option Addr) (s0 s1 : List ByteArray) (c0 c1 : Nat) (q : ByteArray) (w : World) (h0 : Strs w a0 s0) (h1 : Strs w a1 s1) (l0 : s0.length ≤ 4096) (l1 : s1.length ≤ 4096) (lq : q.size ≤ 1048576)
    (z0 : ∀ i, (nth s0 i).size ≤ maxLen) (z1 : ∀ i, (nth s1 i).size ≤ maxLen) (hl : s1.length < s0.length) :
    Calls Try.prog 4 #[.slice a0 s0.length c0, .slice a1 s1.length c1, .string q] w fun e w' => e = .returned (.bool true) ∧ Below w.heap.size w w' := by
  have hB := build_any a0 a1 s0 s1 c0 c1 s1.length w h0 h1 (by omega) (by omega) (by omega) z0 z1
  have HB := hide hB
  clear hB z0 z1
  go_enter Try.func4, Try.ntmps4
  go_wp2_with fail
  refine (bytes8_any _ _ _ _ _ _ q _ h0 h1 (by unfold maxLen; omega) (by unfold maxLen; omega)).mono ?_
  rintro e w' ⟨⟨r, rfl⟩, rfl⟩
  cases r
  · go_wp2
    go_ret
    exact ⟨rfl, Below.refl _ _⟩
  go_wp2_with fail
  refine (fits_any _ _ _ _ _ _ _ _ h0 h1 (by unfold maxLen; omega) (by unfold maxLen; omega)).mono ?_
  rintro e w' ⟨⟨r, rfl⟩, rfl⟩
  cases r
  · go_wp2
    go_ret
    exact ⟨rfl, Below.refl _ _⟩
  go_wp2_with fail
  refine HB.out.mono ?_
  rintro e w1 ⟨hb1, (rfl | ⟨rfl, hown, hap⟩)⟩
  · go_wp2
    go_ret
    exact ⟨rfl, hb1⟩
  have Hown := hide hown
  have Hap := hide hap
  clear hown hap HB
  go_wp2_with fail
  refine (new_any _ _ _).mono ?_
  rintro e w2 ⟨rfl, hw2⟩
  have K2 := kept_new w1 (some w'.heap.size) _ _ _ Hown.out
  rw [← hw2] at K2
  have hb2 : Below w'.heap.size w' w2 := by rw [hw2]; exact hb1.alloc hb1.size _
  clear hw2
  have hs1 := hb1.size
  clear hb1
  go_wp2_with fail
  refine (ask _ _ _ _ q _ K2 (by unfold maxLen; omega)).mono ?_
  rintro e w3 ⟨c, rfl, hat, -, hb3⟩
  have B3 := hb2.trans (hb3.mono hs1)
  have h0' := h0.below B3 (Nat.le_refl _)
  have h1' := h1.below B3 (Nat.le_refl _)
  have F1 := hide (fun k hk e => found_at s0 s1 s1.length k q c Hap.out hk e hat.out)
  have F2 := hide (fun h => found_not s0 s1 s1.length q c h hat.out)
  clear K2 hb2 hb3 h0 h1 hat Hap Hown
  generalize has (DA s0 s1 s1.length) (key q) = ok at F1 F2 ⊢
  go_wp2
  go_loop [14, 15, 16] (fun v o i => v = .string ⟨#[]⟩ ∧ o = .bool false ∧ ∃ k : Nat, k ≤ s1.length ∧ i = .int .i64 k ∧ Hid (∀ j, j < k → nth s0 j ≠ q)) (fun _ _ i => s1.length - (intOf i).toNat)
  case atStart => exact ⟨rfl, rfl, 0, Nat.zero_le _, rfl, fun j hj => absurd hj (Nat.not_lt_zero j)⟩
  case round =>
    obtain ⟨rfl, rfl, k, hk, rfl, hno⟩ := hrel
    by_cases hlt : k < s1.length
    · obtain ⟨b0, f0, rfl, hb0, hc0⟩ := h0'.at (k := k) (by omega)
      obtain ⟨b1, f1, rfl, hb1, hc1⟩ := h1'.at (k := k) (by omega)
      change w3.cell? ⟨b0, f0 + k, none⟩ = some (.string (nth s0 k)) at hc0
      change w3.cell? ⟨b1, f1 + k, none⟩ = some (.string (nth s1 k)) at hc1
      by_cases hq : nth s0 k = q
      · have hF := F1.out k hlt hq
        have hbq := beq_true _ _ hq
        obtain ⟨rfl, rfl⟩ := hF
        clear F1 F2 h0' h1' hq
        generalize nth s0 k = ak at *
        generalize nth s1 k = tk at *
        go_wp2
        go_ret
        exact ⟨rfl, B3⟩
      · have hbq := beq_false _ _ hq
        have hno' : Hid (∀ j, j < k + 1 → nth s0 j ≠ q) := fun j hj => by
          by_cases e : j = k
          · rw [e]; exact hq
          · exact hno.out j (by omega)
        clear F1 F2 h0' h1' hq
        generalize nth s0 k = ak at *
        generalize nth s1 k = tk at *
        go_wp2
        go_round
        case rel => exact ⟨rfl, rfl, k + 1, by omega, by go_num, hno'⟩
        case measure => simp [intOf]; omega
    · have hkn : k = s1.length := by omega
      subst hkn
      obtain ⟨rfl, rfl⟩ := F2.out hno.out
      clear F1 F2 h0' h1' hno
      go_wp2
      go_ret
      exact ⟨rfl, B3⟩

set_option maxHeartbeats 3200000 in
theorem list_ge (a0 a1 : Option Addr) (s0 s1 : List ByteArray) (c0 c1 : Nat) (q : ByteArray) (w : World) (h0 : Strs w a0 s0) (h1 : Strs w a1 s1) (l0 : s0.length ≤ 4096) (l1 : s1.length ≤ 4096) (lq : q.size ≤ 1048576)
    (z0 : ∀ i, (nth s0 i).size ≤ maxLen) (z1 : ∀ i, (nth s1 i).size ≤ maxLen) (hl : ¬ s1.length < s0.length) :
    Calls Try.prog 4 #[.slice a0 s0.length c0, .slice a1 s1.length c1, .string q] w fun e w' => e = .returned (.bool true) ∧ Below w.heap.size w w' := by
  have hB := build_any a0 a1 s0 s1 c0 c1 s0.length w h0 h1 (by omega) (by omega) (by omega) z0 z1
  have HB := hide hB
  clear hB z0 z1
  go_enter Try.func4, Try.ntmps4
  go_wp2_with fail
  refine (bytes8_any _ _ _ _ _ _ q _ h0 h1 (by unfold maxLen; omega) (by unfold maxLen; omega)).mono ?_
  rintro e w' ⟨⟨r, rfl⟩, rfl⟩
  cases r
  · go_wp2
    go_ret
    exact ⟨rfl, Below.refl _ _⟩
  go_wp2_with fail
  refine (fits_any _ _ _ _ _ _ _ _ h0 h1 (by unfold maxLen; omega) (by unfold maxLen; omega)).mono ?_
  rintro e w' ⟨⟨r, rfl⟩, rfl⟩
  cases r
  · go_wp2
    go_ret
    exact ⟨rfl, Below.refl _ _⟩
  go_wp2_with fail
  refine HB.out.mono ?_
  rintro e w1 ⟨hb1, (rfl | ⟨rfl, hown, hap⟩)⟩
  · go_wp2
    go_ret
    exact ⟨rfl, hb1⟩
  have Hown := hide hown
  have Hap := hide hap
  clear hown hap HB
  go_wp2_with fail
  refine (new_any _ _ _).mono ?_
  rintro e w2 ⟨rfl, hw2⟩
  have K2 := kept_new w1 (some w'.heap.size) _ _ _ Hown.out
  rw [← hw2] at K2
  have hb2 : Below w'.heap.size w' w2 := by rw [hw2]; exact hb1.alloc hb1.size _
  clear hw2
  have hs1 := hb1.size
  clear hb1
  go_wp2_with fail
  refine (ask _ _ _ _ q _ K2 (by unfold maxLen; omega)).mono ?_
  rintro e w3 ⟨c, rfl, hat, -, hb3⟩
  have B3 := hb2.trans (hb3.mono hs1)
  have h0' := h0.below B3 (Nat.le_refl _)
  have h1' := h1.below B3 (Nat.le_refl _)
  have F1 := hide (fun k hk e => found_at s0 s1 s0.length k q c Hap.out hk e hat.out)
  have F2 := hide (fun h => found_not s0 s1 s0.length q c h hat.out)
  clear K2 hb2 hb3 h0 h1 hat Hap Hown
  generalize has (DA s0 s1 s0.length) (key q) = ok at F1 F2 ⊢
  go_wp2
  go_loop [14, 15, 16] (fun v o i => v = .string ⟨#[]⟩ ∧ o = .bool false ∧ ∃ k : Nat, k ≤ s0.length ∧ i = .int .i64 k ∧ Hid (∀ j, j < k → nth s0 j ≠ q)) (fun _ _ i => s0.length - (intOf i).toNat)
  case atStart => exact ⟨rfl, rfl, 0, Nat.zero_le _, rfl, fun j hj => absurd hj (Nat.not_lt_zero j)⟩
  case round =>
    obtain ⟨rfl, rfl, k, hk, rfl, hno⟩ := hrel
    by_cases hlt : k < s0.length
    · obtain ⟨b0, f0, rfl, hb0, hc0⟩ := h0'.at (k := k) (by omega)
      obtain ⟨b1, f1, rfl, hb1, hc1⟩ := h1'.at (k := k) (by omega)
      change w3.cell? ⟨b0, f0 + k, none⟩ = some (.string (nth s0 k)) at hc0
      change w3.cell? ⟨b1, f1 + k, none⟩ = some (.string (nth s1 k)) at hc1
      by_cases hq : nth s0 k = q
      · have hF := F1.out k hlt hq
        have hbq := beq_true _ _ hq
        obtain ⟨rfl, rfl⟩ := hF
        clear F1 F2 h0' h1' hq
        generalize nth s0 k = ak at *
        generalize nth s1 k = tk at *
        go_wp2
        go_ret
        exact ⟨rfl, B3⟩
      · have hbq := beq_false _ _ hq
        have hno' : Hid (∀ j, j < k + 1 → nth s0 j ≠ q) := fun j hj => by
          by_cases e : j = k
          · rw [e]; exact hq
          · exact hno.out j (by omega)
        clear F1 F2 h0' h1' hq
        generalize nth s0 k = ak at *
        generalize nth s1 k = tk at *
        go_wp2
        go_round
        case rel => exact ⟨rfl, rfl, k + 1, by omega, by go_num, hno'⟩
        case measure => simp [intOf]; omega
    · have hkn : k = s0.length := by omega
      subst hkn
      obtain ⟨rfl, rfl⟩ := F2.out hno.out
      clear F1 F2 h0' h1' hno
      go_wp2
      go_ret
      exact ⟨rfl, B3⟩

set_option maxHeartbeats 800000 in
theorem list_far (a0 a1 : Option Addr) (s0 s1 : List ByteArray) (c0 c1 : Nat) (q : ByteArray) (w : World) (h0 : Strs w a0 s0) (h1 : Strs w a1 s1) (m0 : s0.length ≤ maxLen) (m1 : s1.length ≤ maxLen)
    (h : ¬ (s0.length ≤ 4096 ∧ s1.length ≤ 4096 ∧ q.size ≤ 1048576)) :
    Calls Try.prog 4 #[.slice a0 s0.length c0, .slice a1 s1.length c1, .string q] w fun e w' => e = .returned (.bool true) ∧ Below w.heap.size w w' := by
  have hB := (bytes8_any a0 a1 s0 s1 c0 c1 q w h0 h1 m0 m1)
  have HB := hide hB
  clear hB h0 h1
  by_cases x0 : s0.length ≤ 4096
  · by_cases x1 : s1.length ≤ 4096
    · have x2 : ¬ q.size ≤ 1048576 := fun x2 => h ⟨x0, x1, x2⟩
      clear h
      go_enter Try.func4, Try.ntmps4
      go_wp2_with fail
      refine HB.out.mono ?_
      rintro e w' ⟨⟨r, rfl⟩, rfl⟩
      cases r
      all_goals
        go_wp2
        go_ret
        exact ⟨rfl, Below.refl _ _⟩
    · clear h
      go_enter Try.func4, Try.ntmps4
      go_wp2_with fail
      refine HB.out.mono ?_
      rintro e w' ⟨⟨r, rfl⟩, rfl⟩
      cases r
      all_goals
        go_wp2
        go_ret
        exact ⟨rfl, Below.refl _ _⟩
  · clear h
    go_enter Try.func4, Try.ntmps4
    go_wp2_with fail
    refine HB.out.mono ?_
    rintro e w' ⟨⟨r, rfl⟩, rfl⟩
    cases r
    all_goals
      go_wp2
      go_ret
      exact ⟨rfl, Below.refl _ _⟩

theorem list_all (a0 a1 : Option Addr) (s0 s1 : List ByteArray) (c0 c1 : Nat) (q : ByteArray) (w : World) (h0 : Strs w a0 s0) (h1 : Strs w a1 s1) (m0 : s0.length ≤ maxLen) (m1 : s1.length ≤ maxLen)
    (z0 : ∀ i, (nth s0 i).size ≤ maxLen) (z1 : ∀ i, (nth s1 i).size ≤ maxLen) :
    Calls Try.prog 4 #[.slice a0 s0.length c0, .slice a1 s1.length c1, .string q] w fun e w' => e = .returned (.bool true) ∧ Below w.heap.size w w' := by
  by_cases h : s0.length ≤ 4096 ∧ s1.length ≤ 4096 ∧ q.size ≤ 1048576
  · by_cases hl : s1.length < s0.length
    · exact list_lt a0 a1 s0 s1 c0 c1 q w h0 h1 h.1 h.2.1 h.2.2 z0 z1 hl
    · exact list_ge a0 a1 s0 s1 c0 c1 q w h0 h1 h.1 h.2.1 h.2.2 z0 z1 hl
  · exact list_far a0 a1 s0 s1 c0 c1 q w h0 h1 m0 m1 h

end Go.Proofs.Qxb6615954a.Al
