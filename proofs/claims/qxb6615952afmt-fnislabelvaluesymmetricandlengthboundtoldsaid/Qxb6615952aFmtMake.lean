/-
  THE WALKS over lvAllA, lvReverse, lvFlipCase: a new row of bytes, filled, made into a string.
-/
import Derived.Test.Qxb6615952aFmtWalks
import Derived.Laws.IdiomStrings
namespace Go.Proofs.Qxb6615952aFmt
open Go.RowKit

theorem Tryf.info5 : (Tryf.prog.info? 5).map (fun i => (i.zero, i.size, i.bytes)) = some (some (.int .u8 0), 1, 1) := by kernel_rfl

/-- 'string(b)': b's n cells are the n bytes l. -/
theorem conv_of (w : World) (base g n : Nat) (xs : List Value) (l : List UInt8) (hl : l.length = n) (ho : w.ownsRow base 5 1 (.slice (some ⟨g, 0, none⟩) n n) n xs)
    (hx : ∀ j (hj : j < l.length), xs[j]? = some (.int .u8 (l[j].toNat : Int))) :
    (convert 25 9 (.slice (some ⟨g, 0, none⟩) n n)).run Tryf.prog w = .ok (.string ⟨l.toArray⟩) w := by
  subst hl
  refine run_convert_bytes_back w 25 9 5 ⟨g, 0, none⟩ _ l Tryf.underlying25 Tryf.underlying5 Tryf.underlying9 (fun j hj => ?_)
  have h1 := ho.cellAt j (by omega)
  have h2 : (⟨g, 0, none⟩ : Addr).add j = ⟨g, j, none⟩ := by unfold Addr.add; split <;> simp_all
  rw [h2, h1, hx j hj]

theorem cell_old (w : World) (base g n : Nat) (xs : List Value) (ho : w.ownsRow base 5 1 (.slice (some ⟨g, 0, none⟩) n n) n xs) (j : Nat) (hj : j < n) : ∃ v, w.cell? ⟨g, j, none⟩ = some v := by
  have h1 := ho.cellAt j (by omega)
  have h2 : j < xs.length := by have := ho.1; omega
  exact ⟨xs[j], by rw [h1, List.getElem?_eq_getElem h2]⟩

theorem hide {p : Prop} (h : p) : Hid p := h
theorem ret_str {a b : ByteArray} (h : a = b) : Ending.returned (.string a) = .returned (.string b) := by rw [h]

theorem step97 (w : World) (base g n : Nat) (xs : List Value) (k : Nat) (ho : w.ownsRow base 5 1 (.slice (some ⟨g, 0, none⟩) n n) n xs) (hx : ∀ j, j < k → xs[j]? = some (.int .u8 97)) (hk : k < n) :
    ∃ xs' : List Value, (w.setCell ⟨g, k, none⟩ (.int .u8 97)).ownsRow base 5 1 (.slice (some ⟨g, 0, none⟩) n n) n xs' ∧ (∀ j, j < k + 1 → xs'[j]? = some (.int .u8 97)) := by
  refine ⟨_, (ho.stored k (.int .u8 97)).1, fun j hj => ?_⟩
  have hl : xs.length = n := by have := ho.1; omega
  by_cases hjk : j = k
  · subst hjk; simp [hl, hk]
  · rw [List.getElem?_set_ne (by omega)]; exact hx j (by omega)

set_option maxHeartbeats 800000 in
theorem lvAllA_any (s : ByteArray) (w : World) (hs : s.size ≤ 65536) :
    Calls Tryf.prog 9 #[.string s] w fun e w' => e = .returned (.string ⟨(List.replicate s.size (97 : UInt8)).toArray⟩) ∧ Below w.heap.size w w' := by
  obtain ⟨i0, hi, hz0, hz1, hz2⟩ := info_parts Tryf.info5
  go_enter Tryf.func9, Tryf.ntmps9
  go_wp2_with (at_make; refine wpList_make_full _ rfl _ _ 25 rfl w.heap.size 5 i0 (.int .u8 0) 1 Tryf.underlying25 hi hz0 hz1 .i64 .i64 _ _ s.size rfl rfl rfl rfl ?c1 ?c2 ?c3 ?_)
  case c1 => rw [hz2]; omega
  case c2 => unfold maxLen; omega
  case c3 => exact Nat.le_refl _
  intro w1 hown hgr
  have hb0 : Below w.heap.size w w1 := (Below.refl _ _).grown hgr (Nat.le_refl _) (fun k hk => by cases hk)
  clear hgr hi hz0 hz1 hz2
  go_wp2
  go_loopw [4] (fun i wr => ∃ k : Nat, k ≤ s.size ∧ i = .int .i64 k ∧ (∃ xs : List Value, wr.ownsRow w.heap.size 5 1 (.slice (some ⟨w.heap.size, 0, none⟩) s.size s.size) s.size xs ∧ (∀ j, j < k → xs[j]? = some (.int .u8 97))) ∧ Below w.heap.size w wr) (fun i _ => s.size - (intOf i).toNat)
  case atStart => exact ⟨0, Nat.zero_le _, rfl, ⟨_, hown, fun j hj => absurd hj (Nat.not_lt_zero j)⟩, hb0⟩
  case round =>
    clear hown hb0
    obtain ⟨k, hk, rfl, ⟨xs, ho, hx⟩, hbel⟩ := hrel
    by_cases hlt : k < s.size
    · have R := step97 wr w.heap.size w.heap.size s.size xs k ho hx hlt
      have hfr := ho.frozenAt k
      obtain ⟨v0, hcell⟩ := cell_old wr _ _ _ xs ho k hlt
      have Hbel := hide (hbel.setCell (p := ⟨w.heap.size, k, none⟩) (Nat.le_refl _) (.int .u8 97))
      have HR := hide R
      clear ho hx hbel R
      go_wp2
      go_roundw
      case rel => exact ⟨k + 1, by omega, by go_num, HR.out, Hbel.out⟩
      case measure => simp [intOf]; omega
    · have hc := conv_of wr w.heap.size w.heap.size s.size xs (List.replicate s.size 97) (by simp) ho (fun j hj => by
        rw [hx j (by simp at hj; omega)]; simp)
      clear ho hx
      go_wp2
      go_ret
      exact ⟨rfl, hbel⟩

/-- One store, at place j of a row: what was known of other places stays. -/
theorem stepAt (w : World) (base g n : Nat) (xs : List Value) (j : Nat) (u : Value) (P P' : Nat → Prop) (f : Nat → Value) (ho : w.ownsRow base 5 1 (.slice (some ⟨g, 0, none⟩) n n) n xs) (hx : ∀ i, P i → xs[i]? = some (f i)) (hj : j < n)
    (hu : u = f j) (hP : ∀ i, P' i → i = j ∨ P i) :
    ∃ xs' : List Value, (w.setCell ⟨g, j, none⟩ u).ownsRow base 5 1 (.slice (some ⟨g, 0, none⟩) n n) n xs' ∧ (∀ i, P' i → xs'[i]? = some (f i)) := by
  refine ⟨_, (ho.stored j u).1, fun i hi => ?_⟩
  have hl : xs.length = n := by have := ho.1; omega
  by_cases hij : i = j
  · subst hij; simp [hl, hj, hu]
  · rw [List.getElem?_set_ne (by omega)]
    rcases hP i hi with h | h
    · exact absurd h hij
    · exact hx i h

/-- The byte at place i of s, as a value. -/
def byteAt (s : ByteArray) (i : Nat) : Value := .int .u8 ((s.data.toList.getD i 0).toNat : Int)

theorem byteAt_eq (s : ByteArray) (k : Nat) (h : k < s.size) : Value.int .u8 (s[k].toNat : Int) = byteAt s k := by
  unfold byteAt
  have h' : k < s.data.toList.length := by simpa using h
  rw [List.getD_eq_getElem?_getD, List.getElem?_eq_getElem h']
  rfl

theorem rev_at (s : ByteArray) (j : Nat) (h : j < s.size) (hj : j < s.data.toList.reverse.length) : byteAt s (s.size - 1 - j) = Value.int .u8 ((s.data.toList.reverse[j]).toNat : Int) := by
  unfold byteAt
  have h' : s.size - 1 - j < s.data.toList.length := by simp; omega
  rw [List.getD_eq_getElem?_getD, List.getElem?_eq_getElem h', List.getElem_reverse]
  rfl

set_option maxHeartbeats 800000 in
theorem lvReverse_any (s : ByteArray) (w : World) (hs : s.size ≤ 65536) :
    Calls Tryf.prog 7 #[.string s] w fun e w' => e = .returned (.string ⟨s.data.toList.reverse.toArray⟩) ∧ Below w.heap.size w w' := by
  obtain ⟨i0, hi, hz0, hz1, hz2⟩ := info_parts Tryf.info5
  go_enter Tryf.func7, Tryf.ntmps7
  go_wp2_with (at_make; refine wpList_make_full _ rfl _ _ 25 rfl w.heap.size 5 i0 (.int .u8 0) 1 Tryf.underlying25 hi hz0 hz1 .i64 .i64 _ _ s.size rfl rfl rfl rfl ?c1 ?c2 ?c3 ?_)
  case c1 => rw [hz2]; omega
  case c2 => unfold maxLen; omega
  case c3 => exact Nat.le_refl _
  intro w1 hown hgr
  have hb0 : Below w.heap.size w w1 := (Below.refl _ _).grown hgr (Nat.le_refl _) (fun k hk => by cases hk)
  clear hgr hi hz0 hz1 hz2
  go_wp2
  go_loopw [4] (fun i wr => ∃ k : Nat, k ≤ s.size ∧ i = .int .i64 k ∧ (∃ xs : List Value, wr.ownsRow w.heap.size 5 1 (.slice (some ⟨w.heap.size, 0, none⟩) s.size s.size) s.size xs ∧ (∀ j, j < s.size ∧ s.size ≤ j + k → xs[j]? = some (byteAt s (s.size - 1 - j)))) ∧ Below w.heap.size w wr) (fun i _ => s.size - (intOf i).toNat)
  case atStart => exact ⟨0, Nat.zero_le _, rfl, ⟨_, hown, fun j hj => absurd hj.1 (by omega)⟩, hb0⟩
  case round =>
    clear hown hb0
    obtain ⟨k, hk, rfl, ⟨xs, ho, hx⟩, hbel⟩ := hrel
    by_cases hlt : k < s.size
    · have hj : s.size - 1 - k < s.size := by omega
      have R := stepAt wr w.heap.size w.heap.size s.size xs (s.size - 1 - k) (.int .u8 (s[k].toNat : Int)) (fun j => j < s.size ∧ s.size ≤ j + k) (fun j => j < s.size ∧ s.size ≤ j + (k + 1)) (fun j => byteAt s (s.size - 1 - j)) ho hx hj
        (by rw [byteAt_eq s k hlt]; congr 1; omega) (fun i hi => by have := hi.1; have := hi.2; by_cases e : i = s.size - 1 - k; exact .inl e; exact .inr ⟨hi.1, by omega⟩)
      have hfr := ho.frozenAt (s.size - 1 - k)
      obtain ⟨v0, hcell⟩ := cell_old wr _ _ _ xs ho _ hj
      have Hbel := hide (hbel.setCell (p := ⟨w.heap.size, s.size - 1 - k, none⟩) (Nat.le_refl _) (.int .u8 (s[k].toNat : Int)))
      have HR := hide R
      clear ho hx hbel R
      go_wp2
      go_roundw
      case rel => exact ⟨k + 1, by omega, by go_num, HR.out, Hbel.out⟩
      case measure => simp [intOf]; omega
    · have hc := conv_of wr w.heap.size w.heap.size s.size xs s.data.toList.reverse (by simp) ho (fun j hj => by
        have hj' : j < s.size := by simpa using hj
        rw [hx j ⟨hj', by omega⟩]
        exact congrArg some (rev_at s j hj' hj))
      clear ho hx
      go_wp2
      go_ret
      exact ⟨rfl, hbel⟩

theorem flip_at (s : ByteArray) (k : Nat) (h : k < s.size) : Value.int .u8 (Lv.flipB (s[k].toNat : Int)) = .int .u8 (((Lv.flip (s.data.toList.getD k 0)).toNat : Int)) := by
  have h' : k < s.data.toList.length := by simpa using h
  rw [List.getD_eq_getElem?_getD, List.getElem?_eq_getElem h']
  show _ = Value.int .u8 ((Lv.flip s[k]).toNat : Int)
  rw [Lv.flip_num]

theorem flip_get (s : ByteArray) (j : Nat) (h : j < s.data.toList.length) (hj : j < (s.data.toList.map Lv.flip).length) : Value.int .u8 ((Lv.flip (s.data.toList.getD j 0)).toNat : Int) = Value.int .u8 (((s.data.toList.map Lv.flip)[j]).toNat : Int) := by
  rw [List.getD_eq_getElem?_getD, List.getElem?_eq_getElem h, List.getElem_map]
  rfl

set_option maxHeartbeats 800000 in
theorem lvFlipCase_any (s : ByteArray) (w : World) (hs : s.size ≤ 65536) :
    Calls Tryf.prog 8 #[.string s] w fun e w' => e = .returned (.string ⟨(s.data.toList.map Lv.flip).toArray⟩) ∧ Below w.heap.size w w' := by
  obtain ⟨i0, hi, hz0, hz1, hz2⟩ := info_parts Tryf.info5
  go_enter Tryf.func8, Tryf.ntmps8
  go_wp2_with (at_make; refine wpList_make_full _ rfl _ _ 25 rfl w.heap.size 5 i0 (.int .u8 0) 1 Tryf.underlying25 hi hz0 hz1 .i64 .i64 _ _ s.size rfl rfl rfl rfl ?c1 ?c2 ?c3 ?_)
  case c1 => rw [hz2]; omega
  case c2 => unfold maxLen; omega
  case c3 => exact Nat.le_refl _
  intro w1 hown hgr
  have hb0 : Below w.heap.size w w1 := (Below.refl _ _).grown hgr (Nat.le_refl _) (fun k hk => by cases hk)
  clear hgr hi hz0 hz1 hz2
  go_wp2
  go_loopw [4, 5] (fun i _ wr => ∃ k : Nat, k ≤ s.size ∧ i = .int .i64 k ∧ (∃ xs : List Value, wr.ownsRow w.heap.size 5 1 (.slice (some ⟨w.heap.size, 0, none⟩) s.size s.size) s.size xs ∧ (∀ j, j < k → xs[j]? = some (.int .u8 ((Lv.flip (s.data.toList.getD j 0)).toNat : Int)))) ∧ Below w.heap.size w wr) (fun i _ _ => s.size - (intOf i).toNat)
  case atStart => exact ⟨0, Nat.zero_le _, rfl, ⟨_, hown, fun j hj => absurd hj (Nat.not_lt_zero j)⟩, hb0⟩
  case round =>
    clear hown hb0
    obtain ⟨k, hk, rfl, ⟨xs, ho, hx⟩, hbel⟩ := hrel
    by_cases hlt : k < s.size
    · have R := stepAt wr w.heap.size w.heap.size s.size xs k (.int .u8 (Lv.flipB (s[k].toNat : Int))) (fun j => j < k) (fun j => j < k + 1) (fun j => .int .u8 ((Lv.flip (s.data.toList.getD j 0)).toNat : Int)) ho hx hlt
        (flip_at s k hlt) (fun i hi => by by_cases e : i = k; exact .inl e; exact .inr (by omega))
      have hfr := ho.frozenAt k
      obtain ⟨v0, hcell⟩ := cell_old wr _ _ _ xs ho k hlt
      have Hbel := hide (hbel.setCell (p := ⟨w.heap.size, k, none⟩) (Nat.le_refl _) (.int .u8 (Lv.flipB (s[k].toNat : Int))))
      have HR := hide R
      clear ho hx hbel R
      go_wp2
      all_goals first | rw [Lv.flip_lo _ ‹_› ‹_›] at HR Hbel | rw [Lv.flip_up _ ‹_› ‹_›] at HR Hbel | rw [Lv.flip_same1 _ ‹_›] at HR Hbel | rw [Lv.flip_same2 _ ‹_› ‹_›] at HR Hbel | rw [Lv.flip_same3 _ ‹_›] at HR Hbel
      all_goals
        go_roundw
        case rel => exact ⟨k + 1, by omega, by go_num, HR.out, Hbel.out⟩
        case measure => simp [intOf]; omega
    · have hc := conv_of wr w.heap.size w.heap.size s.size xs (s.data.toList.map Lv.flip) (by simp) ho (fun j hj => by
        have hj' : j < s.data.toList.length := by simpa using hj
        rw [hx j (by simp at hj'; omega)]
        exact congrArg some (flip_get s j hj' hj))
      clear ho hx
      go_wp2
      go_ret
      exact ⟨rfl, hbel⟩

end Go.Proofs.Qxb6615952aFmt
