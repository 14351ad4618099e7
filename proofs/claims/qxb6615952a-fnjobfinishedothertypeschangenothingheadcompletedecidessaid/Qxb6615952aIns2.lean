/-
  jfInsert by its contract; the plain law of insertion.
-/
import Derived.Test.Qxb6615952aStrs
import Derived.Deep.AppendLies
namespace Go.Proofs.Qxb6615952a.Jf
open Go.RowKit

theorem Try.info9 : (Try.prog.info? 9).map (fun i => (i.zero, i.size, i.bytes)) = some (some (.string ⟨#[]⟩), 1, 16) := by kernel_rfl

/-- x put in at place p. -/
def insAt (p : Nat) (x : ByteArray) (ss : List ByteArray) : List ByteArray := ss.take p ++ x :: ss.drop p

theorem insAt_len (p : Nat) (x : ByteArray) (ss : List ByteArray) (h : p ≤ ss.length) : (insAt p x ss).length = ss.length + 1 := by
  simp [insAt]; omega

/-- The elements behind k rounds of the first loop; of the second. -/
def pre1 (ss : List ByteArray) (k : Nat) : List ByteArray := ss.take k
def pre2 (p : Nat) (x : ByteArray) (ss : List ByteArray) (k : Nat) : List ByteArray := ss.take p ++ x :: (ss.take k).drop p

theorem sth_get (ss : List ByteArray) (k : Nat) (h : k < ss.length) : sth ss k = ss[k] := by simp [sth, h]

theorem pre1_succ (ss : List ByteArray) (k : Nat) (h : k < ss.length) : pre1 ss k ++ [sth ss k] = pre1 ss (k + 1) := by
  rw [pre1, pre1, sth_get ss k h, List.take_append_getElem h]
theorem pre2_start (p : Nat) (x : ByteArray) (ss : List ByteArray) : pre1 ss p ++ [x] = pre2 p x ss p := by
  simp [pre1, pre2]
theorem pre2_succ (p : Nat) (x : ByteArray) (ss : List ByteArray) (k : Nat) (hp : p ≤ k) (h : k < ss.length) : pre2 p x ss k ++ [sth ss k] = pre2 p x ss (k + 1) := by
  rw [pre2, pre2, sth_get ss k h, ← List.take_append_getElem h, List.drop_append_of_le_length (by simp; omega)]
  simp
theorem pre2_end (p : Nat) (x : ByteArray) (ss : List ByteArray) : pre2 p x ss ss.length = insAt p x ss := by
  simp [pre2, insAt]

/-- The values of strings. -/
def strs (ss : List ByteArray) : List Value := ss.map .string

/-- The row that is being filled. -/
structure Grown (w : World) (cap : Nat) (xs : List ByteArray) (k : Nat) (wr : World) : Prop where
  row : wr.ownsRow w.heap.size 9 1 (.slice (some ⟨w.heap.size, 0, none⟩) k cap) k (strs xs)
  bel : Below w.heap.size w wr

theorem Grown.next {w wr w2 : World} {cap k : Nat} {xs : List ByteArray} (h : Grown w cap xs k wr) (x : ByteArray) (ob : Obj)
    (hown : w2.ownsRow w.heap.size 9 1 (.slice (some ⟨w.heap.size, 0, none⟩) (k + 1) cap) (k + 1) (strs xs ++ [.string x])) (hgr : (wr.alloc ob).grownBy w2 (some w.heap.size)) : Grown w cap (xs ++ [x]) (k + 1) w2 := by
  refine ⟨?_, (h.bel.alloc h.bel.size ob).grown hgr (by have := h.bel.size; simp; omega) (fun j hj => by cases hj; exact Nat.le_refl _)⟩
  simpa [strs] using hown

theorem Grown.strs {w wr : World} {cap : Nat} {xs : List ByteArray} (h : Grown w cap xs xs.length wr) : Strs wr (some ⟨w.heap.size, 0, none⟩) xs := by
  refine .inr ⟨w.heap.size, 0, rfl, (h.row.lt _ rfl).2, fun j hj => ?_⟩
  rw [Nat.zero_add, h.row.cellAt j (by omega)]
  simp [Jf.strs, hj]

set_option maxHeartbeats 6400000 in
theorem insert_any (a : Option Addr) (ss : List ByteArray) (c p : Nat) (x : ByteArray) (w : World) (h0 : Strs w a ss) (hp : p ≤ ss.length) (hn : ss.length ≤ 65536) :
    Calls Try.prog 12 #[.slice a ss.length c, .int .i64 p, .string x] w fun e w' => ∃ g cap, e = .returned (.slice (some ⟨g, 0, none⟩) (insAt p x ss).length cap) ∧ Strs w' (some ⟨g, 0, none⟩) (insAt p x ss) ∧ Below w.heap.size w w' := by
  obtain ⟨i0, hi, hz0, hz1, hz2⟩ := info_parts Try.info9
  go_enter Try.func12, Try.ntmps12
  go_wp2_with (at_make; refine wpList_make_own _ rfl _ _ 22 rfl w.heap.size 9 i0 (.string ⟨#[]⟩) 1 Try.underlying22 hi hz0 hz1 .i64 .i64 _ (ss.length + 1) rfl rfl ?c0 ?c1 ?c2 ?c3 ?_)
  case c0 => omega
  case c1 => rw [hz2]; omega
  case c2 => unfold maxLen; omega
  case c3 => exact Nat.le_refl _
  intro w1 hown hgr
  have HL : Hid (Grown w (ss.length + 1) (pre1 ss 0) 0 w1) := hide ⟨hown, (Below.refl _ _).grown hgr (Nat.le_refl _) (fun k hk => by cases hk)⟩
  clear hown hgr
  go_wp2
  go_loopw [7, 8] (fun lv i wr => ∃ k : Nat, k ≤ p ∧ i = .int .i64 k ∧ lv = .slice (some ⟨w.heap.size, 0, none⟩) k (ss.length + 1) ∧ Hid (Grown w (ss.length + 1) (pre1 ss k) k wr)) (fun _ i _ => p - (intOf i).toNat)
  case atStart => exact ⟨0, Nat.zero_le _, rfl, rfl, HL⟩
  case round =>
    clear HL
    obtain ⟨k, hk, rfl, rfl, hL⟩ := hrel
    by_cases hlt : k < p
    · obtain ⟨b0, f0, rfl, hb0, hc0⟩ := h0.at (k := k) (by omega)
      change w.cell? ⟨b0, f0 + k, none⟩ = some (.string (sth ss k)) at hc0
      rw [← hL.out.bel.cell (p := ⟨b0, f0 + k, none⟩) hb0] at hc0
      have Hrow := hide hL.out.row
      have HN := hide (fun w2 ob a b => Grown.next hL.out (sth ss k) (w2 := w2) ob a b)
      rw [pre1_succ ss k (by omega)] at HN
      generalize sth ss k = tk at *
      generalize pre1 ss k = P1 at *
      go_wp2_with (at_builtin; refine wpList_append_fits _ rfl _ _ 22 rfl w.heap.size 9 i0 1 Try.underlying22 hi hz1 w.heap.size k (ss.length + 1) (strs P1) rfl (Hrow.out.alloc _) ⟨wr.heap.size, 0, none⟩ 1 1 [.string tk] rfl rfl (cell_one_new _ _ _) (by simp [Value.oneCell']) (by omega) ?_)
      intro w2 hown1 hgr1
      have HL2 := hide (HN.out _ _ hown1 hgr1)
      clear hown1 hgr1 HN Hrow
      go_wp2
      go_roundw
      case rel => exact ⟨k + 1, by omega, by go_num, rfl, HL2⟩
      case measure => simp [intOf]; omega
    · have hkp : k = p := by omega
      subst hkp
      have Hrow := hide hL.out.row
      have HN := hide (fun w2 ob a b => Grown.next hL.out x (w2 := w2) ob a b)
      rw [pre2_start] at HN
      generalize pre1 ss k = P1 at *
      go_wp2_with (at_builtin; refine wpList_append_fits _ rfl _ _ 22 rfl w.heap.size 9 i0 1 Try.underlying22 hi hz1 w.heap.size k (ss.length + 1) (strs P1) rfl (Hrow.out.alloc _) ⟨wr.heap.size, 0, none⟩ 1 1 [.string x] rfl rfl (cell_one_new _ _ _) (by simp [Value.oneCell']) (by omega) ?_)
      intro w2 hown1 hgr1
      have HL2 := hide (HN.out _ _ hown1 hgr1)
      clear hown1 hgr1 HN Hrow hL
      go_wp2
      go_loopw [7, 9] (fun lv i wr => ∃ j : Nat, k ≤ j ∧ j ≤ ss.length ∧ i = .int .i64 j ∧ lv = .slice (some ⟨w.heap.size, 0, none⟩) (j + 1) (ss.length + 1) ∧ Hid (Grown w (ss.length + 1) (pre2 k x ss j) (j + 1) wr)) (fun _ i _ => ss.length - (intOf i).toNat)
      case atStart => exact ⟨k, Nat.le_refl _, hp, rfl, rfl, HL2⟩
      case round =>
        clear HL2
        obtain ⟨j, hkj, hj, rfl, rfl, hL⟩ := hrel
        by_cases hlt : j < ss.length
        · obtain ⟨b0, f0, rfl, hb0, hc0⟩ := h0.at (k := j) hlt
          change w.cell? ⟨b0, f0 + j, none⟩ = some (.string (sth ss j)) at hc0
          rw [← hL.out.bel.cell (p := ⟨b0, f0 + j, none⟩) hb0] at hc0
          have Hrow := hide hL.out.row
          have HN := hide (fun w2 ob a b => Grown.next hL.out (sth ss j) (w2 := w2) ob a b)
          rw [pre2_succ k x ss j hkj hlt] at HN
          generalize sth ss j = tk at *
          generalize pre2 k x ss j = P1 at *
          go_wp2_with (at_builtin; refine wpList_append_fits _ rfl _ _ 22 rfl w.heap.size 9 i0 1 Try.underlying22 hi hz1 w.heap.size (j + 1) (ss.length + 1) (strs P1) rfl (Hrow.out.alloc _) ⟨wr.heap.size, 0, none⟩ 1 1 [.string tk] rfl rfl (cell_one_new _ _ _) (by simp [Value.oneCell']) (by omega) ?_)
          intro w2 hown1 hgr1
          have HL2 := hide (HN.out _ _ hown1 hgr1)
          clear hown1 hgr1 HN Hrow
          go_wp2
          go_roundw
          case rel => exact ⟨j + 1, by omega, by omega, by go_num, rfl, HL2⟩
          case measure => simp [intOf]; omega
        · have hjn : j = ss.length := by omega
          subst hjn
          rw [pre2_end] at hL
          have e1 := insAt_len k x ss hp
          rw [← e1] at hL
          have H1 := hide hL.out.strs
          have H2 := hide hL.out.bel
          clear hL
          go_wp2
          go_ret
          refine ⟨w.heap.size, ss.length + 1, ?_, H1.out, H2.out⟩
          show Ending.returned _ = Ending.returned _
          rw [e1]
          rfl

end Go.Proofs.Qxb6615952a.Jf
