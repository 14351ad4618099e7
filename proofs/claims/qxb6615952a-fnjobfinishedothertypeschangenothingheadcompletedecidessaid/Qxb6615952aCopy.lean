/-
  What the law's walk stands on: the copies; the comparisons; a Condition in a block of its own.
-/
import Derived.Test.Qxb6615952aGuard
import Derived.Test.Qxb6615952aPlain
import Derived.Test.Qxb6615952aJob
import Derived.WalkSpells
import Derived.Deep.Cut
import Derived.Laws.CopyOwn
namespace Go.Proofs.Qxb6615952a.Jf
open Go.RowKit

theorem Try.size9 : (Try.prog.info? 9).map (·.size) = some 1 := by kernel_rfl

/-- A slice that was copied, or nil as it was. -/
def Copied (w : World) (ss : List ByteArray) (v : Value) (wc : World) : Prop := ∃ a c, v = .slice a ss.length c ∧ Strs wc a ss ∧ Below w.heap.size w wc

theorem strs_len (ss : List ByteArray) : (strs ss).length = ss.length := by simp [strs]
theorem strs_one (ss : List ByteArray) : ∀ v ∈ strs ss, v.oneCell' = true := by
  intro v hv
  obtain ⟨s, _, rfl⟩ := List.mem_map.1 hv
  rfl

theorem strs_src {w : World} {a : Option Addr} {ss : List ByteArray} (h : Strs w a ss) (hpos : 0 < (strs ss).length) : ∃ ad, a = some ad ∧ ∀ j v, (strs ss)[j]? = some v → w.cell? (ad.add j) = some v := by
  rcases h with h | ⟨b, off, ha, hlt, hc⟩
  · rw [h] at hpos; simp [strs] at hpos
  · refine ⟨_, ha, fun j v hv => ?_⟩
    have hj : j < ss.length := by
      have := (List.getElem?_eq_some_iff.1 hv).1; simpa [strs] using this
    have e : (⟨b, off, none⟩ : Addr).add j = ⟨b, off + j, none⟩ := by unfold Addr.add; split <;> simp_all
    rw [e, hc j hj]
    simp [strs, hj] at hv
    rw [← hv, List.getD_eq_getElem?_getD, List.getElem?_eq_getElem hj]
    rfl

theorem row_cur {w : World} {base g n : Nat} {xs : List Value} (h : w.ownsRow base 9 1 (.slice (some ⟨g, 0, none⟩) n n) n xs) : ∃ cur : List Value, cur.length = n ∧ w.heap[g]? = some (.cells cur.toArray 9 (0, 0)) := by
  rcases h.2 with ⟨h, _⟩ | ⟨g', cap, cur, hv, _, hg, _, _, hs, _⟩
  · cases h
  · injection hv with e1 e2 e3
    injection e1 with e1
    injection e1 with e1
    subst e1 e3
    exact ⟨cur.toList, by simpa using hs, by simpa using hg⟩

theorem copied {w wc : World} {g : Nat} {cur : List Value} {ss : List ByteArray} (c : Nat) (hl : cur.length = ss.length) (h : Hid (wc.heap[g]? = some (.cells (splice cur 0 (strs ss)).toArray 9 (0, 0)))) (hb : Below w.heap.size w wc) : Copied w ss (.slice (some ⟨g, 0, none⟩) ss.length c) wc := by
  have e : splice cur 0 (strs ss) = strs ss := by
    simp [splice, strs, hl]
  have hg := h.out
  rw [e] at hg
  refine ⟨_, _, rfl, .inr ⟨g, 0, rfl, ?_, fun j hj => ?_⟩, hb⟩
  · rcases Nat.lt_or_ge g wc.heap.size with hlt | hge
    · exact hlt
    · rw [Array.getElem?_eq_none hge] at hg; cases hg
  · rw [cell_of_row wc g (0 + j) _ 9 (0, 0) hg]
    simp [strs, hj]

/-- The copy of ss into a fresh row g. -/
theorem copy_run {W wm : World} {a : Option Addr} {ss : List ByteArray} (c : Nat) {cur : List Value} {g : Nat} (hcl : cur.length = ss.length) (hcur : wm.heap[g]? = some (.cells cur.toArray 9 (0, 0))) (hs : Strs wm a ss) (hb : Below W.heap.size W wm) (hg : W.heap.size ≤ g) :
    ∃ wk, (Builtin.copy_ #[22, 22] 3 #[.slice (some ⟨g, 0, none⟩) ss.length ss.length, .slice a ss.length c]).run Try.prog wm = .ok (.int .i64 ss.length) wk ∧ Hid (Copied W ss (.slice (some ⟨g, 0, none⟩) ss.length ss.length) wk) := by
  by_cases h0 : ss.length = 0
  · refine ⟨wm, ?_, hide ⟨_, _, rfl, .inl (List.eq_nil_of_length_eq_zero h0), hb⟩⟩
    rw [run_copy_none (P := Try.prog) wm 22 22 3 9 _ _ _ _ _ _ Try.underlying22 Try.size9 (by rw [h0]; rfl)]
    rw [h0]; rfl
  · obtain ⟨ad, rfl, hsrc⟩ := strs_src hs (by rw [strs_len]; omega)
    have hr := run_copy_row (P := Try.prog) wm 22 22 3 9 g 0 ss.length ss.length ad ss.length c cur.toArray 9 (strs ss) Try.underlying22 Try.size9 hcur (by rw [strs_len]; exact (Nat.min_self _).symm) hsrc (by rw [strs_len]; simp [hcl]) (strs_one ss)
    refine ⟨wm.setRow g (cur.toArray.toList.take 0 ++ strs ss ++ cur.toArray.toList.drop (0 + (strs ss).length)).toArray, by rw [hr, strs_len]; rfl, hide (copied (cur := cur) (g := g) _ hcl ?_ (below_setRow hb hg _))⟩
    exact show _ = _ by simpa [splice] using setRow_heap wm g _ _ 9 _ hcur

/-- What the walk reads of a comparison of strings. -/
theorem beq_t (s t : ByteArray) (l : List UInt8) (hl : t.toList = l) (h : s = t) : (s.toList == l) = true := by
  subst h; subst hl; simp
theorem beq_f (s t : ByteArray) (l : List UInt8) (hl : t.toList = l) (h : s ≠ t) : (s.toList == l) = false := by
  subst hl
  rw [beq_eq_false_iff_ne]
  intro e
  apply h
  rw [ByteArray.toList_eq, ByteArray.toList_eq] at e
  have h2 : s.data = t.data := Array.toList_inj.1 e
  cases s; cases t; simp at h2; rw [h2]
theorem complete_list : tComplete.toList = [67, 111, 109, 112, 108, 101, 116, 101] := by rw [ByteArray.toList_eq]; rfl
theorem failed_list : tFailed.toList = [70, 97, 105, 108, 101, 100] := by rw [ByteArray.toList_eq]; rfl

/-- A Condition laid into a block of its own, behind the world W. -/
structure Out (W : World) (b : Nat) (t s r : ByteArray) (wc : World) : Prop where
  cells : Cells7 wc b #[.string t, .string s, .string ⟨#[]⟩, .string ⟨#[]⟩, .string ⟨#[]⟩, .string r, .string ⟨#[]⟩]
  lt : b < wc.heap.size
  ge : W.heap.size ≤ b
  bel : Below W.heap.size W wc

theorem out_new {W w : World} (t s r : ByteArray) (h : Below W.heap.size W w) : Out W w.heap.size t s r (w.alloc (.cells #[.string t, .string s, .string ⟨#[]⟩, .string ⟨#[]⟩, .string ⟨#[]⟩, .string r, .string ⟨#[]⟩] 27)) :=
  ⟨(MapKept.heap_alloc w _).1, by simp, h.size, h.alloc h.size _⟩

theorem Out.next {W b t s r w w'} (h : Out W b t s r w) (hb : Below w.heap.size w w') : Out W b t s r w' :=
  ⟨h.cells.below hb h.lt, Nat.lt_of_lt_of_le h.lt hb.size, h.ge, h.bel.trans (hb.mono h.bel.size)⟩

end Go.Proofs.Qxb6615952a.Jf
