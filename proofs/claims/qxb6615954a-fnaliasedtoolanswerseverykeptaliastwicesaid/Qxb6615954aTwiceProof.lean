/-
  THE PROOF OF 'Rows.FnAliasedToolAnswersEveryKeptAliasTwiceSaid': the guide's frame (its shell for slices, turned to slices of strings); the walk out of Qxb6615954aTwice.
-/
import Derived.Test.Qxb6615954aRows
import Derived.Test.Qxb6615954aTwice
import Derived.WalkKit
import Derived.ProofKit
import Derived.OpenShut
import Derived.ShutString
import Derived.ChangeOld
import Derived.Below
import Derived.SliceStrings
namespace Go.Proofs.Qxb6615954a.fnAliasedToolAnswersEveryKeptAliasTwice
open Go.ChangeShapes Go.WideShapes Go.ChangeAt Go.RowKit
open Go.ChangeMaps (open_string shut_string)
set_option linter.unusedVariables false

theorem own : ownKnob Try.prog.godebug = none := by kernel_rfl
theorem laidOut : laidOutB Try.prog = true := by kernel_rfl

/-- What is known of a slice of strings that came in. -/
def IsStrs (w : World) (a : Option Addr) (len : Nat) : Prop :=
  ∃ ss : List ByteArray, ss.length = len ∧ len ≤ maxLen ∧ Al.Strs w a ss ∧ ∀ i, (Al.nth ss i).size ≤ maxLen

theorem nth_size (ss : List ByteArray) (h : ∀ s ∈ ss, s.size ≤ maxLen) (i : Nat) : (Al.nth ss i).size ≤ maxLen := by
  unfold Al.nth
  rw [List.getD_eq_getElem?_getD]
  by_cases hi : i < ss.length
  · rw [List.getElem?_eq_getElem hi]; exact h _ (List.getElem_mem hi)
  · rw [List.getElem?_eq_none (by omega)]; exact Nat.zero_le _

theorem isStrs {H : Type} {enc : TypeId × Value → H} {W : World} {a : Option Addr} {len cap : Nat} {d : DataW H} {p : List MemPlace} (h : DataW.Trod enc Try.prog W 0 (fun _ => true) true 23 (.slice a len cap) d p) : IsStrs W a len := by
  obtain ⟨fuel, hf⟩ := h
  rcases open_strings Try.underlying23 Try.underlying9 (by kernel_rfl) hf with ⟨hcs, _⟩ | ⟨x, l, c, ss, hcs, _, hl, hm, hz, _, hcell, hws⟩
  · simp [Value.cells] at hcs
    obtain ⟨rfl, rfl, rfl⟩ := hcs
    exact ⟨[], rfl, Nat.zero_le _, .inl rfl, nth_size [] (by simp)⟩
  · simp [Value.cells] at hcs
    obtain ⟨rfl, rfl, rfl⟩ := hcs
    have hlen : ss.length = cap := by simpa using hz
    refine ⟨ss.take len, by rw [List.length_take]; omega, by omega, ?_, nth_size _ (fun s hs => hws s (List.mem_of_mem_take hs))⟩
    by_cases h0 : len = 0
    · left; rw [h0]; rfl
    · right
      obtain ⟨b, off, spot⟩ := x
      have hc0 := hcell 0 (by omega)
      have hspot : spot = none := by simpa [Addr.add] using World.cell?_spot hc0
      subst hspot
      have hplain : ∀ j, (⟨b, off, none⟩ : Addr).add j = ⟨b, off + j, none⟩ := fun j => by unfold Addr.add; split <;> simp_all
      refine ⟨b, off, rfl, ?_, fun j hj => ?_⟩
      · have hx : W.cell? ⟨b, off + 0, none⟩ = some (.string (ss.getD 0 ByteArray.empty)) := by rw [← hplain]; exact hc0
        rcases Nat.lt_or_ge b W.heap.size with hlt | hge
        · exact hlt
        · exfalso
          have hnone : W.heap[b]? = none := Array.getElem?_eq_none hge
          simp [World.cell?, hnone] at hx
      · have hj' : j < len := by have := hj; rw [List.length_take] at this; omega
        rw [← hplain, hcell j (by omega)]
        rw [List.getD_eq_getElem?_getD, List.getD_eq_getElem?_getD, List.getElem?_take_of_lt hj']

/-! ### THE ROW's STEP -/
set_option maxRecDepth 100000 in
theorem lifted (os : Os) (started : os.Started) (H : Type) (enc : TypeId × Value → H) :
    ReturnsInHanded {} Try.checked os 5 .any (Rows.fnAliasedToolAnswersEveryKeptAliasTwiceSpec.pre6 enc Try.prog Try.f5 Rows.fnAliasedToolAnswersEveryKeptAliasTwiceRow.domain false) (Rows.fnAliasedToolAnswersEveryKeptAliasTwiceSpec.post enc Try.prog Try.f5 false true false false) := by
  refine returnsInHanded_of_change (C := Try.checked) own started (by kernel_rfl) Try.func5
    (ChangeSpec.witness6 (enc := enc) (C := Try.checked) false ⟨#[], #[.slice none 0 0, .slice none 0 0], []⟩ 8 (by kernel_rfl) (by kernel_rfl) (by kernel_rfl) (by kernel_rfl)) ?_
  intro W base args ds gs before hval0 hW hcnd _
  have hval : ∀ (j : Nat) t v, Try.f5.params[j]? = some t → args[j]? = some v → Value.okWide Try.prog W .any base t v := hval0
  have hW' := hW
  obtain ⟨p, q, hA0, hV, rfl, hfz, hnd⟩ := hW
  have hA : DataW.TrodAll enc Try.prog W 0 (fun _ => true) true Try.f5.params.toList args.toList ds p := hA0
  rw [Try.params5] at hA hval
  obtain ⟨v0, vs0, d0, ds0, p0, q0, hargs, rfl, rfl, h0, r0⟩ := trodAll_cons hA
  obtain ⟨v1, vs1, d1, ds1, p1, q1, rfl, rfl, rfl, h1, r1⟩ := trodAll_cons r0
  obtain ⟨rfl, rfl, rfl⟩ := trodAll_nil r1
  obtain rfl : args = #[v0, v1] := by cases args; simp_all
  obtain ⟨rfl, rfl⟩ := trodVars_none hV
  obtain ⟨a0, len0, cap0, rfl⟩ := okWide_slice Try.underlying23 (hval 0 23 v0 rfl rfl)
  have k0 := h0
  have lt0 : ∀ x ∈ p0, x.block < W.heap.size := by obtain ⟨m, hm⟩ := k0; exact DataW.trod_lt m _ _ _ hm
  obtain ⟨s0, rfl, m0, w0, z0⟩ := isStrs h0
  obtain ⟨a1, len1, cap1, rfl⟩ := okWide_slice Try.underlying23 (hval 1 23 v1 rfl rfl)
  have k1 := h1
  have lt1 : ∀ x ∈ p1, x.block < W.heap.size := by obtain ⟨m, hm⟩ := k1; exact DataW.trod_lt m _ _ _ hm
  obtain ⟨s1, rfl, m1, w1, z1⟩ := isStrs h1
  clear hA0 hval0
  refine (Al.twice_all a0 a1 s0 s1 cap0 cap1 W w0 w1 m0 m1 z0 z1).mono fun e W' ⟨he, bel⟩ => ?_
  subst he
  exact ⟨_, rfl, _, _, _, [], _, [], hW', trodAll_mk1 (shut_bool Try.underlying4 _), (trodAll_cons_mk (Below.trod laidOut (by kernel_rfl) (of_decide_eq_true (by kernel_rfl)) k0 bel lt0) (trodAll_cons_mk (Below.trod laidOut (by kernel_rfl) (of_decide_eq_true (by kernel_rfl)) k1 bel lt1) trodAll_mk0)), rfl, bel.frame _, fun h => by cases h⟩

theorem over : Rows.fnAliasedToolAnswersEveryKeptAliasTwiceRow.holds Try.pinned (OpenSpec.ofChange Rows.fnAliasedToolAnswersEveryKeptAliasTwiceSpec) :=
  OpenClaim.holds_of_wide 5 Try.f5 rfl rfl rfl rfl rfl rfl rfl ⟨rfl, rfl, rfl, rfl, rfl⟩ rfl rfl rfl rfl rfl (by kernel_rfl) Try.func5 (by kernel_rfl)
    (of_decide_eq_true (by kernel_rfl)) (by unfold Func.isWrapper; first | (rw [if_pos (by decide +kernel)]; kernel_rfl) | (rw [if_neg (by decide +kernel)]; exact ⟨rfl, rfl⟩))
    (fun os started H enc _ => lifted os started H enc)

/-- ████ THE STATEMENT ████ -/
theorem proved : Rows.FnAliasedToolAnswersEveryKeptAliasTwiceSaid := over
#print axioms proved
end Go.Proofs.Qxb6615954a.fnAliasedToolAnswersEveryKeptAliasTwice
