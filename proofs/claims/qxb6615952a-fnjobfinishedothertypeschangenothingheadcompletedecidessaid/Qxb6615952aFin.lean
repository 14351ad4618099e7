/-
  JobFinished by its contract.
-/
import Derived.Test.Qxb6615952aCond
import Derived.Laws.IdiomStrings
namespace Go.Proofs.Qxb6615952a.Jf
open Go.RowKit Go.Maps

def tComplete : ByteArray := ⟨#[67, 111, 109, 112, 108, 101, 116, 101]⟩
def tFailed : ByteArray := ⟨#[70, 97, 105, 108, 101, 100]⟩
def tTrue : ByteArray := ⟨#[84, 114, 117, 101]⟩

/-- What Condition answers, taken apart: the type it names, status, reason, found or not. -/
def cond4 (typ : ByteArray) (L : List Row) : ByteArray × ByteArray × ByteArray × Bool :=
  match look typ L with | some (s, r) => (typ, s, r, true) | none => (⟨#[]⟩, ⟨#[]⟩, ⟨#[]⟩, false)

theorem condRes_eq (typ : ByteArray) (L : List Row) : condRes typ L = .tuple #[cv (cond4 typ L).1 (cond4 typ L).2.1 (cond4 typ L).2.2.1, .bool (cond4 typ L).2.2.2] := by
  unfold condRes cond4
  cases look typ L with
  | none => rfl
  | some p => rfl

/-- The finishing condition: its type, status, reason; and whether there is one. -/
def fin (L : List Row) : Row × Bool :=
  if (cond4 tComplete L).2.1 = tTrue then (((cond4 tComplete L).1, (cond4 tComplete L).2.1, (cond4 tComplete L).2.2.1), true)
  else if (cond4 tFailed L).2.1 = tTrue then (((cond4 tFailed L).1, (cond4 tFailed L).2.1, (cond4 tFailed L).2.2.1), true)
  else (row0, false)

def finVal (x : Row × Bool) : Value := .tuple #[cv x.1.1 x.1.2.1 x.1.2.2, .bool x.2]

theorem true_beq (s : ByteArray) (h : s = tTrue) : (s.toList == [84, 114, 117, 101]) = true := by
  subst h; rw [ByteArray.toList_eq]; rfl
theorem true_nbeq (s : ByteArray) (h : s ≠ tTrue) : (s.toList == [84, 114, 117, 101]) = false := by
  rw [beq_eq_false_iff_ne]
  intro e
  apply h
  rw [ByteArray.toList_eq] at e
  have h2 : s.data = #[84, 114, 117, 101] := Array.toList_inj.1 (by rw [e])
  cases s; simp at h2; rw [h2]; rfl

/-- What every round of JobFinished's loop finds in memory. -/
structure Good (w : World) (o st lb cap : Nat) (m : Nat → Nat) (L : List Row) (rb pb : Nat) (wr : World) : Prop where
  job : JobAt wr o st lb cap m L
  res : Cells7 wr rb zeros7
  p0 : wr.cell? ⟨pb, 0, none⟩ = some (.string ⟨#[67, 111, 109, 112, 108, 101, 116, 101]⟩)
  p1 : wr.cell? ⟨pb, 1, none⟩ = some (.string ⟨#[70, 97, 105, 108, 101, 100]⟩)
  bel : Below w.heap.size w wr
  rlt : rb < wr.heap.size
  plt : pb < wr.heap.size
  rb_ge : w.heap.size ≤ rb

theorem Good.next {w : World} {o st lb cap : Nat} {m : Nat → Nat} {L : List Row} {rb pb : Nat} {wr w' : World} (h : Good w o st lb cap m L rb pb wr) (hb : Below wr.heap.size wr w') : Good w o st lb cap m L rb pb w' :=
  ⟨h.job.below hb, h.res.below hb h.rlt, by rw [hb.cell (p := ⟨pb, 0, none⟩) h.plt]; exact h.p0, by rw [hb.cell (p := ⟨pb, 1, none⟩) h.plt]; exact h.p1, h.bel.trans (hb.mono h.bel.size), Nat.lt_of_lt_of_le h.rlt hb.size, Nat.lt_of_lt_of_le h.plt hb.size, h.rb_ge⟩

theorem Good.alloc {w : World} {o st lb cap : Nat} {m : Nat → Nat} {L : List Row} {rb pb : Nat} {wr : World} (h : Good w o st lb cap m L rb pb wr) (ob : Obj) : Good w o st lb cap m L rb pb (wr.alloc ob) :=
  h.next ((Below.refl _ _).alloc (Nat.le_refl _) _)

theorem set7_at {w wr : World} {B : Nat} (b : Nat) (hB : B ≤ b) (h : Below B w wr) (v0 v1 v2 v3 v4 v5 v6 : Value) :
    Below B w (((((((wr.setCell ⟨b, 0, none⟩ v0).setCell ⟨b, 1, none⟩ v1).setCell ⟨b, 2, none⟩ v2).setCell ⟨b, 3, none⟩ v3).setCell ⟨b, 4, none⟩ v4).setCell ⟨b, 5, none⟩ v5).setCell ⟨b, 6, none⟩ v6) :=
  ((((((h.setCell (p := ⟨b, 0, none⟩) hB _).setCell (p := ⟨b, 1, none⟩) hB _).setCell (p := ⟨b, 2, none⟩) hB _).setCell (p := ⟨b, 3, none⟩) hB _).setCell (p := ⟨b, 4, none⟩) hB _).setCell (p := ⟨b, 5, none⟩) hB _).setCell (p := ⟨b, 6, none⟩) hB _

theorem good_start {w : World} {o st lb cap : Nat} {m : Nat → Nat} {L : List Row} (h : JobAt w o st lb cap m L) (zs ps : Array Value) (hz : zs = zeros7) (h0 : ps[0]? = some (.string ⟨#[67, 111, 109, 112, 108, 101, 116, 101]⟩)) (h1 : ps[1]? = some (.string ⟨#[70, 97, 105, 108, 101, 100]⟩)) :
    Good w o st lb cap m L w.heap.size (w.heap.size + 1) ((w.alloc (.cells zs 27)).alloc (.cells ps 9)) := by
  have hb : Below w.heap.size w ((w.alloc (.cells zs 27)).alloc (.cells ps 9)) := ((Below.refl _ _).alloc (Nat.le_refl _) _).alloc (by simp) _
  have e : w.heap.size + 1 = (w.alloc (.cells zs 27)).heap.size := by simp
  refine ⟨h.below hb, ?_, ?_, ?_, hb, by simp; omega, by simp, Nat.le_refl _⟩
  · rw [Cells7, ← hz]
    exact (World.grownBy_alloc _ _ none).block _ (by simp) (by simp) |>.trans (MapKept.heap_alloc w _).1
  · rw [e, World.cell?_alloc_mark, h0]
  · rw [e, World.cell?_alloc_mark, h1]

set_option maxHeartbeats 6400000 in
theorem finished_any (o st lb cap : Nat) (m : Nat → Nat) (L : List Row) (w : World) (h : JobAt w o st lb cap m L) :
    Calls Try.prog 9 #[.map (some o)] w fun e w' => e = .returned (finVal (fin L)) ∧ Below w.heap.size w w' := by
  have Hh := hide h
  clear h
  go_enter Try.func9, Try.ntmps9
  go_wp2
  go_loopw [10] (fun i wr => (i = .int .i64 0 ∧ Good w o st lb cap m L w.heap.size (w.heap.size + 1) wr) ∨ (i = .int .i64 1 ∧ Good w o st lb cap m L w.heap.size (w.heap.size + 1) wr ∧ Hid ((cond4 tComplete L).2.1 ≠ tTrue)) ∨ (i = .int .i64 2 ∧ Good w o st lb cap m L w.heap.size (w.heap.size + 1) wr ∧ Hid ((cond4 tComplete L).2.1 ≠ tTrue) ∧ Hid ((cond4 tFailed L).2.1 ≠ tTrue))) (fun i _ => 2 - (intOf i).toNat)
  case atStart => exact .inl ⟨rfl, good_start Hh.out _ _ rfl rfl rfl⟩
  case round =>
    clear Hh
    rcases hrel with ⟨rfl, hrel⟩ | ⟨rfl, hrel⟩ | ⟨rfl, hrel⟩
    · have hG := hrel
      have hc := hG.p0
      have HG := hide hG
      clear hG
      go_wp2_with fail
      refine (condition_any o st lb cap m L tComplete _ HG.out.job).mono ?_
      rintro e w3 ⟨rfl, hb3⟩
      rw [condRes_eq]
      have hG3 := HG.out.next hb3
      clear HG hb3 hc
      generalize hx : cond4 tComplete L = x4
      obtain ⟨x1, x2, x3, x5⟩ := x4
      have Hx := hide hx
      clear hx
      have h7 := hG3.res
      have hrb := hG3.rlt
      have q0 : w3.cell? ⟨w.heap.size, 0, none⟩ = some (.string ⟨#[]⟩) := h7.cell 0
      have z0 := h7.frozen 0
      have q1 : w3.cell? ⟨w.heap.size, 1, none⟩ = some (.string ⟨#[]⟩) := h7.cell 1
      have z1 := h7.frozen 1
      have q2 : w3.cell? ⟨w.heap.size, 2, none⟩ = some (.string ⟨#[]⟩) := h7.cell 2
      have z2 := h7.frozen 2
      have q3 : w3.cell? ⟨w.heap.size, 3, none⟩ = some (.string ⟨#[]⟩) := h7.cell 3
      have z3 := h7.frozen 3
      have q4 : w3.cell? ⟨w.heap.size, 4, none⟩ = some (.string ⟨#[]⟩) := h7.cell 4
      have z4 := h7.frozen 4
      have q5 : w3.cell? ⟨w.heap.size, 5, none⟩ = some (.string ⟨#[]⟩) := h7.cell 5
      have z5 := h7.frozen 5
      have q6 : w3.cell? ⟨w.heap.size, 6, none⟩ = some (.string ⟨#[]⟩) := h7.cell 6
      have z6 := h7.frozen 6
      have HG3 := hide hG3
      clear hG3 h7
      by_cases ht : x2 = tTrue
      · have hbq := true_beq _ ht
        have HF : Hid (fin L = ((x1, x2, x3), true)) := by
          show _ = _
          rw [fin, Hx.out, if_pos ht]
        clear ht
        unfold cv
        go_wp2
        refine bodyPost_ret (v := finVal (fin L)) (by rw [HF.out]; simp [results, Try.results9, go_sem, q0, q1, q2, q3, q4, q5, q6, hrb, finVal, cv]) rfl ⟨rfl, ?_⟩
        have hS := set7_at w.heap.size (Nat.le_refl _) HG3.out.bel (.string x1) (.string x2) (.string ⟨#[]⟩) (.string ⟨#[]⟩) (.string ⟨#[]⟩) (.string x3) (.string ⟨#[]⟩)
        exact hS.alloc hS.size _
      · have hbq := true_nbeq _ ht
        have HG4 := hide (HG3.out.alloc (.cells #[.string x1, .string x2, .string ⟨#[]⟩, .string ⟨#[]⟩, .string ⟨#[]⟩, .string x3, .string ⟨#[]⟩] 27))
        have HN : Hid ((cond4 tComplete L).2.1 ≠ tTrue) := by
          show _ ≠ _
          rw [Hx.out]; exact ht
        clear ht
        unfold cv
        go_wp2
        go_roundw
        case rel => exact .inr (.inl ⟨rfl, HG4.out, HN⟩)
        case measure => simp [intOf]
    · obtain ⟨hG, hNC⟩ := hrel
      have hc := hG.p1
      have HG := hide hG
      clear hG
      go_wp2_with fail
      refine (condition_any o st lb cap m L tFailed _ HG.out.job).mono ?_
      rintro e w3 ⟨rfl, hb3⟩
      rw [condRes_eq]
      have hG3 := HG.out.next hb3
      clear HG hb3 hc
      generalize hx : cond4 tFailed L = x4
      obtain ⟨x1, x2, x3, x5⟩ := x4
      have Hx := hide hx
      clear hx
      have h7 := hG3.res
      have hrb := hG3.rlt
      have q0 : w3.cell? ⟨w.heap.size, 0, none⟩ = some (.string ⟨#[]⟩) := h7.cell 0
      have z0 := h7.frozen 0
      have q1 : w3.cell? ⟨w.heap.size, 1, none⟩ = some (.string ⟨#[]⟩) := h7.cell 1
      have z1 := h7.frozen 1
      have q2 : w3.cell? ⟨w.heap.size, 2, none⟩ = some (.string ⟨#[]⟩) := h7.cell 2
      have z2 := h7.frozen 2
      have q3 : w3.cell? ⟨w.heap.size, 3, none⟩ = some (.string ⟨#[]⟩) := h7.cell 3
      have z3 := h7.frozen 3
      have q4 : w3.cell? ⟨w.heap.size, 4, none⟩ = some (.string ⟨#[]⟩) := h7.cell 4
      have z4 := h7.frozen 4
      have q5 : w3.cell? ⟨w.heap.size, 5, none⟩ = some (.string ⟨#[]⟩) := h7.cell 5
      have z5 := h7.frozen 5
      have q6 : w3.cell? ⟨w.heap.size, 6, none⟩ = some (.string ⟨#[]⟩) := h7.cell 6
      have z6 := h7.frozen 6
      have HG3 := hide hG3
      clear hG3 h7
      by_cases ht : x2 = tTrue
      · have hbq := true_beq _ ht
        have HF : Hid (fin L = ((x1, x2, x3), true)) := by
          show _ = _
          rw [fin, if_neg hNC.out, Hx.out, if_pos ht]
        clear ht
        unfold cv
        go_wp2
        refine bodyPost_ret (v := finVal (fin L)) (by rw [HF.out]; simp [results, Try.results9, go_sem, q0, q1, q2, q3, q4, q5, q6, hrb, finVal, cv]) rfl ⟨rfl, ?_⟩
        have hS := set7_at w.heap.size (Nat.le_refl _) HG3.out.bel (.string x1) (.string x2) (.string ⟨#[]⟩) (.string ⟨#[]⟩) (.string ⟨#[]⟩) (.string x3) (.string ⟨#[]⟩)
        exact hS.alloc hS.size _
      · have hbq := true_nbeq _ ht
        have HG4 := hide (HG3.out.alloc (.cells #[.string x1, .string x2, .string ⟨#[]⟩, .string ⟨#[]⟩, .string ⟨#[]⟩, .string x3, .string ⟨#[]⟩] 27))
        have HN : Hid ((cond4 tFailed L).2.1 ≠ tTrue) := by
          show _ ≠ _
          rw [Hx.out]; exact ht
        clear ht
        unfold cv
        go_wp2
        go_roundw
        case rel => exact .inr (.inr ⟨rfl, HG4.out, hNC, HN⟩)
        case measure => simp [intOf]
    · obtain ⟨hG, hNC, hNF⟩ := hrel
      have HF : Hid (fin L = (row0, false)) := by
        show _ = _
        rw [fin, if_neg hNC.out, if_neg hNF.out]
      have h7 := hG.res
      have q0 : wr.cell? ⟨w.heap.size, 0, none⟩ = some (.string ⟨#[]⟩) := h7.cell 0
      have z0 := h7.frozen 0
      have q1 : wr.cell? ⟨w.heap.size, 1, none⟩ = some (.string ⟨#[]⟩) := h7.cell 1
      have z1 := h7.frozen 1
      have q2 : wr.cell? ⟨w.heap.size, 2, none⟩ = some (.string ⟨#[]⟩) := h7.cell 2
      have z2 := h7.frozen 2
      have q3 : wr.cell? ⟨w.heap.size, 3, none⟩ = some (.string ⟨#[]⟩) := h7.cell 3
      have z3 := h7.frozen 3
      have q4 : wr.cell? ⟨w.heap.size, 4, none⟩ = some (.string ⟨#[]⟩) := h7.cell 4
      have z4 := h7.frozen 4
      have q5 : wr.cell? ⟨w.heap.size, 5, none⟩ = some (.string ⟨#[]⟩) := h7.cell 5
      have z5 := h7.frozen 5
      have q6 : wr.cell? ⟨w.heap.size, 6, none⟩ = some (.string ⟨#[]⟩) := h7.cell 6
      have z6 := h7.frozen 6
      have Hb := hide hG.bel
      clear hG h7 hNC hNF
      go_wp2
      refine bodyPost_ret (v := finVal (fin L)) (by rw [HF.out]; simp [results, Try.results9, go_sem, q0, q1, q2, q3, q4, q5, q6, finVal, cv, row0]) rfl ⟨rfl, ?_⟩
      exact set7_at _ (Nat.le_refl _) Hb.out _ _ _ _ _ _ _

end Go.Proofs.Qxb6615952a.Jf
