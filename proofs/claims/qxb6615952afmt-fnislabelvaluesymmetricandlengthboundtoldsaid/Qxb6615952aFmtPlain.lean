/-
  THE PLAIN MATHEMATICS of label values: no Go in sight.
-/
namespace Go.Proofs.Qxb6615952aFmt.Lv

/-- A letter or a digit, by its number. -/
def alnB (n : Int) : Bool := decide (97 ≤ n ∧ n ≤ 122 ∨ 65 ≤ n ∧ n ≤ 90 ∨ 48 ≤ n ∧ n ≤ 57)
/-- A letter, a digit, '-', '_' or '.'. -/
def okB (n : Int) : Bool := alnB n || decide (n = 45 ∨ n = 95 ∨ n = 46)

def okc (c : UInt8) : Bool := okB (c.toNat : Int)
def aln (c : UInt8) : Bool := alnB (c.toNat : Int)

/-- Not empty, all signs allowed, the first and the last a letter or digit. -/
def qual (l : List UInt8) : Bool := !l.isEmpty && (l.head?.map aln).getD false && (l.getLast?.map aln).getD false && l.all okc

/-- May the text be a label's value? -/
def lv (l : List UInt8) : Bool := l.isEmpty || (decide (l.length ≤ 63) && qual l)

theorem head_of (s : ByteArray) (h : 0 < s.size) : s.data.toList.head? = some s[0] := by
  rw [List.head?_eq_getElem?, List.getElem?_eq_getElem (by simpa using h)]; rfl

theorem last_of (s : ByteArray) (h : s.size - 1 < s.size) : s.data.toList.getLast? = some s[s.size - 1] := by
  rw [List.getLast?_eq_getElem?, List.getElem?_eq_getElem (by simpa using h)]; rfl

theorem take_snoc (s : ByteArray) (k : Nat) (h : k < s.size) : s.data.toList.take (k + 1) = s.data.toList.take k ++ [s[k]] := by
  rw [List.take_succ_eq_append_getElem (by simpa using h)]; rfl

theorem all_snoc (s : ByteArray) (k : Nat) (h : k < s.size) : (s.data.toList.take (k + 1)).all okc = ((s.data.toList.take k).all okc && okB (s[k].toNat : Int)) := by
  rw [take_snoc s k h]; simp [okc]

theorem all_false (s : ByteArray) (k : Nat) (h : k < s.size) (ho : okB (s[k].toNat : Int) = false) : s.data.toList.all okc = false := by
  rw [List.all_eq_false]
  exact ⟨s[k], by rw [show s[k] = s.data.toList[k]'(by simpa using h) from rfl]; exact List.getElem_mem _, by simp [okc, ho]⟩

theorem nil_of (s : ByteArray) (h : s.size = 0) : s.data.toList = [] := by
  apply List.eq_nil_of_length_eq_zero
  rw [Array.length_toList]
  exact h

theorem qual_empty (s : ByteArray) (h : s.size = 0) : qual s.data.toList = false := by
  simp [qual, nil_of s h]

theorem qual_of (s : ByteArray) (h : 0 < s.size) (hl : s.size - 1 < s.size) : qual s.data.toList = (alnB (s[0].toNat : Int) && alnB (s[s.size - 1].toNat : Int) && s.data.toList.all okc) := by
  have : s.data.toList.isEmpty = false := by
    cases hc : s.data.toList with
    | nil => have h1 : s.data.toList.length = 0 := by rw [hc]; rfl
             have h2 : s.data.toList.length = s.size := Array.length_toList
             omega
    | cons _ _ => rfl
  simp [qual, this, head_of s h, last_of s hl, aln]

theorem ok_miss (n : Int) (h : alnB n = false) (h1 : (n != 45) = true) (h2 : (n != 95) = true) (h3 : (n != 46) = true) : okB n = false := by
  simp [okB, h] at *; omega

theorem ok_yes1 (n : Int) (h : alnB n = true) : okB n = true := by simp [okB, h]
theorem ok_yes2 (n : Int) (h : n = 45) : okB n = true := by simp [okB, h]
theorem ok_yes3 (n : Int) (h : n = 95) : okB n = true := by simp [okB, h]
theorem ok_yes4 (n : Int) (_h1 : ¬ n = 45) (_h2 : ¬ n = 95) (h : ((n != 45) = false ∨ (n != 95) = false) ∨ (n != 46) = false) : okB n = true := by
  simp [okB] at *; omega
theorem ok_no (n : Int) (h : ¬ alnB n = true) (h3 : ((n != 45) = true ∧ (n != 95) = true) ∧ (n != 46) = true) : okB n = false :=
  ok_miss n (by simpa using h) h3.1.1 h3.1.2 h3.2

/-- The letter's case turned, by its number. -/
def flipB (n : Int) : Int := if 97 ≤ n ∧ n ≤ 122 then n - 32 else if 65 ≤ n ∧ n ≤ 90 then n + 32 else n
def flip (c : UInt8) : UInt8 := UInt8.ofNat (flipB (c.toNat : Int)).toNat

theorem flip_num (c : UInt8) : ((flip c).toNat : Int) = flipB (c.toNat : Int) := by
  have h := c.toNat_lt
  unfold flip flipB
  rw [UInt8.toNat_ofNat']
  split <;> (try split) <;> omega

theorem flip_lo (n : Int) (h1 : 97 ≤ n) (h2 : n ≤ 122) : flipB n = n - 32 := by unfold flipB; rw [if_pos ⟨h1, h2⟩]
theorem flip_up (n : Int) (h1 : 65 ≤ n) (h2 : n ≤ 90) : flipB n = n + 32 := by unfold flipB; rw [if_neg (by omega), if_pos ⟨h1, h2⟩]
theorem flip_same1 (n : Int) (h : 122 < n) : flipB n = n := by unfold flipB; rw [if_neg (by omega), if_neg (by omega)]
theorem flip_same2 (n : Int) (h : ¬ 97 ≤ n) (h1 : 90 < n) : flipB n = n := by unfold flipB; rw [if_neg (by omega), if_neg (by omega)]
theorem flip_same3 (n : Int) (h : ¬ 65 ≤ n) : flipB n = n := by unfold flipB; rw [if_neg (by omega), if_neg (by omega)]

/-! ### The laws -/
theorem okc_aln {c : UInt8} (h : aln c = true) : okc c = true := ok_yes1 _ h

theorem qual_iff (l : List UInt8) : qual l = true ↔ l ≠ [] ∧ (∀ c, l.head? = some c → aln c = true) ∧ (∀ c, l.getLast? = some c → aln c = true) ∧ ∀ c ∈ l, okc c = true := by
  cases l with
  | nil => simp [qual]
  | cons a t =>
    have hl : (a :: t).getLast? = some ((a :: t).getLast (by simp)) := List.getLast?_eq_some_getLast (by simp)
    simp only [qual, hl]
    simp
    constructor
    · rintro ⟨⟨h1, h2⟩, h3, h4⟩; exact ⟨h1, h2, h3, h4⟩
    · rintro ⟨h1, h2, h3, h4⟩; exact ⟨⟨h1, h2⟩, h3, h4⟩

theorem lv_iff (l : List UInt8) : lv l = true ↔ l = [] ∨ (l.length ≤ 63 ∧ qual l = true) := by
  unfold lv; cases l <;> simp

/-- v and v reversed. -/
theorem lv_reverse (l : List UInt8) : lv l.reverse = lv l := by
  rw [Bool.eq_iff_iff, lv_iff, lv_iff, qual_iff, qual_iff]
  simp
  constructor
  · rintro (h | ⟨h1, h2, h3, h4, h5⟩)
    · exact .inl h
    · exact .inr ⟨h1, h2, h4, h3, h5⟩
  · rintro (h | ⟨h1, h2, h3, h4, h5⟩)
    · exact .inl h
    · exact .inr ⟨h1, h2, h4, h3, h5⟩

theorem aln_flip (c : UInt8) : aln (flip c) = aln c := by
  unfold aln
  rw [flip_num, Bool.eq_iff_iff]
  unfold alnB flipB
  split
  · simp; omega
  · split
    · simp; omega
    · rfl

theorem okc_flip (c : UInt8) : okc (flip c) = okc c := by
  unfold okc
  rw [flip_num, Bool.eq_iff_iff]
  unfold okB alnB flipB
  split
  · simp; omega
  · split
    · simp; omega
    · rfl

/-- v and v with its letters' case turned. -/
theorem lv_flip (l : List UInt8) : lv (l.map flip) = lv l := by
  rw [Bool.eq_iff_iff, lv_iff, lv_iff, qual_iff, qual_iff]
  simp [aln_flip, okc_flip]

/-- n letters: a label's value just where n is at most 63. -/
theorem lv_letters (n : Nat) : lv (List.replicate n 97) = decide (n ≤ 63) := by
  rw [Bool.eq_iff_iff, lv_iff, qual_iff]
  by_cases hn : n = 0
  · subst hn; simp
  · have h97 : aln 97 = true := by decide
    have hok : okc 97 = true := by decide
    simp [List.head?_replicate, List.getLast?_replicate, hn, h97, hok]

theorem last_snoc (l : List UInt8) (y : UInt8) : (l ++ [y]).getLast? = some y := by simp

theorem lv_form (x : UInt8) (m : List UInt8) (y : UInt8) : lv (x :: (m ++ [y])) = true ↔ m.length + 2 ≤ 63 ∧ aln x = true ∧ aln y = true ∧ ∀ c ∈ m, okc c = true := by
  rw [lv_iff, qual_iff]
  have hl : (x :: (m ++ [y])).getLast? = some y := by rw [← List.cons_append]; exact last_snoc _ _
  rw [hl]
  constructor
  · rintro (h | ⟨h1, h2, h3, h4, h5⟩)
    · cases h
    · refine ⟨by simpa using h1, h3 x rfl, h4 y rfl, fun c hc => h5 c (by simp [hc])⟩
  · rintro ⟨h1, h3, h4, h5⟩
    refine .inr ⟨by simpa using h1, by simp, fun c hc => ?_, fun c hc => ?_, fun c hc => ?_⟩
    · simp at hc; rw [← hc]; exact h3
    · simp at hc; rw [← hc]; exact h4
    · simp at hc
      rcases hc with rfl | hc | rfl
      · exact okc_aln h3
      · exact h5 c hc
      · exact okc_aln h4

theorem lv_head (s : UInt8) (l : List UInt8) (hs : aln s = false) : lv (s :: l) = false := by
  rw [Bool.eq_false_iff]; intro h
  rw [lv_iff, qual_iff] at h
  rcases h with h | ⟨_, _, h3, _⟩
  · cases h
  · have := h3 s rfl; rw [hs] at this; cases this

theorem lv_last (s : UInt8) (l : List UInt8) (hs : aln s = false) : lv (l ++ [s]) = false := by
  rw [Bool.eq_false_iff]; intro h
  rw [lv_iff, qual_iff] at h
  rcases h with h | ⟨_, _, _, h4, _⟩
  · simp at h
  · have := h4 s (last_snoc _ _); rw [hs] at this; cases this

/-- a+s+b, s no letter or digit, but allowed. -/
theorem lv_join (a b : List UInt8) (s : UInt8) (hs : aln s = false) (ho : okc s = true) :
    lv (a ++ [s] ++ b) = (!a.isEmpty && !b.isEmpty && lv (a ++ [48]) && lv ([48] ++ b) && decide (a.length + b.length + 1 ≤ 63)) := by
  have h48 : aln 48 = true := by decide
  cases a with
  | nil => rw [List.nil_append, List.cons_append, lv_head s _ hs]; rfl
  | cons x xs =>
    rcases List.eq_nil_or_concat b with rfl | ⟨ys, y, rfl⟩
    · rw [List.append_nil, lv_last s _ hs]; simp
    · rw [Bool.eq_iff_iff]
      have e1 : (x :: xs) ++ [s] ++ ys.concat y = x :: ((xs ++ [s] ++ ys) ++ [y]) := by simp
      have e2 : (x :: xs) ++ [48] = x :: (xs ++ [48]) := rfl
      have e3 : [48] ++ ys.concat y = 48 :: (ys ++ [y]) := by simp
      rw [e1, e2, e3]
      simp only [Bool.and_eq_true]
      rw [lv_form, lv_form, lv_form]
      constructor
      · rintro ⟨h1, h2, h3, h4⟩
        have h1' : xs.length + ys.length + 3 ≤ 63 := by simp at h1; omega
        refine ⟨⟨⟨⟨by simp, by simp⟩, by omega, h2, h48, fun c hc => h4 c (by simp [hc])⟩, by omega, h48, h3, fun c hc => h4 c (by simp [hc])⟩, ?_⟩
        simp; omega
      · rintro ⟨⟨⟨_, _, h2, _, h4⟩, _, _, h3, h5⟩, h1⟩
        refine ⟨?_, h2, h3, fun c hc => ?_⟩
        · simp at h1 ⊢; omega
        · simp at hc
          rcases hc with hc | rfl | hc
          · exact h4 c hc
          · exact ho
          · exact h5 c hc

/-- Letters joined by s. -/
theorem lv_join_letters (n m : Nat) (s : UInt8) (hs : aln s = false) (ho : okc s = true) :
    lv (List.replicate n 97 ++ [s] ++ List.replicate m 97) = (decide (n ≠ 0) && decide (m ≠ 0) && decide (n + m + 1 ≤ 63)) := by
  rw [lv_join _ _ s hs ho]
  have h97 : aln 97 = true := by decide
  have hok : okc 97 = true := by decide
  have h48 : aln 48 = true := by decide
  cases n with
  | zero => rfl
  | succ n =>
    cases m with
    | zero => simp
    | succ m =>
      rw [Bool.eq_iff_iff]
      have e2 : List.replicate (n + 1) (97 : UInt8) ++ [48] = 97 :: (List.replicate n 97 ++ [48]) := rfl
      have e3 : [48] ++ List.replicate (m + 1) (97 : UInt8) = 48 :: (List.replicate m 97 ++ [97]) := by
        rw [← List.replicate_succ']; rfl
      rw [e2, e3]
      simp only [Bool.and_eq_true]
      rw [lv_form, lv_form]
      constructor
      · rintro ⟨_, h1⟩
        refine ⟨by simp, ?_⟩
        simpa using h1
      · rintro ⟨_, h1⟩
        have h1' : n + 1 + (m + 1) + 1 ≤ 63 := by simpa using h1
        refine ⟨⟨⟨⟨by simp [List.replicate_succ], by simp [List.replicate_succ]⟩, by simp; omega, h97, h48, fun c hc => ?_⟩, by simp; omega, h48, h97, fun c hc => ?_⟩, by simp; omega⟩
        · rw [List.eq_of_mem_replicate hc]; exact hok
        · rw [List.eq_of_mem_replicate hc]; exact hok

end Go.Proofs.Qxb6615952aFmt.Lv
