/-
  The plain law: a row of another type changes nothing; a first row "Complete", "True" decides.
-/
import Derived.Test.Qxb6615952aIns2
namespace Go.Proofs.Qxb6615952a.Jf

theorem insAt_zero (x : ByteArray) (l : List ByteArray) : insAt 0 x l = x :: l := by simp [insAt]
theorem insAt_cons (p : Nat) (x y : ByteArray) (l : List ByteArray) : insAt (p + 1) x (y :: l) = y :: insAt p x l := by simp [insAt]
theorem insAt_nil (p : Nat) (x : ByteArray) : insAt p x [] = [x] := by simp [insAt]

theorem look_ins (typ x s r : ByteArray) (hx : x ≠ typ) : ∀ (p : Nat) (T S R : List ByteArray), S.length = T.length → R.length = T.length →
    look typ (rows (insAt p x T) (insAt p s S) (insAt p r R)) = look typ (rows T S R)
  | 0, T, S, R, _, _ => by simp [insAt_zero, rows, look, hx]
  | p + 1, [], S, R, h1, h2 => by
    obtain rfl := List.eq_nil_of_length_eq_zero (by simpa using h1)
    obtain rfl := List.eq_nil_of_length_eq_zero (by simpa using h2)
    simp [insAt_nil, rows, look, hx]
  | p + 1, t :: T, [], R, h1, _ => by simp at h1
  | p + 1, t :: T, _ :: _, [], _, h2 => by simp at h2
  | p + 1, t :: T, u :: S, v :: R, h1, h2 => by
    have ih := look_ins typ x s r hx p T S R (by simpa using h1) (by simpa using h2)
    simp only [insAt_cons, rows, look, ih]

theorem fin_ins (x s r : ByteArray) (h1 : x ≠ tComplete) (h2 : x ≠ tFailed) (p : Nat) (T S R : List ByteArray) (eS : S.length = T.length) (eR : R.length = T.length) :
    fin (rows (insAt p x T) (insAt p s S) (insAt p r R)) = fin (rows T S R) := by
  unfold fin cond4
  rw [look_ins tComplete x s r h1 p T S R eS eR, look_ins tFailed x s r h2 p T S R eS eR]

theorem fin_head (r : ByteArray) (T S R : List ByteArray) :
    fin (rows (insAt 0 tComplete T) (insAt 0 tTrue S) (insAt 0 r R)) = ((tComplete, tTrue, r), true) := by
  simp [fin, cond4, insAt_zero, rows, look]

end Go.Proofs.Qxb6615952a.Jf
