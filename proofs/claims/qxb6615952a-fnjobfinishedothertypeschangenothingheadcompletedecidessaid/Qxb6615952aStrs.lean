/-
  SLICES OF STRINGS; their rows.
-/
import Derived.Test.Qxb6615952aFin
namespace Go.Proofs.Qxb6615952a.Jf
open Go.RowKit

/-- The slice's elements are the strings ss: it is empty, or its cells hold them. -/
def Strs (w : World) (a : Option Addr) (ss : List ByteArray) : Prop :=
  ss = [] ∨ ∃ b off : Nat, a = some ⟨b, off, none⟩ ∧ b < w.heap.size ∧ ∀ j, j < ss.length → w.cell? ⟨b, off + j, none⟩ = some (.string (ss.getD j ByteArray.empty))

theorem Strs.at {w : World} {a : Option Addr} {ss : List ByteArray} (h : Strs w a ss) {k : Nat} (hk : k < ss.length) :
    ∃ b off : Nat, a = some ⟨b, off, none⟩ ∧ b < w.heap.size ∧ w.cell? ⟨b, off + k, none⟩ = some (.string (ss.getD k ByteArray.empty)) := by
  rcases h with h | ⟨b, off, ha, hb, hc⟩
  · rw [h] at hk; simp at hk
  · exact ⟨b, off, ha, hb, hc k hk⟩

theorem Strs.below {w w' : World} {a : Option Addr} {ss : List ByteArray} (h : Strs w a ss) {B : Nat} (hb : Below B w w') (hB : w.heap.size ≤ B) : Strs w' a ss := by
  rcases h with h | ⟨b, off, ha, hlt, hc⟩
  · exact .inl h
  · exact .inr ⟨b, off, ha, Nat.lt_of_lt_of_le hlt hb.size, fun j hj => by rw [hb.cell (by show b < B; omega)]; exact hc j hj⟩

/-- It returns a bool. -/
def SomeBool (e : Ending) : Prop := ∃ r : Bool, e = .returned (.bool r)


/-- The i-th string. -/
def sth (l : List ByteArray) (i : Nat) : ByteArray := l.getD i ByteArray.empty

/-- The rows of three lists of one length. -/
def rows : List ByteArray → List ByteArray → List ByteArray → List Row
  | t :: T, s :: S, r :: R => (t, s, r) :: rows T S R
  | _, _, _ => []

theorem rows_len : ∀ (T S R : List ByteArray), S.length = T.length → R.length = T.length → (rows T S R).length = T.length
  | [], _, _, _, _ => rfl
  | _ :: _, [], _, h, _ => by simp at h
  | _ :: _, _ :: _, [], _, h => by simp at h
  | _ :: T, _ :: S, _ :: R, h1, h2 => by simp [rows, rows_len T S R (by simpa using h1) (by simpa using h2)]

theorem rows_nth : ∀ (T S R : List ByteArray) (k : Nat), S.length = T.length → R.length = T.length → k < T.length → nth (rows T S R) k = (sth T k, sth S k, sth R k)
  | [], _, _, _, _, _, h => by simp at h
  | _ :: _, [], _, _, h, _, _ => by simp at h
  | _ :: _, _ :: _, [], _, _, h, _ => by simp at h
  | t :: T, s :: S, r :: R, 0, _, _, _ => rfl
  | t :: T, s :: S, r :: R, k + 1, h1, h2, h3 => by
    have := rows_nth T S R k (by simpa using h1) (by simpa using h2) (by simpa using h3)
    simpa [rows, nth, sth] using this

end Go.Proofs.Qxb6615952a.Jf
