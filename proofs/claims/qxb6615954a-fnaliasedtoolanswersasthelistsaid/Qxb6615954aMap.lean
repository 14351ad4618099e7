/-
  THE MAPS THAT A RUN KEEPS, as data: the pairs laid one behind the other.
-/
import Derived.Test.Qxb6615954aStrs
import Derived.Test.Qxb6615954aLocks
import Derived.Conc.MuLone
import Derived.Maps.OwnSet
import Derived.Maps.StringElems
namespace Go.Proofs.Qxb6615954a.Al
open Go.RowKit Go.Maps
open Go.MuLone
open Go.WideMaps (keyOf_string_mk)

def key (s : ByteArray) : Lit := .string s.data.toList
def elt (s : ByteArray) : DataW Unit := .lit (.string s.data.toList)
/-- The i-th string. -/
def nth (l : List ByteArray) (i : Nat) : ByteArray := l.getD i ByteArray.empty

/-- The map with the first k pairs laid in. -/
def DA (a t : List ByteArray) : Nat → DataW Unit
  | 0 => .map []
  | k + 1 => (DA a t k).put (key (nth a k)) (elt (nth t k))

theorem key_inj {a b : ByteArray} (h : key a = key b) : a = b := by
  have h1 : a.data.toList = b.data.toList := by simpa [key] using h
  have h2 : a.data = b.data := Array.toList_inj.1 h1
  cases a; cases b; simp at h2; rw [h2]

theorem isMap_DA (a t : List ByteArray) : ∀ k, IsMap (DA a t k)
  | 0 => ⟨[], rfl⟩
  | k + 1 => (isMap_DA a t k).put _ _

theorem isKey (s : ByteArray) : WideAt.IsKeyLit (key s) := by simp [key, WideAt.IsKeyLit]

theorem has_DA (a t : List ByteArray) (q : ByteArray) : ∀ k, Maps.has (DA a t k) (key q) = true ↔ ∃ j, j < k ∧ nth a j = q
  | 0 => by simp [DA, Maps.has]
  | k + 1 => by
    by_cases h : key q = key (nth a k)
    · have e := key_inj h
      subst e
      rw [DA, has_put_same (isMap_DA a t k) (isKey _)]
      simp
      exact ⟨k, by omega, rfl⟩
    · rw [DA, has_put_other h, has_DA a t q k]
      constructor
      · rintro ⟨j, hj, e⟩; exact ⟨j, by omega, e⟩
      · rintro ⟨j, hj, e⟩
        refine ⟨j, ?_, e⟩
        by_cases hjk : j = k
        · subst hjk; rw [e] at h; exact absurd rfl h
        · omega

/-- No alias among the first k is laid twice. -/
def Apart (a : List ByteArray) (k : Nat) : Prop := ∀ i j, i < j → j < k → nth a i ≠ nth a j

theorem at_DA (a t : List ByteArray) (z : DataW Unit) : ∀ k, Apart a k → ∀ j, j < k → (DA a t k).atKey (key (nth a j)) z = elt (nth t j)
  | 0, _, j, hj => absurd hj (by omega)
  | k + 1, hA, j, hj => by
    by_cases hjk : j = k
    · subst hjk; rw [DA, atKey_put_same (isMap_DA a t j) (isKey _)]
    · have hne : key (nth a j) ≠ key (nth a k) := fun e => hA j k (by omega) (by omega) (key_inj e)
      rw [DA, atKey_put_other hne]
      exact at_DA a t z k (fun i j h1 h2 => hA i j h1 (by omega)) j (by omega)

theorem apart_succ (a t : List ByteArray) (k : Nat) (h : Apart a k) (hn : Maps.has (DA a t k) (key (nth a k)) = false) : Apart a (k + 1) := by
  intro i j hij hj
  by_cases hjk : j = k
  · subst hjk
    intro e
    have := (has_DA a t (nth a j) j).2 ⟨i, hij, e⟩
    rw [hn] at this; cases this
  · exact h i j hij (by omega)

theorem elt_inj {a b : ByteArray} (h : elt a = elt b) : a = b := by
  apply key_inj
  simpa [elt, key] using h

theorem law9 : Keyed Try.prog 9 := string_keyed Try.underlying9
theorem zero9 (w : World) : (zeroValue 9).run Try.prog w = .ok (.string ⟨#[]⟩) w := by kernel_rfl

/-- 'v, ok := m[k]': the run of the look-up, the value's shape written out. -/
theorem look_str {w : World} {b n : Nat} {D : DataW Unit} (h : w.ownsMap Try.prog 9 (plainElem Try.prog 9) b n D) (q : ByteArray) (hq : q.size ≤ maxLen) :
    ∃ c : ByteArray, (Instr.lookup 26 (.map (some b)) (.string q) true).run Try.prog w = .ok (.tuple #[.string c, .bool (Maps.has D (key q))]) w ∧ D.atKey (key q) (elt ⟨#[]⟩) = elt c := by
  obtain ⟨v, ps, hrun, hv⟩ := h.look_ok law9 Try.underlying26 (zero9 w) (zd := elt ⟨#[]⟩) (zp := []) (plainElem_string Try.underlying9 (by show (0 : Nat) ≤ maxLen; exact Nat.zero_le _)) (keyOf_string_mk Try.underlying9 hq)
  obtain ⟨c, rfl, hc, _⟩ := plainElem_string_inv Try.underlying9 hv
  exact ⟨c, hrun, congrArg Prod.fst hc⟩

/-- 'm[k] = v'. -/
theorem store_str {w : World} {b n : Nat} {D : DataW Unit} (h : w.ownsMap Try.prog 9 (plainElem Try.prog 9) b n D) (hn : n < maxLen) (q v : ByteArray) (hq : q.size ≤ maxLen) (hv : v.size ≤ maxLen) :
    ∃ w', (Instr.mapUpdate 26 (.map (some b)) (.string q) (.string v)).run Try.prog w = .ok () w' ∧ w'.ownsMap Try.prog 9 (plainElem Try.prog 9) b (n + 1) (D.put (key q) (elt v)) ∧ w.mapTurned w' b :=
  h.store law9 Try.underlying26 hn (keyOf_string_mk Try.underlying9 hq) (plainElem_string Try.underlying9 hv)

set_option maxHeartbeats 1600000 in
/-- ((*foundNames).aliasedTool): the lock at the struct's head is free; the field byAlias leads to the map. -/
theorem aliased_any (sb bm n : Nat) (D : DataW Unit) (q : ByteArray) (w : World) (c0 : w.cell? ⟨sb, 0, none⟩ = some (.int .i32 0)) (c5 : w.cell? ⟨sb, 5, none⟩ = some (.map (some bm))) (f0 : w.frozen? ⟨sb, 0, none⟩ = false)
    (hbs : bm ≠ sb) (hown : w.ownsMap Try.prog 9 (plainElem Try.prog 9) bm n D) (hq : q.size ≤ maxLen) :
    Calls Try.prog 16 #[.pointer (some ⟨sb, 0, none⟩), .string q] w fun e w' => ∃ c : ByteArray, e = .returned (.tuple #[.string c, .bool (Maps.has D (key q))]) ∧ D.atKey (key q) (elt ⟨#[]⟩) = elt c ∧
      w' = (w.setCell ⟨sb, 0, none⟩ (.int .i32 1)).setCell ⟨sb, 0, none⟩ (.int .i32 0) := by
  obtain ⟨c, hrun, hat⟩ := look_str (hown.setCell (a := ⟨sb, 0, none⟩) hbs (.int .i32 1)) q hq
  have Hat : Hid _ := hat
  clear hat hown
  go_enter_defers Try.func16, Try.ntmps16
  go_wp2_with (go_at_call 17; refine (lock_free Try.muLib ⟨sb, 0, none⟩ _ c0 f0).mono ?_; rintro e w' ⟨rfl, rfl⟩)
  -- THE DOOR: the results have been read; the deferred Unlock is still to be made
  refine leaves_cons (f := 18) (args := #[.pointer (some ⟨sb, 0, none⟩)]) (by simp) (by simp [go_sem]) ?_
  refine (unlock_deferred Try.muLib ⟨sb, 0, none⟩ .returning _ ?_ ?_).mono ?_
  · exact World.cell?_setCell_same w ⟨sb, 0, none⟩ (.int .i32 1) c0
  · simp [f0]
  rintro e u' w'' ⟨rfl, rfl, rfl⟩
  exact ⟨_, results_tmp2 rfl _ _ _, c, rfl, Hat.out, rfl⟩

end Go.Proofs.Qxb6615954a.Al
