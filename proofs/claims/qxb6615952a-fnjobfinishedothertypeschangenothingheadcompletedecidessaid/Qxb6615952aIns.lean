/-
  A map literal of three keys, its stores in whatever order: the runs, and what the map then holds.
-/
import Derived.Test.Qxb6615952aCond
namespace Go.Proofs.Qxb6615952a.Jf
open Go.RowKit Go.Maps
open Go.WideMaps (keyOf_string_mk)

theorem push_set {α : Type} (A : Array α) (x y : α) : (A.push x).setIfInBounds A.size y = A.push y := by
  apply Array.toList_inj.1
  rw [Array.toList_setIfInBounds, Array.toList_push, Array.toList_push, List.set_append_right _ _ (by simp)]
  simp

/-- A store at a key that is not there yet, in the map that was laid last. -/
theorem ins_gen (X : World) (es : List MapEntry) (c : Nat) (k : ByteArray) (v : Value) (hk : k.size ≤ maxLen) (hs : ∀ e ∈ es, ∃ s : ByteArray, e.key = .string s ∧ s.size ≤ maxLen ∧ s ≠ k) :
    (Instr.mapUpdate 30 (.map (some X.heap.size)) (.string k) v).run Try.prog (X.alloc (.map es.toArray c)).drew = .ok () (X.alloc (.map (es.toArray.push { key := .string k, val := v, born := c }) (c + 1))).drew := by
  have hb : (X.alloc (.map es.toArray c)).drew.heap[X.heap.size]? = some (.map es.toArray c) := (MapKept.heap_alloc X _).1
  have hkey := keyOf_string_mk Try.underlying9 hk
  rcases law9.find (X.alloc (.map es.toArray c)).drew hkey es (fun e he => by
    obtain ⟨s, e1, e2, _⟩ := hs e he
    exact ⟨_, by rw [e1]; exact keyOf_string_mk Try.underlying9 e2⟩) with ⟨h1, _⟩ | ⟨j, e, _, h2, h3⟩
  · simp [Instr.mapUpdate, run_underlying Try.underlying30, MapKept.run_getObj_map hb, law9.check _ false hkey, h1, MapKept.run_setObj_map _ hb, Result.andThen]
    have e1 := push_set X.heap (Obj.map es.toArray c) (Obj.map (es ++ [({ key := .string k, val := v, born := c } : MapEntry)]).toArray (c + 1))
    show ({ heap := (X.heap.push _).setIfInBounds X.heap.size _, tape := X.tape, drawn := X.drawn + 1, os := X.os, output := X.output } : World) = _
    rw [e1]
    rfl
  · exfalso
    obtain ⟨s, e1, _, e3⟩ := hs e (List.mem_of_getElem? h2)
    rw [e1] at h3
    injection h3 with h3
    exact e3 h3

/-- What a store that is run leaves, of the map that is owned. -/
theorem own_after {W W' : World} {b n : Nat} {D : DataW Value} {k : ByteArray} {v : Value} (h : Own W b n D) (hn : n < maxLen) (hk : k.size ≤ maxLen) (hr : (Instr.mapUpdate 30 (.map (some b)) (.string k) v).run Try.prog W = .ok () W') : Own W' b (n + 1) (D.put (key k) (.held v)) := by
  obtain ⟨w', hr', ho, _⟩ := h.store law9 Try.underlying30 hn (keyOf_string_mk Try.underlying9 hk) (d := .held v) (ps := []) rfl
  rw [hr] at hr'
  injection hr' with _ e
  rw [e]; exact ho

theorem ins_e_T (X : World) (t : ByteArray) : (Instr.mapUpdate 30 (.map (some X.heap.size)) (.string ⟨#[116, 121, 112, 101]⟩) (.iface 9 (.string t))).run Try.prog (X.alloc (.map #[] 0)).drew = .ok () (X.alloc (.map #[{ key := .string ⟨#[116, 121, 112, 101]⟩, val := (.iface 9 (.string t)), born := 0 }] 1)).drew :=
  ins_gen X [] 0 kType (.iface 9 (.string t)) (by decide) (by simp)
theorem ins_e_S (X : World) (s : ByteArray) : (Instr.mapUpdate 30 (.map (some X.heap.size)) (.string ⟨#[115, 116, 97, 116, 117, 115]⟩) (.iface 9 (.string s))).run Try.prog (X.alloc (.map #[] 0)).drew = .ok () (X.alloc (.map #[{ key := .string ⟨#[115, 116, 97, 116, 117, 115]⟩, val := (.iface 9 (.string s)), born := 0 }] 1)).drew :=
  ins_gen X [] 0 kStatus (.iface 9 (.string s)) (by decide) (by simp)
theorem ins_e_R (X : World) (r : ByteArray) : (Instr.mapUpdate 30 (.map (some X.heap.size)) (.string ⟨#[114, 101, 97, 115, 111, 110]⟩) (.iface 9 (.string r))).run Try.prog (X.alloc (.map #[] 0)).drew = .ok () (X.alloc (.map #[{ key := .string ⟨#[114, 101, 97, 115, 111, 110]⟩, val := (.iface 9 (.string r)), born := 0 }] 1)).drew :=
  ins_gen X [] 0 kReason (.iface 9 (.string r)) (by decide) (by simp)
theorem ins_T_S (X : World) (t s : ByteArray) : (Instr.mapUpdate 30 (.map (some X.heap.size)) (.string ⟨#[115, 116, 97, 116, 117, 115]⟩) (.iface 9 (.string s))).run Try.prog (X.alloc (.map #[{ key := .string ⟨#[116, 121, 112, 101]⟩, val := (.iface 9 (.string t)), born := 0 }] 1)).drew = .ok () (X.alloc (.map #[{ key := .string ⟨#[116, 121, 112, 101]⟩, val := (.iface 9 (.string t)), born := 0 }, { key := .string ⟨#[115, 116, 97, 116, 117, 115]⟩, val := (.iface 9 (.string s)), born := 1 }] 2)).drew :=
  ins_gen X [{ key := .string kType, val := (.iface 9 (.string t)), born := 0 }] 1 kStatus (.iface 9 (.string s)) (by decide) (by
    intro e he
    simp at he
    subst he
    exact ⟨kType, rfl, by decide, by decide⟩
)
theorem ins_T_R (X : World) (t r : ByteArray) : (Instr.mapUpdate 30 (.map (some X.heap.size)) (.string ⟨#[114, 101, 97, 115, 111, 110]⟩) (.iface 9 (.string r))).run Try.prog (X.alloc (.map #[{ key := .string ⟨#[116, 121, 112, 101]⟩, val := (.iface 9 (.string t)), born := 0 }] 1)).drew = .ok () (X.alloc (.map #[{ key := .string ⟨#[116, 121, 112, 101]⟩, val := (.iface 9 (.string t)), born := 0 }, { key := .string ⟨#[114, 101, 97, 115, 111, 110]⟩, val := (.iface 9 (.string r)), born := 1 }] 2)).drew :=
  ins_gen X [{ key := .string kType, val := (.iface 9 (.string t)), born := 0 }] 1 kReason (.iface 9 (.string r)) (by decide) (by
    intro e he
    simp at he
    subst he
    exact ⟨kType, rfl, by decide, by decide⟩
)
theorem ins_S_T (X : World) (s t : ByteArray) : (Instr.mapUpdate 30 (.map (some X.heap.size)) (.string ⟨#[116, 121, 112, 101]⟩) (.iface 9 (.string t))).run Try.prog (X.alloc (.map #[{ key := .string ⟨#[115, 116, 97, 116, 117, 115]⟩, val := (.iface 9 (.string s)), born := 0 }] 1)).drew = .ok () (X.alloc (.map #[{ key := .string ⟨#[115, 116, 97, 116, 117, 115]⟩, val := (.iface 9 (.string s)), born := 0 }, { key := .string ⟨#[116, 121, 112, 101]⟩, val := (.iface 9 (.string t)), born := 1 }] 2)).drew :=
  ins_gen X [{ key := .string kStatus, val := (.iface 9 (.string s)), born := 0 }] 1 kType (.iface 9 (.string t)) (by decide) (by
    intro e he
    simp at he
    subst he
    exact ⟨kStatus, rfl, by decide, by decide⟩
)
theorem ins_S_R (X : World) (s r : ByteArray) : (Instr.mapUpdate 30 (.map (some X.heap.size)) (.string ⟨#[114, 101, 97, 115, 111, 110]⟩) (.iface 9 (.string r))).run Try.prog (X.alloc (.map #[{ key := .string ⟨#[115, 116, 97, 116, 117, 115]⟩, val := (.iface 9 (.string s)), born := 0 }] 1)).drew = .ok () (X.alloc (.map #[{ key := .string ⟨#[115, 116, 97, 116, 117, 115]⟩, val := (.iface 9 (.string s)), born := 0 }, { key := .string ⟨#[114, 101, 97, 115, 111, 110]⟩, val := (.iface 9 (.string r)), born := 1 }] 2)).drew :=
  ins_gen X [{ key := .string kStatus, val := (.iface 9 (.string s)), born := 0 }] 1 kReason (.iface 9 (.string r)) (by decide) (by
    intro e he
    simp at he
    subst he
    exact ⟨kStatus, rfl, by decide, by decide⟩
)
theorem ins_R_T (X : World) (r t : ByteArray) : (Instr.mapUpdate 30 (.map (some X.heap.size)) (.string ⟨#[116, 121, 112, 101]⟩) (.iface 9 (.string t))).run Try.prog (X.alloc (.map #[{ key := .string ⟨#[114, 101, 97, 115, 111, 110]⟩, val := (.iface 9 (.string r)), born := 0 }] 1)).drew = .ok () (X.alloc (.map #[{ key := .string ⟨#[114, 101, 97, 115, 111, 110]⟩, val := (.iface 9 (.string r)), born := 0 }, { key := .string ⟨#[116, 121, 112, 101]⟩, val := (.iface 9 (.string t)), born := 1 }] 2)).drew :=
  ins_gen X [{ key := .string kReason, val := (.iface 9 (.string r)), born := 0 }] 1 kType (.iface 9 (.string t)) (by decide) (by
    intro e he
    simp at he
    subst he
    exact ⟨kReason, rfl, by decide, by decide⟩
)
theorem ins_R_S (X : World) (r s : ByteArray) : (Instr.mapUpdate 30 (.map (some X.heap.size)) (.string ⟨#[115, 116, 97, 116, 117, 115]⟩) (.iface 9 (.string s))).run Try.prog (X.alloc (.map #[{ key := .string ⟨#[114, 101, 97, 115, 111, 110]⟩, val := (.iface 9 (.string r)), born := 0 }] 1)).drew = .ok () (X.alloc (.map #[{ key := .string ⟨#[114, 101, 97, 115, 111, 110]⟩, val := (.iface 9 (.string r)), born := 0 }, { key := .string ⟨#[115, 116, 97, 116, 117, 115]⟩, val := (.iface 9 (.string s)), born := 1 }] 2)).drew :=
  ins_gen X [{ key := .string kReason, val := (.iface 9 (.string r)), born := 0 }] 1 kStatus (.iface 9 (.string s)) (by decide) (by
    intro e he
    simp at he
    subst he
    exact ⟨kReason, rfl, by decide, by decide⟩
)
theorem ins_TS_R (X : World) (t s r : ByteArray) : (Instr.mapUpdate 30 (.map (some X.heap.size)) (.string ⟨#[114, 101, 97, 115, 111, 110]⟩) (.iface 9 (.string r))).run Try.prog (X.alloc (.map #[{ key := .string ⟨#[116, 121, 112, 101]⟩, val := (.iface 9 (.string t)), born := 0 }, { key := .string ⟨#[115, 116, 97, 116, 117, 115]⟩, val := (.iface 9 (.string s)), born := 1 }] 2)).drew = .ok () (X.alloc (.map #[{ key := .string ⟨#[116, 121, 112, 101]⟩, val := (.iface 9 (.string t)), born := 0 }, { key := .string ⟨#[115, 116, 97, 116, 117, 115]⟩, val := (.iface 9 (.string s)), born := 1 }, { key := .string ⟨#[114, 101, 97, 115, 111, 110]⟩, val := (.iface 9 (.string r)), born := 2 }] 3)).drew :=
  ins_gen X [{ key := .string kType, val := (.iface 9 (.string t)), born := 0 }, { key := .string kStatus, val := (.iface 9 (.string s)), born := 1 }] 2 kReason (.iface 9 (.string r)) (by decide) (by
    intro e he
    simp at he
    rcases he with rfl | rfl
    · exact ⟨kType, rfl, by decide, by decide⟩
    · exact ⟨kStatus, rfl, by decide, by decide⟩
)
theorem ins_TR_S (X : World) (t r s : ByteArray) : (Instr.mapUpdate 30 (.map (some X.heap.size)) (.string ⟨#[115, 116, 97, 116, 117, 115]⟩) (.iface 9 (.string s))).run Try.prog (X.alloc (.map #[{ key := .string ⟨#[116, 121, 112, 101]⟩, val := (.iface 9 (.string t)), born := 0 }, { key := .string ⟨#[114, 101, 97, 115, 111, 110]⟩, val := (.iface 9 (.string r)), born := 1 }] 2)).drew = .ok () (X.alloc (.map #[{ key := .string ⟨#[116, 121, 112, 101]⟩, val := (.iface 9 (.string t)), born := 0 }, { key := .string ⟨#[114, 101, 97, 115, 111, 110]⟩, val := (.iface 9 (.string r)), born := 1 }, { key := .string ⟨#[115, 116, 97, 116, 117, 115]⟩, val := (.iface 9 (.string s)), born := 2 }] 3)).drew :=
  ins_gen X [{ key := .string kType, val := (.iface 9 (.string t)), born := 0 }, { key := .string kReason, val := (.iface 9 (.string r)), born := 1 }] 2 kStatus (.iface 9 (.string s)) (by decide) (by
    intro e he
    simp at he
    rcases he with rfl | rfl
    · exact ⟨kType, rfl, by decide, by decide⟩
    · exact ⟨kReason, rfl, by decide, by decide⟩
)
theorem ins_ST_R (X : World) (s t r : ByteArray) : (Instr.mapUpdate 30 (.map (some X.heap.size)) (.string ⟨#[114, 101, 97, 115, 111, 110]⟩) (.iface 9 (.string r))).run Try.prog (X.alloc (.map #[{ key := .string ⟨#[115, 116, 97, 116, 117, 115]⟩, val := (.iface 9 (.string s)), born := 0 }, { key := .string ⟨#[116, 121, 112, 101]⟩, val := (.iface 9 (.string t)), born := 1 }] 2)).drew = .ok () (X.alloc (.map #[{ key := .string ⟨#[115, 116, 97, 116, 117, 115]⟩, val := (.iface 9 (.string s)), born := 0 }, { key := .string ⟨#[116, 121, 112, 101]⟩, val := (.iface 9 (.string t)), born := 1 }, { key := .string ⟨#[114, 101, 97, 115, 111, 110]⟩, val := (.iface 9 (.string r)), born := 2 }] 3)).drew :=
  ins_gen X [{ key := .string kStatus, val := (.iface 9 (.string s)), born := 0 }, { key := .string kType, val := (.iface 9 (.string t)), born := 1 }] 2 kReason (.iface 9 (.string r)) (by decide) (by
    intro e he
    simp at he
    rcases he with rfl | rfl
    · exact ⟨kStatus, rfl, by decide, by decide⟩
    · exact ⟨kType, rfl, by decide, by decide⟩
)
theorem ins_SR_T (X : World) (s r t : ByteArray) : (Instr.mapUpdate 30 (.map (some X.heap.size)) (.string ⟨#[116, 121, 112, 101]⟩) (.iface 9 (.string t))).run Try.prog (X.alloc (.map #[{ key := .string ⟨#[115, 116, 97, 116, 117, 115]⟩, val := (.iface 9 (.string s)), born := 0 }, { key := .string ⟨#[114, 101, 97, 115, 111, 110]⟩, val := (.iface 9 (.string r)), born := 1 }] 2)).drew = .ok () (X.alloc (.map #[{ key := .string ⟨#[115, 116, 97, 116, 117, 115]⟩, val := (.iface 9 (.string s)), born := 0 }, { key := .string ⟨#[114, 101, 97, 115, 111, 110]⟩, val := (.iface 9 (.string r)), born := 1 }, { key := .string ⟨#[116, 121, 112, 101]⟩, val := (.iface 9 (.string t)), born := 2 }] 3)).drew :=
  ins_gen X [{ key := .string kStatus, val := (.iface 9 (.string s)), born := 0 }, { key := .string kReason, val := (.iface 9 (.string r)), born := 1 }] 2 kType (.iface 9 (.string t)) (by decide) (by
    intro e he
    simp at he
    rcases he with rfl | rfl
    · exact ⟨kStatus, rfl, by decide, by decide⟩
    · exact ⟨kReason, rfl, by decide, by decide⟩
)
theorem ins_RT_S (X : World) (r t s : ByteArray) : (Instr.mapUpdate 30 (.map (some X.heap.size)) (.string ⟨#[115, 116, 97, 116, 117, 115]⟩) (.iface 9 (.string s))).run Try.prog (X.alloc (.map #[{ key := .string ⟨#[114, 101, 97, 115, 111, 110]⟩, val := (.iface 9 (.string r)), born := 0 }, { key := .string ⟨#[116, 121, 112, 101]⟩, val := (.iface 9 (.string t)), born := 1 }] 2)).drew = .ok () (X.alloc (.map #[{ key := .string ⟨#[114, 101, 97, 115, 111, 110]⟩, val := (.iface 9 (.string r)), born := 0 }, { key := .string ⟨#[116, 121, 112, 101]⟩, val := (.iface 9 (.string t)), born := 1 }, { key := .string ⟨#[115, 116, 97, 116, 117, 115]⟩, val := (.iface 9 (.string s)), born := 2 }] 3)).drew :=
  ins_gen X [{ key := .string kReason, val := (.iface 9 (.string r)), born := 0 }, { key := .string kType, val := (.iface 9 (.string t)), born := 1 }] 2 kStatus (.iface 9 (.string s)) (by decide) (by
    intro e he
    simp at he
    rcases he with rfl | rfl
    · exact ⟨kReason, rfl, by decide, by decide⟩
    · exact ⟨kType, rfl, by decide, by decide⟩
)
theorem ins_RS_T (X : World) (r s t : ByteArray) : (Instr.mapUpdate 30 (.map (some X.heap.size)) (.string ⟨#[116, 121, 112, 101]⟩) (.iface 9 (.string t))).run Try.prog (X.alloc (.map #[{ key := .string ⟨#[114, 101, 97, 115, 111, 110]⟩, val := (.iface 9 (.string r)), born := 0 }, { key := .string ⟨#[115, 116, 97, 116, 117, 115]⟩, val := (.iface 9 (.string s)), born := 1 }] 2)).drew = .ok () (X.alloc (.map #[{ key := .string ⟨#[114, 101, 97, 115, 111, 110]⟩, val := (.iface 9 (.string r)), born := 0 }, { key := .string ⟨#[115, 116, 97, 116, 117, 115]⟩, val := (.iface 9 (.string s)), born := 1 }, { key := .string ⟨#[116, 121, 112, 101]⟩, val := (.iface 9 (.string t)), born := 2 }] 3)).drew :=
  ins_gen X [{ key := .string kReason, val := (.iface 9 (.string r)), born := 0 }, { key := .string kStatus, val := (.iface 9 (.string s)), born := 1 }] 2 kType (.iface 9 (.string t)) (by decide) (by
    intro e he
    simp at he
    rcases he with rfl | rfl
    · exact ⟨kReason, rfl, by decide, by decide⟩
    · exact ⟨kStatus, rfl, by decide, by decide⟩
)
theorem own_TSR (X : World) (t s r : ByteArray) : Own (X.alloc (.map #[{ key := .string ⟨#[116, 121, 112, 101]⟩, val := (.iface 9 (.string t)), born := 0 }, { key := .string ⟨#[115, 116, 97, 116, 117, 115]⟩, val := (.iface 9 (.string s)), born := 1 }, { key := .string ⟨#[114, 101, 97, 115, 111, 110]⟩, val := (.iface 9 (.string r)), born := 2 }] 3)).drew X.heap.size 3 (Dc t s r) := by
  have h0 : Own (X.alloc (.map #[] 0)).drew X.heap.size 0 (.map []) := (World.ownsMap_made X _ _ _).drew
  have h1 := own_after (k := kType) h0 (by decide) (by decide) (ins_e_T X t)
  have h2 := own_after (k := kStatus) h1 (by decide) (by decide) (ins_T_S X t s)
  have h3 := own_after (k := kReason) h2 (by decide) (by decide) (ins_TS_R X t s r)
  exact h3
theorem own_TRS (X : World) (t s r : ByteArray) : Own (X.alloc (.map #[{ key := .string ⟨#[116, 121, 112, 101]⟩, val := (.iface 9 (.string t)), born := 0 }, { key := .string ⟨#[114, 101, 97, 115, 111, 110]⟩, val := (.iface 9 (.string r)), born := 1 }, { key := .string ⟨#[115, 116, 97, 116, 117, 115]⟩, val := (.iface 9 (.string s)), born := 2 }] 3)).drew X.heap.size 3 (Dc t s r) := by
  have h0 : Own (X.alloc (.map #[] 0)).drew X.heap.size 0 (.map []) := (World.ownsMap_made X _ _ _).drew
  have h1 := own_after (k := kType) h0 (by decide) (by decide) (ins_e_T X t)
  have h2 := own_after (k := kReason) h1 (by decide) (by decide) (ins_T_R X t r)
  have h3 := own_after (k := kStatus) h2 (by decide) (by decide) (ins_TR_S X t r s)
  exact h3
theorem own_STR (X : World) (t s r : ByteArray) : Own (X.alloc (.map #[{ key := .string ⟨#[115, 116, 97, 116, 117, 115]⟩, val := (.iface 9 (.string s)), born := 0 }, { key := .string ⟨#[116, 121, 112, 101]⟩, val := (.iface 9 (.string t)), born := 1 }, { key := .string ⟨#[114, 101, 97, 115, 111, 110]⟩, val := (.iface 9 (.string r)), born := 2 }] 3)).drew X.heap.size 3 (Dc t s r) := by
  have h0 : Own (X.alloc (.map #[] 0)).drew X.heap.size 0 (.map []) := (World.ownsMap_made X _ _ _).drew
  have h1 := own_after (k := kStatus) h0 (by decide) (by decide) (ins_e_S X s)
  have h2 := own_after (k := kType) h1 (by decide) (by decide) (ins_S_T X s t)
  have h3 := own_after (k := kReason) h2 (by decide) (by decide) (ins_ST_R X s t r)
  exact h3
theorem own_SRT (X : World) (t s r : ByteArray) : Own (X.alloc (.map #[{ key := .string ⟨#[115, 116, 97, 116, 117, 115]⟩, val := (.iface 9 (.string s)), born := 0 }, { key := .string ⟨#[114, 101, 97, 115, 111, 110]⟩, val := (.iface 9 (.string r)), born := 1 }, { key := .string ⟨#[116, 121, 112, 101]⟩, val := (.iface 9 (.string t)), born := 2 }] 3)).drew X.heap.size 3 (Dc t s r) := by
  have h0 : Own (X.alloc (.map #[] 0)).drew X.heap.size 0 (.map []) := (World.ownsMap_made X _ _ _).drew
  have h1 := own_after (k := kStatus) h0 (by decide) (by decide) (ins_e_S X s)
  have h2 := own_after (k := kReason) h1 (by decide) (by decide) (ins_S_R X s r)
  have h3 := own_after (k := kType) h2 (by decide) (by decide) (ins_SR_T X s r t)
  exact h3
theorem own_RTS (X : World) (t s r : ByteArray) : Own (X.alloc (.map #[{ key := .string ⟨#[114, 101, 97, 115, 111, 110]⟩, val := (.iface 9 (.string r)), born := 0 }, { key := .string ⟨#[116, 121, 112, 101]⟩, val := (.iface 9 (.string t)), born := 1 }, { key := .string ⟨#[115, 116, 97, 116, 117, 115]⟩, val := (.iface 9 (.string s)), born := 2 }] 3)).drew X.heap.size 3 (Dc t s r) := by
  have h0 : Own (X.alloc (.map #[] 0)).drew X.heap.size 0 (.map []) := (World.ownsMap_made X _ _ _).drew
  have h1 := own_after (k := kReason) h0 (by decide) (by decide) (ins_e_R X r)
  have h2 := own_after (k := kType) h1 (by decide) (by decide) (ins_R_T X r t)
  have h3 := own_after (k := kStatus) h2 (by decide) (by decide) (ins_RT_S X r t s)
  exact h3
theorem own_RST (X : World) (t s r : ByteArray) : Own (X.alloc (.map #[{ key := .string ⟨#[114, 101, 97, 115, 111, 110]⟩, val := (.iface 9 (.string r)), born := 0 }, { key := .string ⟨#[115, 116, 97, 116, 117, 115]⟩, val := (.iface 9 (.string s)), born := 1 }, { key := .string ⟨#[116, 121, 112, 101]⟩, val := (.iface 9 (.string t)), born := 2 }] 3)).drew X.heap.size 3 (Dc t s r) := by
  have h0 : Own (X.alloc (.map #[] 0)).drew X.heap.size 0 (.map []) := (World.ownsMap_made X _ _ _).drew
  have h1 := own_after (k := kReason) h0 (by decide) (by decide) (ins_e_R X r)
  have h2 := own_after (k := kStatus) h1 (by decide) (by decide) (ins_R_S X r s)
  have h3 := own_after (k := kType) h2 (by decide) (by decide) (ins_RS_T X r s t)
  exact h3

end Go.Proofs.Qxb6615952a.Jf
