/-
  rootB1Build by its contract; ZZnewFoundNames, ZZaliasedTool.
-/
import Derived.Test.Qxb6615954aMap
import Derived.RegionTactic
import Derived.BigRegion
namespace Go.Proofs.Qxb6615954a.Al
open Go.RowKit Go.Maps
open Go.MuLone

theorem make_hint (n : Int) (w : World) : (Instr.makeMap 26 (some (.int .i64 n))).run Try.prog w = .ok (.map (some w.heap.size)) (w.alloc (.map #[] 0)) := by
  simp [Instr.makeMap, run_underlying Try.underlying26, asInt, asIntOf, Result.andThen]

theorem hide {p : Prop} (h : p) : Hid p := h

abbrev Own (w : World) (b n : Nat) (D : DataW Unit) : Prop := w.ownsMap Try.prog 9 (plainElem Try.prog 9) b n D

/-- What Build leaves: nil maps and false; or the two maps, the second with all n pairs, no alias twice. -/
def BuildPost (w : World) (s0 s1 : List ByteArray) (n : Nat) (e : Ending) (w' : World) : Prop :=
  Below w.heap.size w w' ∧ (e = .returned (.tuple #[.map none, .map none, .bool false]) ∨
    (e = .returned (.tuple #[.map (some w.heap.size), .map (some (w.heap.size + 1)), .bool true]) ∧ Own w' (w.heap.size + 1) n (DA s0 s1 n) ∧ Apart s0 n))

/-- One round's two stores. -/
theorem round_stores {wr : World} {B k : Nat} {s0 s1 : List ByteArray} {w : World} (hB : w.heap.size = B) (o1 : Own wr B k (DA s1 s0 k)) (o2 : Own wr (B + 1) k (DA s0 s1 k)) (hbel : Below B w wr) (hk : k < maxLen)
    (z0 : (nth s0 k).size ≤ maxLen) (z1 : (nth s1 k).size ≤ maxLen) :
    ∃ w1 w2, (Instr.mapUpdate 26 (.map (some (B + 1))) (.string (nth s0 k)) (.string (nth s1 k))).run Try.prog wr.drew = .ok () w1 ∧
      (Instr.mapUpdate 26 (.map (some B)) (.string (nth s1 k)) (.string (nth s0 k))).run Try.prog w1.drew = .ok () w2 ∧
      (∀ p : Addr, p.block < B → w1.cell? p = wr.cell? p) ∧
      Own w2 B (k + 1) (DA s1 s0 (k + 1)) ∧ Own w2 (B + 1) (k + 1) (DA s0 s1 (k + 1)) ∧ Below B w w2 := by
  obtain ⟨w1, r1, ow1, t1⟩ := store_str o2.drew hk _ _ z0 z1
  have o1' : Own w1 B k (DA s1 s0 k) := o1.drew.kept t1.grown (by simp)
  obtain ⟨w2, r2, ow2, t2⟩ := store_str o1'.drew hk _ _ z1 z0
  have hb1 : Below B w w1 := hbel.drew.grown t1.grown (by have := hbel.size; show B ≤ wr.heap.size; omega) (fun j hj => by cases hj; omega)
  refine ⟨w1, w2, r1, r2, fun p hp => ?_, ow2, ?_, ?_⟩
  · exact World.cell?_of_block (t1.grown.block p.block (by have := hbel.size; show p.block < wr.heap.size; omega) (by simp; omega))
  · exact ow1.drew.kept t2.grown (by simp)
  · exact hb1.drew.grown t2.grown (by have := hb1.size; show B ≤ w1.heap.size; omega) (fun j hj => by cases hj; omega)

set_option maxHeartbeats 3200000 in
theorem build_any (a0 a1 : Option Addr) (s0 s1 : List ByteArray) (c0 c1 : Nat) (n : Nat) (w : World) (h0 : Strs w a0 s0) (h1 : Strs w a1 s1) (n0 : n ≤ s0.length) (n1 : n ≤ s1.length) (hn : n ≤ 4096)
    (z0 : ∀ i, (nth s0 i).size ≤ maxLen) (z1 : ∀ i, (nth s1 i).size ≤ maxLen) :
    Calls Try.prog 10 #[.slice a0 s0.length c0, .slice a1 s1.length c1, .int .i64 n] w (BuildPost w s0 s1 n) := by
  have hm := make_hint (n : Int)
  go_enter Try.func10, Try.ntmps10
  go_wp2
  clear hm
  go_loopw [11] (fun i wr => ∃ k : Nat, k ≤ n ∧ i = .int .i64 k ∧ Own wr w.heap.size k (DA s1 s0 k) ∧ Own wr (w.heap.size + 1) k (DA s0 s1 k) ∧ Apart s0 k ∧ Below w.heap.size w wr) (fun i _ => n - (intOf i).toNat)
  case atStart =>
    refine ⟨0, Nat.zero_le _, rfl, (World.ownsMap_made w _ _ _).alloc _, ?_, fun i j _ hj => absurd hj (by omega), ((Below.refl _ _).alloc (Nat.le_refl _) _).alloc (by simp) _⟩
    have := World.ownsMap_made (H := Unit) (w.alloc (.map #[] 0)) Try.prog 9 (plainElem Try.prog 9)
    rw [show (w.alloc (.map #[] 0)).heap.size = w.heap.size + 1 from by simp] at this
    exact this
  case round =>
    obtain ⟨k, hk, rfl, o1, o2, hap, hbel⟩ := hrel
    by_cases hlt : k < n
    · obtain ⟨b0, f0, rfl, hb0, hc0⟩ := h0.at (k := k) (by omega)
      obtain ⟨b1, f1, rfl, hb1, hc1⟩ := h1.at (k := k) (by omega)
      rw [← hbel.cell (p := ⟨b0, f0 + k, none⟩) hb0] at hc0
      rw [← hbel.cell (p := ⟨b1, f1 + k, none⟩) hb1] at hc1
      obtain ⟨w1, w2, r1, r2, hcl, ow1, ow2, hbel2⟩ := round_stores rfl o1 o2 hbel (by unfold maxLen; omega) (z0 k) (z1 k)
      have hd0 := (hcl ⟨b0, f0 + k, none⟩ hb0).trans hc0
      have hd1 := (hcl ⟨b1, f1 + k, none⟩ hb1).trans hc1
      obtain ⟨x1, l1, _⟩ := look_str o2 (nth s0 k) (z0 k)
      obtain ⟨x2, l2, _⟩ := look_str o1 (nth s1 k) (z1 k)
      have HA := hide (apart_succ s0 s1 k hap)
      have Ho1 := hide ow1
      have Ho2 := hide ow2
      have Hb := hide hbel
      have Hb2 := hide hbel2
      change wr.cell? ⟨b0, f0 + k, none⟩ = some (.string (nth s0 k)) at hc0
      change wr.cell? ⟨b1, f1 + k, none⟩ = some (.string (nth s1 k)) at hc1
      change w1.cell? ⟨b0, f0 + k, none⟩ = some (.string (nth s0 k)) at hd0
      change w1.cell? ⟨b1, f1 + k, none⟩ = some (.string (nth s1 k)) at hd1
      generalize hh1 : Maps.has (DA s0 s1 k) (key (nth s0 k)) = q1 at l1 HA
      generalize hh2 : Maps.has (DA s1 s0 k) (key (nth s1 k)) = q2 at l2
      generalize nth s0 k = ak at *
      generalize nth s1 k = tk at *
      clear hh1 hh2 o1 o2 ow1 ow2 hbel2 hcl hap hbel z0 z1
      cases q1
      · cases q2
        · have HA' := hide (HA.out rfl)
          clear HA
          have n0' : (k : Int) < (s0.length : Int) := by omega
          have n1' : (k : Int) < (s1.length : Int) := by omega
          go_wp2
          go_region
          go_wp2
          go_region
          go_wp2
          go_roundw
          case rel => exact ⟨k + 1, by omega, by go_num, Ho1.out, Ho2.out, HA'.out, Hb2.out⟩
          case measure => simp [intOf]; omega
        · go_wp2
          refine bodyPost_ret (v := .tuple #[.map none, .map none, .bool false]) (by simp [results, Try.results10, go_sem]) rfl ⟨Hb.out, .inl rfl⟩
      · go_wp2
        refine bodyPost_ret (v := .tuple #[.map none, .map none, .bool false]) (by simp [results, Try.results10, go_sem]) rfl ⟨Hb.out, .inl rfl⟩
    · have hkn : k = n := by omega
      subst hkn
      have Ho2 := hide o2
      have Hap := hide hap
      have Hb := hide hbel
      clear o1 o2 hap hbel z0 z1
      go_wp2
      refine bodyPost_ret (v := .tuple #[.map (some w.heap.size), .map (some (w.heap.size + 1)), .bool true]) (by simp [results, Try.results10, go_sem]) rfl ⟨Hb.out, .inr ⟨rfl, Ho2.out, Hap.out⟩⟩

/-- The struct's nine cells. -/
def foundCells (m1 m2 : Option Nat) : Array Value := #[.int .i32 0, .int .u32 0, .map none, .slice none 0 0, .map m1, .map m2, .int .i32 0, .int .u32 0, .map none]

set_option maxHeartbeats 800000 in
theorem new_any (m1 m2 : Option Nat) (w : World) :
    Calls Try.prog 11 #[.map m1, .map m2] w fun e w' => e = .returned (.pointer (some ⟨w.heap.size, 0, none⟩)) ∧ w' = w.alloc (.cells (foundCells m1 m2) 48) := by
  go_enter Try.func11, Try.ntmps11
  go_wp2
  go_ret
  exact ⟨rfl, rfl⟩

set_option maxHeartbeats 800000 in
theorem zzaliased_any (sb bm n : Nat) (D : DataW Unit) (q : ByteArray) (w : World) (c0 : w.cell? ⟨sb, 0, none⟩ = some (.int .i32 0)) (c5 : w.cell? ⟨sb, 5, none⟩ = some (.map (some bm))) (f0 : w.frozen? ⟨sb, 0, none⟩ = false)
    (hbs : bm ≠ sb) (hown : Own w bm n D) (hq : q.size ≤ maxLen) :
    Calls Try.prog 12 #[.pointer (some ⟨sb, 0, none⟩), .string q] w fun e w' => ∃ c : ByteArray, e = .returned (.tuple #[.string c, .bool (Maps.has D (key q))]) ∧ Hid (D.atKey (key q) (elt ⟨#[]⟩) = elt c) ∧
      w' = (w.setCell ⟨sb, 0, none⟩ (.int .i32 1)).setCell ⟨sb, 0, none⟩ (.int .i32 0) := by
  have Hown := hide hown
  clear hown
  go_enter Try.func12, Try.ntmps12
  go_wp2_with fail
  refine (aliased_any sb bm n D q _ c0 c5 f0 hbs Hown.out hq).mono ?_
  rintro e w' ⟨c, rfl, hat, rfl⟩
  have Hat := hide hat
  clear hat
  go_wp2
  go_ret2
  exact ⟨c, rfl, Hat, rfl⟩

end Go.Proofs.Qxb6615954a.Al
