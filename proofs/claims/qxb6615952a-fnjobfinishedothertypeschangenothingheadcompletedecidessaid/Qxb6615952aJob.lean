/-
  ZZJob by its contract.
-/
import Derived.Test.Qxb6615952aStrs
import Derived.Test.Qxb6615952aIns
import Derived.Deep.RegionHeld3
import Derived.Deep.AppendLies
namespace Go.Proofs.Qxb6615952a.Jf
open Go.RowKit Go.Maps
open Go.WideMaps (keyOf_string_mk)
attribute [local go_sem] ins_e_T ins_e_S ins_e_R ins_T_S ins_T_R ins_S_T ins_S_R ins_R_T ins_R_S ins_TS_R ins_TR_S ins_ST_R ins_SR_T ins_RT_S ins_RS_T

theorem Try.info20 : (Try.prog.info? 20).map (fun i => (i.zero, i.size, i.bytes)) = some (some .nilIface, 1, 16) := by kernel_rfl

/-- The list's cells. -/
def ifs (m : Nat → Nat) (k : Nat) : List Value := (List.range k).map fun j => .iface 30 (.map (some (m j)))

/-- What the loop of ZZJob holds after k rounds. -/
structure Laid (w : World) (T S R : List ByteArray) (k g cap : Nat) (m : Nat → Nat) (wr : World) : Prop where
  row : wr.ownsRow w.heap.size 20 1 (.slice (some ⟨g, 0, none⟩) k cap) k (ifs m k)
  maps : ∀ j, j < k → Own wr (m j) 3 (Dc (sth T j) (sth S j) (sth R j)) ∧ m j ≠ g
  bel : Below w.heap.size w wr

theorem news2 (X : World) (M : Obj) (v : Value) : ∀ j u, [v][j]? = some u → ((X.alloc M).alloc (.cells #[v] 20)).drew.cell? ((⟨X.heap.size + 1, 0, none⟩ : Addr).add j) = some u := by
  have h : ((X.alloc M).alloc (.cells #[v] 20)).drew.heap[X.heap.size + 1]? = some (.cells #[v] 20) := by
    have := (MapKept.heap_alloc (X.alloc M) (.cells #[v] 20)).1
    rw [show (X.alloc M).heap.size = X.heap.size + 1 from by simp] at this
    exact this
  exact World.news_of_block (cs := #[v]) (t := 20) (fr := (0, 0)) h

theorem laid_start {w w1 : World} {T S R : List ByteArray} {n : Nat} (hown : w1.ownsRow w.heap.size 20 1 (.slice (some ⟨w.heap.size, 0, none⟩) 0 n) 0 []) (hgr : w.grownBy w1 none) : Laid w T S R 0 w.heap.size n (fun _ => 0) w1 :=
  ⟨hown, fun j hj => absurd hj (Nat.not_lt_zero j), (Below.refl _ _).grown hgr (Nat.le_refl _) (fun k hk => by cases hk)⟩

theorem ifs_succ (m : Nat → Nat) (k x : Nat) : ifs m k ++ [.iface 30 (.map (some x))] = ifs (fun j => if j = k then x else m j) (k + 1) := by
  simp [ifs, List.range_succ]
  intro j hj e
  omega

theorem row_block {w wr : World} {T S R : List ByteArray} {k g cap : Nat} {m : Nat → Nat} (h : Laid w T S R k g cap m wr) : w.heap.size ≤ g ∧ g < wr.heap.size := h.row.lt g rfl

/-- One round: the new map, whatever the order of its stores; the list grown by one. -/
theorem laid_next {w wr W w2 : World} {T S R : List ByteArray} {k g cap gg cap1 : Nat} {m : Nat → Nat} (h : Laid w T S R k g cap m wr)
    (hext : Below wr.heap.size wr W) (hO : Own W wr.heap.size 3 (Dc (sth T k) (sth S k) (sth R k))) (hH : wr.heap.size + 2 = W.heap.size)
    (hown1 : w2.ownsRow w.heap.size 20 1 (.slice (some ⟨gg, 0, none⟩) (k + 1) cap1) (k + 1) (ifs m k ++ [.iface 30 (.map (some wr.heap.size))])) (hgrow : W.grownBy w2 (some g)) (hat : some g = some gg ∨ gg = wr.heap.size + 2) :
    Laid w T S R (k + 1) gg cap1 (fun j => if j = k then wr.heap.size else m j) w2 := by
  obtain ⟨hg1, hg2⟩ := row_block h
  rw [ifs_succ] at hown1
  refine ⟨hown1, fun j hj => ?_, ?_⟩
  · by_cases hjk : j = k
    · subst hjk
      simp only [if_true]
      refine ⟨hO.kept hgrow (by simp; omega), ?_⟩
      rcases hat with e | e
      · have := Option.some.inj e; omega
      · omega
    · rw [if_neg hjk]
      obtain ⟨ho, hne⟩ := h.maps j (by omega)
      have hlt := ho.lt
      refine ⟨(own_below ho hext hlt).kept hgrow (by simpa using hne), ?_⟩
      rcases hat with e | e
      · have := Option.some.inj e; omega
      · omega
  · exact (h.bel.trans (hext.mono h.bel.size)).grown hgrow (by have := h.bel.size; omega) (fun j hj => by cases hj; exact hg1)

/-- The object and its status, laid behind the list. -/
theorem job_shut {w wr : World} {T S R : List ByteArray} {g cap : Nat} {m : Nat → Nat} (h : Laid w T S R T.length g cap m wr) (eS : S.length = T.length) (eR : R.length = T.length) (hn : T.length ≤ 65537) :
    ∃ w1 w2 w3, (Instr.mapUpdate 31 (.map (some wr.heap.size)) (.string ⟨#[107, 105, 110, 100]⟩) (.iface 9 (.string ⟨#[74, 111, 98]⟩))).run Try.prog (wr.alloc (.map #[] 0)) = .ok () w1 ∧
      (Instr.mapUpdate 30 (.map (some w1.heap.size)) (.string ⟨#[99, 111, 110, 100, 105, 116, 105, 111, 110, 115]⟩) (.iface 39 (.slice (some ⟨g, 0, none⟩) T.length cap))).run Try.prog (w1.alloc (.map #[] 0)) = .ok () w2 ∧
      (Instr.mapUpdate 31 (.map (some wr.heap.size)) (.string ⟨#[115, 116, 97, 116, 117, 115]⟩) (.iface 30 (.map (some w1.heap.size)))).run Try.prog w2 = .ok () w3 ∧
      JobAt w3 wr.heap.size w1.heap.size g cap m (rows T S R) ∧ Below w.heap.size w w3 := by
  have k1 := keyOf_string_mk (P := Try.prog) (s := kKind) Try.underlying9 (by decide)
  have k2 := keyOf_string_mk (P := Try.prog) (s := kConditions) Try.underlying9 (by decide)
  have k3 := keyOf_string_mk (P := Try.prog) (s := kStatus) Try.underlying9 (by decide)
  have u0 : Own (wr.alloc (.map #[] 0)) wr.heap.size 0 (.map []) := World.ownsMap_made wr _ _ _
  obtain ⟨w1, r1, o1, t1⟩ := u0.store law9 Try.underlying31 (by decide) k1 (val := .iface 9 (.string ⟨#[74, 111, 98]⟩)) (d := .held (.iface 9 (.string ⟨#[74, 111, 98]⟩))) (ps := []) rfl
  have s1 : wr.heap.size < w1.heap.size := by have := t1.grown.size; simp at this; omega
  have u1 : Own (w1.alloc (.map #[] 0)) w1.heap.size 0 (.map []) := World.ownsMap_made w1 _ _ _
  obtain ⟨w2, r2, o2, t2⟩ := u1.store law9 Try.underlying30 (by decide) k2 (val := .iface 39 (.slice (some ⟨g, 0, none⟩) T.length cap)) (d := .held (.iface 39 (.slice (some ⟨g, 0, none⟩) T.length cap))) (ps := []) rfl
  have o1' : Own w2 wr.heap.size 1 _ := (o1.alloc (.map #[] 0)).kept t2.grown (by simp; omega)
  obtain ⟨w3, r3, o3, t3⟩ := o1'.store law9 Try.underlying31 (by decide) k3 (val := .iface 30 (.map (some w1.heap.size))) (d := .held (.iface 30 (.map (some w1.heap.size)))) (ps := []) rfl
  have b1 : Below wr.heap.size wr w1 := ((Below.refl _ _).alloc (Nat.le_refl _) _).grown t1.grown (by simp) (fun j hj => by cases hj; exact Nat.le_refl _)
  have b2 : Below wr.heap.size wr w2 := (b1.alloc (by omega) _).grown t2.grown (by simp; omega) (fun j hj => by cases hj; omega)
  have b3 : Below wr.heap.size wr w3 := b2.grown t3.grown b2.size (fun j hj => by cases hj; exact Nat.le_refl _)
  have hlen := rows_len T S R eS eR
  obtain ⟨hg1, hg2⟩ := row_block h
  refine ⟨w1, w2, w3, r1, r2, r3, ⟨⟨o3, ?_⟩, fun k hk => ?_, fun k hk => ?_, by rw [hlen]; exact hn⟩, h.bel.trans (b3.mono h.bel.size)⟩
  · rw [hlen]
    exact o2.kept t3.grown (by simp; omega)
  · rw [hlen] at hk
    rw [b3.cell (p := ⟨g, k, none⟩) hg2, h.row.cellAt k (by omega)]
    simp [ifs, hk]
  · rw [hlen] at hk
    rw [rows_nth T S R k eS eR hk]
    exact own_below (h.maps k hk).1 b3 (h.maps k hk).1.lt

set_option maxRecDepth 100000 in
set_option maxHeartbeats 3200000 in
theorem job_any (a0 a1 a2 : Option Addr) (T S R : List ByteArray) (c0 c1 c2 : Nat) (w : World) (h0 : Strs w a0 T) (h1 : Strs w a1 S) (h2 : Strs w a2 R) (eS : S.length = T.length) (eR : R.length = T.length) (hn : T.length ≤ 65537) :
    Calls Try.prog 10 #[.slice a0 T.length c0, .slice a1 S.length c1, .slice a2 R.length c2] w fun e w' => ∃ o st lb cap m, e = .returned (.map (some o)) ∧ JobAt w' o st lb cap m (rows T S R) ∧ Below w.heap.size w w' := by
  obtain ⟨i0, hi, hz0, hz1, hz2⟩ := info_parts Try.info20
  have hmm := @run_makeMap Try.prog
  have ES := hide eS
  have ER := hide eR
  rw [eS, eR]
  clear eS eR
  go_enter Try.func10, Try.ntmps10
  go_wp2_with (at_make; refine wpList_make_own _ rfl _ _ 39 rfl w.heap.size 20 i0 .nilIface 1 Try.underlying39 hi hz0 hz1 .i64 .i64 _ T.length rfl rfl rfl ?c1 ?c2 ?c3 ?_)
  case c1 => rw [hz2]; omega
  case c2 => unfold maxLen; omega
  case c3 => exact Nat.le_refl _
  intro w1 hown hgr
  have HL := hide (laid_start (T := T) (S := S) (R := R) hown hgr)
  clear hown hgr
  go_wp2
  go_loopw [7, 14] (fun lv i wr => ∃ k : Nat, k ≤ T.length ∧ i = .int .i64 k ∧ ∃ g cap m, lv = .slice (some ⟨g, 0, none⟩) k cap ∧ Hid (Laid w T S R k g cap m wr)) (fun _ i _ => T.length - (intOf i).toNat)
  case atStart => exact ⟨0, Nat.zero_le _, rfl, _, _, _, rfl, HL⟩
  case round =>
    clear HL
    obtain ⟨k, hk, rfl, g, cap, m, rfl, hL⟩ := hrel
    by_cases hlt : k < T.length
    · obtain ⟨b0, f0, rfl, hb0, hc0⟩ := h0.at (k := k) hlt
      obtain ⟨b1, f1, rfl, hb1, hc1⟩ := h1.at (k := k) (by rw [ES.out]; exact hlt)
      obtain ⟨b2, f2, rfl, hb2, hc2⟩ := h2.at (k := k) (by rw [ER.out]; exact hlt)
      change w.cell? ⟨b0, f0 + k, none⟩ = some (.string (sth T k)) at hc0
      change w.cell? ⟨b1, f1 + k, none⟩ = some (.string (sth S k)) at hc1
      change w.cell? ⟨b2, f2 + k, none⟩ = some (.string (sth R k)) at hc2
      rw [← hL.out.bel.cell (p := ⟨b0, f0 + k, none⟩) hb0] at hc0
      rw [← hL.out.bel.cell (p := ⟨b1, f1 + k, none⟩) hb1] at hc1
      rw [← hL.out.bel.cell (p := ⟨b2, f2 + k, none⟩) hb2] at hc2
      obtain ⟨hg1, hg2⟩ := row_block hL.out
      have hbs := hL.out.bel.size
      have hl0 : b0 < wr.heap.size := by omega
      have hl1 : b1 < wr.heap.size := by omega
      have hl2 : b2 < wr.heap.size := by omega
      have e0 : ¬ b0 = g := by omega
      have e1 : ¬ b1 = g := by omega
      have e2 : ¬ b2 = g := by omega
      have Hrow := hide hL.out.row
      have k0' : (0 : Int) ≤ (k : Int) := Int.natCast_nonneg _
      have k1' : (k : Int) < (T.length : Int) := by omega
      have HN := hide (fun W w2 gg cap1 a b c d e f => laid_next (W := W) (w2 := w2) (gg := gg) (cap1 := cap1) hL.out a b c d e f)
      generalize sth T k = tk at *
      generalize sth S k = sk at *
      generalize sth R k = rk at *
      clear h0 h1 h2
      go_wp2
      go_region_held3 (fun w' => w'.cell? ⟨b0, f0 + k, none⟩ = some (.string tk) ∧ w'.cell? ⟨b1, f1 + k, none⟩ = some (.string sk) ∧ w'.cell? ⟨b2, f2 + k, none⟩ = some (.string rk))
        (first | go_keep | (go_split_ands; refine ⟨?_, ?_, ?_⟩ <;> (rw [hgrow.cell_far _ (by simp; omega) (by simp [Value.ownBlock]; omega)]; go_keep)))
        ((refine step_append_lies _ (by rfl) _ _ _ (by rfl) w.heap.size 20 i0 _ 1 16 Try.underlying39 hi hz0 hz1 hz2 rfl (by omega) (.slice (some ⟨g, 0, none⟩) k cap) k (ifs m k) (by rfl) (((Hrow.out.alloc _).alloc _).drew) ⟨wr.heap.size + 1, 0, none⟩ 1 1 [.iface 30 (.map (some wr.heap.size))] (by rfl) (by rfl) (news2 _ _ _) (by simp [Value.oneCell']) (by omega) (by unfold maxLen; omega) (by omega) (by simp; omega) (wr.heap.size + 2) (by simp) ?_; intro gg cap1 w2 hown1 hgrow hat hltg))
      all_goals
        have HL2 := hide (HN.out _ _ _ _ ((((Below.refl _ _).alloc (Nat.le_refl _) _).alloc (by simp) _).drew) (by first | exact (own_TSR wr tk sk rk).alloc _ | exact (own_TRS wr tk sk rk).alloc _ | exact (own_STR wr tk sk rk).alloc _ | exact (own_SRT wr tk sk rk).alloc _ | exact (own_RTS wr tk sk rk).alloc _ | exact (own_RST wr tk sk rk).alloc _) (by simp) hown1 hgrow hat)
        clear hown1 hgrow hat HN Hrow
        go_wp2
        go_roundw
        case rel => exact ⟨k + 1, by omega, by go_num, gg, cap1, _, rfl, HL2⟩
        case measure => simp [intOf]; omega
    · have hkn : k = T.length := by omega
      subst hkn
      obtain ⟨w1', w2', w3', r1, r2, r3, hJ, hB⟩ := job_shut hL.out ES.out ER.out hn
      have HJ := hide hJ
      have HB := hide hB
      clear hJ hB hL h0 h1 h2
      go_wp2
      go_ret
      exact ⟨_, _, _, _, _, rfl, HJ.out, HB.out⟩

end Go.Proofs.Qxb6615952a.Jf
