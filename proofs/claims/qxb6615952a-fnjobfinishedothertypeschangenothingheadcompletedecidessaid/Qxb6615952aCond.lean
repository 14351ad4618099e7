/-
  Condition$1, Field, Condition, JobFinished by their contracts.
-/
import Derived.Test.Qxb6615952aBase
namespace Go.Proofs.Qxb6615952a.Jf
open Go.RowKit Go.Maps
attribute [local go_sem] assert_str assert_str_nil assert_map assert_list neq_str

set_option maxHeartbeats 400000 in
/-- The closure 'text': the key's string. -/
theorem text_at (k s : ByteArray) (c b n : Nat) (D : DataW Value) (w : World) (hk : k.size ≤ maxLen) (hc : w.cell? ⟨c, 0, none⟩ = some (.map (some b))) (ho : Own w b n D) (hd : D.atKey (key k) (.held .nilIface) = .held (.iface 9 (.string s))) :
    Calls Try.prog 21 #[.string k, .pointer (some ⟨c, 0, none⟩)] w fun e w' => e = .returned (.string s) ∧ w' = w := by
  obtain ⟨v, hrun, hv⟩ := look_any ho k hk
  rw [hd] at hv
  injection hv with hv
  subst hv
  clear hd ho
  go_enter Try.func21, Try.ntmps21
  go_wp2
  go_ret
  exact ⟨rfl, rfl⟩

set_option maxHeartbeats 400000 in
theorem text_none (k : ByteArray) (c b n : Nat) (D : DataW Value) (w : World) (hk : k.size ≤ maxLen) (hc : w.cell? ⟨c, 0, none⟩ = some (.map (some b))) (ho : Own w b n D) (hd : D.atKey (key k) (.held .nilIface) = .held .nilIface) :
    Calls Try.prog 21 #[.string k, .pointer (some ⟨c, 0, none⟩)] w fun e w' => e = .returned (.string ⟨#[]⟩) ∧ w' = w := by
  obtain ⟨v, hrun, hv⟩ := look_any ho k hk
  rw [hd] at hv
  injection hv with hv
  subst hv
  clear hd ho
  go_enter Try.func21, Try.ntmps21
  go_wp2
  go_ret
  exact ⟨rfl, rfl⟩

/-- The job in memory: the object's map, the status' map, the list's slice. -/
structure Shell (w : World) (o st : Nat) (lv : Value) : Prop where
  ob : Own w o 2 (Dob (.iface 30 (.map (some st))))
  stm : Own w st 1 (Dst (.iface 39 lv))

theorem look_status {w : World} {o st : Nat} {lv : Value} (h : Shell w o st lv) :
    (Instr.lookup 30 (.map (some o)) (.string ⟨#[115, 116, 97, 116, 117, 115]⟩) true).run Try.prog w = .ok (.tuple #[.iface 30 (.map (some st)), .bool true]) w := by
  obtain ⟨v, hrun, hv⟩ := look_ok h.ob kStatus (by decide)
  rw [at_ob] at hv
  injection hv with hv
  subst hv
  rw [has_ob] at hrun
  exact hrun

theorem look_conditions {w : World} {o st : Nat} {lv : Value} (h : Shell w o st lv) :
    (Instr.lookup 30 (.map (some st)) (.string ⟨#[99, 111, 110, 100, 105, 116, 105, 111, 110, 115]⟩) true).run Try.prog w = .ok (.tuple #[.iface 39 lv, .bool true]) w := by
  obtain ⟨v, hrun, hv⟩ := look_ok h.stm kConditions (by decide)
  rw [at_conditions] at hv
  injection hv with hv
  subst hv
  rw [has_conditions] at hrun
  exact hrun

set_option maxHeartbeats 800000 in
/-- Field at "status", "conditions". -/
theorem field_any (o st pb : Nat) (a : Option Addr) (n c : Nat) (w : World) (h : Shell w o st (.slice a n c)) (p0 : w.cell? ⟨pb, 0, none⟩ = some (.string ⟨#[115, 116, 97, 116, 117, 115]⟩)) (p1 : w.cell? ⟨pb, 1, none⟩ = some (.string ⟨#[99, 111, 110, 100, 105, 116, 105, 111, 110, 115]⟩)) :
    Calls Try.prog 20 #[.map (some o), .slice (some ⟨pb, 0, none⟩) 2 2] w fun e w' => e = .returned (.tuple #[.iface 39 (.slice a n c), .bool true]) ∧ w' = w := by
  have l1 := look_status h
  have l2 := look_conditions h
  clear h
  go_enter Try.func20, Try.ntmps20
  go_wp2
  go_loop [6, 15] (fun v i => (i = .int .i64 0 ∧ v = .iface 30 (.map (some o))) ∨ (i = .int .i64 1 ∧ v = .iface 30 (.map (some st))) ∨ (i = .int .i64 2 ∧ v = .iface 39 (.slice a n c))) (fun _ i => 2 - (intOf i).toNat)
  case atStart => exact .inl ⟨rfl, rfl⟩
  case round =>
    rcases hrel with ⟨rfl, rfl⟩ | ⟨rfl, rfl⟩ | ⟨rfl, rfl⟩
    · go_wp2
      go_round
      case rel => exact .inr (.inl ⟨rfl, rfl⟩)
      case measure => simp [intOf]
    · go_wp2
      go_round
      case rel => exact .inr (.inr ⟨rfl, rfl⟩)
      case measure => simp [intOf]
    · go_wp2
      go_ret2
      exact ⟨rfl, rfl⟩

/-! ### Conditions as rows (type, status, reason) -/
abbrev Row := ByteArray × ByteArray × ByteArray
def row0 : Row := (⟨#[]⟩, ⟨#[]⟩, ⟨#[]⟩)
def nth (L : List Row) (k : Nat) : Row := L.getD k row0

/-- The first row of that type: its status and its reason. -/
def look (typ : ByteArray) : List Row → Option (ByteArray × ByteArray)
  | [] => none
  | (t, s, r) :: L => if t = typ then some (s, r) else look typ L

theorem look_found (typ : ByteArray) : ∀ (L : List Row) (k : Nat), k < L.length → (∀ j, j < k → (nth L j).1 ≠ typ) → (nth L k).1 = typ → look typ L = some ((nth L k).2.1, (nth L k).2.2)
  | [], k, hk, _, _ => absurd hk (by simp)
  | (t, s, r) :: L, 0, _, _, h => by
    have h' : t = typ := h
    simp [look, h', nth]
  | (t, s, r) :: L, k + 1, hk, hj, h => by
    have h0 : t ≠ typ := hj 0 (by omega)
    rw [look, if_neg h0]
    exact look_found typ L k (by simpa using hk) (fun j hjk => hj (j + 1) (by omega)) h

theorem look_not (typ : ByteArray) : ∀ (L : List Row), (∀ j, j < L.length → (nth L j).1 ≠ typ) → look typ L = none
  | [], _ => rfl
  | (t, s, r) :: L, h => by
    have h0 : t ≠ typ := h 0 (by simp)
    rw [look, if_neg h0]
    exact look_not typ L (fun j hj => h (j + 1) (by simpa using hj))

/-- A Condition's value. -/
def cv (typ s r : ByteArray) : Value := .agg #[.string typ, .string s, .string ⟨#[]⟩, .string ⟨#[]⟩, .string ⟨#[]⟩, .string r, .string ⟨#[]⟩]
def cv0 : Value := cv ⟨#[]⟩ ⟨#[]⟩ ⟨#[]⟩

/-- The job in memory, with its rows. -/
structure JobAt (w : World) (o st lb cap : Nat) (m : Nat → Nat) (L : List Row) : Prop where
  shell : Shell w o st (.slice (some ⟨lb, 0, none⟩) L.length cap)
  cells : ∀ k, k < L.length → w.cell? ⟨lb, k, none⟩ = some (.iface 30 (.map (some (m k))))
  maps : ∀ k, k < L.length → Own w (m k) 3 (Dc (nth L k).1 (nth L k).2.1 (nth L k).2.2)
  len : L.length ≤ 65537

theorem own_below {w w' : World} {B b n : Nat} {D : DataW Value} (h : Own w b n D) (hb : Below B w w') (hB : b < B) : Own w' b n D := by
  obtain ⟨es, clock, hm, r⟩ := h
  exact ⟨es, clock, (hb.block b hB).trans hm, r⟩

theorem lt_of_cell {w : World} {b o : Nat} {v : Value} (h : w.cell? ⟨b, o, none⟩ = some v) : b < w.heap.size := by
  rcases Nat.lt_or_ge b w.heap.size with hlt | hge
  · exact hlt
  · exfalso
    have hnone : w.heap[b]? = none := Array.getElem?_eq_none hge
    simp [World.cell?, hnone] at h

theorem JobAt.below {w w' : World} {o st lb cap : Nat} {m : Nat → Nat} {L : List Row} (h : JobAt w o st lb cap m L) (hb : Below w.heap.size w w') : JobAt w' o st lb cap m L :=
  ⟨⟨own_below h.shell.ob hb h.shell.ob.lt, own_below h.shell.stm hb h.shell.stm.lt⟩, fun k hk => by
    have hc := h.cells k hk
    rw [hb.cell (p := ⟨lb, k, none⟩) (lt_of_cell hc)]; exact hc,
    fun k hk => own_below (h.maps k hk) hb (h.maps k hk).lt, h.len⟩

theorem ba_true (a b : ByteArray) (h : a = b) : (a == b) = true := by
  subst h
  cases a with | mk d =>
  show (d == d) = true
  simp
theorem ba_false (a b : ByteArray) (h : a ≠ b) : (a == b) = false := by
  cases a with | mk d => cases b with | mk e =>
  show (d == e) = false
  rw [beq_eq_false_iff_ne]
  intro hh; apply h; rw [hh]

/-- The result's cell block: seven empty strings. -/
def zeros7 : Array Value := #[.string ⟨#[]⟩, .string ⟨#[]⟩, .string ⟨#[]⟩, .string ⟨#[]⟩, .string ⟨#[]⟩, .string ⟨#[]⟩, .string ⟨#[]⟩]

/-- The block rb is a struct's seven cells, xs, and may be written. -/
def Cells7 (w : World) (rb : Nat) (xs : Array Value) : Prop := w.heap[rb]? = some (.cells xs 27)

theorem Cells7.cell {w : World} {rb : Nat} {xs : Array Value} (h : Cells7 w rb xs) (i : Nat) : w.cell? ⟨rb, i, none⟩ = xs[i]? := by
  simp [World.cell?, Cells7] at *; simp [h]
theorem Cells7.frozen {w : World} {rb : Nat} {xs : Array Value} (h : Cells7 w rb xs) (i : Nat) : w.frozen? ⟨rb, i, none⟩ = false := by
  simp [World.frozen?, Cells7] at *; simp [h]
theorem Cells7.below {w w' : World} {B rb : Nat} {xs : Array Value} (h : Cells7 w rb xs) (hb : Below B w w') (hB : rb < B) : Cells7 w' rb xs := (hb.block rb hB).trans h

/-- Condition's result, by what is found. -/
def condRes (typ : ByteArray) (L : List Row) : Value := match look typ L with | some (s, r) => .tuple #[cv typ s r, .bool true] | none => .tuple #[cv0, .bool false]

theorem look_type {w : World} {b n : Nat} {t s r : ByteArray} (h : Own w b n (Dc t s r)) :
    (Instr.lookup 30 (.map (some b)) (.string ⟨#[116, 121, 112, 101]⟩) false).run Try.prog w = .ok (.iface 9 (.string t)) w := by
  obtain ⟨v, hrun, hv⟩ := look_any h kType (by decide)
  rw [at_type] at hv
  injection hv with hv
  subst hv
  exact hrun

def kHb : ByteArray := ⟨#[108, 97, 115, 116, 72, 101, 97, 114, 116, 98, 101, 97, 116, 84, 105, 109, 101]⟩
def kUp : ByteArray := ⟨#[108, 97, 115, 116, 85, 112, 100, 97, 116, 101, 84, 105, 109, 101]⟩
def kTr : ByteArray := ⟨#[108, 97, 115, 116, 84, 114, 97, 110, 115, 105, 116, 105, 111, 110, 84, 105, 109, 101]⟩
def kMsg : ByteArray := ⟨#[109, 101, 115, 115, 97, 103, 101]⟩
theorem at_kHb (t s r : ByteArray) : (Dc t s r).atKey (key kHb) (.held .nilIface) = .held .nilIface := by rfl
theorem at_kUp (t s r : ByteArray) : (Dc t s r).atKey (key kUp) (.held .nilIface) = .held .nilIface := by rfl
theorem at_kTr (t s r : ByteArray) : (Dc t s r).atKey (key kTr) (.held .nilIface) = .held .nilIface := by rfl
theorem at_kMsg (t s r : ByteArray) : (Dc t s r).atKey (key kMsg) (.held .nilIface) = .held .nilIface := by rfl

theorem set7_below {w wr : World} (b : Nat) (h : Below b w wr) (v0 v1 v2 v3 v4 v5 v6 : Value) :
    Below b w (((((((wr.setCell ⟨b, 0, none⟩ v0).setCell ⟨b, 1, none⟩ v1).setCell ⟨b, 2, none⟩ v2).setCell ⟨b, 3, none⟩ v3).setCell ⟨b, 4, none⟩ v4).setCell ⟨b, 5, none⟩ v5).setCell ⟨b, 6, none⟩ v6) :=
  ((((((h.setCell (p := ⟨b, 0, none⟩) (Nat.le_refl _) _).setCell (p := ⟨b, 1, none⟩) (Nat.le_refl _) _).setCell (p := ⟨b, 2, none⟩) (Nat.le_refl _) _).setCell (p := ⟨b, 3, none⟩) (Nat.le_refl _) _).setCell (p := ⟨b, 4, none⟩) (Nat.le_refl _) _).setCell (p := ⟨b, 5, none⟩) (Nat.le_refl _) _).setCell (p := ⟨b, 6, none⟩) (Nat.le_refl _) _

set_option maxHeartbeats 3200000 in
theorem condition_any (o st lb cap : Nat) (m : Nat → Nat) (L : List Row) (typ : ByteArray) (w : World) (h : JobAt w o st lb cap m L) :
    Calls Try.prog 19 #[.map (some o), .string typ] w fun e w' => e = .returned (condRes typ L) ∧ Below w.heap.size w w' := by
  have hlen := h.len
  have hmf : ∀ (fn : Fn) (first cap : Array Value) (w : World), (Instr.makeFunc fn first cap).run Try.prog w = .ok (.func fn first cap) w := fun _ _ _ _ => rfl
  have Hh := hide h
  clear h
  go_enter Try.func19, Try.ntmps19
  go_wp2_with fail
  refine (field_any o st _ _ _ _ _ (Hh.out.below (((Below.refl _ _).alloc (Nat.le_refl _) _).alloc (by simp) _)).shell (by simp) (by simp)).mono ?_
  rintro e w2 ⟨rfl, hw2⟩
  have hb2 : Below w.heap.size w w2 := by rw [hw2]; exact ((Below.refl _ _).alloc (Nat.le_refl _) _).alloc (by simp) _
  have hz : w2.heap.size = w.heap.size + 2 := by rw [hw2]; simp
  have hJ := Hh.out.below hb2
  have h7 : Cells7 w2 w.heap.size zeros7 := by
    rw [hw2, Cells7]
    exact (World.grownBy_alloc _ _ none).block _ (by simp) (by simp) |>.trans (MapKept.heap_alloc w _).1
  have HJ := hide hJ
  have H7 := hide h7
  have Hb2 := hide hb2
  have hlt : w.heap.size < w2.heap.size := by omega
  clear hw2 hJ h7 hb2 Hh hz
  go_wp2
  go_loopw [28] (fun i wr => ∃ k : Nat, k ≤ L.length ∧ i = .int .i64 k ∧ Hid (∀ j, j < k → (nth L j).1 ≠ typ) ∧ Below w2.heap.size w2 wr) (fun i _ => L.length - (intOf i).toNat)
  case atStart => exact ⟨0, Nat.zero_le _, rfl, fun j hj => absurd hj (Nat.not_lt_zero j), Below.refl _ _⟩
  case round =>
    obtain ⟨k, hk, rfl, hno, hbr⟩ := hrel
    by_cases hkl : k < L.length
    · have hJr := HJ.out.below hbr
      have hc := hJr.cells k hkl
      have hom := hJr.maps k hkl
      have hl := look_type (hom.alloc (.cells #[.map (some (m k))] 30))
      by_cases htk : (nth L k).1 = typ
      · have hfound := look_found typ L k hkl hno.out htk
        have HR : Hid (condRes typ L = .tuple #[cv typ (nth L k).2.1 (nth L k).2.2, .bool true]) := by show _ = _; rw [condRes, hfound]
        have hbq : ((nth L k).1 == typ) = true := ba_true _ _ htk
        have hlt' : w.heap.size < wr.heap.size := Nat.lt_of_lt_of_le hlt hbr.size
        have hba := hbr.alloc (o := .cells #[.map (some (m k))] 30) hbr.size
        have h7 := hide (H7.out.below hba hlt)
        have Hbw := hide (Hb2.out.trans (hba.mono Hb2.out.size))
        have Hom := hide (hom.alloc (.cells #[.map (some (m k))] 30))
        clear hJr hom hno hbr hfound hba htk
        generalize (nth L k).1 = tk at *
        generalize (nth L k).2.1 = sk at *
        generalize (nth L k).2.2 = rk at *
        generalize m k = mk at *
        go_wp2_with fail
        refine (text_at kStatus sk wr.heap.size mk 3 _ _ (by decide) (by simp) Hom.out (at_status _ _ _)).mono ?_
        rintro e w3 ⟨rfl, hw3⟩
        have hcm : w3.cell? ⟨wr.heap.size, 0, none⟩ = some (.map (some mk)) := by rw [hw3]; simp
        rw [← hw3] at Hom h7 Hbw
        clear hw3 hc hl hbq
        generalize wr.heap.size = cb at *
        go_wp2_with fail
        refine (text_none kHb cb mk 3 _ _ (by decide) hcm Hom.out (at_kHb _ _ _)).mono ?_
        rintro e w3 ⟨rfl, rfl⟩
        go_wp2_with fail
        refine (text_none kUp cb mk 3 _ _ (by decide) hcm Hom.out (at_kUp _ _ _)).mono ?_
        rintro e w3 ⟨rfl, rfl⟩
        go_wp2_with fail
        refine (text_none kTr cb mk 3 _ _ (by decide) hcm Hom.out (at_kTr _ _ _)).mono ?_
        rintro e w3 ⟨rfl, rfl⟩
        go_wp2_with fail
        refine (text_at kReason rk cb mk 3 _ _ (by decide) hcm Hom.out (at_reason _ _ _)).mono ?_
        rintro e w3 ⟨rfl, rfl⟩
        go_wp2_with fail
        refine (text_none kMsg cb mk 3 _ _ (by decide) hcm Hom.out (at_kMsg _ _ _)).mono ?_
        rintro e w3 ⟨rfl, rfl⟩
        clear Hom hcm
        have q0 : w3.cell? ⟨w.heap.size, 0, none⟩ = some (.string ⟨#[]⟩) := h7.out.cell 0
        have z0 := h7.out.frozen 0
        have q1 : w3.cell? ⟨w.heap.size, 1, none⟩ = some (.string ⟨#[]⟩) := h7.out.cell 1
        have z1 := h7.out.frozen 1
        have q2 : w3.cell? ⟨w.heap.size, 2, none⟩ = some (.string ⟨#[]⟩) := h7.out.cell 2
        have z2 := h7.out.frozen 2
        have q3 : w3.cell? ⟨w.heap.size, 3, none⟩ = some (.string ⟨#[]⟩) := h7.out.cell 3
        have z3 := h7.out.frozen 3
        have q4 : w3.cell? ⟨w.heap.size, 4, none⟩ = some (.string ⟨#[]⟩) := h7.out.cell 4
        have z4 := h7.out.frozen 4
        have q5 : w3.cell? ⟨w.heap.size, 5, none⟩ = some (.string ⟨#[]⟩) := h7.out.cell 5
        have z5 := h7.out.frozen 5
        have q6 : w3.cell? ⟨w.heap.size, 6, none⟩ = some (.string ⟨#[]⟩) := h7.out.cell 6
        have z6 := h7.out.frozen 6
        go_wp2
        refine bodyPost_ret (v := .tuple #[cv typ sk rk, .bool true]) (by simp [results, Try.results19, go_sem, q0, q1, q2, q3, q4, q5, q6, cv]) rfl ⟨by rw [HR.out], ?_⟩
        exact set7_below _ Hbw.out _ _ _ _ _ _ _
      · have hbq : ((nth L k).1 == typ) = false := ba_false _ _ htk
        have hno' : Hid (∀ j, j < k + 1 → (nth L j).1 ≠ typ) := fun j hj => by
          by_cases e : j = k
          · rw [e]; exact htk
          · exact hno.out j (by omega)
        have Hbr := hide (hbr.alloc (o := .cells #[.map (some (m k))] 30) hbr.size)
        clear hJr hom htk hno hbr
        generalize (nth L k).1 = tk at *
        generalize m k = mk at *
        go_wp2
        go_roundw
        case rel => exact ⟨k + 1, by omega, by go_num, hno', Hbr.out⟩
        case measure => simp [intOf]; omega
    · have hnone : look typ L = none := look_not typ L (fun j hj => hno.out j (by omega))
      have HR : Hid (condRes typ L = .tuple #[cv0, .bool false]) := by show _ = _; rw [condRes, hnone]
      have h7 := H7.out.below hbr hlt
      have q0 : wr.cell? ⟨w.heap.size, 0, none⟩ = some (.string ⟨#[]⟩) := h7.cell 0
      have q1 : wr.cell? ⟨w.heap.size, 1, none⟩ = some (.string ⟨#[]⟩) := h7.cell 1
      have q2 : wr.cell? ⟨w.heap.size, 2, none⟩ = some (.string ⟨#[]⟩) := h7.cell 2
      have q3 : wr.cell? ⟨w.heap.size, 3, none⟩ = some (.string ⟨#[]⟩) := h7.cell 3
      have q4 : wr.cell? ⟨w.heap.size, 4, none⟩ = some (.string ⟨#[]⟩) := h7.cell 4
      have q5 : wr.cell? ⟨w.heap.size, 5, none⟩ = some (.string ⟨#[]⟩) := h7.cell 5
      have q6 : wr.cell? ⟨w.heap.size, 6, none⟩ = some (.string ⟨#[]⟩) := h7.cell 6
      have z0 := h7.frozen 0
      have z1 := h7.frozen 1
      have z2 := h7.frozen 2
      have z3 := h7.frozen 3
      have z4 := h7.frozen 4
      have z5 := h7.frozen 5
      have z6 := h7.frozen 6
      have Hbw := hide (Hb2.out.trans (hbr.mono Hb2.out.size))
      clear hnone h7 hno hbr
      go_wp2
      refine bodyPost_ret (v := .tuple #[cv0, .bool false]) (by simp [results, Try.results19, go_sem, q0, q1, q2, q3, q4, q5, q6, cv0, cv]) rfl ⟨by rw [HR.out], ?_⟩
      exact set7_below _ Hbw.out _ _ _ _ _ _ _

end Go.Proofs.Qxb6615952a.Jf
