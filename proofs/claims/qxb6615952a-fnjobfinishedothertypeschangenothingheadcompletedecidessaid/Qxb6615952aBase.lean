/-
  MAPS OF INTERFACE VALUES, read as the values themselves; slices of strings; small facts.
-/
import Derived.Test.Qxb6615952aRows
import Derived.WalkKit
import Derived.WalkSpells
import Derived.Maps.OwnSet
import Derived.LaidEql
namespace Go.Proofs.Qxb6615952a.Jf
open Go.RowKit Go.Maps
open Go.WideMaps (keyOf_string_mk)

theorem hide {p : Prop} (h : p) : Hid p := h

/-- An element reads as itself. -/
def asIs (v : Value) : Option (DataW Value × List MemPlace) := some (.held v, [])

abbrev Own (w : World) (b n : Nat) (D : DataW Value) : Prop := w.ownsMap Try.prog 9 asIs b n D

def key (s : ByteArray) : Lit := .string s.data.toList

theorem law9 : Keyed Try.prog 9 := string_keyed Try.underlying9
theorem zero20 (w : World) : (zeroValue 20).run Try.prog w = .ok .nilIface w := by kernel_rfl

/-- 'm[k]' in a map[string]any. -/
theorem look_any {w : World} {b n : Nat} {D : DataW Value} (h : Own w b n D) (q : ByteArray) (hq : q.size ≤ maxLen) :
    ∃ v, (Instr.lookup 30 (.map (some b)) (.string q) false).run Try.prog w = .ok v w ∧ D.atKey (key q) (.held .nilIface) = .held v := by
  obtain ⟨v, ps, hrun, hv⟩ := h.lookup law9 Try.underlying30 (zero20 w) (zd := .held .nilIface) (zp := []) rfl (keyOf_string_mk Try.underlying9 hq)
  have := congrArg Prod.fst (Option.some.inj hv)
  exact ⟨v, hrun, this.symm⟩

/-- 'v, ok := m[k]'. -/
theorem look_ok {w : World} {b n : Nat} {D : DataW Value} (h : Own w b n D) (q : ByteArray) (hq : q.size ≤ maxLen) :
    ∃ v, (Instr.lookup 30 (.map (some b)) (.string q) true).run Try.prog w = .ok (.tuple #[v, .bool (Maps.has D (key q))]) w ∧ D.atKey (key q) (.held .nilIface) = .held v := by
  obtain ⟨v, ps, hrun, hv⟩ := h.look_ok law9 Try.underlying30 (zero20 w) (zd := .held .nilIface) (zp := []) rfl (keyOf_string_mk Try.underlying9 hq)
  have := congrArg Prod.fst (Option.some.inj hv)
  exact ⟨v, hrun, this.symm⟩

/-- The texts that the program names. -/
def kType : ByteArray := ⟨#[116, 121, 112, 101]⟩
def kStatus : ByteArray := ⟨#[115, 116, 97, 116, 117, 115]⟩
def kReason : ByteArray := ⟨#[114, 101, 97, 115, 111, 110]⟩
def kKind : ByteArray := ⟨#[107, 105, 110, 100]⟩
def kConditions : ByteArray := ⟨#[99, 111, 110, 100, 105, 116, 105, 111, 110, 115]⟩

/-- One condition's map, as data (the keys in order). -/
def Dc (t s r : ByteArray) : DataW Value := .map [(key kReason, .held (.iface 9 (.string r))), (key kStatus, .held (.iface 9 (.string s))), (key kType, .held (.iface 9 (.string t)))]
def Dst (v : Value) : DataW Value := .map [(key kConditions, .held v)]
def Dob (v : Value) : DataW Value := .map [(key kKind, .held (.iface 9 (.string ⟨#[74, 111, 98]⟩))), (key kStatus, .held v)]

theorem at_conditions (v : Value) : (Dst v).atKey (key kConditions) (.held .nilIface) = .held v := by rfl
theorem has_conditions (v : Value) : Maps.has (Dst v) (key kConditions) = true := by rfl
theorem at_ob (v : Value) : (Dob v).atKey (key kStatus) (.held .nilIface) = .held v := by rfl
theorem has_ob (v : Value) : Maps.has (Dob v) (key kStatus) = true := by rfl
theorem at_type (t s r : ByteArray) : (Dc t s r).atKey (key kType) (.held .nilIface) = .held (.iface 9 (.string t)) := by rfl
theorem at_status (t s r : ByteArray) : (Dc t s r).atKey (key kStatus) (.held .nilIface) = .held (.iface 9 (.string s)) := by rfl
theorem at_reason (t s r : ByteArray) : (Dc t s r).atKey (key kReason) (.held .nilIface) = .held (.iface 9 (.string r)) := by rfl

theorem info9 : ∃ i, Try.prog.info? 9 = some i ∧ i.comparable = true := by
  have h : (Try.prog.info? 9).map (·.comparable) = some true := by kernel_rfl
  cases hi : Try.prog.info? 9 with
  | none => rw [hi] at h; cases h
  | some i => exact ⟨i, rfl, by rw [hi] at h; simpa using h⟩

theorem equalIn_str (d : Nat) (a b : ByteArray) (w : World) : (Op.equalIn (d + 2) 20 (.iface 9 (.string a)) (.iface 9 (.string b))).run Try.prog w = .ok (a == b) w := by
  obtain ⟨i, hi, hc⟩ := info9
  simp [Op.equalIn, run_underlying Try.underlying20, run_underlying Try.underlying9, typeInfo, hi, hc]

/-- '!=' of two interface values that hold strings. -/
theorem neq_str (a b : ByteArray) (w : World) : (binOp .neq 20 (.iface 9 (.string a)) (.iface 9 (.string b))).run Try.prog w = .ok (.bool (!(a == b))) w := by
  simp only [binOp]
  simp [Op.equal, Op.maxDepth, equalIn_str 9998 a b w]

/-! ### Type assertions: 'x.(T)' with ok. -/
theorem assert_str (s : ByteArray) (w : World) : (Instr.typeAssert (.iface 9 (.string s)) 20 9 true).run Try.prog w = .ok (.tuple #[.string s, .bool true]) w := by kernel_rfl
theorem assert_str_nil (w : World) : (Instr.typeAssert .nilIface 20 9 true).run Try.prog w = .ok (.tuple #[.string ⟨#[]⟩, .bool false]) w := by kernel_rfl
theorem assert_map (b : Option Nat) (w : World) : (Instr.typeAssert (.iface 30 (.map b)) 20 30 true).run Try.prog w = .ok (.tuple #[.map b, .bool true]) w := by kernel_rfl
theorem assert_list (a : Option Addr) (n c : Nat) (w : World) : (Instr.typeAssert (.iface 39 (.slice a n c)) 20 39 true).run Try.prog w = .ok (.tuple #[.slice a n c, .bool true]) w := by kernel_rfl

end Go.Proofs.Qxb6615952a.Jf
