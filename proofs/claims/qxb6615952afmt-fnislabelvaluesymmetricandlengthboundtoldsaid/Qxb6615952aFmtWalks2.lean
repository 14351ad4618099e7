import Derived.Test.Qxb6615952aFmtWalks
import Derived.Test.Qxb6615952aFmtFacts
import Derived.Stop.Texts
import Derived.Stop.JoinedTold
import Derived.Stop.FmtTextKit
namespace Go.Proofs.Qxb6615952aFmt
open Go.RowKit Go.Extern.Stop Go.Stop Go.Extern

/-- WHAT fmt IS ASKED: the format, and 63. -/
def reading : List (List UInt8) := [Tryf.fmtBytes, Tryf.shape3, digits 8 63]

set_option maxRecDepth 100000 in
set_option maxHeartbeats 400000 in
theorem labelValue_long (F : Interp) (s : ByteArray) (w : World) (hF : F.answers w.tape) (hs : s.size ≤ maxLen) (h63 : 63 < s.size) :
    Calls Tryf.prog 11 #[.string s] w fun e w' => e = .returned (.string (FmtStop.textOf (F "fmt.Sprintf" reading 0))) ∧ w' = (w.alloc (.cells #[.iface 3 (.int .i64 63)] 20)).drew := by
  have he : s.toList.isEmpty = false := empty_false s (by omega)
  have hF' := answers_open hF
  unfold maxLen at hs
  go_enter Tryf.func11, Tryf.ntmps11
  go_wp2
  go_ret
  exact ⟨rfl, rfl⟩

set_option maxRecDepth 100000 in
set_option maxHeartbeats 400000 in
theorem labelValue_bad (F : Interp) (s : ByteArray) (w : World) (hF : F.answers w.tape) (h0 : 0 < s.size) (h63 : s.size ≤ 63) (hq : Lv.qual s.data.toList = false) :
    Calls Tryf.prog 11 #[.string s] w fun e w' => e = .returned (.string (FmtStop.textOf (F "fmt.Sprintf" reading 0))) ∧ w' = (w.alloc (.cells #[.iface 3 (.int .i64 63)] 20)).drew := by
  have he : s.toList.isEmpty = false := empty_false s (by omega)
  have hF' := answers_open hF
  go_enter Tryf.func11, Tryf.ntmps11
  go_wp2_with (first | (go_at_call 12; refine (isQualified_any _ _ (by unfold maxLen; omega)).mono ?_; rintro e w' ⟨rfl, rfl⟩) | (go_at_call 13; go_in))
  go_ret
  exact ⟨rfl, rfl⟩

set_option maxRecDepth 100000 in
set_option maxHeartbeats 400000 in
theorem labelValue_empty (s : ByteArray) (w : World) (h0 : s.size = 0) :
    Calls Tryf.prog 11 #[.string s] w fun e w' => e = .returned (.string ⟨#[]⟩) ∧ w' = w := by
  have he : s.toList.isEmpty = true := empty_true s h0
  clear h0
  go_enter Tryf.func11, Tryf.ntmps11
  go_wp2
  go_ret
  exact ⟨rfl, rfl⟩

set_option maxRecDepth 100000 in
set_option maxHeartbeats 400000 in
theorem labelValue_good (s : ByteArray) (w : World) (h0 : 0 < s.size) (h63 : s.size ≤ 63) (hq : Lv.qual s.data.toList = true) :
    Calls Tryf.prog 11 #[.string s] w fun e w' => e = .returned (.string ⟨#[]⟩) ∧ w' = w := by
  have he : s.toList.isEmpty = false := empty_false s (by omega)
  go_enter Tryf.func11, Tryf.ntmps11
  go_wp2_with (first | (go_at_call 12; refine (isQualified_any _ _ (by unfold maxLen; omega)).mono ?_; rintro e w' ⟨rfl, rfl⟩) | (go_at_call 13; go_in))
  go_ret
  exact ⟨rfl, rfl⟩

end Go.Proofs.Qxb6615952aFmt
