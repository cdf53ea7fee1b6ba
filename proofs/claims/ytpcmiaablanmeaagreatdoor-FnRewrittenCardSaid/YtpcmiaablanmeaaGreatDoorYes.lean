/- spec.Yes: a value that it gives is what strconv.ParseBool gives. -/
import Derived.Test.YtpcmiaablanmeaaGreatDoorWords
import Derived.Lib.ParseBool
import Derived.Lib.Strings
import Derived.Lib.Walk
namespace Go.Proofs.YtpcmiaablanmeaaGreatDoor
open Go.RowKit

def YesPost (s : ByteArray) (w : World) (e : Ending) (w' : World) : Prop := ∃ on ok : Bool, e = .returned (.tuple #[.bool on, .bool ok]) ∧ (ok = true → Lib.parseBool s.data.toList = some on) ∧ w = w'

set_option maxHeartbeats 2000000 in
set_option maxRecDepth 100000 in
theorem yes_any (s : ByteArray) (w : World) : Calls Tryz.prog 53 #[.string s] w (YesPost s w) := by
  have Hp : Hid (Lib.parseBool s.data.toList = Lib.parseBool s.data.toList) := rfl
  go_enter Tryz.func53, Tryz.ntmps53
  go_wp2
  all_goals (
    clear Hp
    go_ret2
    refine ⟨_, _, rfl, ?_, rfl⟩
    first
      | (intro h; cases h; done)
      | (intro _; rw [Lib.parseBool_bytes, ← Lib.toList_data]; simp_all))
end Go.Proofs.YtpcmiaablanmeaaGreatDoor
