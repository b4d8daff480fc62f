/- What isdigit, codeOf, milli, errors.New and units return is proved: isdigit of a digit and of a byte above the digits, codeOf of an error that is not nil, milli of a duration from 0 on, errors.New and units always. Conditions: those on the arguments that each statement names; none on memory but what is read. -/
import Derived.Test.YtjcmdkfmgmnbhaaDoorRows
import Derived.WalkKit
import Derived.WalkSpells
import Derived.WalkLawsBesides
import Derived.Lib.Hide
import Derived.Lib.ItoaNum
namespace Go.Proofs.YtjcmdkfmgmnbhaaDoor
open Go.RowKit

set_option maxHeartbeats 400000 in
theorem isdigit_yes (c : Int) (w : World) (h0 : 48 ≤ c) (h1 : c ≤ 57) :
    Calls Tryd.prog 16 #[.int .u8 c] w fun e w' => e = .returned (.bool true) ∧ w = w' := by
  go_enter Tryd.func16, Tryd.ntmps16
  go_wp2
  go_ret
  exact ⟨rfl, rfl⟩

set_option maxHeartbeats 400000 in
theorem isdigit_no (c : Int) (w : World) (h : 57 < c) :
    Calls Tryd.prog 16 #[.int .u8 c] w fun e w' => e = .returned (.bool false) ∧ w = w' := by
  have hd : decide (c ≤ 57) = false := by simp; omega
  go_enter Tryd.func16, Tryd.ntmps16
  go_wp2
  go_ret
  exact ⟨rfl, rfl⟩

set_option maxHeartbeats 400000 in
theorem milli_any (d : Int) (w : World) (h0 : 0 ≤ d) (h1 : d ≤ 9223372036854775807) :
    Calls Tryd.prog 13 #[.int .i64 d] w fun e w' => e = .returned (.int .i64 (d / 1000000)) ∧ w = w' := by
  go_enter Tryd.func13, Tryd.ntmps13
  go_wp2
  go_ret
  exact ⟨rfl, rfl⟩

set_option maxHeartbeats 400000 in
theorem codeOf_some (t : TypeId) (v : Value) (w : World) :
    Calls Tryd.prog 12 #[.iface t v] w fun e w' => e = .returned (.int .i64 1) ∧ w = w' := by
  go_enter Tryd.func12, Tryd.ntmps12
  go_wp2
  go_ret
  exact ⟨rfl, rfl⟩

set_option maxHeartbeats 400000 in
theorem errorsNew_any (s : ByteArray) (w : World) :
    Calls Tryd.prog 15 #[.string s] w fun e w' => e = .returned (.iface 55 (.pointer (some ⟨w.heap.size, 0, none⟩))) ∧ w' = w.alloc (.cells #[.string s] 57) := by
  go_enter Tryd.func15, Tryd.ntmps15
  go_wp2
  go_ret
  exact ⟨rfl, rfl⟩

/-- the cells of the units' table: of each unit its name, its size in milliseconds, whether it is written whole only. -/
def unitCells : Array Value := #[.string ⟨#[121]⟩, .int .i64 31536000000, .bool true, .string ⟨#[119]⟩, .int .i64 604800000, .bool true, .string ⟨#[100]⟩, .int .i64 86400000, .bool false, .string ⟨#[104]⟩, .int .i64 3600000, .bool false, .string ⟨#[109]⟩, .int .i64 60000, .bool false, .string ⟨#[115]⟩, .int .i64 1000, .bool false, .string ⟨#[109, 115]⟩, .int .i64 1, .bool false]

set_option maxHeartbeats 400000 in
theorem units_any (w : World) :
    Calls Tryd.prog 9 #[] w fun e w' => e = .returned (.slice (some ⟨w.heap.size, 0, none⟩) 7 7) ∧ w' = w.alloc (.cells unitCells 33) := by
  go_enter Tryd.func9, Tryd.ntmps9
  go_wp2
  go_ret
  exact ⟨rfl, rfl⟩

end Go.Proofs.YtjcmdkfmgmnbhaaDoor
