/- impl.Duration answers such a text with its milliseconds and Good, and the empty text with Parsed. Conditions: as for ParseDuration. -/
import Derived.Test.YtjcmdkfmgmnbhaaDoorParse
namespace Go.Proofs.YtjcmdkfmgmnbhaaDoor
open Go.RowKit

set_option maxRecDepth 100000 in
set_option maxHeartbeats 1000000 in
/-- the empty text is refused. -/
theorem parse_none (w : World) :
    Calls Tryd.prog 11 #[.string (bs [])] w fun e w' => e = .returned (.tuple #[.int .i64 0, .iface 55 (.pointer (some ⟨w.heap.size, 0, none⟩))]) ∧ Below w.heap.size w w' := by
  obtain ⟨sb, hsb⟩ : ∃ sb, sb = bs [] := ⟨_, rfl⟩
  have h48 : (sb.toList == [48]) = false := by rw [ByteArray.toList_eq, hsb]; rfl
  have hemp : sb.toList.isEmpty = true := by rw [ByteArray.toList_eq, hsb]; rfl
  rw [← hsb]
  clear hsb
  go_enter Tryd.func11, Tryd.ntmps11
  go_wp2_with (go_at_call 15; refine (errorsNew_any _ _).mono ?_; rintro e w' ⟨rfl, rfl⟩)
  go_ret2
  exact ⟨rfl, (Below.refl _ _).alloc (Nat.le_refl _) _⟩

theorem ret_ok {x y : Int} (h : x = y) : Ending.returned (.tuple #[.int .i64 x, .int .i64 0]) = .returned (.tuple #[.int .i64 y, .int .i64 0]) := by rw [h]

set_option maxHeartbeats 400000 in
theorem duration_any (c : Nat → Nat) (w : World) (hmax : tot c 7 * 1000000 ≤ 9223372036854775807) (hne : suf c 0 ≠ []) :
    Calls Tryd.prog 6 #[.string (bs (suf c 0))] w fun e w' => e = .returned (.tuple #[.int .i64 (tot c 7), .int .i64 0]) ∧ Below w.heap.size w w' := by
  have H := Lib.hid (parse_any c w hmax hne)
  obtain ⟨sb, hsb⟩ : ∃ sb, sb = bs (suf c 0) := ⟨_, rfl⟩
  rw [← hsb] at H ⊢
  clear hsb hne
  obtain ⟨d, hd⟩ : ∃ d : Int, d = tot c 7 * 1000000 := ⟨_, rfl⟩
  rw [← hd] at H
  have hd0 : 0 ≤ d := by omega
  have hd1 : d ≤ 9223372036854775807 := by omega
  have he : d / 1000000 = tot c 7 := by omega
  have HE := Lib.hid he
  clear hd he hmax
  go_enter Tryd.func6, Tryd.ntmps6
  go_wp2_with (first
    | (go_at_call 11; refine H.out.mono ?_; rintro e W1 ⟨rfl, hb⟩; have HB := Lib.hid hb; clear hb)
    | (go_at_call 13; refine (milli_any _ _ (by omega) (by omega)).mono ?_; rintro e w' ⟨rfl, rfl⟩))
  go_ret2
  exact ⟨ret_ok HE.out, HB.out⟩

set_option maxHeartbeats 400000 in
/-- no seconds are nothing. -/
theorem duration_zero (w : World) :
    Calls Tryd.prog 6 #[.string (bs [48, 115])] w fun e w' => e = .returned (.tuple #[.int .i64 0, .int .i64 0]) ∧ Below w.heap.size w w' := by
  have H := Lib.hid (parse_zero w)
  obtain ⟨sb, hsb⟩ : ∃ sb, sb = bs [48, 115] := ⟨_, rfl⟩
  rw [← hsb] at H ⊢
  clear hsb
  go_enter Tryd.func6, Tryd.ntmps6
  go_wp2_with (first
    | (go_at_call 11; refine H.out.mono ?_; rintro e W1 ⟨rfl, hb⟩; have HB := Lib.hid hb; clear hb)
    | (go_at_call 13; refine (milli_any _ _ (by omega) (by omega)).mono ?_; rintro e w' ⟨rfl, rfl⟩))
  go_ret2
  exact ⟨rfl, HB.out⟩

set_option maxHeartbeats 400000 in
theorem duration_none (w : World) :
    Calls Tryd.prog 6 #[.string (bs [])] w fun e w' => e = .returned (.tuple #[.int .i64 0, .int .i64 1]) ∧ Below w.heap.size w w' := by
  have H := Lib.hid (parse_none w)
  obtain ⟨sb, hsb⟩ : ∃ sb, sb = bs [] := ⟨_, rfl⟩
  rw [← hsb] at H ⊢
  clear hsb
  go_enter Tryd.func6, Tryd.ntmps6
  go_wp2_with (first
    | (go_at_call 11; refine H.out.mono ?_; rintro e W1 ⟨rfl, hb⟩; have HB := Lib.hid hb; clear hb)
    | (go_at_call 12; refine (codeOf_some _ _ _).mono ?_; rintro e w' ⟨rfl, rfl⟩))
  go_ret2
  exact ⟨rfl, HB.out⟩
end Go.Proofs.YtjcmdkfmgmnbhaaDoor
