/- FnSpread's call returns true and changes nothing that was there, once Spread's answer is known. Conditions: each number of units is at most 255. -/
import Derived.Test.YtjcmdkfmgmnbhaaDoorSpread
import Derived.Test.YtjcmdkfmgmnbhaaDoorDur
namespace Go.Proofs.YtjcmdkfmgmnbhaaDoor
open Go.RowKit

theorem tot_255 (c : Nat → Nat) (hc : ∀ i, c i ≤ 255) : tot c 7 * 1000000 ≤ 9223372036854775807 := by
  have h0 := hc 0
  have h1 := hc 1
  have h2 := hc 2
  have h3 := hc 3
  have h4 := hc 4
  have h5 := hc 5
  have h6 := hc 6
  simp only [tot, sz]
  omega

set_option maxHeartbeats 400000 in
theorem fnSpread_long (a : Option Addr) (len cap : Nat) (w : World) (h : 7 < len) (hm : len ≤ 9223372036854775807) :
    Calls Tryd.prog 3 #[.slice a len cap] w fun e w' => e = .returned (.bool true) ∧ Below w.heap.size w w' := by
  by_cases h2 : 2147483647 < len
  · go_enter Tryd.func3, Tryd.ntmps3
    go_wp2_with fail
    go_ret
    exact ⟨rfl, Below.refl _ _⟩
  · go_enter Tryd.func3, Tryd.ntmps3
    go_wp2_with fail
    go_ret
    exact ⟨rfl, Below.refl _ _⟩

set_option maxHeartbeats 400000 in
theorem fnSpread_of (a : Option Addr) (len cap : Nat) (c : Nat → Nat) (w : World) (h7 : len ≤ 7) (hc : ∀ i, c i ≤ 255)
    (H : Calls Tryd.prog 5 #[.slice a len cap] w fun e w' => e = .returned (.tuple #[.string (bs (suf c 0)), .int .i64 (tot c 7)]) ∧ Below w.heap.size w w') :
    Calls Tryd.prog 3 #[.slice a len cap] w fun e w' => e = .returned (.bool true) ∧ Below w.heap.size w w' := by
  have hmax := tot_255 c hc
  clear hc
  by_cases hs : suf c 0 = []
  · have D := fun W => Lib.hid (duration_none W)
    rw [hs] at H
    have H := Lib.hid H
    obtain ⟨sb, hsb⟩ : ∃ sb, sb = bs [] := ⟨_, rfl⟩
    obtain ⟨t, ht⟩ : ∃ t : Int, t = tot c 7 := ⟨_, rfl⟩
    have hemp : sb.toList.isEmpty = true := by rw [ByteArray.toList_eq, hsb]; rfl
    rw [← hsb, ← ht] at H
    rw [← hsb] at D
    clear hsb ht hs hmax
    go_enter Tryd.func3, Tryd.ntmps3
    go_wp2_with (first
      | (go_at_call 5; refine H.out.mono ?_; rintro e W1 ⟨rfl, hb⟩; have HB := Lib.hid hb; clear hb)
      | (go_at_call 6; refine (D _).out.mono ?_; rintro e W2 ⟨rfl, hb2⟩; have HB2 := Lib.hid hb2; clear hb2))
    go_ret
    exact ⟨rfl, HB.out.trans (HB2.out.mono HB.out.size)⟩
  · have D := fun W => Lib.hid (duration_any c W hmax hs)
    have H := Lib.hid H
    obtain ⟨sb, hsb⟩ : ∃ sb, sb = bs (suf c 0) := ⟨_, rfl⟩
    obtain ⟨t, ht⟩ : ∃ t : Int, t = tot c 7 := ⟨_, rfl⟩
    have hemp : sb.toList.isEmpty = false := by
      rw [ByteArray.toList_eq, hsb]
      cases hs2 : suf c 0 with
      | nil => exact absurd hs2 hs
      | cons _ _ => simp [bs]
    rw [← hsb, ← ht] at H D
    clear hsb ht hs hmax
    go_enter Tryd.func3, Tryd.ntmps3
    go_wp2_with (first
      | (go_at_call 5; refine H.out.mono ?_; rintro e W1 ⟨rfl, hb⟩; have HB := Lib.hid hb; clear hb)
      | (go_at_call 6; refine (D _).out.mono ?_; rintro e W2 ⟨rfl, hb2⟩; have HB2 := Lib.hid hb2; clear hb2))
    go_ret
    exact ⟨rfl, HB.out.trans (HB2.out.mono HB.out.size)⟩
end Go.Proofs.YtjcmdkfmgmnbhaaDoor
