/- FnDuration's call returns true and changes nothing that was there, whatever the number. Condition: the table of powers of ten is as laid. -/
import Derived.Test.YtjcmdkfmgmnbhaaDoorStr
import Derived.Test.YtjcmdkfmgmnbhaaDoorDur
namespace Go.Proofs.YtjcmdkfmgmnbhaaDoor
open Go.RowKit

theorem tab_lt {w : World} (htab : Lib.TabIs Tryd.prog w "internal/strconv.uint64pow10" .u64 Lib.pow10Tab) : 2 < w.heap.size :=
  Lib.lt_of_cell (htab.cell gTab 0 (by rw [Lib.pow10Tab_length]; omega))

set_option maxHeartbeats 400000 in
theorem fnDuration_out (n : Int) (w : World) (h : n < 0 ∨ 1000000000000 < n) :
    Calls Tryd.prog 4 #[.int .i64 n] w fun e w' => e = .returned (.bool true) ∧ Below w.heap.size w w' := by
  by_cases h0 : n < 0
  · clear h
    go_enter Tryd.func4, Tryd.ntmps4
    go_wp2_with fail
    go_ret
    exact ⟨rfl, Below.refl _ _⟩
  · have h1 : 1000000000000 < n := by omega
    clear h
    go_enter Tryd.func4, Tryd.ntmps4
    go_wp2_with fail
    go_ret
    exact ⟨rfl, Below.refl _ _⟩

set_option maxHeartbeats 400000 in
/-- a number whose text, whose reading and whose reference are these. -/
theorem fnDuration_of (n : Int) (sb : ByteArray) (w : World) (h0 : 0 ≤ n) (h1 : n ≤ 1000000000000)
    (T : Calls Tryd.prog 7 #[.int .i64 n] w fun e w' => e = .returned (.string sb) ∧ Below w.heap.size w w')
    (D : ∀ W, Calls Tryd.prog 6 #[.string sb] W fun e w' => e = .returned (.tuple #[.int .i64 n, .int .i64 0]) ∧ Below W.heap.size W w')
    (S : ∀ W, Calls Tryd.prog 8 #[.int .i64 n] W fun e w' => e = .returned (.string sb) ∧ Below W.heap.size W w') :
    Calls Tryd.prog 4 #[.int .i64 n] w fun e w' => e = .returned (.bool true) ∧ Below w.heap.size w w' := by
  have T := Lib.hid T
  have D := fun W => Lib.hid (D W)
  have S := fun W => Lib.hid (S W)
  go_enter Tryd.func4, Tryd.ntmps4
  go_wp2_with (first
    | (go_at_call 7; refine T.out.mono ?_; rintro e W1 ⟨rfl, hb⟩; have HB := Lib.hid hb; clear hb)
    | (go_at_call 6; refine (D _).out.mono ?_; rintro e W2 ⟨rfl, hb2⟩; have HB2 := Lib.hid hb2; clear hb2)
    | (go_at_call 8; refine (S _).out.mono ?_; rintro e W3 ⟨rfl, hb3⟩; have HB3 := Lib.hid hb3; clear hb3))
  go_ret
  exact ⟨rfl, (HB.out.trans (HB2.out.mono HB.out.size)).trans (HB3.out.mono (Nat.le_trans HB.out.size HB2.out.size))⟩

theorem duration_walk (n : Int) (w : World) (htab : Lib.TabIs Tryd.prog w "internal/strconv.uint64pow10" .u64 Lib.pow10Tab) :
    Calls Tryd.prog 4 #[.int .i64 n] w fun e w' => e = .returned (.bool true) ∧ Below w.heap.size w w' := by
  by_cases h : n < 0 ∨ 1000000000000 < n
  · exact fnDuration_out n w h
  · by_cases hz : n = 0
    · subst hz
      exact fnDuration_of 0 (bs [48, 115]) w (by omega) (by omega) (text_none w) (fun W => duration_zero W) (fun W => span_none W)
    · obtain ⟨ms, rfl⟩ : ∃ ms : Nat, n = ms := ⟨n.toNat, by omega⟩
      obtain ⟨c, r, hs⟩ := exists_span ms
      have hm1 : 1 ≤ ms := by omega
      have hm2 : ms ≤ 1000000000000 := by omega
      have hall := hs.all
      have hne : suf c 0 ≠ [] := by
        intro e
        have := suf_nil c 7 0 (by omega) e
        rw [hall] at this
        simp only [tot] at this
        omega
      have hp := pre_suf c
      refine fnDuration_of ms (bs (pre c 7)) w (by omega) (by omega) (text_some ms c r w hs hm1 hm2 htab (tab_lt htab)) (fun W => ?_) (fun W => span_some ms c r W hs hm1 hm2)
      have hd := duration_any c W (by rw [hall]; omega) hne
      rw [hall] at hd
      rw [hp]
      exact hd
end Go.Proofs.YtjcmdkfmgmnbhaaDoor
