/- Span writes a duration with the counts of IsSpan, and changes nothing that was there. Condition: from 1 to 1000000000000 milliseconds. -/
import Derived.Test.YtjcmdkfmgmnbhaaDoorSpread
import Derived.Test.YtjcmdkfmgmnbhaaDoorParse
import Derived.Test.YtjcmdkfmgmnbhaaDoorSpanPlain
namespace Go.Proofs.YtjcmdkfmgmnbhaaDoor
open Go.RowKit

/-- what the loop has before the unit k: what is written, what is left. -/
def SnAt (c r : Nat → Nat) (k : Nat) (ob : ByteArray) (x : Int) : Prop := ob = bs (pre c k) ∧ x = r k

theorem SnAt.start {ms : Nat} {c r : Nat → Nat} (h : IsSpan ms c r) : SnAt c r 0 ⟨#[]⟩ ms := ⟨rfl, by rw [h.first]⟩
theorem SnAt.size {ms : Nat} {c r : Nat → Nat} {k : Nat} {ob : ByteArray} {x : Int} (h : SnAt c r k ob x) (hs : IsSpan ms c r) (hm : ms ≤ 1000000000000) (hk : k ≤ 7) : ob.size ≤ 154 := by
  rw [h.1, bs_size]
  have := pre_len c (fun i => Nat.le_trans (hs.count i) (by omega)) k
  omega
theorem SnAt.bd {ms : Nat} {c r : Nat → Nat} {k : Nat} {ob : ByteArray} {x : Int} (h : SnAt c r k ob x) (hs : IsSpan ms c r) (hm : ms ≤ 1000000000000) : 0 ≤ x ∧ x ≤ 1000000000000 := by
  rw [h.2]
  have := hs.below k
  omega
/-- a unit of which there are some. -/
theorem SnAt.more {ms : Nat} {c r : Nat → Nat} {k : Nat} {ob nb : ByteArray} {x v s : Int} (h : SnAt c r k ob x) (hs : IsSpan ms c r) (hn : nb = ⟨(nm k).toArray⟩) (he : s = sz k) (hv : v = x / s) (hp : 0 < v) (hw : wh k = false ∨ x % s = 0) :
    SnAt c r (k + 1) (ob ++ (decI v ++ nb)) (x - v * s) ∧ v * s ≤ x := by
  obtain ⟨h1, h2⟩ := h
  have hx : x % s = (r k % sz k : Nat) := by rw [h2, he]; simp
  have hv2 : v = (r k / sz k : Nat) := by rw [hv, h2, he]; simp
  have hc : c k = r k / sz k := hs.yes k (by
    rcases hw with hw | hw
    · exact Or.inl hw
    · rw [hx] at hw; exact Or.inr (by omega))
  have hf := hs.fits k
  have hm : v * s = (c k * sz k : Nat) := by rw [hv2, he, hc]; simp
  refine ⟨⟨?_, ?_⟩, ?_⟩
  · rw [h1, hn]
    exact step_text c k v (by rw [hc, hv2]; exact (Int.toNat_natCast _).symm) hp
  · rw [hm, h2, hs.next k]; omega
  · rw [hm, h2]; omega
/-- a unit of which there is none, or that is not written. -/
theorem SnAt.skip {c r : Nat → Nat} {k : Nat} {ob : ByteArray} {x : Int} (h : SnAt c r k ob x) {ms : Nat} (hs : IsSpan ms c r) (hz : c k = 0) : SnAt c r (k + 1) ob x := by
  refine ⟨?_, ?_⟩
  · rw [(step_none c k hz).1]; exact h.1
  · rw [hs.next k, hz]; simpa using h.2
theorem none_few {ms : Nat} {c r : Nat → Nat} (hs : IsSpan ms c r) {k : Nat} {ob : ByteArray} {x s : Int} (h : SnAt c r k ob x) (he : s = sz k) (hv : ¬ 0 < x / s) : c k = 0 := by
  have hv2 : x / s = (r k / sz k : Nat) := by rw [h.2, he]; simp
  have h0 : ¬ 0 < r k / sz k := fun h0 => hv (by rw [hv2]; exact Int.natCast_pos.2 h0)
  have hf := hs.fits k
  have h1 : c k ≤ r k / sz k := (Nat.le_div_iff_mul_le (sz_pos k)).2 hf
  omega
theorem none_left {ms : Nat} {c r : Nat → Nat} (hs : IsSpan ms c r) {k : Nat} {ob : ByteArray} {x s : Int} (h : SnAt c r k ob x) (he : s = sz k) (hw : wh k = true) (hv : ¬ x % s = 0) : c k = 0 := by
  refine hs.no k hw ?_
  have hx : x % s = (r k % sz k : Nat) := by rw [h.2, he]; simp
  omega

set_option maxRecDepth 100000 in
set_option maxHeartbeats 1000000 in
theorem span_some (ms : Nat) (c r : Nat → Nat) (w : World) (hsp : IsSpan ms c r) (h0 : 1 ≤ ms) (hm : ms ≤ 1000000000000) :
    Calls Tryd.prog 8 #[.int .i64 ms] w fun e w' => e = .returned (.string (bs (pre c 7))) ∧ Below w.heap.size w w' := by
  have HSN := Lib.hid hsp
  clear hsp
  go_enter Tryd.func8, Tryd.ntmps8
  go_wp2_with (go_at_call 9; refine (units_any _).mono ?_; rintro e w' ⟨rfl, rfl⟩)
  go_loopw [0, 3, 11] (fun m o i wr => ∃ (k : Nat) (ob : ByteArray) (x : Int), k ≤ 7 ∧ i = .int .i64 k ∧ o = .string ob ∧ m = .int .i64 x ∧ SnAt c r k ob x ∧ Below (w.heap.size + 1) (w.alloc (.cells unitCells 33)) wr)
    (fun _ _ i _ => 7 - (intOf i).toNat)
  case atStart => exact ⟨0, _, _, by omega, rfl, rfl, rfl, SnAt.start HSN.out, Below.refl _ _⟩
  case round =>
    obtain ⟨k, ob, x, hk, rfl, rfl, rfl, hsn, hbl⟩ := hrel
    have HB := Lib.hid hbl
    have HS := Lib.hid hsn
    have hob := hsn.size HSN.out hm hk
    obtain ⟨hx0, hx1⟩ := hsn.bd HSN.out hm
    clear hsn
    have hws : w.heap.size + 1 ≤ wr.heap.size := by have := hbl.size; simpa using this
    by_cases h6 : k < 7
    · obtain ⟨q0, q1, q2⟩ := unit_cells w k h6
      obtain ⟨nb, hnb⟩ : ∃ nb : ByteArray, nb = ⟨(nm k).toArray⟩ := ⟨_, rfl⟩
      obtain ⟨s, hs⟩ : ∃ s : Int, s = sz k := ⟨_, rfl⟩
      obtain ⟨wb, hwb⟩ : ∃ wb : Bool, wb = wh k := ⟨_, rfl⟩
      rw [← hnb] at q0; rw [← hs] at q1; rw [← hwb] at q2
      have u0 : wr.cell? ⟨w.heap.size, k * 3, none⟩ = some (.string nb) := (hbl.cell (p := ⟨w.heap.size, k * 3, none⟩) (by simp)).trans q0
      have u1 : wr.cell? ⟨w.heap.size, k * 3 + 1, none⟩ = some (.int .i64 s) := (hbl.cell (p := ⟨w.heap.size, k * 3 + 1, none⟩) (by simp)).trans q1
      have u2 : wr.cell? ⟨w.heap.size, k * 3 + 2, none⟩ = some (.bool wb) := (hbl.cell (p := ⟨w.heap.size, k * 3 + 2, none⟩) (by simp)).trans q2
      clear q0 q1 q2 hbl
      have hnz := nb_size hnb
      have hs0 : 1 ≤ s := by have := sz_pos k; omega
      have hs1 : s ≤ 31536000000 := by have := sz_le k; omega
      have HNB := Lib.hid hnb
      have HSZ := Lib.hid hs
      have HWB := Lib.hid hwb
      clear hnb hs hwb
      have hv0 : 0 ≤ x / s := Int.ediv_nonneg hx0 (by omega)
      have hv1 : x / s ≤ 1000000000000 := Int.le_trans (Int.ediv_le_self s hx0) hx1
      have hds := decI_size (x / s) (by omega)
      have hms0 : 0 ≤ x / s * s := Int.mul_nonneg hv0 (by omega)
      have hms1 : x / s * s ≤ x := Int.ediv_mul_le x (by omega)
      by_cases hp : 0 < x / s
      · cases wb with
        | false =>
          have hmo := HS.out.more HSN.out HNB.out HSZ.out rfl hp (Or.inl HWB.out.symm)
          have HM := Lib.hid hmo
          clear hmo
          go_wp2
          go_quiet ((go_at_call 10; exact Calls.quiet_of_same (decimal_q _ _ (by omega) (by omega))))
          go_wp2
          go_roundw
          case rel => exact ⟨k + 1, _, _, by omega, by go_num, rfl, rfl, HM.out.1, below_drewN (HB.out.alloc (by omega) _) _⟩
          case measure => simp [intOf]; omega
        | true =>
          by_cases hy0 : x % s = 0
          · have hmo := HS.out.more HSN.out HNB.out HSZ.out rfl hp (Or.inr hy0)
            have HM := Lib.hid hmo
            have hyb : (x % s == 0) = true := by simpa using hy0
            clear hmo hy0
            go_wp2
            go_quiet ((go_at_call 10; exact Calls.quiet_of_same (decimal_q _ _ (by omega) (by omega))))
            go_wp2
            go_roundw
            case rel => exact ⟨k + 1, _, _, by omega, by go_num, rfl, rfl, HM.out.1, below_drewN (HB.out.alloc (by omega) _) _⟩
            case measure => simp [intOf]; omega
          · have hmo := HS.out.skip HSN.out (none_left HSN.out HS.out HSZ.out HWB.out.symm hy0)
            have HM := Lib.hid hmo
            have hyb : (x % s == 0) = false := by simpa using hy0
            clear hmo hy0
            go_wp2
            go_roundw
            case rel => exact ⟨k + 1, _, _, by omega, by go_num, rfl, rfl, HM.out, HB.out.alloc (by omega) _⟩
            case measure => simp [intOf]; omega
      · have hmo := HS.out.skip HSN.out (none_few HSN.out HS.out HSZ.out hp)
        have HM := Lib.hid hmo
        clear hmo
        go_wp2
        go_roundw
        case rel => exact ⟨k + 1, _, _, by omega, by go_num, rfl, rfl, HM.out, HB.out.alloc (by omega) _⟩
        case measure => simp [intOf]; omega
    · obtain rfl : k = 7 := by omega
      clear hbl
      go_wp2
      go_ret
      exact ⟨ret_str HS.out.1, ((Below.refl _ w).alloc (Nat.le_refl _) _).trans (HB.out.mono (by omega))⟩
end Go.Proofs.YtjcmdkfmgmnbhaaDoor
