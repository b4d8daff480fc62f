/- Spread of a list of bytes returns the text of so many of each unit and what they are together, and changes nothing that was there. Conditions: the list's cells are in memory and hold bytes (the list that is empty or nil has a statement of its own). -/
import Derived.Test.YtjcmdkfmgmnbhaaDoorDec
import Derived.Test.YtjcmdkfmgmnbhaaDoorPlain
import Derived.Deep.QuietTactic
import Derived.BigQuiet
import Derived.MapKept
namespace Go.Proofs.YtjcmdkfmgmnbhaaDoor
open Go.RowKit

/-- how many of each unit: the list's own, none behind its end. -/
def cnt (zs : List Int) (len : Nat) (i : Nat) : Nat := if i < len then (zs.getD i 0).toNat else 0

/-- the cells of one unit in the table. -/
theorem unit_cells (w : World) (k : Nat) (h : k < 7) : (w.alloc (.cells unitCells 33)).cell? ⟨w.heap.size, k * 3, none⟩ = some (.string ⟨(nm k).toArray⟩) ∧
    (w.alloc (.cells unitCells 33)).cell? ⟨w.heap.size, k * 3 + 1, none⟩ = some (.int .i64 (sz k)) ∧ (w.alloc (.cells unitCells 33)).cell? ⟨w.heap.size, k * 3 + 2, none⟩ = some (.bool (wh k)) := by
  have hb : (w.alloc (.cells unitCells 33)).heap[w.heap.size]? = some (.cells unitCells 33) := (MapKept.heap_alloc w _).1
  have : k = 0 ∨ k = 1 ∨ k = 2 ∨ k = 3 ∨ k = 4 ∨ k = 5 ∨ k = 6 := by omega
  unfold World.cell?
  simp only [hb]
  rcases this with rfl | rfl | rfl | rfl | rfl | rfl | rfl <;> exact ⟨rfl, rfl, rfl⟩

theorem bytes_app (a b : List UInt8) : (⟨a.toArray⟩ : ByteArray) ++ ⟨b.toArray⟩ = ⟨(a ++ b).toArray⟩ := by
  apply ByteArray.ext; simp

theorem step_text (c : Nat → Nat) (k : Nat) (z : Int) (hz : c k = z.toNat) (hp : 0 < z) : (⟨(pre c k).toArray⟩ : ByteArray) ++ (decI z ++ ⟨(nm k).toArray⟩) = ⟨(pre c (k + 1)).toArray⟩ := by
  unfold decI
  rw [bytes_app, bytes_app]
  simp only [pre, part]
  rw [if_neg (by omega), hz]

theorem step_none (c : Nat → Nat) (k : Nat) (h : c k = 0) : pre c (k + 1) = pre c k ∧ tot c (k + 1) = tot c k := by
  simp [pre, part, tot, h]

theorem tot_le (c : Nat → Nat) (h : ∀ i, c i ≤ 255) : ∀ k, tot c k ≤ k * 8041680000000
  | 0 => by simp [tot]
  | k + 1 => by
    have h1 := tot_le c h k
    have h2 : c k * sz k ≤ 255 * 31536000000 := Nat.mul_le_mul (h k) (by unfold sz; split <;> decide)
    simp only [tot]; omega

theorem size_mk (l : List UInt8) : (⟨l.toArray⟩ : ByteArray).size = l.length := by simp [ByteArray.size]

theorem decimal_q (z : Int) (w : World) (h0 : 0 ≤ z) (h1 : z ≤ 9223372036854775807) :
    Calls Tryd.prog 10 #[.int .i64 z] w fun e w' => e = .returned (.string (decI z)) ∧ w' = w :=
  (decimal_any z w h0 h1).mono fun _ _ h => ⟨h.1, h.2.symm⟩

/-- what the loop has after k units. -/
def SpAt (c : Nat → Nat) (k : Nat) (ob : ByteArray) (t : Int) : Prop := ob = ⟨(pre c k).toArray⟩ ∧ t = tot c k

theorem SpAt.start (c : Nat → Nat) : SpAt c 0 ⟨#[]⟩ 0 := ⟨rfl, rfl⟩
theorem SpAt.size {c : Nat → Nat} {k : Nat} {ob : ByteArray} {t : Int} (h : SpAt c k ob t) (hc : ∀ i, c i ≤ 255) (hk : k ≤ 7) : ob.size ≤ 154 := by
  rw [h.1, size_mk]
  have := pre_len c (fun i => Nat.le_trans (hc i) (by decide)) k
  omega
theorem SpAt.lo {c : Nat → Nat} {k : Nat} {ob : ByteArray} {t : Int} (h : SpAt c k ob t) : 0 ≤ t := by rw [h.2]; omega
theorem SpAt.hi {c : Nat → Nat} {k : Nat} {ob : ByteArray} {t : Int} (h : SpAt c k ob t) (hc : ∀ i, c i ≤ 255) (hk : k ≤ 7) : t ≤ 60000000000000 := by
  rw [h.2]
  have := tot_le c hc k
  omega
theorem SpAt.more {c : Nat → Nat} {k : Nat} {ob nb : ByteArray} {t z s : Int} (h : SpAt c k ob t) (hn : nb = ⟨(nm k).toArray⟩) (hs : s = sz k) (hz : c k = z.toNat) (hp : 0 < z) :
    SpAt c (k + 1) (ob ++ (decI z ++ nb)) (t + z * s) := by
  refine ⟨?_, ?_⟩
  · rw [h.1, hn]; exact step_text c k z hz hp
  · rw [h.2, hs]
    simp only [tot]
    have : z = (c k : Int) := by omega
    rw [this]; simp
theorem SpAt.skip {c : Nat → Nat} {k : Nat} {ob : ByteArray} {t : Int} (h : SpAt c k ob t) (hz : c k = 0) : SpAt c (k + 1) ob t := by
  obtain ⟨e1, e2⟩ := step_none c k hz
  exact ⟨by rw [e1]; exact h.1, by rw [e2]; exact h.2⟩
theorem sz_le (k : Nat) : sz k ≤ 31536000000 := by unfold sz; split <;> decide
theorem mul_bd {z s : Int} (h0 : 0 ≤ z) (h1 : z ≤ 255) (h2 : 0 ≤ s) (h3 : s ≤ 31536000000) : 0 ≤ z * s ∧ z * s ≤ 8041680000000 :=
  ⟨Int.mul_nonneg h0 h2, by have := Int.mul_le_mul h1 h3 h2 (by decide : (0 : Int) ≤ 255); omega⟩

theorem ret_two {a b : ByteArray} {x y : Int} (h : a = b) (h2 : x = y) : Ending.returned (.tuple #[.string a, .int .i64 x]) = .returned (.tuple #[.string b, .int .i64 y]) := by rw [h, h2]

theorem nb_size {k : Nat} {nb : ByteArray} (h : nb = ⟨(nm k).toArray⟩) : nb.size ≤ 2 := by rw [h, size_mk]; exact nm_len k

set_option maxRecDepth 100000 in
set_option maxHeartbeats 1000000 in
theorem spread_some (b off len cap : Nat) (zs : List Int) (w : World) (hb : b < w.heap.size)
    (hc : ∀ j, j < len → w.cell? ⟨b, off + j, none⟩ = some (.int .u8 (zs.getD j 0))) (hz : ∀ j, 0 ≤ zs.getD j 0 ∧ zs.getD j 0 ≤ 255) :
    Calls Tryd.prog 5 #[.slice (some ⟨b, off, none⟩) len cap] w fun e w' => e = .returned (.tuple #[.string ⟨(pre (cnt zs len) 7).toArray⟩, .int .i64 (tot (cnt zs len) 7)]) ∧ Below w.heap.size w w' := by
  have hcb : ∀ i, cnt zs len i ≤ 255 := by
    intro i; unfold cnt; split
    · have := hz i; omega
    · omega
  have HC := Lib.hid hc
  have HZ := Lib.hid hz
  have HCB := Lib.hid hcb
  clear hc hz hcb
  go_enter Tryd.func5, Tryd.ntmps5
  go_wp2_with (go_at_call 9; refine (units_any _).mono ?_; rintro e w' ⟨rfl, rfl⟩)
  go_loopw [4, 5, 10] (fun o m i wr => ∃ (k : Nat) (ob : ByteArray) (t : Int), k ≤ 7 ∧ i = .int .i64 k ∧ o = .string ob ∧ m = .int .i64 t ∧ SpAt (cnt zs len) k ob t ∧ Below (w.heap.size + 1) (w.alloc (.cells unitCells 33)) wr)
    (fun _ _ i _ => 7 - (intOf i).toNat)
  case atStart => exact ⟨0, _, _, by omega, rfl, rfl, rfl, SpAt.start _, Below.refl _ _⟩
  case round =>
    obtain ⟨k, ob, t, hk, rfl, rfl, rfl, hsp, hbl⟩ := hrel
    have HB := Lib.hid hbl
    have HSP := Lib.hid hsp
    have hob := hsp.size HCB.out hk
    have ht0 := hsp.lo
    have ht1 := hsp.hi HCB.out hk
    clear hsp
    have hws : w.heap.size + 1 ≤ wr.heap.size := by have := hbl.size; simpa using this
    have hbw : b < wr.heap.size := by omega
    by_cases h6 : k < 7
    · obtain ⟨q0, q1, q2⟩ := unit_cells w k h6
      obtain ⟨nb, hnb⟩ : ∃ nb : ByteArray, nb = ⟨(nm k).toArray⟩ := ⟨_, rfl⟩
      obtain ⟨s, hs⟩ : ∃ s : Int, s = sz k := ⟨_, rfl⟩
      obtain ⟨wb, hwb⟩ : ∃ wb : Bool, wb = wh k := ⟨_, rfl⟩
      rw [← hnb] at q0; rw [← hs] at q1; rw [← hwb] at q2
      have u0 : wr.cell? ⟨w.heap.size, k * 3, none⟩ = some (.string nb) := (hbl.cell (p := ⟨w.heap.size, k * 3, none⟩) (by simp)).trans q0
      have u1 : wr.cell? ⟨w.heap.size, k * 3 + 1, none⟩ = some (.int .i64 s) := (hbl.cell (p := ⟨w.heap.size, k * 3 + 1, none⟩) (by simp)).trans q1
      have u2 : wr.cell? ⟨w.heap.size, k * 3 + 2, none⟩ = some (.bool wb) := (hbl.cell (p := ⟨w.heap.size, k * 3 + 2, none⟩) (by simp)).trans q2
      clear q0 q1 q2 hwb
      have hnz := nb_size hnb
      have hs0 : 0 ≤ s := by omega
      have hs1 : s ≤ 31536000000 := by have := sz_le k; omega
      have HNB := Lib.hid hnb
      have HS := Lib.hid hs
      clear hnb hs
      by_cases hlt : k < len
      · obtain ⟨z, hzk⟩ : ∃ z, z = zs.getD k 0 := ⟨_, rfl⟩
        have hcz : wr.cell? ⟨b, off + k, none⟩ = some (.int .u8 z) := by
          rw [hzk]
          exact (hbl.cell (p := ⟨b, off + k, none⟩) (by simp; omega)).trans ((Below.alloc (Below.refl _ w) (Nat.le_refl _) (.cells unitCells 33)).cell (p := ⟨b, off + k, none⟩) hb |>.trans (HC.out k hlt))
        have hz0 : 0 ≤ z := by rw [hzk]; exact (HZ.out k).1
        have hz1 : z ≤ 255 := by rw [hzk]; exact (HZ.out k).2
        have hck : cnt zs len k = z.toNat := by unfold cnt; rw [if_pos hlt, hzk]
        have HCK := Lib.hid hck
        clear hck hzk hbl
        by_cases hp : 0 < z
        · have hds := decI_size z (by omega)
          obtain ⟨hm0, hm1⟩ := mul_bd hz0 hz1 hs0 hs1
          have hi : (k : Int) < len := by omega
          go_wp2
          have e1 : IntKind.i64.wrap z = z := IntWalk.i64_in _ (by omega)
          go_quiet ((go_at_call 10; exact Calls.quiet_of_same (decimal_q _ _ (by omega) (by omega))))
          have e2 : IntKind.i64.wrap (z * s) = z * s := IntWalk.i64_in _ (by omega)
          have e3 : IntKind.i64.wrap (t + z * s) = t + z * s := IntWalk.i64_in _ (by omega)
          go_wp2
          go_quiet (fail)
          clear e1 e2 e3
          go_wp2
          go_roundw
          case rel => exact ⟨k + 1, _, _, by omega, by go_num, rfl, rfl, HSP.out.more HNB.out HS.out HCK.out hp, below_drewN (HB.out.alloc (by omega) _) _⟩
          case measure => simp [intOf]; omega
        · go_wp2
          go_roundw
          case rel => exact ⟨k + 1, ob, t, by omega, by go_num, rfl, rfl, HSP.out.skip (by rw [HCK.out]; omega), HB.out.alloc (by omega) _⟩
          case measure => simp [intOf]; omega
      · clear hbl
        go_wp2
        go_roundw
        case rel => exact ⟨k + 1, ob, t, by omega, by go_num, rfl, rfl, HSP.out.skip (by unfold cnt; rw [if_neg hlt]), HB.out.alloc (by omega) _⟩
        case measure => simp [intOf]; omega
    · obtain rfl : k = 7 := by omega
      go_wp2
      go_ret2
      exact ⟨ret_two HSP.out.1 HSP.out.2, ((Below.refl _ w).alloc (Nat.le_refl _) _).trans (HB.out.mono (by omega))⟩

set_option maxRecDepth 100000 in
set_option maxHeartbeats 1000000 in
/-- nothing at all. -/
theorem spread_none (a : Option Addr) (cap : Nat) (w : World) :
    Calls Tryd.prog 5 #[.slice a 0 cap] w fun e w' => e = .returned (.tuple #[.string ⟨#[]⟩, .int .i64 0]) ∧ Below w.heap.size w w' := by
  go_enter Tryd.func5, Tryd.ntmps5
  go_wp2_with (go_at_call 9; refine (units_any _).mono ?_; rintro e w' ⟨rfl, rfl⟩)
  go_loopw [4, 5, 10] (fun o m i wr => ∃ k : Nat, k ≤ 7 ∧ i = .int .i64 k ∧ o = .string ⟨#[]⟩ ∧ m = .int .i64 0 ∧ Below (w.heap.size + 1) (w.alloc (.cells unitCells 33)) wr)
    (fun _ _ i _ => 7 - (intOf i).toNat)
  case atStart => exact ⟨0, by omega, rfl, rfl, rfl, Below.refl _ _⟩
  case round =>
    obtain ⟨k, hk, rfl, rfl, rfl, hbl⟩ := hrel
    have HB := Lib.hid hbl
    have hws : w.heap.size + 1 ≤ wr.heap.size := by have := hbl.size; simpa using this
    by_cases h6 : k < 7
    · obtain ⟨q0, q1, q2⟩ := unit_cells w k h6
      obtain ⟨nb, hnb⟩ : ∃ nb : ByteArray, nb = ⟨(nm k).toArray⟩ := ⟨_, rfl⟩
      obtain ⟨s, hs⟩ : ∃ s : Int, s = sz k := ⟨_, rfl⟩
      obtain ⟨wb, hwb⟩ : ∃ wb : Bool, wb = wh k := ⟨_, rfl⟩
      rw [← hnb] at q0; rw [← hs] at q1; rw [← hwb] at q2
      have u0 : wr.cell? ⟨w.heap.size, k * 3, none⟩ = some (.string nb) := (hbl.cell (p := ⟨w.heap.size, k * 3, none⟩) (by simp)).trans q0
      have u1 : wr.cell? ⟨w.heap.size, k * 3 + 1, none⟩ = some (.int .i64 s) := (hbl.cell (p := ⟨w.heap.size, k * 3 + 1, none⟩) (by simp)).trans q1
      have u2 : wr.cell? ⟨w.heap.size, k * 3 + 2, none⟩ = some (.bool wb) := (hbl.cell (p := ⟨w.heap.size, k * 3 + 2, none⟩) (by simp)).trans q2
      clear q0 q1 q2 hwb hnb hs hbl
      go_wp2
      go_roundw
      case rel => exact ⟨k + 1, by omega, by go_num, rfl, rfl, HB.out.alloc (by omega) _⟩
      case measure => simp [intOf]; omega
    · obtain rfl : k = 7 := by omega
      clear hbl
      go_wp2
      go_ret2
      exact ⟨rfl, ((Below.refl _ w).alloc (Nat.le_refl _) _).trans (HB.out.mono (by omega))⟩
end Go.Proofs.YtjcmdkfmgmnbhaaDoor
