/- String's function of one unit writes so many of the unit behind what is written and takes them off what is left. Conditions: its two captured variables lie in two blocks of their own, what is left is from 0 to 1000000000000, and the table of powers of ten is as laid. -/
import Derived.Test.YtjcmdkfmgmnbhaaDoorSpan
import Derived.OneCell
import Derived.WalkSmall
import Derived.Deep.RegionWith
namespace Go.Proofs.YtjcmdkfmgmnbhaaDoor
open Go.RowKit

theorem itoa_dec {v : Int} (h : 0 ≤ v) : (⟨(Lib.itoa v).toArray⟩ : ByteArray) = decI v := by
  unfold Lib.itoa decI
  rw [if_neg (by omega)]

/-- strconv.FormatInt of a number from 0 on, in base 10. -/
theorem format_any (v : Int) (w : World) (h0 : 0 ≤ v) (h1 : v ≤ 9223372036854775807) (htab : Lib.TabIs Tryd.prog w "internal/strconv.uint64pow10" .u64 Lib.pow10Tab) :
    Calls Tryd.prog 20 #[.int .i64 v, .int .i64 10] w fun e w' => e = .returned (.string (decI v)) ∧ Below w.heap.size w w' := by
  refine (Tryd.strconv_FormatInt_10 v (by omega) h1 w htab).mono ?_
  rintro e w' ⟨h2, k, os, rfl⟩
  refine ⟨by rw [h2, itoa_dec h0], ?_⟩
  exact ⟨rfl, rfl, rfl, by show w.heap.size ≤ (w.heap ++ os).size; rw [Array.size_append]; omega, fun _ hj => Sort.heap_grow_old (w.drewN k) os hj⟩

/-- the two captured variables: what is left, what is written. -/
def Two (a b : Nat) (x : Int) (r : ByteArray) (w : World) : Prop := w.heap[a]? = some (.cells #[.int .i64 x] 2 (0, 0)) ∧ w.heap[b]? = some (.cells #[.string r] 9 (0, 0))

theorem Two.on {a b : Nat} {x : Int} {r : ByteArray} {w w' : World} (h : Two a b x r w) (hb : Below w.heap.size w w') : Two a b x r w' :=
  ⟨(hb.block a (lt_of_block h.1)).trans h.1, (hb.block b (lt_of_block h.2)).trans h.2⟩
theorem Two.sets {a b : Nat} {x y : Int} {r s : ByteArray} {w : World} (h : Two a b x r w) (hab : a ≠ b) : Two a b y s ((w.setCell ⟨b, 0, none⟩ (.string s)).setCell ⟨a, 0, none⟩ (.int .i64 y)) := by
  refine ⟨?_, ?_⟩
  · refine one_setCell (v := .int .i64 x) ?_
    rw [Below.heap_setCell _ _ _ _ hab]
    exact h.1
  · rw [Below.heap_setCell _ _ _ _ (Ne.symm hab)]
    exact one_setCell h.2

/-- the function's end: it returns nothing, and the two variables hold y and s. -/
def EndsTwo (B a b : Nat) (y : Int) (s : ByteArray) (w : World) (e : Ending) (w' : World) : Prop := e = .returned (.tuple #[]) ∧ Two a b y s w' ∧ Below B w w'

set_option maxHeartbeats 400000 in
/-- a unit that is written only where nothing is left, and something is left. -/
theorem fun_exact (B a b : Nat) (u : ByteArray) (m x : Int) (r : ByteArray) (w : World) (h2 : Two a b x r w) (hx : 0 ≤ x) (hm : 1 ≤ m) (hne : ¬ x % m = 0) :
    Calls Tryd.prog 19 #[.string u, .int .i64 m, .bool true, .pointer (some ⟨a, 0, none⟩), .pointer (some ⟨b, 0, none⟩)] w (EndsTwo B a b x r w) := by
  have ca := cell_of_one h2.1
  have hb : (x % m == 0) = false := by simpa using hne
  have hb2 : (x % m != 0) = true := by simpa using hne
  have H2 := Lib.hid h2
  clear h2 hne
  go_enter Tryd.func19, Tryd.ntmps19
  go_wp2
  go_end0
  exact ⟨rfl, H2.out, Below.refl _ _⟩

set_option maxHeartbeats 400000 in
/-- a unit of which there is none. -/
theorem fun_none (B a b : Nat) (u : ByteArray) (m x : Int) (ex : Bool) (r : ByteArray) (w : World) (h2 : Two a b x r w) (hx : 0 ≤ x) (hx1 : x ≤ 1000000000000) (hm : 1 ≤ m) (hok : ex = false ∨ x % m = 0) (hv : ¬ 0 < x / m) :
    Calls Tryd.prog 19 #[.string u, .int .i64 m, .bool ex, .pointer (some ⟨a, 0, none⟩), .pointer (some ⟨b, 0, none⟩)] w (EndsTwo B a b x r w) := by
  have ca := cell_of_one h2.1
  have hv1 : x / m ≤ 1000000000000 := Int.le_trans (Int.ediv_le_self m hx) hx1
  have hv0 : 0 ≤ x / m := Int.ediv_nonneg hx (by omega)
  have H2 := Lib.hid h2
  clear h2
  cases ex with
  | false =>
    clear hok
    go_enter Tryd.func19, Tryd.ntmps19
    go_wp2
    go_end0
    exact ⟨rfl, H2.out, Below.refl _ _⟩
  | true =>
    have hok : x % m = 0 := by
      rcases hok with h | h
      · cases h
      · exact h
    have hb : (x % m == 0) = true := by simpa using hok
    have hb2 : (x % m != 0) = false := by simpa using hok
    clear hok
    go_enter Tryd.func19, Tryd.ntmps19
    go_wp2
    go_end0
    exact ⟨rfl, H2.out, Below.refl _ _⟩

set_option maxHeartbeats 1000000 in
/-- a unit of which there are some, that is written. -/
theorem fun_some (B a b : Nat) (u : ByteArray) (m x : Int) (ex : Bool) (r : ByteArray) (w : World) (h2 : Two a b x r w) (hab : a ≠ b) (hBa : B ≤ a) (hBb : B ≤ b)
    (htab : Lib.TabIs Tryd.prog w "internal/strconv.uint64pow10" .u64 Lib.pow10Tab) (hx : 0 ≤ x) (hx1 : x ≤ 1000000000000) (hm : 1 ≤ m) (hok : ex = false ∨ x % m = 0) (hv : 0 < x / m) (hu : u.size ≤ 2) (hr : r.size ≤ 154) :
    Calls Tryd.prog 19 #[.string u, .int .i64 m, .bool ex, .pointer (some ⟨a, 0, none⟩), .pointer (some ⟨b, 0, none⟩)] w (EndsTwo B a b (x - x / m * m) (r ++ (decI (x / m) ++ u)) w) := by
  have hBw : B ≤ w.heap.size := by have := lt_of_block h2.1; omega
  have ca := cell_of_one h2.1
  have cb := cell_of_one h2.2
  have fa := free_of_one h2.1
  have fb := free_of_one h2.2
  have hv1 : x / m ≤ 1000000000000 := Int.le_trans (Int.ediv_le_self m hx) hx1
  have hds := decI_size (x / m) (by omega)
  have hms0 : 0 ≤ x / m * m := Int.mul_nonneg (by omega) (by omega)
  have hms1 : x / m * m ≤ x := Int.ediv_mul_le x (by omega)
  have H2 := Lib.hid h2
  have HT := Lib.hid htab
  clear h2 htab
  cases ex with
  | false =>
    clear hok
    go_enter Tryd.func19, Tryd.ntmps19
    go_wp2
    go_region_with (go_at_call 20; refine (format_any _ _ (by omega) (by omega) ?_).mono ?_; exact HT.out; rintro e w1 ⟨rfl, hb1⟩; have T1 := Two.on (by exact H2.out) hb1; have ca1 := cell_of_one T1.1; have cb1 := cell_of_one T1.2; have fa1 := free_of_one T1.1; have fb1 := free_of_one T1.2; have HT1 := Lib.hid T1; have HB1 := Lib.hid hb1; clear hb1 T1)
    all_goals go_wp2
    all_goals go_end0
    all_goals exact ⟨rfl, HT1.out.sets hab, (((Below.refl B w).drew.trans (HB1.out.mono hBw)).setCell hBb _).setCell hBa _⟩
  | true =>
    have hok : x % m = 0 := by
      rcases hok with h | h
      · cases h
      · exact h
    have hb : (x % m == 0) = true := by simpa using hok
    have hb2 : (x % m != 0) = false := by simpa using hok
    clear hok
    go_enter Tryd.func19, Tryd.ntmps19
    go_wp2
    go_region_with (go_at_call 20; refine (format_any _ _ (by omega) (by omega) ?_).mono ?_; exact HT.out; rintro e w1 ⟨rfl, hb1⟩; have T1 := Two.on (by exact H2.out) hb1; have ca1 := cell_of_one T1.1; have cb1 := cell_of_one T1.2; have fa1 := free_of_one T1.1; have fb1 := free_of_one T1.2; have HT1 := Lib.hid T1; have HB1 := Lib.hid hb1; clear hb1 T1)
    all_goals go_wp2
    all_goals go_end0
    all_goals exact ⟨rfl, HT1.out.sets hab, (((Below.refl B w).drew.trans (HB1.out.mono hBw)).setCell hBb _).setCell hBa _⟩
end Go.Proofs.YtjcmdkfmgmnbhaaDoor
