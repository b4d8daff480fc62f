/- A duration's String and impl.DurationText write it with the counts of IsSpan, and nothing as no seconds. Conditions: at most 1000000000000 milliseconds; the table of powers of ten is as laid. -/
import Derived.Test.YtjcmdkfmgmnbhaaDoorClos
namespace Go.Proofs.YtjcmdkfmgmnbhaaDoor
open Go.RowKit

/-- the closure's end at the unit k: so much is written, so much is left. -/
def StepTwo (c r : Nat → Nat) (k B a b : Nat) (w : World) (e : Ending) (w' : World) : Prop := ∃ ob x, SnAt c r k ob x ∧ EndsTwo B a b x ob w e w'

theorem fun_unit (B a b k ms : Nat) (c r : Nat → Nat) (u ob : ByteArray) (m x : Int) (ex : Bool) (w : World) (hs : IsSpan ms c r) (hms : ms ≤ 1000000000000) (hk : k ≤ 7) (hsn : SnAt c r k ob x) (hu : u = ⟨(nm k).toArray⟩) (hm : m = sz k) (hex : ex = wh k)
    (h2 : Two a b x ob w) (hab : a ≠ b) (hBa : B ≤ a) (hBb : B ≤ b) (htab : Lib.TabIs Tryd.prog w "internal/strconv.uint64pow10" .u64 Lib.pow10Tab) :
    Calls Tryd.prog 19 #[.string u, .int .i64 m, .bool ex, .pointer (some ⟨a, 0, none⟩), .pointer (some ⟨b, 0, none⟩)] w (StepTwo c r (k + 1) B a b w) := by
  have hob := hsn.size hs hms hk
  obtain ⟨hx0, hx1⟩ := hsn.bd hs hms
  have hm1 : 1 ≤ m := by have := sz_pos k; omega
  by_cases hok : ex = false ∨ x % m = 0
  · by_cases hp : 0 < x / m
    · have hmo := hsn.more hs hu hm rfl hp (by rcases hok with h | h; exact Or.inl (hex.symm.trans h); exact Or.inr h)
      exact (fun_some B a b u m x ex ob w h2 hab hBa hBb htab hx0 hx1 hm1 hok hp (nb_size hu) hob).mono fun e w' h => ⟨_, _, hmo.1, h⟩
    · exact (fun_none B a b u m x ex ob w h2 hx0 hx1 hm1 hok hp).mono fun e w' h => ⟨_, _, hsn.skip hs (none_few hs hsn hm hp), h⟩
  · have hex1 : ex = true := by
      cases ex with
      | true => rfl
      | false => exact absurd (Or.inl rfl) hok
    have hne : ¬ x % m = 0 := fun h => hok (Or.inr h)
    have hwh : wh k = true := by rw [← hex, hex1]
    subst hex1
    exact (fun_exact B a b u m x ob w h2 hx0 hm1 hne).mono fun e w' h => ⟨_, _, hsn.skip hs (none_left hs hsn hm hwh hne), h⟩

theorem empty_app (x : ByteArray) : (⟨#[]⟩ : ByteArray) ++ x = x := by apply ByteArray.ext; simp

theorem gTab : Tryd.prog.globalNamed "internal/strconv.uint64pow10" = some 2 := by kernel_rfl

/-- where String stands before the unit k. -/
def StrAt (c r : Nat → Nat) (k : Nat) (w W : World) : Prop := ∃ ob x, SnAt c r k ob x ∧ Two w.heap.size (w.heap.size + 1) x ob W ∧ Below w.heap.size w W

theorem unit_step (k ms : Nat) (c r : Nat → Nat) (u : ByteArray) (m : Int) (ex : Bool) (w W : World) (hs : IsSpan ms c r) (hms : ms ≤ 1000000000000) (hk : k ≤ 7) (hu : u = ⟨(nm k).toArray⟩) (hm : m = sz k) (hex : ex = wh k)
    (htab : Lib.TabIs Tryd.prog w "internal/strconv.uint64pow10" .u64 Lib.pow10Tab) (hg : 2 < w.heap.size) (hA : StrAt c r k w W) :
    Calls Tryd.prog 19 #[.string u, .int .i64 m, .bool ex, .pointer (some ⟨w.heap.size, 0, none⟩), .pointer (some ⟨w.heap.size + 1, 0, none⟩)] W fun e W' => e = .returned (.tuple #[]) ∧ StrAt c r (k + 1) w W' := by
  obtain ⟨ob, x, hsn, h2, hb⟩ := hA
  refine (fun_unit w.heap.size w.heap.size (w.heap.size + 1) k ms c r u ob m x ex W hs hms hk hsn hu hm hex h2 (by omega) (Nat.le_refl _) (by omega) (var?_below hb gTab hg htab)).mono ?_
  rintro e W' ⟨ob', x', hsn', rfl, h2', hb'⟩
  exact ⟨rfl, ob', x', hsn', h2', hb.trans hb'⟩

theorem str_start {ms : Nat} {c r : Nat → Nat} (w : World) (d : Int) (hs : IsSpan ms c r) (hd : d = ms * 1000000) :
    StrAt c r 0 w ((w.alloc (.cells #[.int .i64 (d / 1000000)] 2)).alloc (.cells #[.string ⟨#[]⟩] 9)) := by
  have hx : d / 1000000 = ms := by omega
  rw [hx]
  refine ⟨⟨#[]⟩, ms, SnAt.start hs, ⟨?_, ?_⟩, ((Below.refl _ _).alloc (Nat.le_refl _) _).alloc (by simp) _⟩
  · rw [Below.heap_alloc _ _ _ (by simp)]
    exact heap_alloc_new w _
  · have := heap_alloc_new (w.alloc (.cells #[.int .i64 (ms : Int)] 2)) (.cells #[.string ⟨#[]⟩] 9)
    simpa using this

set_option maxHeartbeats 1000000 in
theorem string_some (ms : Nat) (c r : Nat → Nat) (d : Int) (w : World) (hs : IsSpan ms c r) (h0 : 1 ≤ ms) (hm : ms ≤ 1000000000000) (hd : d = ms * 1000000)
    (htab : Lib.TabIs Tryd.prog w "internal/strconv.uint64pow10" .u64 Lib.pow10Tab) (hg : 2 < w.heap.size) :
    Calls Tryd.prog 14 #[.int .i64 d] w fun e w' => e = .returned (.string (bs (pre c 7))) ∧ Below w.heap.size w w' := by
  have hd0 : 1 ≤ d / 1000000 := by omega
  have hd1 : d / 1000000 ≤ 1000000000000 := by omega
  have hd2 : 0 ≤ d := by omega
  have hd3 : d ≤ 1000000000000000000 := by omega
  have A0 := Lib.hid (str_start w d hs hd)
  have HS := Lib.hid hs
  have HT := Lib.hid htab
  clear hd hs htab
  go_enter Tryd.func14, Tryd.ntmps14
  go_wp2_with fail
  refine (unit_step 0 ms c r ⟨#[121]⟩ 31536000000 true w _ HS.out hm (by omega) rfl rfl rfl HT.out hg A0.out).mono ?_
  rintro e W1 ⟨rfl, a1⟩
  have A1 := Lib.hid a1
  clear a1
  go_wp2_with fail
  refine (unit_step 1 ms c r ⟨#[119]⟩ 604800000 true w _ HS.out hm (by omega) rfl rfl rfl HT.out hg A1.out).mono ?_
  rintro e W2 ⟨rfl, a2⟩
  have A2 := Lib.hid a2
  clear a2
  go_wp2_with fail
  refine (unit_step 2 ms c r ⟨#[100]⟩ 86400000 false w _ HS.out hm (by omega) rfl rfl rfl HT.out hg A2.out).mono ?_
  rintro e W3 ⟨rfl, a3⟩
  have A3 := Lib.hid a3
  clear a3
  go_wp2_with fail
  refine (unit_step 3 ms c r ⟨#[104]⟩ 3600000 false w _ HS.out hm (by omega) rfl rfl rfl HT.out hg A3.out).mono ?_
  rintro e W4 ⟨rfl, a4⟩
  have A4 := Lib.hid a4
  clear a4
  go_wp2_with fail
  refine (unit_step 4 ms c r ⟨#[109]⟩ 60000 false w _ HS.out hm (by omega) rfl rfl rfl HT.out hg A4.out).mono ?_
  rintro e W5 ⟨rfl, a5⟩
  have A5 := Lib.hid a5
  clear a5
  go_wp2_with fail
  refine (unit_step 5 ms c r ⟨#[115]⟩ 1000 false w _ HS.out hm (by omega) rfl rfl rfl HT.out hg A5.out).mono ?_
  rintro e W6 ⟨rfl, a6⟩
  have A6 := Lib.hid a6
  clear a6
  go_wp2_with fail
  refine (unit_step 6 ms c r ⟨#[109, 115]⟩ 1 false w _ HS.out hm (by omega) rfl rfl rfl HT.out hg A6.out).mono ?_
  rintro e W7 ⟨rfl, a7⟩
  have A7 := Lib.hid a7
  clear a7
  obtain ⟨ob, x, hsn, h2, hb⟩ := A7.out
  have cb := cell_of_one h2.2
  have hob := hsn.size HS.out hm (by omega)
  have HN := Lib.hid hsn
  have HB := Lib.hid hb
  clear hsn h2 hb
  go_wp2_with fail
  go_ret
  exact ⟨ret_str (by rw [HN.out.1]; exact empty_app _), HB.out⟩

set_option maxHeartbeats 400000 in
/-- nothing is written as no seconds. -/
theorem string_none (w : World) :
    Calls Tryd.prog 14 #[.int .i64 0] w fun e w' => e = .returned (.string (bs [48, 115])) ∧ Below w.heap.size w w' := by
  go_enter Tryd.func14, Tryd.ntmps14
  go_wp2_with fail
  go_ret
  exact ⟨rfl, ((Below.refl _ _).alloc (Nat.le_refl _) _).alloc (by simp) _⟩

set_option maxHeartbeats 400000 in
theorem span_none (w : World) :
    Calls Tryd.prog 8 #[.int .i64 0] w fun e w' => e = .returned (.string (bs [48, 115])) ∧ Below w.heap.size w w' := by
  go_enter Tryd.func8, Tryd.ntmps8
  go_wp2_with fail
  go_ret
  exact ⟨rfl, Below.refl _ _⟩

set_option maxHeartbeats 400000 in
theorem text_none (w : World) :
    Calls Tryd.prog 7 #[.int .i64 0] w fun e w' => e = .returned (.string (bs [48, 115])) ∧ Below w.heap.size w w' := by
  have H := fun W => Lib.hid (string_none W)
  go_enter Tryd.func7, Tryd.ntmps7
  go_wp2_with (go_at_call 14; refine (H _).out.mono ?_; rintro e W1 ⟨rfl, hb⟩; have HB := Lib.hid hb; clear hb)
  go_ret
  exact ⟨rfl, HB.out⟩

set_option maxHeartbeats 400000 in
theorem text_some (ms : Nat) (c r : Nat → Nat) (w : World) (hs : IsSpan ms c r) (h0 : 1 ≤ ms) (hm : ms ≤ 1000000000000)
    (htab : Lib.TabIs Tryd.prog w "internal/strconv.uint64pow10" .u64 Lib.pow10Tab) (hg : 2 < w.heap.size) :
    Calls Tryd.prog 7 #[.int .i64 ms] w fun e w' => e = .returned (.string (bs (pre c 7))) ∧ Below w.heap.size w w' := by
  have H := Lib.hid (string_some ms c r (ms * 1000000) w hs h0 hm rfl htab hg)
  clear hs htab
  go_enter Tryd.func7, Tryd.ntmps7
  go_wp2_with (go_at_call 14; refine H.out.mono ?_; rintro e W1 ⟨rfl, hb⟩; have HB := Lib.hid hb; clear hb)
  go_ret
  exact ⟨rfl, HB.out⟩
end Go.Proofs.YtjcmdkfmgmnbhaaDoor
