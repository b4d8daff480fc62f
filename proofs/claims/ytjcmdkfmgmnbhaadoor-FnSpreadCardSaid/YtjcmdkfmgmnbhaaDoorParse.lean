/- ParseDuration reads a text of so many of each unit, the greatest first, to what they are together, and the text of no seconds to nothing. Conditions: the text is not empty, and what is read fits the greatest int64 of nanoseconds. -/
import Derived.Test.YtjcmdkfmgmnbhaaDoorUnits
import Derived.Test.YtjcmdkfmgmnbhaaDoorPlain
import Derived.Test.YtjcmdkfmgmnbhaaDoorShelf
import Derived.Deep.QuietTactic
import Derived.BigQuiet
namespace Go.Proofs.YtjcmdkfmgmnbhaaDoor
open Go.RowKit

/-- a text as a string. -/
def bs (l : List UInt8) : ByteArray := ⟨l.toArray⟩
theorem bs_size (l : List UInt8) : (bs l).size = l.length := by simp [bs, ByteArray.size]
theorem bs_get (l : List UInt8) (i : Nat) (h : i < (bs l).size) : (bs l)[i] = l[i]'(by rw [bs_size] at h; exact h) := by
  show (bs l).data[i] = _
  simp [bs]
theorem bs_take (l r : List UInt8) : (bs (l ++ r)).extract 0 l.length = bs l := by
  apply ByteArray.ext; simp [bs]
theorem bs_drop (l r : List UInt8) : (bs (l ++ r)).extract l.length (bs (l ++ r)).size = bs r := by
  rw [bs_size]; apply ByteArray.ext; simp [bs]

/-- the length of a string's value. -/
def lenOf : Value → Nat
  | .string s => s.size
  | _ => 0

/-- what stands at the head of a round: the rest of the text, what was read of it, the last unit's place. -/
def PAt (c : Nat → Nat) (k : Nat) (sb : ByteArray) (t q : Int) : Prop := sb = bs (suf c k) ∧ t = tot c k * 1000000 ∧ 0 ≤ q ∧ q ≤ k

/-- bytes of a string, as the walk reads them: digits up to n. -/
def Digits (s : ByteArray) (n : Nat) : Prop := ∀ i, (h : i < s.size) → i < n → 48 ≤ (s[i].toNat : Int) ∧ (s[i].toNat : Int) ≤ 57
/-- .. letters up to n. -/
def Letters (s : ByteArray) (n : Nat) : Prop := ∀ i, (h : i < s.size) → i < n → 57 < (s[i].toNat : Int)
/-- .. a letter at n. -/
def LetterAt (s : ByteArray) (n : Nat) : Prop := (h : n < s.size) → 57 < (s[n].toNat : Int)
/-- .. a digit at n, if n is not the end. -/
def DigitAt (s : ByteArray) (n : Nat) : Prop := (h : n < s.size) → 48 ≤ (s[n].toNat : Int) ∧ (s[n].toNat : Int) ≤ 57

theorem digits_mk (l r : List UInt8) (h : ∀ c ∈ l, 48 ≤ c.toNat ∧ c.toNat ≤ 57) : Digits (bs (l ++ r)) l.length := by
  intro i hi hl
  rw [bs_get, List.getElem_append_left hl]
  have := h _ (List.getElem_mem hl)
  omega
theorem letters_mk (l r : List UInt8) (h : ∀ c ∈ l, 57 < c.toNat) : Letters (bs (l ++ r)) l.length := by
  intro i hi hl
  rw [bs_get, List.getElem_append_left hl]
  have := h _ (List.getElem_mem hl)
  omega
theorem at_mk (l r : List UInt8) (h : l.length < (bs (l ++ r)).size) : ∃ x, r.head? = some x ∧ (bs (l ++ r))[l.length] = x := by
  cases r with
  | nil => rw [bs_size] at h; simp at h
  | cons x r => exact ⟨x, rfl, by rw [bs_get]; simp⟩

/-- WHAT A ROUND READS. -/
theorem round_facts {c : Nat → Nat} {k : Nat} {sb : ByteArray} {t q : Int} (h : PAt c k sb t q) (hk : k ≤ 7) (hne : suf c k ≠ []) :
    ∃ (j n1 n2 : Nat) (db sb2 nb sb3 : ByteArray), k ≤ j ∧ j < 7 ∧ 0 < c j ∧ 1 ≤ n1 ∧ n1 < sb.size ∧ Digits sb n1 ∧ LetterAt sb n1 ∧ sb.extract 0 n1 = db ∧ sb.extract n1 sb.size = sb2 ∧
      1 ≤ n2 ∧ n2 ≤ sb2.size ∧ Letters sb2 n2 ∧ DigitAt sb2 n2 ∧ sb2.extract 0 n2 = nb ∧ sb2.extract n2 sb2.size = sb3 ∧ db = bs (Lib.decDigits (c j)) ∧ nb = bs (nm j) ∧ PAt c (j + 1) sb3 (t + c j * (sz j * 1000000)) (j + 1) ∧ sb3.size < sb.size := by
  obtain ⟨rfl, ht, hq0, hq1⟩ := h
  obtain ⟨j, h1, h2, h3, h4, h5⟩ := suf_split c (7 - k) k (by omega) hne
  have d1 : 1 ≤ (Lib.decDigits (c j)).length := by
    have := dec_ne (c j)
    cases hd : Lib.decDigits (c j) with
    | nil => exact absurd hd this
    | cons _ _ => simp
  have d2 : 1 ≤ (nm j).length := by
    have := nm_ne j
    cases hd : nm j with
    | nil => exact absurd hd this
    | cons _ _ => simp
  refine ⟨j, (Lib.decDigits (c j)).length, (nm j).length, bs (Lib.decDigits (c j)), bs (nm j ++ suf c (j + 1)), bs (nm j), bs (suf c (j + 1)), h1, h2, h3, d1, ?_, ?_, ?_, ?_, ?_, d2, ?_, letters_mk _ _ (nm_letter j), ?_, bs_take _ _, bs_drop _ _, rfl, rfl, ⟨rfl, ?_, by omega, by omega⟩, ?_⟩
  · rw [h4, bs_size]; simp only [List.length_append]; omega
  · rw [h4]; exact digits_mk _ _ (dec_digit _)
  · intro hl
    have hh := h4
    revert hl
    rw [hh]
    intro hl
    obtain ⟨x, hx, he⟩ := at_mk _ _ hl
    rw [he]
    cases hn : nm j with
    | nil => exact absurd hn (nm_ne j)
    | cons y r =>
      rw [hn] at hx
      simp only [List.cons_append, List.head?_cons, Option.some.injEq] at hx
      subst hx
      have := nm_letter j y (by rw [hn]; exact List.mem_cons_self)
      omega
  · rw [h4]; exact bs_take _ _
  · rw [h4]; exact bs_drop _ _
  · rw [bs_size]; simp only [List.length_append]; omega
  · intro hl
    obtain ⟨x, hx, he⟩ := at_mk _ _ hl
    rw [he]
    have := suf_head c (j + 1) (by omega) x hx
    omega
  · rw [ht]
    have : tot c (j + 1) = tot c k + c j * sz j := by rw [← h5]; rfl
    rw [this, Int.natCast_add, Int.natCast_mul]
    have e : (c j : Int) * ((sz j : Int) * 1000000) = (c j : Int) * (sz j : Int) * 1000000 := by rw [Int.mul_assoc]
    rw [e, Int.add_mul]
  · rw [h4, bs_size, bs_size]; simp only [List.length_append]; omega

theorem suf_nil (c : Nat → Nat) : ∀ (d k : Nat), k + d = 7 → suf c k = [] → tot c k = tot c 7
  | 0, k, hk, _ => by
    obtain rfl : k = 7 := by omega
    rfl
  | d + 1, k, hk, h => by
    have hs := suf_step c k (by omega)
    rw [h] at hs
    have h0 : c k = 0 := by
      by_cases e : c k = 0
      · exact e
      · simp [part, e, dec_ne] at hs
    have e : suf c (k + 1) = [] := by simpa [part, h0] using hs.symm
    have := suf_nil c d (k + 1) (by omega) e
    rw [← this]; simp [tot, h0]

theorem suf_len (c : Nat → Nat) (hc : ∀ i, i < 7 → c i ≤ 9223372036854775807) : ∀ (d k : Nat), k + d = 7 → (suf c k).length ≤ 22 * d
  | 0, k, hk => by
    obtain rfl : k = 7 := by omega
    simp [suf_end]
  | d + 1, k, hk => by
    have h1 := suf_len c hc d (k + 1) (by omega)
    have h2 := part_len c k (hc k (by omega))
    rw [suf_step c k (by omega), List.length_append]; omega

theorem cnt_le (c : Nat → Nat) (hmax : tot c 7 * 1000000 ≤ 9223372036854775807) (i : Nat) (hi : i < 7) : c i ≤ 9223372036854775807 := by
  have h1 := tot_at c i hi
  have h3 : c i * 1 ≤ c i * sz i := Nat.mul_le_mul (Nat.le_refl _) (sz_pos i)
  omega

theorem PAt.size {c : Nat → Nat} {k : Nat} {sb : ByteArray} {t q : Int} (h : PAt c k sb t q) (hk : k ≤ 7) (hmax : tot c 7 * 1000000 ≤ 9223372036854775807) : sb.size ≤ 154 := by
  rw [h.1, bs_size]
  have := suf_len c (cnt_le c hmax) (7 - k) k (by omega)
  omega
theorem PAt.hi {c : Nat → Nat} {k : Nat} {sb : ByteArray} {t q : Int} (h : PAt c k sb t q) (hk : k ≤ 7) (hmax : tot c 7 * 1000000 ≤ 9223372036854775807) : 0 ≤ t ∧ t ≤ 9223372036854775807 := by
  rw [h.2.1]
  have := tot_mono c k (7 - k)
  rw [show k + (7 - k) = 7 from by omega] at this
  omega

/-- strconv.ParseUint of a numeral. -/
theorem parseUint_dec (u : Nat) (db : ByteArray) (w : World) (hd : db = bs (Lib.decDigits u)) (hu : u ≤ 9223372036854775807) :
    Calls Tryd.prog 17 #[.string db, .int .i64 10, .int .i64 0] w fun e w' => e = .returned (.tuple #[.int .u64 u, .nilIface]) ∧ Below w.heap.size w w' := by
  have hsz : db.size ≤ 20 := by
    rw [hd, bs_size]
    exact dec_len 19 u (by omega)
  refine (Tryd.strconv_ParseUint_10_at0_ok db (by omega) u (by rw [hd]; exact parse_ok u (by omega)) w).mono ?_
  rintro e w' ⟨h1, h2⟩
  refine ⟨h1, ?_⟩
  rcases h2 with rfl | rfl
  · exact Below.refl _ _
  · exact Lib.bytesWorld_below _ _ _

/-- the map of units, asked for a unit's name. -/
theorem look_unit (W : World) (j : Nat) (nb : ByteArray) (mu : Int) (hj : j < 7) (hn : nb = bs (nm j)) (hm : mu = sz j * 1000000) :
    (Instr.lookup 50 (.map (some W.heap.size)) (.string nb) true).run Tryd.prog (W.alloc (.map um7 7)) = .ok (.tuple #[.agg #[.int .i64 ((j : Int) + 1), .int .u64 mu], .bool true]) (W.alloc (.map um7 7)) := by
  have hb : (W.alloc (.map um7 7)).heap[W.heap.size]? = some (.map um7 7) := (MapKept.heap_alloc W _).1
  subst hn; subst hm
  have : j = 0 ∨ j = 1 ∨ j = 2 ∨ j = 3 ∨ j = 4 ∨ j = 5 ∨ j = 6 := by omega
  rcases this with rfl | rfl | rfl | rfl | rfl | rfl | rfl
  · exact run_look _ _ um7 7 _ _ 6 hb (by kernel_rfl)
  · exact run_look _ _ um7 7 _ _ 5 hb (by kernel_rfl)
  · exact run_look _ _ um7 7 _ _ 4 hb (by kernel_rfl)
  · exact run_look _ _ um7 7 _ _ 3 hb (by kernel_rfl)
  · exact run_look _ _ um7 7 _ _ 2 hb (by kernel_rfl)
  · exact run_look _ _ um7 7 _ _ 1 hb (by kernel_rfl)
  · exact run_look _ _ um7 7 _ _ 0 hb (by kernel_rfl)

theorem not_over {v : Nat} {mu : Int} (h1 : 1 ≤ mu) (h : v * mu ≤ 9223372036854775807) : ¬ ((9223372036854775808 : Int) / mu < v) := by
  intro hlt
  have h2 := Int.lt_mul_ediv_self_add (x := 9223372036854775808) (k := mu) (by omega)
  have h3 : mu * (9223372036854775808 / mu + 1) ≤ mu * (v : Int) := Int.mul_le_mul_of_nonneg_left (by omega) (by omega)
  rw [Int.mul_add, Int.mul_one] at h3
  rw [Int.mul_comm (v : Int) mu] at h
  omega

theorem ret_dur {x y : Int} {v : Value} (h : x = y) : Ending.returned (.tuple #[.int .i64 x, v]) = .returned (.tuple #[.int .i64 y, v]) := by rw [h]

/-- HOW A TEXT IS READ, ROUND BY ROUND: St k sb t q: at a round's head sb is left of the text, t is read, q is the last unit's place, and no unit before k may come. At the end of the text fin is read. -/
def Reads (St : Nat → ByteArray → Int → Int → Prop) (fin : Int) : Prop := ∀ k sb t q, St k sb t q → sb.size ≤ 154 ∧ 0 ≤ t ∧ t ≤ 9223372036854775807 ∧ 0 ≤ q ∧ q ≤ k ∧
  ((sb.toList.isEmpty = true ∧ t = fin) ∨ (sb.toList.isEmpty = false ∧
    ∃ (j n1 n2 v : Nat) (db sb2 nb sb3 : ByteArray), k ≤ j ∧ j < 7 ∧ v ≤ 9223372036854775807 ∧ 1 ≤ n1 ∧ n1 < sb.size ∧ Digits sb n1 ∧ LetterAt sb n1 ∧ sb.extract 0 n1 = db ∧ sb.extract n1 sb.size = sb2 ∧
      1 ≤ n2 ∧ n2 ≤ sb2.size ∧ Letters sb2 n2 ∧ DigitAt sb2 n2 ∧ sb2.extract 0 n2 = nb ∧ sb2.extract n2 sb2.size = sb3 ∧ db = bs (Lib.decDigits v) ∧ nb = bs (nm j) ∧ St (j + 1) sb3 (t + v * (sz j * 1000000)) (j + 1) ∧ sb3.size < sb.size))

set_option maxRecDepth 100000 in
set_option maxHeartbeats 1000000 in
theorem parse_gen (St : Nat → ByteArray → Int → Int → Prop) (fin : Int) (sb0 : ByteArray) (w : World) (hr : Reads St fin) (hs0 : St 0 sb0 0 0) (h48 : (sb0.toList == [48]) = false) (hemp : sb0.toList.isEmpty = false) :
    Calls Tryd.prog 11 #[.string sb0] w fun e w' => e = .returned (.tuple #[.int .i64 fin, .nilIface]) ∧ Below w.heap.size w w' := by
  have HR := Lib.hid hr
  have HS0 := Lib.hid hs0
  clear hr hs0
  go_enter Tryd.func11, Tryd.ntmps11
  go_wp2
  clear h48 hemp
  go_loopw [0, 4, 5] (fun s d p wr => ∃ (k : Nat) (sb : ByteArray) (t q : Int), s = .string sb ∧ d = .int .u64 t ∧ p = .int .i64 q ∧ St k sb t q ∧ Below w.heap.size w wr)
    (fun s _ _ _ => lenOf s)
  case atStart => exact ⟨0, _, _, _, rfl, rfl, rfl, HS0.out, Below.refl _ _⟩
  case round =>
    obtain ⟨k, sb, t, q, rfl, rfl, rfl, hp, hbl⟩ := hrel
    have HBL := Lib.hid hbl
    clear hbl
    obtain ⟨hsz, ht0, ht1, hq0, hq1, hcase⟩ := HR.out k sb t q hp
    clear hp
    rcases hcase with ⟨hemp, hte⟩ | ⟨hemp, j, n1, n2, v, db, sb2, nb, sb3, a1, a2, hcj, a4, a5, a6, a7, a8, a9, b1, b2, b3, b4, b5, b6, b7, b8, b9, b10⟩
    · have HT := Lib.hid hte
      clear hte
      go_wp2
      go_ret2
      exact ⟨ret_dur HT.out, HBL.out⟩
    · have A6 := Lib.hid a6
      have A7 := Lib.hid a7
      have A8 := Lib.hid a8
      have A9 := Lib.hid a9
      have B3 := Lib.hid b3
      have B4 := Lib.hid b4
      have B5 := Lib.hid b5
      have B6 := Lib.hid b6
      have B7 := Lib.hid b7
      have B8 := Lib.hid b8
      have B9 := Lib.hid b9
      clear a6 a7 a8 a9 b3 b4 b5 b6 b7 b8 b9
      have hs0 : 0 < sb.size := by omega
      obtain ⟨z0, z1⟩ := A6.out 0 hs0 (by omega)
      go_wp2_with (go_at_call 16; refine (isdigit_yes _ _ (by assumption) (by assumption)).mono ?_; rintro e w' ⟨rfl, rfl⟩)
      clear z0 z1
      go_loop [6] (fun i => ∃ m : Nat, m ≤ n1 ∧ i = .int .i64 m) (fun i => n1 - (intOf i).toNat)
      case atStart => exact ⟨0, by omega, rfl⟩
      case round =>
        obtain ⟨m, hm, rfl⟩ := hrel
        by_cases hlt : m < n1
        · have hms : m < sb.size := by omega
          obtain ⟨z0, z1⟩ := A6.out m hms hlt
          go_wp2_with (go_at_call 16; refine (isdigit_yes _ _ (by assumption) (by assumption)).mono ?_; rintro e w' ⟨rfl, rfl⟩)
          go_round
          case rel => exact ⟨m + 1, by omega, by go_num⟩
          case measure => simp [intOf]; omega
        · obtain rfl : m = n1 := by omega
          have z0 := A7.out a5
          have x1 := A8.out
          have x2 := A9.out
          go_wp2_with (first
            | (go_at_call 16; refine (isdigit_no _ _ (by assumption)).mono ?_; rintro e w' ⟨rfl, rfl⟩)
            | (go_at_call 17; refine (parseUint_dec v _ _ B7.out hcj).mono ?_; rintro e W1 ⟨rfl, hb1⟩))
          clear z0 x1 x2
          have hb2 : Below w.heap.size w W1 := HBL.out.trans (hb1.mono HBL.out.size)
          have HB2 := Lib.hid hb2
          clear hb1 hb2 HBL
          have hsz2 : sb2.size ≤ 154 := by have e := A9.out; rw [← e]; simp; omega
          go_loop [6] (fun i => ∃ m : Nat, m ≤ n2 ∧ i = .int .i64 m) (fun i => n2 - (intOf i).toNat)
          case atStart => exact ⟨0, by omega, rfl⟩
          case round =>
            obtain ⟨o, ho, rfl⟩ := hrel
            by_cases hlt2 : o < n2
            · have hms : o < sb2.size := by omega
              have z0 := B3.out o hms hlt2
              go_wp2_with (go_at_call 16; refine (isdigit_no _ _ (by assumption)).mono ?_; rintro e w' ⟨rfl, rfl⟩)
              go_round
              case rel => exact ⟨o + 1, by omega, by go_num⟩
              case measure => simp [intOf]; omega
            · obtain rfl : o = n2 := by omega
              have x3 := B5.out
              have x4 := B6.out
              obtain ⟨mu, hmu⟩ : ∃ mu : Int, mu = sz j * 1000000 := ⟨_, rfl⟩
              have hmu1 : 1 ≤ mu := by have := sz_pos j; omega
              obtain ⟨x, hx⟩ : ∃ x : Int, x = v * mu := ⟨_, rfl⟩
              have B9' := B9.out
              rw [← hmu, ← hx] at B9'
              obtain ⟨_, hx1, hx2, _⟩ := HR.out _ _ _ _ B9'
              have hx0 : 0 ≤ x := by rw [hx]; exact Int.mul_nonneg (by omega) (by omega)
              have hover := not_over (v := v) hmu1 (by rw [← hx]; omega)
              have hlk := look_unit W1 j nb mu a2 B8.out hmu
              have hxx : (v : Int) * mu = x := hx.symm
              have B9x := Lib.hid B9'
              clear B9' hx hmu
              by_cases hend : o < sb2.size
              · obtain ⟨z0, z1⟩ := B4.out hend
                go_wp2_with (first
                  | (go_at_call 16; refine (isdigit_yes _ _ (by assumption) (by assumption)).mono ?_; rintro e w' ⟨rfl, rfl⟩)
                  | (go_at_call 18; refine (unitMap_any _).mono ?_; rintro e W2 ⟨rfl, rfl⟩))
                go_roundw
                case rel => exact ⟨j + 1, sb3, t + x, j + 1, rfl, rfl, by go_num, B9x.out, (HB2.out.alloc HB2.out.size _).alloc (Nat.le_trans HB2.out.size (by simp)) _⟩
                case measure => simp [lenOf]; omega
              · go_wp2_with (go_at_call 18; refine (unitMap_any _).mono ?_; rintro e W2 ⟨rfl, rfl⟩)
                go_roundw
                case rel => exact ⟨j + 1, sb3, t + x, j + 1, rfl, rfl, by go_num, B9x.out, (HB2.out.alloc HB2.out.size _).alloc (Nat.le_trans HB2.out.size (by simp)) _⟩
                case measure => simp [lenOf]; omega

theorem reads_suf (c : Nat → Nat) (hmax : tot c 7 * 1000000 ≤ 9223372036854775807) : Reads (fun k sb t q => k ≤ 7 ∧ PAt c k sb t q) (tot c 7 * 1000000) := by
  rintro k sb t q ⟨hk, hp⟩
  obtain ⟨h1, h2⟩ := hp.hi hk hmax
  refine ⟨hp.size hk hmax, h1, h2, hp.2.2.1, hp.2.2.2, ?_⟩
  by_cases hs : suf c k = []
  · exact Or.inl ⟨by rw [ByteArray.toList_eq, hp.1, hs]; rfl, by rw [hp.2.1, suf_nil c (7 - k) k (by omega) hs]⟩
  · refine Or.inr ⟨?_, ?_⟩
    · rw [ByteArray.toList_eq, hp.1]
      cases hs2 : suf c k with
      | nil => exact absurd hs2 hs
      | cons _ _ => simp [bs]
    · obtain ⟨j, n1, n2, db, sb2, nb, sb3, a1, a2, a3, a4, a5, a6, a7, a8, a9, b1, b2, b3, b4, b5, b6, b7, b8, b9, b10⟩ := round_facts hp hk hs
      exact ⟨j, n1, n2, c j, db, sb2, nb, sb3, a1, a2, cnt_le c hmax j a2, a4, a5, a6, a7, a8, a9, b1, b2, b3, b4, b5, b6, b7, b8, ⟨by omega, b9⟩, b10⟩

/-- a text of so many of each unit is read to what they are together, in nanoseconds. -/
theorem parse_any (c : Nat → Nat) (w : World) (hmax : tot c 7 * 1000000 ≤ 9223372036854775807) (hne : suf c 0 ≠ []) :
    Calls Tryd.prog 11 #[.string (bs (suf c 0))] w fun e w' => e = .returned (.tuple #[.int .i64 (tot c 7 * 1000000), .nilIface]) ∧ Below w.heap.size w w' := by
  have hp0 : PAt c 0 (bs (suf c 0)) 0 0 := ⟨rfl, by simp [tot], by omega, by omega⟩
  refine parse_gen _ _ _ w (reads_suf c hmax) ⟨by omega, hp0⟩ ?_ ?_
  · obtain ⟨j, n1, n2, db, sb2, nb, sb3, a1, a2, a3, a4, a5, _⟩ := round_facts hp0 (by omega) hne
    apply beq_eq_false_iff_ne.2
    intro e
    have e2 := congrArg List.length e
    have e3 : (bs (suf c 0)).toList.length = (bs (suf c 0)).size := by rw [ByteArray.toList_eq]; rfl
    rw [e3] at e2
    simp only [List.length_cons, List.length_nil] at e2
    omega
  · rw [ByteArray.toList_eq]
    cases hs : suf c 0 with
    | nil => exact absurd hs hne
    | cons _ _ => simp [bs]

theorem reads_zero : Reads (fun k sb t q => (k = 0 ∧ sb = bs [48, 115] ∧ t = 0 ∧ q = 0) ∨ (k = 6 ∧ sb = bs [] ∧ t = 0 ∧ q = 6)) 0 := by
  rintro k sb t q (⟨rfl, rfl, rfl, rfl⟩ | ⟨rfl, rfl, rfl, rfl⟩)
  · refine ⟨by rw [bs_size]; decide, by omega, by omega, by omega, by omega, Or.inr ⟨by rw [ByteArray.toList_eq]; rfl, ?_⟩⟩
    refine ⟨5, 1, 1, 0, bs [48], bs [115], bs [115], bs [], by omega, by omega, by omega, by omega, by rw [bs_size]; decide, digits_mk [48] [115] (by decide), ?_, bs_take [48] [115], bs_drop [48] [115], by omega, by rw [bs_size]; decide, letters_mk [115] [] (by decide), ?_, bs_take [115] [], bs_drop [115] [], by rw [Lib.decDigits]; rfl, rfl, Or.inr ⟨rfl, rfl, by omega, by omega⟩, by rw [bs_size, bs_size]; decide⟩
    · intro h; rw [bs_get]; show 57 < ((115 : UInt8).toNat : Int); decide
    · intro h; rw [bs_size] at h; simp at h
  · exact ⟨by rw [bs_size]; decide, by omega, by omega, by omega, by omega, Or.inl ⟨by rw [ByteArray.toList_eq]; rfl, rfl⟩⟩

/-- no seconds are nothing. -/
theorem parse_zero (w : World) :
    Calls Tryd.prog 11 #[.string (bs [48, 115])] w fun e w' => e = .returned (.tuple #[.int .i64 0, .nilIface]) ∧ Below w.heap.size w w' := by
  refine parse_gen _ _ _ w reads_zero (Or.inl ⟨rfl, rfl, rfl, rfl⟩) ?_ ?_
  · rw [ByteArray.toList_eq]; rfl
  · rw [ByteArray.toList_eq]; rfl
end Go.Proofs.YtjcmdkfmgmnbhaaDoor
