/- Plain facts on texts of durations: what is written of so many of each of the seven units, what they are together, and how such a text falls into digits and letters again. No program in this text. Conditions: where a number is bounded, the statement says by what. -/
import Derived.Lib.ItoaNum
import Derived.Lib.ParseIntB
namespace Go.Proofs.YtjcmdkfmgmnbhaaDoor

/-- the units' names, the greatest first. -/
def nm : Nat → List UInt8
  | 0 => [121] | 1 => [119] | 2 => [100] | 3 => [104] | 4 => [109] | 5 => [115] | _ => [109, 115]
/-- the units in milliseconds. -/
def sz : Nat → Nat
  | 0 => 31536000000 | 1 => 604800000 | 2 => 86400000 | 3 => 3600000 | 4 => 60000 | 5 => 1000 | _ => 1
/-- a unit that is written only where nothing is left. -/
def wh : Nat → Bool
  | 0 => true | 1 => true | _ => false

/-- one unit's part. -/
def part (c : Nat → Nat) (k : Nat) : List UInt8 := if c k = 0 then [] else Lib.decDigits (c k) ++ nm k
/-- the first k units' parts. -/
def pre (c : Nat → Nat) : Nat → List UInt8
  | 0 => []
  | k + 1 => pre c k ++ part c k
/-- the first k units together, in milliseconds. -/
def tot (c : Nat → Nat) : Nat → Nat
  | 0 => 0
  | k + 1 => tot c k + c k * sz k
/-- d units' parts from the unit k on. -/
def sufd (c : Nat → Nat) : Nat → Nat → List UInt8
  | 0, _ => []
  | d + 1, k => part c k ++ sufd c d (k + 1)
/-- the parts from the unit k on. -/
def suf (c : Nat → Nat) (k : Nat) : List UInt8 := sufd c (7 - k) k

theorem pre_sufd (c : Nat → Nat) : ∀ d k, pre c (k + d) = pre c k ++ sufd c d k
  | 0, k => by simp [sufd]
  | d + 1, k => by
    have h := pre_sufd c d (k + 1)
    rw [show k + (d + 1) = k + 1 + d from by omega, h]
    simp [pre, sufd]

theorem pre_suf (c : Nat → Nat) : pre c 7 = suf c 0 := by
  have := pre_sufd c 7 0
  simpa [pre, suf] using this

theorem nm_ne (k : Nat) : nm k ≠ [] := by unfold nm; split <;> simp
theorem sz_pos (k : Nat) : 1 ≤ sz k := by unfold sz; split <;> decide
theorem nm_len (k : Nat) : (nm k).length ≤ 2 := by unfold nm; split <;> simp

theorem dec_len : ∀ (k n : Nat), n < 10 ^ (k + 1) → (Lib.decDigits n).length ≤ k + 1
  | 0, n, h => by rw [Lib.decDigits, dif_pos (by simpa using h)]; simp
  | k + 1, n, h => by
    rw [Nat.pow_succ] at h
    rw [Lib.decDigits]
    split
    · simp
    · have := dec_len k (n / 10) (by omega)
      simp only [List.length_append, List.length_cons, List.length_nil]; omega

theorem dec_ne (n : Nat) : Lib.decDigits n ≠ [] := by
  rw [Lib.decDigits]; split <;> simp

theorem part_len (c : Nat → Nat) (k : Nat) (h : c k ≤ 9223372036854775807) : (part c k).length ≤ 22 := by
  unfold part
  split
  · simp
  · have h1 := dec_len 19 (c k) (by omega)
    have h2 := nm_len k
    simp only [List.length_append]; omega

theorem pre_len (c : Nat → Nat) (h : ∀ i, c i ≤ 9223372036854775807) : ∀ k, (pre c k).length ≤ 22 * k
  | 0 => by simp [pre]
  | k + 1 => by
    have h1 := pre_len c h k
    have h2 := part_len c k (h k)
    simp only [pre, List.length_append]; omega

/-! ### What is read of it -/

theorem dec_digit : ∀ (n : Nat) (c : UInt8), c ∈ Lib.decDigits n → 48 ≤ c.toNat ∧ c.toNat ≤ 57 := by
  intro n
  induction n using Nat.strongRecOn with
  | _ n ih =>
    intro c hc
    rw [Lib.decDigits] at hc
    split at hc
    · rename_i h
      simp only [List.mem_singleton] at hc
      subst hc
      rw [UInt8.toNat_ofNat']
      omega
    · rename_i h
      rcases List.mem_append.1 hc with h1 | h1
      · exact ih (n / 10) (by omega) c h1
      · simp only [List.mem_singleton] at h1
        subst h1
        rw [UInt8.toNat_ofNat']
        omega

theorem nm_letter (k : Nat) (c : UInt8) (h : c ∈ nm k) : 57 < c.toNat := by
  unfold nm at h
  split at h <;> simp at h <;> (first | (subst h; decide) | (rcases h with rfl | rfl <;> decide))

theorem parse_snoc (M : Nat) (c : UInt8) (hc : 48 ≤ c.toNat ∧ c.toNat ≤ 57) : ∀ (l : List UInt8) (acc u : Nat), Lib.parseUintM M acc l = .ok u → u < 1844674407370955162 → u * 10 + (c.toNat - 48) ≤ M →
    Lib.parseUintM M acc (l ++ [c]) = .ok (u * 10 + (c.toNat - 48))
  | [], acc, u, h, h1, h2 => by
    simp only [Lib.parseUintM, Lib.NumEnd.ok.injEq] at h
    subst h
    simp only [List.nil_append, Lib.parseUintM]
    rw [if_pos hc, if_neg (by omega), if_neg (by omega)]
  | d :: r, acc, u, h, h1, h2 => by
    simp only [Lib.parseUintM] at h
    simp only [List.cons_append, Lib.parseUintM]
    split at h
    · rename_i hd
      rw [if_pos hd]
      split at h
      · cases h
      · rename_i ha
        rw [if_neg ha]
        split at h
        · cases h
        · rename_i hb
          rw [if_neg hb]
          exact parse_snoc M c hc r _ u h h1 h2
    · cases h

theorem parse_dec (M : Nat) (hM : 9 ≤ M) : ∀ (n : Nat), n ≤ M → n ≤ 18446744073709551615 → Lib.parseUintM M 0 (Lib.decDigits n) = .ok n := by
  intro n
  induction n using Nat.strongRecOn with
  | _ n ih =>
    intro h1 h2
    rw [Lib.decDigits]
    split
    · rename_i h
      have e : (UInt8.ofNat (48 + n)).toNat = 48 + n := by rw [UInt8.toNat_ofNat']; omega
      simp only [Lib.parseUintM, e]
      rw [if_pos (by omega), if_neg (by omega), if_neg (by omega)]
      congr 1; omega
    · rename_i h
      have e : (UInt8.ofNat (48 + n % 10)).toNat = 48 + n % 10 := by rw [UInt8.toNat_ofNat']; omega
      have hp := parse_snoc M (UInt8.ofNat (48 + n % 10)) (by rw [e]; omega) (Lib.decDigits (n / 10)) 0 (n / 10) (ih (n / 10) (by omega) (by omega) (by omega)) (by omega) (by rw [e]; omega)
      rw [hp, e]
      congr 1; omega

theorem parse_ok (n : Nat) (h : n ≤ 18446744073709551615) : Lib.parseUintB 64 (Lib.decDigits n) = .ok n := by
  unfold Lib.parseUintB
  rw [if_neg (dec_ne n)]
  exact parse_dec _ (by decide) n (by omega) h

theorem suf_step (c : Nat → Nat) (k : Nat) (hk : k < 7) : suf c k = part c k ++ suf c (k + 1) := by
  unfold suf
  obtain ⟨d, hd⟩ : ∃ d, 7 - k = d + 1 := ⟨7 - k - 1, by omega⟩
  rw [hd, show 7 - (k + 1) = d from by omega]
  rfl
theorem suf_end (c : Nat → Nat) : suf c 7 = [] := rfl

/-- WHAT STANDS FIRST IN THE REST OF A TEXT. -/
theorem suf_split (c : Nat → Nat) : ∀ (d k : Nat), k + d = 7 → suf c k ≠ [] →
    ∃ j, k ≤ j ∧ j < 7 ∧ 0 < c j ∧ suf c k = Lib.decDigits (c j) ++ (nm j ++ suf c (j + 1)) ∧ tot c j = tot c k
  | 0, k, hk, h => by
    obtain rfl : k = 7 := by omega
    exact absurd (suf_end c) h
  | d + 1, k, hk, h => by
    have hs := suf_step c k (by omega)
    by_cases h0 : c k = 0
    · have e : suf c k = suf c (k + 1) := by rw [hs]; simp [part, h0]
      rw [e] at h
      obtain ⟨j, j1, j2, j3, j4, j5⟩ := suf_split c d (k + 1) (by omega) h
      refine ⟨j, by omega, j2, j3, by rw [e]; exact j4, ?_⟩
      rw [j5]; simp [tot, h0]
    · refine ⟨k, Nat.le_refl _, by omega, by omega, ?_, rfl⟩
      rw [hs]; simp [part, h0]

/-- .. and it opens with a digit. -/
theorem suf_head (c : Nat → Nat) (k : Nat) (hk : k ≤ 7) (x : UInt8) (h : (suf c k).head? = some x) : 48 ≤ x.toNat ∧ x.toNat ≤ 57 := by
  have hne : suf c k ≠ [] := by intro e; rw [e] at h; cases h
  obtain ⟨j, _, _, _, e, _⟩ := suf_split c (7 - k) k (by omega) hne
  rw [e] at h
  refine dec_digit (c j) x ?_
  cases hd : Lib.decDigits (c j) with
  | nil => exact absurd hd (dec_ne _)
  | cons y r =>
    rw [hd] at h
    simp only [List.cons_append, List.head?_cons, Option.some.injEq] at h
    subst h
    exact List.mem_cons_self

theorem tot_mono (c : Nat → Nat) (k : Nat) : ∀ d, tot c k ≤ tot c (k + d)
  | 0 => Nat.le_refl _
  | d + 1 => Nat.le_trans (tot_mono c k d) (by show tot c (k + d) ≤ tot c (k + d) + _; omega)
theorem tot_at (c : Nat → Nat) (j : Nat) (hj : j < 7) : tot c j + c j * sz j ≤ tot c 7 := by
  have := tot_mono c (j + 1) (7 - (j + 1))
  rw [show j + 1 + (7 - (j + 1)) = 7 from by omega] at this
  exact this
end Go.Proofs.YtjcmdkfmgmnbhaaDoor
