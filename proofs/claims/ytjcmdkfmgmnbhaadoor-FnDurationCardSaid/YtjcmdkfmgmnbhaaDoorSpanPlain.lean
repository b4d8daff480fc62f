/- Plain facts: there are counts of the seven units, the greatest first, years and weeks only where nothing is left, that together are a given number of milliseconds. No program in this text; no condition. -/
import Derived.Test.YtjcmdkfmgmnbhaaDoorPlain
namespace Go.Proofs.YtjcmdkfmgmnbhaaDoor

/-- so many of the unit k out of r milliseconds. -/
def take (k r : Nat) : Nat := if wh k = true ∧ r % sz k ≠ 0 then 0 else r / sz k
/-- what is left before the unit k. -/
def remn (ms : Nat) : Nat → Nat
  | 0 => ms
  | k + 1 => remn ms k - take k (remn ms k) * sz k
/-- so many of the unit k. -/
def spc (ms k : Nat) : Nat := take k (remn ms k)

theorem take_le (k r : Nat) : take k r * sz k ≤ r := by
  unfold take
  split
  · simp
  · exact Nat.div_mul_le_self r (sz k)
theorem take_le' (k r : Nat) : take k r ≤ r := by
  have h1 := take_le k r
  have h2 : take k r * 1 ≤ take k r * sz k := Nat.mul_le_mul (Nat.le_refl _) (sz_pos k)
  omega

theorem tot_rem (ms : Nat) : ∀ k, tot (spc ms) k + remn ms k = ms
  | 0 => by simp [tot, remn]
  | k + 1 => by
    have h1 := tot_rem ms k
    have h2 := take_le k (remn ms k)
    simp only [tot, remn, spc] at h1 ⊢
    omega

theorem rem_succ (ms k : Nat) : remn ms (k + 1) = remn ms k - take k (remn ms k) * sz k := by simp only [remn]

theorem take_last (r : Nat) : take 6 r * sz 6 = r := by
  have h1 : sz 6 = 1 := rfl
  have h2 : wh 6 = false := rfl
  unfold take
  rw [h1, h2, if_neg (by simp)]
  simp

theorem rem_last (ms k : Nat) (h : ∀ r, take k r * sz k = r) : remn ms (k + 1) = 0 := by
  rw [rem_succ, h, Nat.sub_self]

theorem rem_six (ms k : Nat) (hk : k = 6) : remn ms (k + 1) = 0 := by
  subst hk
  exact rem_last ms _ take_last
theorem rem_seven (ms k : Nat) (hk : k = 7) : remn ms k = 0 := by
  obtain ⟨j, rfl⟩ : ∃ j, k = j + 1 := ⟨k - 1, by omega⟩
  exact rem_six ms j (by omega)

theorem sum_zero {a b n : Nat} (h : a + b = n) (hb : b = 0) : a = n := by omega

theorem sum_le {a b n : Nat} (h : a + b = n) : b ≤ n := by omega

theorem take_yes {k r : Nat} (h : wh k = false ∨ r % sz k = 0) : take k r = r / sz k := by
  unfold take
  rw [if_neg]
  rintro ⟨h1, h2⟩
  rcases h with h | h
  · rw [h1] at h; cases h
  · exact h2 h
theorem take_no {k r : Nat} (h1 : wh k = true) (h2 : r % sz k ≠ 0) : take k r = 0 := by
  unfold take; rw [if_pos ⟨h1, h2⟩]

/-- c k of the unit k, r k left before it: what a duration of ms milliseconds is written with. -/
structure IsSpan (ms : Nat) (c r : Nat → Nat) : Prop where
  first : r 0 = ms
  next : ∀ k, r (k + 1) = r k - c k * sz k
  yes : ∀ k, wh k = false ∨ r k % sz k = 0 → c k = r k / sz k
  no : ∀ k, wh k = true → r k % sz k ≠ 0 → c k = 0
  fits : ∀ k, c k * sz k ≤ r k
  below : ∀ k, r k ≤ ms
  all : tot c 7 = ms

theorem exists_span (ms : Nat) : ∃ c r, IsSpan ms c r :=
  ⟨spc ms, remn ms, {
    first := rfl
    next := fun k => rem_succ ms k
    yes := fun _ h => take_yes h
    no := fun _ h1 h2 => take_no h1 h2
    fits := fun k => take_le k (remn ms k)
    below := fun k => sum_le (tot_rem ms k)
    all := sum_zero (tot_rem ms 7) (rem_seven ms 7 rfl) }⟩

theorem IsSpan.count {ms : Nat} {c r : Nat → Nat} (h : IsSpan ms c r) (k : Nat) : c k ≤ ms := by
  have h1 := h.fits k
  have h2 := h.below k
  have h3 : c k * 1 ≤ c k * sz k := Nat.mul_le_mul (Nat.le_refl _) (sz_pos k)
  omega
end Go.Proofs.YtjcmdkfmgmnbhaaDoor
