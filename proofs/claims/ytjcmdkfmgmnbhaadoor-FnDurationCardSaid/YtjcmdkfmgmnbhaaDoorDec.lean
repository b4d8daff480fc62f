/- Decimal of a whole number writes its decimal digits, and changes nothing. Condition: the number is from 0 to the greatest int64. -/
import Derived.Test.YtjcmdkfmgmnbhaaDoorSmall
namespace Go.Proofs.YtjcmdkfmgmnbhaaDoor
open Go.RowKit

theorem ret_str {a b : ByteArray} (h : a = b) : Ending.returned (.string a) = .returned (.string b) := by rw [h]

def decI (z : Int) : ByteArray := ⟨(Lib.decDigits z.toNat).toArray⟩

theorem decDigits_len : ∀ (k n : Nat), n < 10 ^ (k + 1) → (Lib.decDigits n).length ≤ k + 1
  | 0, n, h => by rw [Lib.decDigits, dif_pos (by simpa using h)]; simp
  | k + 1, n, h => by
    rw [Nat.pow_succ] at h
    rw [Lib.decDigits]
    split
    · simp
    · have := decDigits_len k (n / 10) (by omega)
      simp only [List.length_append, List.length_cons, List.length_nil]; omega

theorem decI_size (z : Int) (h : z ≤ 9223372036854775807) : (decI z).size ≤ 20 := by
  have h1 := decDigits_len 19 z.toNat (by omega)
  have h2 : (decI z).size = (Lib.decDigits z.toNat).length := by simp [decI, ByteArray.size]
  omega

theorem small_eq (z : Int) (h0 : 0 ≤ z) (h1 : z < 10) : (⟨#[48, 49, 50, 51, 52, 53, 54, 55, 56, 57]⟩ : ByteArray).extract z.toNat (z + 1).toNat = decI z := by
  obtain ⟨n, rfl⟩ : ∃ n : Nat, z = n := ⟨z.toNat, by omega⟩
  have hn : n < 10 := by omega
  have : n = 0 ∨ n = 1 ∨ n = 2 ∨ n = 3 ∨ n = 4 ∨ n = 5 ∨ n = 6 ∨ n = 7 ∨ n = 8 ∨ n = 9 := by omega
  rcases this with rfl | rfl | rfl | rfl | rfl | rfl | rfl | rfl | rfl | rfl <;> (unfold decI Lib.decDigits; rfl)

theorem big_eq (z : Int) (h : 10 ≤ z) : decI (z / 10) ++ decI (z % 10) = decI z := by
  obtain ⟨n, rfl⟩ : ∃ n : Nat, z = n := ⟨z.toNat, by omega⟩
  have e1 : ((n : Int) / 10).toNat = n / 10 := by omega
  have e2 : ((n : Int) % 10).toNat = n % 10 := by omega
  unfold decI
  rw [e1, e2]
  have e3 : Lib.decDigits ((n : Int).toNat) = Lib.decDigits (n / 10) ++ Lib.decDigits (n % 10) := by
    have : (n : Int).toNat = n := by omega
    rw [this]
    rw [Lib.decDigits, dif_neg (by omega), Lib.decDigits.eq_1 (n % 10), dif_pos (by omega)]
  rw [e3]
  apply ByteArray.ext
  simp

set_option maxHeartbeats 400000 in
theorem decimal_small (z : Int) (w : World) (h0 : 0 ≤ z) (h1 : z < 10) :
    Calls Tryd.prog 10 #[.int .i64 z] w fun e w' => e = .returned (.string (decI z)) ∧ w = w' := by
  go_enter Tryd.func10, Tryd.ntmps10
  go_wp2_with fail
  go_ret
  exact ⟨ret_str (small_eq z h0 h1), rfl⟩

set_option maxHeartbeats 400000 in
theorem decimal_up (k : Nat) : ∀ (z : Int) (w : World), 0 ≤ z → z ≤ k → z ≤ 9223372036854775807 →
    Calls Tryd.prog 10 #[.int .i64 z] w fun e w' => e = .returned (.string (decI z)) ∧ w = w' := by
  induction k with
  | zero => intro z w h0 hk _; exact decimal_small z w h0 (by omega)
  | succ k ih =>
    intro z w h0 hk hm
    by_cases h1 : z < 10
    · exact decimal_small z w h0 h1
    · have s1 := decI_size (z / 10) (by omega)
      have s2 := decI_size (z % 10) (by omega)
      go_enter Tryd.func10, Tryd.ntmps10
      go_wp2_with fail
      refine (ih _ _ (by omega) (by omega) (by omega)).mono ?_
      rintro e w' ⟨rfl, rfl⟩
      go_wp2_with fail
      refine (decimal_small _ _ (by omega) (by omega)).mono ?_
      rintro e w' ⟨rfl, rfl⟩
      go_wp2_with fail
      go_ret
      exact ⟨ret_str (big_eq z (by omega)), rfl⟩

theorem decimal_any (z : Int) (w : World) (h0 : 0 ≤ z) (h1 : z ≤ 9223372036854775807) :
    Calls Tryd.prog 10 #[.int .i64 z] w fun e w' => e = .returned (.string (decI z)) ∧ w = w' := decimal_up z.toNat z w h0 (by omega) h1
end Go.Proofs.YtjcmdkfmgmnbhaaDoor
