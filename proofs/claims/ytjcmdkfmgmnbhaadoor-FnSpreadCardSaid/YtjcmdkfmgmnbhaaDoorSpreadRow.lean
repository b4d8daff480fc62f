/- FnSpread's call returns true and changes nothing that was there, whatever the list of bytes that came in. Condition: the list lies in memory as Go lays it. -/
import Derived.Test.YtjcmdkfmgmnbhaaDoorSpreadLaw
import Derived.Test.YtjcmdkfmgmnbhaaDoorLaid
import Derived.ShutString
import Derived.ChangeOld
namespace Go.Proofs.YtjcmdkfmgmnbhaaDoor
open Go.ChangeShapes Go.WideShapes Go.ChangeAt Go.RowKit

/-- what is known of the list that came in. -/
def IsRow (k : IntKind) (w : World) (a : Option Addr) (len cap : Nat) (zs : List Int) : Prop :=
  (a = none ∧ len = 0 ∧ cap = 0 ∧ zs = []) ∨
  ∃ x, a = some x ∧ len ≤ cap ∧ cap ≤ maxLen ∧ zs.length = cap ∧ (∀ i, i < zs.length → w.cell? (x.add i) = some (.int k (zs.getD i 0))) ∧ ∀ n ∈ zs, (Lit.int k n).wf = true

theorem suf_zero : suf (fun _ => 0) 0 = [] := by decide
theorem tot_zero : tot (fun _ => 0) 7 = 0 := by decide

theorem u8_bd {zs : List Int} (h : ∀ n ∈ zs, (Lit.int .u8 n).wf = true) (j : Nat) : 0 ≤ zs.getD j 0 ∧ zs.getD j 0 ≤ 255 := by
  by_cases hj : j < zs.length
  · have hm : zs.getD j 0 ∈ zs := by rw [List.getD, List.getElem?_eq_getElem hj]; exact List.getElem_mem hj
    exact bounds_u8 (h _ hm)
  · rw [List.getD, List.getElem?_eq_none (by omega)]; simp

theorem spread_walk (a : Option Addr) (len cap : Nat) (zs : List Int) (w : World) (h : IsRow .u8 w a len cap zs) :
    Calls Tryd.prog 3 #[.slice a len cap] w fun e w' => e = .returned (.bool true) ∧ Below w.heap.size w w' := by
  by_cases h7 : 7 < len
  · rcases h with ⟨_, rfl, _, _⟩ | ⟨x, _, h1, h2, _⟩
    · omega
    · refine fnSpread_long a len cap w h7 ?_
      unfold maxLen at h2; omega
  · by_cases h0 : len = 0
    · subst h0
      refine fnSpread_of a 0 cap (fun _ => 0) w (by omega) (fun _ => by decide) ?_
      rw [suf_zero, tot_zero]
      exact spread_none a cap w
    · rcases h with ⟨_, rfl, _, _⟩ | ⟨x, rfl, h1, h2, h3, hcell, hwf⟩
      · exact absurd rfl h0
      · obtain ⟨b, off, rfl, hc⟩ := ints_at hcell (by omega)
        have hz := u8_bd hwf
        have hb : b < w.heap.size := Lib.lt_of_cell (hc 0 (by omega))
        refine fnSpread_of _ len cap (cnt zs len) w (by omega) (fun i => ?_) ?_
        · unfold cnt; split
          · have := hz i; omega
          · omega
        · have := spread_some b off len cap zs w hb (fun j hj => hc j (by omega)) hz
          rw [pre_suf] at this
          exact this
end Go.Proofs.YtjcmdkfmgmnbhaaDoor
