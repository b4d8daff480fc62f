/- unitMap makes the map of the seven units, and a look-up in it finds each unit's place and length. Conditions: none for the making; for the look-up that the map's block holds these entries. -/
import Derived.Test.YtjcmdkfmgmnbhaaDoorSmall
import Derived.MapKept
import Derived.Maps.Own
namespace Go.Proofs.YtjcmdkfmgmnbhaaDoor
open Go.RowKit

def ue (k : ByteArray) (p m : Int) (c : Nat) : MapEntry := { key := .string k, val := .agg #[.int .i64 p, .int .u64 m], born := c }
def um1 : Array MapEntry := #[ue ⟨#[109, 115]⟩ 7 1000000 0]
def um2 : Array MapEntry := um1.push (ue ⟨#[115]⟩ 6 1000000000 1)
def um3 : Array MapEntry := um2.push (ue ⟨#[109]⟩ 5 60000000000 2)
def um4 : Array MapEntry := um3.push (ue ⟨#[104]⟩ 4 3600000000000 3)
def um5 : Array MapEntry := um4.push (ue ⟨#[100]⟩ 3 86400000000000 4)
def um6 : Array MapEntry := um5.push (ue ⟨#[119]⟩ 2 604800000000000 5)
def um7 : Array MapEntry := um6.push (ue ⟨#[121]⟩ 1 31536000000000000 6)

theorem set_push_last {α : Type} (a : Array α) (x y : α) : (a.push x).setIfInBounds a.size y = a.push y := by
  apply Array.ext
  · simp
  · intro i h1 h2
    rw [Array.getElem_setIfInBounds (by simpa using h2)]
    rw [Array.getElem_push, Array.getElem_push]
    by_cases e : a.size = i
    · rw [if_pos e, dif_neg (by omega)]
    · rw [if_neg e]
      have : i < a.size := by simp at h2; omega
      rw [dif_pos this, dif_pos this]

theorem run_put (w : World) (es : Array MapEntry) (c : Nat) (k : ByteArray) (v : Value) (hf : Instr.findNow .string (.string k) es.toList 0 = some none) :
    (Instr.mapUpdate 50 (.map (some w.heap.size)) (.string k) v).run Tryd.prog (w.alloc (.map es c)) = .ok () (w.alloc (.map (es.push { key := .string k, val := v, born := c }) (c + 1))) := by
  have hb : (w.alloc (.map es c)).heap[w.heap.size]? = some (.map es c) := (MapKept.heap_alloc w _).1
  have hfk := MapKept.run_findKey (w := w.alloc (.map es c)) Tryd.underlying9 hf
  have hck := fun n => MapKept.run_checkKey (w := w.alloc (.map es c)) (k := .string k) Tryd.underlying9 (by trivial) false n
  have hset : ({ (w.alloc (.map es c)) with heap := (w.alloc (.map es c)).heap.setIfInBounds w.heap.size (.map (es.push { key := .string k, val := v, born := c }) (c + 1)) } : World) = w.alloc (.map (es.push { key := .string k, val := v, born := c }) (c + 1)) := by
    simp [World.alloc, -World.alloc_eq, set_push_last]
  simp [Instr.mapUpdate, run_underlying Tryd.underlying50, MapKept.run_getObj_map hb, hck, hfk, MapKept.run_setObj_map _ hb, Result.andThen]
  exact hset

theorem run_look (w : World) (b : Nat) (es : Array MapEntry) (c : Nat) (k : ByteArray) (v : Value) (i : Nat) (hb : w.heap[b]? = some (.map es c)) (hf : Instr.findNow .string (.string k) es.toList 0 = some (some (i, v))) :
    (Instr.lookup 50 (.map (some b)) (.string k) true).run Tryd.prog w = .ok (.tuple #[v, .bool true]) w := by
  have hfk := MapKept.run_findKey (w := w) Tryd.underlying9 hf
  have hck := fun e n => MapKept.run_checkKey (w := w) (k := .string k) Tryd.underlying9 (by trivial) e n
  simp [Instr.lookup, run_underlying Tryd.underlying50, MapKept.run_getObj_map hb, hck, hfk, Result.andThen]

set_option maxHeartbeats 1000000 in
theorem unitMap_any (w : World) :
    Calls Tryd.prog 18 #[] w fun e w' => e = .returned (.map (some w.heap.size)) ∧ w' = w.alloc (.map um7 7) := by
  have hmm := @run_makeMap Tryd.prog
  have p1 : (Instr.mapUpdate 50 (.map (some w.heap.size)) (.string ⟨#[109, 115]⟩) (.agg #[.int .i64 7, .int .u64 1000000])).run Tryd.prog (w.alloc (.map #[] 0)) = .ok () (w.alloc (.map um1 1)) := run_put w _ _ _ _ (by kernel_rfl)
  have p2 : (Instr.mapUpdate 50 (.map (some w.heap.size)) (.string ⟨#[115]⟩) (.agg #[.int .i64 6, .int .u64 1000000000])).run Tryd.prog (w.alloc (.map um1 1)) = .ok () (w.alloc (.map um2 2)) := run_put w _ _ _ _ (by kernel_rfl)
  have p3 : (Instr.mapUpdate 50 (.map (some w.heap.size)) (.string ⟨#[109]⟩) (.agg #[.int .i64 5, .int .u64 60000000000])).run Tryd.prog (w.alloc (.map um2 2)) = .ok () (w.alloc (.map um3 3)) := run_put w _ _ _ _ (by kernel_rfl)
  have p4 : (Instr.mapUpdate 50 (.map (some w.heap.size)) (.string ⟨#[104]⟩) (.agg #[.int .i64 4, .int .u64 3600000000000])).run Tryd.prog (w.alloc (.map um3 3)) = .ok () (w.alloc (.map um4 4)) := run_put w _ _ _ _ (by kernel_rfl)
  have p5 : (Instr.mapUpdate 50 (.map (some w.heap.size)) (.string ⟨#[100]⟩) (.agg #[.int .i64 3, .int .u64 86400000000000])).run Tryd.prog (w.alloc (.map um4 4)) = .ok () (w.alloc (.map um5 5)) := run_put w _ _ _ _ (by kernel_rfl)
  have p6 : (Instr.mapUpdate 50 (.map (some w.heap.size)) (.string ⟨#[119]⟩) (.agg #[.int .i64 2, .int .u64 604800000000000])).run Tryd.prog (w.alloc (.map um5 5)) = .ok () (w.alloc (.map um6 6)) := run_put w _ _ _ _ (by kernel_rfl)
  have p7 : (Instr.mapUpdate 50 (.map (some w.heap.size)) (.string ⟨#[121]⟩) (.agg #[.int .i64 1, .int .u64 31536000000000000])).run Tryd.prog (w.alloc (.map um6 6)) = .ok () (w.alloc (.map um7 7)) := run_put w _ _ _ _ (by kernel_rfl)
  go_enter Tryd.func18, Tryd.ntmps18
  go_wp2
  go_ret
  exact ⟨rfl, rfl⟩
end Go.Proofs.YtjcmdkfmgmnbhaaDoor
