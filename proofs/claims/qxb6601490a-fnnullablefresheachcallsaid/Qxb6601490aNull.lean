/- FnNullableFreshEachCall: the walk. -/
import Derived.Test.Qxb6601490aProg
import Derived.WalkKit
import Derived.WalkSpells
import Derived.WalkLawsBesides
import Derived.LaidEqlPtr
namespace Go.Proofs.Qxb6601490a
set_option linter.unusedVariables false
open Go.RowKit

set_option maxHeartbeats 1000000 in
theorem null_long (a0 : ByteArray) (w : World) (h : 1048576 < a0.size) (hm : a0.size ≤ 9223372036854775807) :
    Calls Try.prog 3 #[.string a0] w fun e w' => e = .returned (.bool true) ∧ Grown w w' := by
  go_enter Try.func3, Try.ntmps3
  go_wp2
  go_ret
  exact ⟨rfl, Grown.refl _⟩

set_option maxHeartbeats 1000000 in
theorem null_empty (w : World) :
    Calls Try.prog 3 #[.string ByteArray.empty] w fun e w' => e = .returned (.bool true) ∧ Grown w w' := by
  go_enter Try.func3, Try.ntmps3
  go_wp2
  go_ret
  exact ⟨rfl, by repeat (first | exact Grown.refl _ | apply Grown.drew | apply Grown.alloc)⟩

theorem Try.info9 : (Try.prog.info? 9).map (fun i => i.size) = some 1 := by kernel_rfl

theorem eql_two (a0 : ByteArray) (w : World) :
    (binOp .eql 23 (.pointer (some ⟨w.heap.size, 0, none⟩)) (.pointer (some ⟨w.heap.size + 1, 0, none⟩))).run Try.prog ((w.alloc (.cells #[.string a0] 9)).alloc (.cells #[.string a0] 9)) = .ok (.bool false) ((w.alloc (.cells #[.string a0] 9)).alloc (.cells #[.string a0] 9)) := by
  obtain ⟨j, hj, hs⟩ := Option.map_eq_some_iff.1 Try.info9
  refine run_eql_ptr_other (P := Try.prog) _ (a := ⟨w.heap.size, 0, none⟩) (b := ⟨w.heap.size + 1, 0, none⟩) (ca := #[.string a0]) (cb := #[.string a0]) (ta := 9) (tb := 9) Try.underlying23 hj (by omega) (by simp) ?_ ?_
  · show ((w.alloc (.cells #[.string a0] 9)).alloc (.cells #[.string a0] 9)).heap[w.heap.size]? = _
    rw [Below.heap_alloc _ _ _ (by simp), heap_alloc_new]
  · have := heap_alloc_new (w.alloc (.cells #[.string a0] 9)) (.cells #[.string a0] 9)
    simpa using this

set_option maxHeartbeats 1000000 in
theorem null_some (a0 : ByteArray) (w : World) (h : a0.size ≤ 1048576) (he : a0.toList.isEmpty = false) :
    Calls Try.prog 3 #[.string a0] w fun e w' => e = .returned (.bool true) ∧ Grown w w' := by
  have heq := eql_two a0 w
  go_enter Try.func3, Try.ntmps3
  go_wp2
  go_ret
  exact ⟨rfl, by repeat (first | exact Grown.refl _ | apply Grown.drew | apply Grown.alloc)⟩

theorem empty_of (a0 : ByteArray) (h : a0.toList.isEmpty = true) : a0 = ByteArray.empty := by
  have h1 : a0.data.toList = [] := by
    rw [← ByteArray.toList_eq]; simpa using h
  have h2 : a0.data = #[] := by simpa using h1
  exact ByteArray.ext h2

theorem null_any (a0 : ByteArray) (w : World) (hm : a0.size ≤ 9223372036854775807) :
    Calls Try.prog 3 #[.string a0] w fun e w' => e = .returned (.bool true) ∧ Grown w w' := by
  by_cases h : 1048576 < a0.size
  · exact null_long a0 w h hm
  · cases he : a0.toList.isEmpty with
    | true => rw [empty_of a0 he]; exact null_empty w
    | false => exact null_some a0 w (by omega) he
end Go.Proofs.Qxb6601490a
