/-
  Contracts of the callees that the laws of this seat share: ZZnewBool (10), ZZboolEquals (15) at one and the same pointer, and at two different blocks.
-/
import Derived.Test.YoedowRows
import Derived.WalkKit
import Derived.LaidEql
namespace Go.Proofs.Yoedow
open Go.RowKit

theorem Edog.comparable24 : (Edog.prog.info? 24).map (fun i => i.comparable) = some true := by kernel_rfl
theorem Edog.size39 : (Edog.prog.info? 39).map (fun i => i.size) = some 1 := by kernel_rfl
theorem some_of_map {α β : Type} {f : α → β} {x : Option α} {b : β} (h : x.map f = some b) : ∃ i, x = some i ∧ f i = b := by
  cases x with
  | none => simp at h
  | some i => exact ⟨i, rfl, by simpa using h⟩

/-- ZZnewBool: a new block of one cell. -/
theorem newBool (v : Bool) (w : World) :
    Calls Edog.prog 10 #[.bool v] w fun e w' => e = .returned (.pointer (some ⟨w.heap.size, 0, none⟩)) ∧ w' = w.alloc (.cells #[.bool v] 39) := by
  go_enter Edog.func10, Edog.ntmps10
  go_wp2
  go_ret
  exact ⟨rfl, rfl⟩

/-- A Bool equals itself. -/
theorem equals_same (a : Addr) (w : World) :
    Calls Edog.prog 15 #[.pointer (some a), .pointer (some a)] w fun e w' => e = .returned (.bool true) ∧ w' = w := by
  obtain ⟨ip, hip, hcp⟩ := some_of_map Edog.comparable24
  obtain ⟨ib, hib, hsb⟩ := some_of_map Edog.size39
  have heq := run_eql_iface_ptr_same (P := Edog.prog) w a Edog.underlying42 Edog.underlying24 hip hcp hib
  clear hip hcp hib hsb
  go_enter Edog.func15, Edog.ntmps15
  go_wp2
  go_ret
  exact ⟨rfl, rfl⟩

/-- Two Bools in two blocks are not equal, whatever they hold. -/
theorem equals_other (a b : Addr) (w : World) (ca cb : Array Value) (ta tb : TypeId) (hne : a ≠ b) (ha : w.heap[a.block]? = some (.cells ca ta (0, 0))) (hb : w.heap[b.block]? = some (.cells cb tb (0, 0))) :
    Calls Edog.prog 15 #[.pointer (some a), .pointer (some b)] w fun e w' => e = .returned (.bool false) ∧ w' = w := by
  obtain ⟨ip, hip, hcp⟩ := some_of_map Edog.comparable24
  obtain ⟨ib, hib, hsb⟩ := some_of_map Edog.size39
  have heq := run_eql_iface_ptr_other (P := Edog.prog) w Edog.underlying42 Edog.underlying24 hip hcp hib (by rw [hsb]; decide) hne ha hb
  clear hip hcp hib hsb hne ha hb
  go_enter Edog.func15, Edog.ntmps15
  go_wp2
  go_ret
  exact ⟨rfl, rfl⟩

/-- Two blocks laid one behind the other. -/
theorem two_laid (W : World) (x y : Obj) : ((W.alloc x).alloc y).heap[W.heap.size]? = some x ∧ ((W.alloc x).alloc y).heap[W.heap.size + 1]? = some y := by
  constructor
  · show ((W.heap.push x).push y)[W.heap.size]? = _
    simp [Array.getElem?_push]
  · show ((W.heap.push x).push y)[W.heap.size + 1]? = _
    rw [Array.getElem?_push, if_pos (by simp)]
end Go.Proofs.Yoedow
