/-
  The loop 'for i := 0; i < len(data); i++ { c[i] = data[i] }' over a row that the call itself made, as functions 3 and 8 have it: what its rounds keep. No Go function is walked here.
-/
import Derived.Test.YoedowRows
import Derived.WalkKit
import Derived.OwnWalk
import Derived.Below
namespace Go.Proofs.Yoedow
open Go.RowKit

theorem info5 : (Edog.prog.info? 5).map (fun i => (i.zero, i.size, i.bytes)) = some (some (.int .u8 0), 1, 1) := by kernel_rfl
theorem hide {p : Prop} (h : p) : Hid p := h

/-- What the copying loop keeps: the new row is the call's own, old memory stands, and once a byte is copied the first cell is the first byte. -/
structure Kept (w wr : World) (len k : Nat) (z : Int) : Prop where
  own : ∃ xs, wr.ownsRow w.heap.size 5 1 (.slice (some ⟨w.heap.size, 0, none⟩) len len) len xs ∧ (0 < k → xs[0]? = some (.int .u8 z))
  below : Below w.heap.size w wr

theorem Kept.there {w wr : World} {len k : Nat} {z : Int} (h : Kept w wr len k z) (j : Nat) (hj : j < len) : ∃ u, wr.cell? ⟨w.heap.size, j, none⟩ = some u := by
  obtain ⟨xs, hx, _⟩ := h.own
  have hl := hx.1
  exact ⟨xs[j]'(by omega), by rw [hx.cellAt j (by omega)]; simp⟩
theorem Kept.unfrozen {w wr : World} {len k : Nat} {z : Int} (h : Kept w wr len k z) (j : Nat) : wr.frozen? ⟨w.heap.size, j, none⟩ = false := by
  obtain ⟨xs, hx, _⟩ := h.own
  exact hx.frozenAt j
theorem Kept.headByte {w wr : World} {len k : Nat} {z : Int} (h : Kept w wr len k z) (hk : 0 < k) (hl : 0 < len) : wr.cell? ⟨w.heap.size, 0, none⟩ = some (.int .u8 z) := by
  obtain ⟨xs, hx, h0⟩ := h.own
  rw [hx.cellAt 0 (by omega)]
  exact h0 hk
theorem Kept.step {w wr : World} {len k : Nat} {z y : Int} (h : Kept w wr len k z) (hk : k < len) (h0 : k = 0 → y = z) : Kept w (wr.setCell ⟨w.heap.size, k, none⟩ (.int .u8 y)) len (k + 1) z := by
  obtain ⟨xs, hx, hf⟩ := h.own
  refine ⟨⟨_, (hx.stored k _).1, fun _ => ?_⟩, h.below.setCell (Nat.le_refl _) _⟩
  have hl := hx.1
  by_cases e : k = 0
  · subst e
    rw [List.getElem?_set_self (by omega), h0 rfl]
  · rw [List.getElem?_set_ne (by omega)]
    exact hf (by omega)
end Go.Proofs.Yoedow
