/-
  The walks of FnBoolEqualsIgnoresValue (function 8): too long a slice, an empty one, and one of 1 to 1048576 bytes.
-/
import Derived.Test.YoedowCopy
import Derived.Test.YoedowCallees
namespace Go.Proofs.Yoedow.ignores
open Go.RowKit

/-- Longer than 1048576: true at once. -/
theorem walk_long (a : Option Addr) (len cap : Nat) (s : Bool) (w : World) (hl : 1048576 < (len : Int)) :
    Calls Edog.prog 8 #[.slice a len cap, .bool s] w fun e w' => e = .returned (.bool true) ∧ Below w.heap.size w w' := by
  go_enter Edog.func8, Edog.ntmps8
  go_wp2
  go_ret
  exact ⟨rfl, Below.refl _ _⟩

/-- Empty: true at once. -/
theorem walk_empty (a : Option Addr) (cap : Nat) (s : Bool) (w : World) :
    Calls Edog.prog 8 #[.slice a 0 cap, .bool s] w fun e w' => e = .returned (.bool true) ∧ Below w.heap.size w w' := by
  go_enter Edog.func8, Edog.ntmps8
  go_wp2
  go_ret
  exact ⟨rfl, Below.refl _ _⟩

set_option maxHeartbeats 1000000 in
theorem walk_some (b off len cap : Nat) (Z : Nat → Int) (s : Bool) (w : World) (h0 : 0 < len) (h1 : len ≤ 1048576) (hb : b < w.heap.size) (hc : ∀ i, i < len → w.cell? ⟨b, off + i, none⟩ = some (.int .u8 (Z i))) :
    Calls Edog.prog 8 #[.slice (some ⟨b, off, none⟩) len cap, .bool s] w fun e w' => e = .returned (.bool true) ∧ Below w.heap.size w w' := by
  obtain ⟨i0, hi, hz0, hz1, hz2⟩ := info_parts info5
  have HC := hide hc
  clear hc
  go_enter Edog.func8, Edog.ntmps8
  go_wp2_with (first | (at_make; refine wpList_make_full _ rfl _ _ 22 rfl w.heap.size 5 i0 (.int .u8 0) 1 Edog.underlying22 hi hz0 hz1 _ _ _ _ len rfl rfl rfl rfl (by rw [hz2]; omega) (by unfold maxLen; omega) (Nat.le_refl _) ?_; intro w1 hown hgrow) | go_in)
  have HK := hide (show Kept w w1 len 0 (Z 0) from ⟨⟨_, hown, fun h => absurd h (by omega)⟩, (Below.refl _ _).grown hgrow (Nat.le_refl _) (fun k h => by cases h)⟩)
  clear hown hgrow hi hz0 hz1 hz2
  go_loopw [6] (fun i wr => ∃ k : Nat, k ≤ len ∧ i = .int .i64 k ∧ Hid (Kept w wr len k (Z 0))) (fun i _ => len - (intOf i).toNat)
  case atStart => exact ⟨0, Nat.zero_le _, rfl, HK⟩
  case round =>
    clear HK
    obtain ⟨k, hk, rfl, HK⟩ := hrel
    have hsz : w.heap.size ≤ wr.heap.size := HK.out.below.size
    by_cases hlt : k < len
    · have hck : wr.cell? ⟨b, off + k, none⟩ = some (.int .u8 (Z k)) := (HK.out.below.cell (p := ⟨b, off + k, none⟩) hb).trans (HC.out k hlt)
      obtain ⟨u, hu⟩ := HK.out.there k hlt
      have hf := HK.out.unfrozen k
      have HN := hide (HK.out.step (y := Z k) hlt (fun e => by rw [e]))
      clear HK
      go_wp2
      go_roundw
      case rel => exact ⟨k + 1, by omega, by go_num, HN⟩
      case measure => simp [intOf]; omega
    · have hkl : k = len := by omega
      have hz := HK.out.headByte (by omega) h0
      have hlt' : w.heap.size < wr.heap.size := World.block_lt_of_cell? _ _ hz
      have HB := hide HK.out.below
      clear HK HC
      subst hkl
      generalize Z 0 = z at *
      by_cases h1z : z = 1
      · subst h1z
        have HX : Hid (((wr.alloc (.cells #[.bool true] 39)).alloc (.cells #[.bool true] 39)).heap[wr.heap.size]? = some (.cells #[.bool true] 39)) := (two_laid wr _ _).1
        have HY : Hid (((wr.alloc (.cells #[.bool true] 39)).alloc (.cells #[.bool true] 39)).heap[wr.heap.size + 1]? = some (.cells #[.bool true] 39)) := (two_laid wr _ _).2
        go_wp2_with (first | (go_at_call 10; refine (newBool _ _).mono ?_; rintro e w' ⟨rfl, rfl⟩) | (go_at_call 11; go_in) | (go_at_call 12; go_in))
        refine (equals_same _ _).mono ?_
        rintro e w' ⟨rfl, rfl⟩
        go_wp2_with (first | (go_at_call 10; refine (newBool _ _).mono ?_; rintro e w' ⟨rfl, rfl⟩) | (go_at_call 12; go_in))
        refine (equals_other ⟨wr.heap.size, 0, none⟩ ⟨wr.heap.size + 1, 0, none⟩ _ _ _ _ _ (by simp) (by exact HX.out) (by exact HY.out)).mono ?_
        rintro e w' ⟨rfl, rfl⟩
        go_wp2
        go_ret
        exact ⟨rfl, (HB.out.alloc hsz _).alloc (by simp; omega) _⟩
      · have hzf : (z == 1) = false := by simp [h1z]
        clear h1z
        have HX : Hid (((wr.alloc (.cells #[.bool false] 39)).alloc (.cells #[.bool false] 39)).heap[wr.heap.size]? = some (.cells #[.bool false] 39)) := (two_laid wr _ _).1
        have HY : Hid (((wr.alloc (.cells #[.bool false] 39)).alloc (.cells #[.bool false] 39)).heap[wr.heap.size + 1]? = some (.cells #[.bool false] 39)) := (two_laid wr _ _).2
        go_wp2_with (first | (go_at_call 10; refine (newBool _ _).mono ?_; rintro e w' ⟨rfl, rfl⟩) | (go_at_call 11; go_in) | (go_at_call 12; go_in))
        refine (equals_same _ _).mono ?_
        rintro e w' ⟨rfl, rfl⟩
        go_wp2_with (first | (go_at_call 10; refine (newBool _ _).mono ?_; rintro e w' ⟨rfl, rfl⟩) | (go_at_call 12; go_in))
        refine (equals_other ⟨wr.heap.size, 0, none⟩ ⟨wr.heap.size + 1, 0, none⟩ _ _ _ _ _ (by simp) (by exact HX.out) (by exact HY.out)).mono ?_
        rintro e w' ⟨rfl, rfl⟩
        go_wp2
        go_ret
        exact ⟨rfl, (HB.out.alloc hsz _).alloc (by simp; omega) _⟩
end Go.Proofs.Yoedow.ignores
