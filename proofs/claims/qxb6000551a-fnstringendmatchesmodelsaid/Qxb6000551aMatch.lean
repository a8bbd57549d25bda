/-
  THE WALKS of FnStringEndMatchesModel (6). By an AI agent.
-/
import Derived.Test.Qxb6000551aOpen
namespace Go.Proofs.Qxb6000551a
open Go.RowKit

set_option maxHeartbeats 1000000 in
theorem match_main (b off n c : Nat) (t : List Int) (f : Nat → Int) (w : World) (i : Nat) (hn : Hid (t.length = n)) (HF : Hid (∀ j, f j = t.getD j 0)) (hm : n ≤ 1048576) (hb : b < w.heap.size)
    (hc : ∀ j, j < n → w.cell? ⟨b, off + j, none⟩ = some (.int .u8 (f j))) (hr : ∀ j, j < n → 0 ≤ f j ∧ f j ≤ 255) (hi : i < n) (HQ : Hid (f i = 34)) :
    Calls Try.prog 6 #[.slice (some ⟨b, off, none⟩) n c, .int .i64 i] w fun e w' => e = .returned (.bool true) ∧ Below w.heap.size w w' := by
  have hci := hc i hi
  have hb34 : (f i == 34) = true := by simp [HQ.out]
  have HC : Hid (∀ j, j < n → w.cell? ⟨b, off + j, none⟩ = some (.int .u8 (f j))) := hc
  have HR : Hid (∀ j, j < n → 0 ≤ f j ∧ f j ≤ 255) := hr
  clear hr hc
  go_enter Try.func6, Try.ntmps6
  go_wp2_with (go_at_call 18; refine (bytes18 _ _ _ _ _ hm).mono ?_; rintro e w1 ⟨rfl, rfl⟩)
  refine (clone_any b off n c f _ hm hb HC.out).mono ?_
  rintro e w2 ⟨rfl, arr, rfl, hs, harr⟩
  have HC2 : Hid _ := new_cells (w := w1) harr
  clear harr
  go_wp2_with fail
  refine (zz_string_end w1.heap.size 0 n n t f (w1.alloc (.cells arr 5)) i hn HF hm (Nat.le_refl _) (by unfold maxLen; omega) HC2.out HR.out hi HQ).mono ?_
  rintro e w2 ⟨rfl, rfl⟩
  go_wp2_with fail
  refine (model_string_end w1.heap.size 0 n n t f (w1.alloc (.cells arr 5)) i hn HF hm HC2.out hi).mono ?_
  rintro e w2 ⟨rfl, rfl⟩
  go_wp2
  go_ret
  exact ⟨by simp, (Below.refl _ _).alloc (Nat.le_refl _) _⟩

theorem match_out (a : Option Addr) (n c : Nat) (i : Int) (w : World) (hb : n ≤ 9223372036854775807) (h : i < 0 ∨ (n : Int) ≤ i ∨ 1048576 < n) :
    Calls Try.prog 6 #[.slice a n c, .int .i64 i] w fun e w' => e = .returned (.bool true) ∧ Below w.heap.size w w' := by
  by_cases hm : n ≤ 1048576
  · by_cases hneg : i < 0
    · clear h
      go_enter Try.func6, Try.ntmps6
      go_wp2_with (go_at_call 18; refine (bytes18 _ _ _ _ _ hm).mono ?_; rintro e w1 ⟨rfl, rfl⟩)
      go_ret
      exact ⟨rfl, Below.refl _ _⟩
    · have hge : (n : Int) ≤ i := by omega
      clear h
      go_enter Try.func6, Try.ntmps6
      go_wp2_with (go_at_call 18; refine (bytes18 _ _ _ _ _ hm).mono ?_; rintro e w1 ⟨rfl, rfl⟩)
      go_ret
      exact ⟨rfl, Below.refl _ _⟩
  · clear h
    go_enter Try.func6, Try.ntmps6
    go_wp2_with (go_at_call 18; refine (bytes18_no _ _ _ _ _ (by omega) hb).mono ?_; rintro e w1 ⟨rfl, rfl⟩)
    go_ret
    exact ⟨rfl, Below.refl _ _⟩
theorem match_noq (b off n c : Nat) (f : Nat → Int) (w : World) (i : Nat) (hm : n ≤ 1048576) (hi : i < n)
    (hc : w.cell? ⟨b, off + i, none⟩ = some (.int .u8 (f i))) (hq : f i ≠ 34) :
    Calls Try.prog 6 #[.slice (some ⟨b, off, none⟩) n c, .int .i64 i] w fun e w' => e = .returned (.bool true) ∧ Below w.heap.size w w' := by
  have hb34 : (f i == 34) = false := by simp [hq]
  clear hq
  go_enter Try.func6, Try.ntmps6
  go_wp2_with (go_at_call 18; refine (bytes18 _ _ _ _ _ hm).mono ?_; rintro e w1 ⟨rfl, rfl⟩)
  go_ret
  exact ⟨rfl, Below.refl _ _⟩
end Go.Proofs.Qxb6000551a
