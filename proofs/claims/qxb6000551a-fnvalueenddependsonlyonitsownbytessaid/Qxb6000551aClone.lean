/-
  THE WALK of zzCloneB1 (function 11): a new row with the same bytes. By an AI agent.
-/
import Derived.Test.Qxb6000551aProg
import Derived.WalkKit
import Derived.WalkSpells
import Derived.WalkLawsBesides
import Derived.Deep.OwnRows
namespace Go.Proofs.Qxb6000551a
open Go.RowKit

theorem Try.info5 : (Try.prog.info? 5).map (fun i => (i.zero, i.size, i.bytes)) = some (some (.int .u8 0), 1, 1) := by kernel_rfl

theorem set_pre {arr : Array Value} {f : Nat → Value} {k n : Nat} (hs : arr.size = n) (hk : k < n) (h : ∀ j, j < k → arr[j]? = some (f j)) :
    (arr.setIfInBounds k (f k)).size = n ∧ ∀ j, j < k + 1 → (arr.setIfInBounds k (f k))[j]? = some (f j) := by
  refine ⟨by simp [hs], fun j hj => ?_⟩
  by_cases e : j = k
  · subst e; simp [hs, hk]
  · rw [Array.getElem?_setIfInBounds_ne (by omega)]; exact h j (by omega)

set_option maxHeartbeats 400000 in
theorem clone_any (b off n c : Nat) (f : Nat → Int) (w : World) (hm : n ≤ 1048576) (hb : b < w.heap.size)
    (hc : ∀ j, j < n → w.cell? ⟨b, off + j, none⟩ = some (.int .u8 (f j))) :
    Calls Try.prog 11 #[.slice (some ⟨b, off, none⟩) n c] w fun e w' => e = .returned (.slice (some ⟨w.heap.size, 0, none⟩) n n) ∧
      ∃ arr : Array Value, w' = w.alloc (.cells arr 5) ∧ arr.size = n ∧ ∀ j, j < n → arr[j]? = some (.int .u8 (f j)) := by
  have q22 : ∀ (w : World) (a : Option Addr) (n c n' c' : Nat), (binOp .eql 22 (.slice a n c) (.slice none n' c')).run Try.prog w = .ok (.bool a.isNone) w := fun w a n c n' c' => Lib.run_eql_slice_nil w _ _ a n c n' c' Try.underlying22
  have hmk := run_make_row' (P := Try.prog) 22 5 (.int .u8 0) 1 Try.underlying22 Try.info5 rfl .i64 .i64 n (by omega) (by omega)
  go_enter Try.func11, Try.ntmps11
  go_wp2
  go_loopw [4] (fun i wr => ∃ (k : Nat) (arr : Array Value), k ≤ n ∧ i = .int .i64 k ∧ wr = w.alloc (.cells arr 5) ∧ arr.size = n ∧ ∀ j, j < k → arr[j]? = some (.int .u8 (f j)))
    (fun i _ => n - (intOf i).toNat)
  case atStart => exact ⟨0, _, Nat.zero_le _, rfl, rfl, size_madeCells _ _, fun j hj => by omega⟩
  case round =>
    obtain ⟨k, arr, hk, rfl, rfl, hs, hpre⟩ := hrel
    by_cases hlt : k < n
    · have hcell := hc k hlt
      have hnew := set_pre (f := fun j => .int .u8 (f j)) hs hlt hpre
      go_wp2
      go_roundw
      case rel => exact ⟨k + 1, _, by omega, by go_num, rfl, hnew.1, hnew.2⟩
      case measure => simp [intOf]; omega
    · obtain rfl : k = n := by omega
      go_wp2
      go_ret
      exact ⟨rfl, arr, rfl, hs, hpre⟩

set_option maxHeartbeats 400000 in
theorem clone_nil (w : World) : Calls Try.prog 11 #[.slice none 0 0] w fun e w' => e = .returned (.slice none 0 0) ∧ w' = w := by
  have q22 : ∀ (w : World) (a : Option Addr) (n c n' c' : Nat), (binOp .eql 22 (.slice a n c) (.slice none n' c')).run Try.prog w = .ok (.bool a.isNone) w := fun w a n c n' c' => Lib.run_eql_slice_nil w _ _ a n c n' c' Try.underlying22
  go_enter Try.func11, Try.ntmps11
  go_wp2
  go_ret
  exact ⟨rfl, rfl⟩
end Go.Proofs.Qxb6000551a
