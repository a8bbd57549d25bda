/-
  A SLICE OF BYTES WHEREVER IT LIES, nil and empty ones too ('RowAt'), and the contracts of zzCloneB1, ZZValueEnd, zzModelValueEndB1 over it. By an AI agent.
-/
import Derived.Test.Qxb6000551aOpen
import Derived.Test.Qxb6000551aValue
import Derived.Test.Qxb6000551aModel
namespace Go.Proofs.Qxb6000551a
open Go.RowKit

/-- The n bytes f 0, f 1, .. lie at a (where there is one at all). -/
def RowAt (w : World) (a : Option Addr) (n : Nat) (f : Nat → Int) : Prop :=
  n = 0 ∨ ∃ b off, a = some ⟨b, off, none⟩ ∧ b < w.heap.size ∧ ∀ j, j < n → w.cell? ⟨b, off + j, none⟩ = some (.int .u8 (f j))

theorem RowAt.later {w w' : World} {a : Option Addr} {n : Nat} {f : Nat → Int} (h : RowAt w a n f) (hb : Below w.heap.size w w') : RowAt w' a n f := by
  rcases h with h | ⟨b, off, ha, hlt, hc⟩
  · exact .inl h
  · exact .inr ⟨b, off, ha, Nat.lt_of_lt_of_le hlt hb.size, fun j hj => by rw [hb.cell (p := ⟨b, off + j, none⟩) hlt]; exact hc j hj⟩
theorem RowAt.take {w : World} {a : Option Addr} {n m : Nat} {f : Nat → Int} (h : RowAt w a n f) (hm : m ≤ n) : RowAt w a m f := by
  rcases h with h | ⟨b, off, ha, hlt, hc⟩
  · exact .inl (by omega)
  · exact .inr ⟨b, off, ha, hlt, fun j hj => hc j (by omega)⟩
theorem RowAt.congr {w : World} {a : Option Addr} {n : Nat} {f g : Nat → Int} (h : RowAt w a n f) (e : ∀ j, j < n → f j = g j) : RowAt w a n g := by
  rcases h with h | ⟨b, off, ha, hlt, hc⟩
  · exact .inl h
  · exact .inr ⟨b, off, ha, hlt, fun j hj => by rw [← e j hj]; exact hc j hj⟩

set_option maxHeartbeats 400000 in
theorem clone_zero (x : Addr) (c : Nat) (w : World) :
    Calls Try.prog 11 #[.slice (some x) 0 c] w fun e w' => e = .returned (.slice (some ⟨w.heap.size, 0, none⟩) 0 0) ∧ Below w.heap.size w w' := by
  have q22 : ∀ (w : World) (a : Option Addr) (n c n' c' : Nat), (binOp .eql 22 (.slice a n c) (.slice none n' c')).run Try.prog w = .ok (.bool a.isNone) w := fun w a n c n' c' => Lib.run_eql_slice_nil w _ _ a n c n' c' Try.underlying22
  have hmk : ∀ w : World, (Instr.makeSlice 22 (.int .i64 0) (.int .i64 0)).run Try.prog w = .ok (.slice (some ⟨w.heap.size, 0, none⟩) 0 0) (w.alloc (.cells (madeCells #[.int .u8 0] 0) 5)) :=
    run_make_row' (P := Try.prog) 22 5 (.int .u8 0) 1 Try.underlying22 Try.info5 rfl .i64 .i64 0 (by omega) (by omega)
  go_enter Try.func11, Try.ntmps11
  go_wp2
  refine wp_loop_rounds 1 ?_
  rw [rounds_succ]
  go_wp2
  go_ret
  exact ⟨rfl, (Below.refl _ _).alloc (Nat.le_refl _) _⟩

theorem clone_gen (a : Option Addr) (n c : Nat) (f : Nat → Int) (w : World) (H : RowAt w a n f) (hnil : a = none → n = 0 ∧ c = 0) (hm : n ≤ 1048576) :
    Calls Try.prog 11 #[.slice a n c] w fun e w' => ∃ a' c', e = .returned (.slice a' n c') ∧ n ≤ c' ∧ c' ≤ 1048576 ∧ (a' = none → n = 0 ∧ c' = 0) ∧ RowAt w' a' n f ∧ Below w.heap.size w w' := by
  cases a with
  | none =>
    obtain ⟨rfl, rfl⟩ := hnil rfl
    refine (clone_nil w).mono ?_
    rintro e w' ⟨rfl, rfl⟩
    exact ⟨none, 0, rfl, by omega, by omega, fun _ => ⟨rfl, rfl⟩, .inl rfl, Below.refl _ _⟩
  | some x =>
    rcases H with h | ⟨b, off, ha, hlt, hc⟩
    · subst h
      refine (clone_zero x c w).mono ?_
      rintro e w' ⟨rfl, hb⟩
      exact ⟨_, 0, rfl, by omega, by omega, fun h => by simp at h, .inl rfl, hb⟩
    · cases ha
      refine (clone_any b off n c f w hm hlt hc).mono ?_
      rintro e w' ⟨rfl, arr, rfl, hs, harr⟩
      exact ⟨_, n, rfl, Nat.le_refl _, hm, fun h => by simp at h, .inr ⟨w.heap.size, 0, rfl, by simp, new_cells harr⟩, (Below.refl _ _).alloc (Nat.le_refl _) _⟩

theorem value_gen (a : Option Addr) (n c : Nat) (t : List Int) (f : Nat → Int) (w : World) (i : Nat) (H : RowAt w a n f) (hn : Hid (t.length = n)) (HF : Hid (∀ j, f j = t.getD j 0)) (hm : n ≤ 1048576) (hnc : n ≤ c) (hcm : c ≤ maxLen)
    (HR : Hid (∀ j, j < n → 0 ≤ f j ∧ f j ≤ 255)) (hi : i ≤ n) :
    Calls Try.prog 12 #[.slice a n c, .int .i64 i] w fun e w' => e = .returned (.int .i64 (Pl.vAt t i : Nat)) ∧ w' = w := by
  rcases H with h | ⟨b, off, rfl, hlt, hc⟩
  · subst h
    obtain rfl : i = 0 := by omega
    have : Pl.vAt t 0 = 0 := by have := Pl.vAt_end t; rw [hn.out] at this; exact this
    rw [this]
    exact zz_value_at_end a 0 c w hm
  · exact zz_value_end b off n c t f w i hn HF hm hnc hcm hc HR hi

theorem model_gen (a : Option Addr) (n c : Nat) (t : List Int) (f : Nat → Int) (w : World) (i : Nat) (H : RowAt w a n f) (hn : Hid (t.length = n)) (HF : Hid (∀ j, f j = t.getD j 0)) (hm : n ≤ 1048576) (hi : i ≤ n) :
    Calls Try.prog 13 #[.slice a n c, .int .i64 i] w fun e w' => e = .returned (.int .i64 (Pl.vAt t i : Nat)) ∧ w' = w := by
  rcases H with h | ⟨b, off, rfl, hlt, hc⟩
  · subst h
    obtain rfl : i = 0 := by omega
    have : Pl.vAt t 0 = 0 := by have := Pl.vAt_end t; rw [hn.out] at this; exact this
    rw [this]
    exact model_value_at_end a 0 c w
  · exact model_value_end b off n c t f w i hn HF hm hc hi

/-- A slice that came in, as the shells tell it. -/
theorem rowAt_open {w : World} {a : Option Addr} {len cap : Nat} {zs : List Int}
    (h : (a = none ∧ len = 0 ∧ cap = 0 ∧ zs = []) ∨ ∃ x, a = some x ∧ len ≤ cap ∧ cap ≤ maxLen ∧ zs.length = cap ∧ (∀ i, i < zs.length → w.cell? (x.add i) = some (.int .u8 (zs.getD i 0))) ∧ ∀ n ∈ zs, (Lit.int .u8 n).wf = true) :
    RowAt w a len (fOf zs len) ∧ (a = none → len = 0 ∧ cap = 0) ∧ (zs.take len).length = len ∧ (∀ j, j < len → 0 ≤ fOf zs len j ∧ fOf zs len j ≤ 255) ∧ len ≤ 9223372036854775807 := by
  rcases h with ⟨rfl, rfl, rfl, rfl⟩ | ⟨x, rfl, hl, hm, hz, hcell, hwz⟩
  · exact ⟨.inl rfl, fun _ => ⟨rfl, rfl⟩, rfl, fun j hj => by omega, by omega⟩
  · refine ⟨?_, fun h => by simp at h, take_len (by omega), u8_bounds hwz len (by omega), by unfold maxLen at hm; omega⟩
    by_cases h0 : len = 0
    · exact .inl h0
    · obtain ⟨b, off, rfl, hb, hc⟩ := row_cells (n := len) (by omega) (by omega) hcell
      exact .inr ⟨b, off, rfl, hb, hc⟩

/-! ### FnValueEndMatchesModel (3) -/
set_option maxHeartbeats 1000000 in
theorem vmatch_main (a : Option Addr) (n c : Nat) (t : List Int) (f : Nat → Int) (w : World) (i : Nat) (H : RowAt w a n f) (hnil : a = none → n = 0 ∧ c = 0) (hn : Hid (t.length = n)) (HF : Hid (∀ j, f j = t.getD j 0)) (hm : n ≤ 1048576)
    (HR : Hid (∀ j, j < n → 0 ≤ f j ∧ f j ≤ 255)) (hi : i ≤ n) :
    Calls Try.prog 3 #[.slice a n c, .int .i64 i] w fun e w' => e = .returned (.bool true) ∧ Below w.heap.size w w' := by
  have HN : Hid (a = none → n = 0 ∧ c = 0) := hnil
  clear hnil
  go_enter Try.func3, Try.ntmps3
  go_wp2_with (go_at_call 10; refine (bytes10 _ _ _ _ _ hm).mono ?_; rintro e w1 ⟨rfl, rfl⟩)
  refine (clone_gen a n c f _ H HN.out hm).mono ?_
  rintro e w2 ⟨a', c', rfl, h1, h2, _, H2, hb⟩
  go_wp2_with fail
  refine (value_gen a' n c' t f _ i H2 hn HF hm h1 (by unfold maxLen; omega) HR hi).mono ?_
  rintro e w3 ⟨rfl, rfl⟩
  go_wp2_with fail
  refine (model_gen a' n c' t f _ i H2 hn HF hm hi).mono ?_
  rintro e w4 ⟨rfl, rfl⟩
  go_wp2
  go_ret
  exact ⟨by simp, hb⟩
theorem vmatch_out (a : Option Addr) (n c : Nat) (i : Int) (w : World) (hb : n ≤ 9223372036854775807) (h : i < 0 ∨ (n : Int) < i ∨ 1048576 < n) :
    Calls Try.prog 3 #[.slice a n c, .int .i64 i] w fun e w' => e = .returned (.bool true) ∧ Below w.heap.size w w' := by
  by_cases hm : n ≤ 1048576
  · by_cases hneg : i < 0
    · clear h
      go_enter Try.func3, Try.ntmps3
      go_wp2_with (go_at_call 10; refine (bytes10 _ _ _ _ _ hm).mono ?_; rintro e w1 ⟨rfl, rfl⟩)
      go_ret
      exact ⟨rfl, Below.refl _ _⟩
    · have hge : (n : Int) < i := by omega
      clear h
      go_enter Try.func3, Try.ntmps3
      go_wp2_with (go_at_call 10; refine (bytes10 _ _ _ _ _ hm).mono ?_; rintro e w1 ⟨rfl, rfl⟩)
      go_ret
      exact ⟨rfl, Below.refl _ _⟩
  · clear h
    go_enter Try.func3, Try.ntmps3
    go_wp2_with (go_at_call 10; refine (bytes10_no _ _ _ _ _ (by omega) hb).mono ?_; rintro e w1 ⟨rfl, rfl⟩)
    go_ret
    exact ⟨rfl, Below.refl _ _⟩
end Go.Proofs.Qxb6000551a
