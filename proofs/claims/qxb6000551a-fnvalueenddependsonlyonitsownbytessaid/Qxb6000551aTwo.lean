/-
  WHAT THE TWO LAWS OVER TWO SLICES SHARE. By an AI agent.
-/
import Derived.Test.Qxb6000551aConcat
namespace Go.Proofs.Qxb6000551a
open Go.RowKit

/-- zzCloneB1 once more, its two ways out told apart. -/
theorem clone_two (a : Option Addr) (n c : Nat) (f : Nat → Int) (w : World) (H : RowAt w a n f) (hnil : a = none → n = 0 ∧ c = 0) (hm : n ≤ 1048576) :
    Calls Try.prog 11 #[.slice a n c] w fun e w' => ∃ a', e = .returned (.slice a' n n) ∧ ((a' = none ∧ n = 0) ∨ ∃ g, a' = some ⟨g, 0, none⟩) ∧ RowAt w' a' n f ∧ Below w.heap.size w w' := by
  cases a with
  | none =>
    obtain ⟨rfl, rfl⟩ := hnil rfl
    refine (clone_nil w).mono ?_
    rintro e w' ⟨rfl, rfl⟩
    exact ⟨none, rfl, .inl ⟨rfl, rfl⟩, .inl rfl, Below.refl _ _⟩
  | some x =>
    rcases H with h | ⟨b, off, ha, hlt, hc⟩
    · subst h
      refine (clone_zero x c w).mono ?_
      rintro e w' ⟨rfl, hb⟩
      exact ⟨_, rfl, .inr ⟨_, rfl⟩, .inl rfl, hb⟩
    · cases ha
      refine (clone_any b off n c f w hm hlt hc).mono ?_
      rintro e w' ⟨rfl, arr, rfl, hs, harr⟩
      exact ⟨_, rfl, .inr ⟨_, rfl⟩, .inr ⟨w.heap.size, 0, rfl, by simp, new_cells harr⟩, (Below.refl _ _).alloc (Nat.le_refl _) _⟩

theorem string_gen (a : Option Addr) (n c : Nat) (t : List Int) (f : Nat → Int) (w : World) (i : Nat) (H : RowAt w a n f) (hn : Hid (t.length = n)) (HF : Hid (∀ j, f j = t.getD j 0)) (hm : n ≤ 1048576) (hnc : n ≤ c) (hcm : c ≤ maxLen)
    (HR : Hid (∀ j, j < n → 0 ≤ f j ∧ f j ≤ 255)) (hi : i < n) (HQ : Hid (f i = 34)) :
    Calls Try.prog 16 #[.slice a n c, .int .i64 i] w fun e w' => e = .returned (.int .i64 (Pl.sAt t (i + 1) : Nat)) ∧ w' = w := by
  rcases H with h | ⟨b, off, rfl, hlt, hc⟩
  · omega
  · exact zz_string_end b off n c t f w i hn HF hm hnc hcm hc HR.out hi HQ

/-- 's[i:]' of a slice that fills its array. -/
theorem rowAt_from {w : World} {g n i : Nat} {f : Nat → Int} (H : RowAt w (some ⟨g, 0, none⟩) n f) (hi : i ≤ n) :
    ∃ o', (if n = i then some (⟨g, 0, none⟩ : Addr) else some ⟨g, i, none⟩) = some ⟨g, o', none⟩ ∧ RowAt w (some ⟨g, o', none⟩) (n - i) (fun j => f (i + j)) := by
  by_cases h : n = i
  · exact ⟨0, by simp [h], .inl (by omega)⟩
  · refine ⟨i, by simp [h], ?_⟩
    rcases H with h' | ⟨b, off, ha, hlt, hc⟩
    · omega
    · simp only [Option.some.injEq, Addr.mk.injEq, and_true] at ha
      obtain ⟨rfl, rfl⟩ := ha
      exact .inr ⟨g, i, rfl, hlt, fun j hj => by have := hc (i + j) (by omega); rw [Nat.zero_add] at this; exact this⟩

/-! ### Lists -/
theorem moved_len (p t : List Int) (i : Nat) : (p ++ t.drop i).length = p.length + (t.length - i) := by simp
theorem moved_get (p t : List Int) (i : Nat) (f1 f2 : Nat → Int) (h1 : ∀ j, f1 j = p.getD j 0) (h2 : ∀ j, f2 j = t.getD j 0) :
    ∀ j, cat f1 p.length (fun j => f2 (i + j)) j = (p ++ t.drop i).getD j 0 := by
  intro j
  unfold cat
  by_cases h : j < p.length
  · rw [if_pos h, h1]; simp [List.getD, List.getElem?_append_left h]
  · rw [if_neg h]; show f2 (i + (j - p.length)) = _; rw [h2]; simp [List.getD, List.getElem?_append_right (by omega : p.length ≤ j)]
theorem moved_val (p t : List Int) (i : Nat) : Pl.vAt (p ++ t.drop i) p.length = p.length + Pl.val (t.drop i) := by
  unfold Pl.vAt; simp
theorem moved_scan (p t : List Int) (i : Nat) (hi : i < t.length) : Pl.sAt (p ++ t.drop i) (p.length + 1) = p.length + 1 + Pl.scan false (t.drop (i + 1)) ∧ Pl.sAt t (i + 1) = i + 1 + Pl.scan false (t.drop (i + 1)) := by
  refine ⟨?_, Pl.sAt_eq t (i + 1) (by omega)⟩
  rw [Pl.sAt_eq _ _ (by simp; omega)]
  congr 2
  rw [List.drop_append, List.drop_eq_nil_of_le (by omega), List.nil_append, List.drop_drop]
  congr 1; omega
theorem cat_bounds {f1 f2 : Nat → Int} {n1 n2 : Nat} (h1 : ∀ j, j < n1 → 0 ≤ f1 j ∧ f1 j ≤ 255) (h2 : ∀ j, j < n2 → 0 ≤ f2 j ∧ f2 j ≤ 255) : ∀ j, j < n1 + n2 → 0 ≤ cat f1 n1 f2 j ∧ cat f1 n1 f2 j ≤ 255 := by
  intro j hj
  unfold cat
  by_cases h : j < n1
  · rw [if_pos h]; exact h1 j h
  · rw [if_neg h]; exact h2 _ (by omega)
end Go.Proofs.Qxb6000551a
