/-
  THE WALKS of FnValueEndDependsOnlyOnItsOwnBytes (5). By an AI agent.
-/
import Derived.Test.Qxb6000551aTwo
namespace Go.Proofs.Qxb6000551a
open Go.RowKit

theorem depends_out (a : Option Addr) (n c : Nat) (a2 : Option Addr) (n2 c2 : Nat) (i : Int) (w : World) (hb : n ≤ 9223372036854775807) (hb2 : n2 ≤ 9223372036854775807) (h : i < 0 ∨ (n : Int) < i ∨ 1048576 < n + n2) :
    Calls Try.prog 5 #[.slice a n c, .slice a2 n2 c2, .int .i64 i] w fun e w' => e = .returned (.bool true) ∧ Below w.heap.size w w' := by
  by_cases hm : n + n2 ≤ 1048576
  · by_cases hneg : i < 0
    · clear h
      go_enter Try.func5, Try.ntmps5
      go_wp2_with (go_at_call 17; refine (bytes17 _ _ _ _ _ _ _ _ hm).mono ?_; rintro e w1 ⟨rfl, rfl⟩)
      go_ret
      exact ⟨rfl, Below.refl _ _⟩
    · have hge : (n : Int) < i := by omega
      clear h
      go_enter Try.func5, Try.ntmps5
      go_wp2_with (go_at_call 17; refine (bytes17 _ _ _ _ _ _ _ _ hm).mono ?_; rintro e w1 ⟨rfl, rfl⟩)
      go_ret
      exact ⟨rfl, Below.refl _ _⟩
  · clear h
    go_enter Try.func5, Try.ntmps5
    go_wp2_with (go_at_call 17; refine (bytes17_no _ _ _ _ _ _ _ _ (by omega) hb hb2).mono ?_; rintro e w1 ⟨rfl, rfl⟩)
    go_ret
    exact ⟨rfl, Below.refl _ _⟩

/-! ### Lists -/
theorem head_val (t : List Int) (i V : Nat) (hV : V = Pl.val (t.drop i)) : Pl.vAt (t.take (i + V)) i = i + V := by
  unfold Pl.vAt
  rw [List.drop_take, Nat.add_sub_cancel_left, hV, Pl.val_take]
theorem head_app_val (t s : List Int) (i V : Nat) (hV : V = Pl.val (t.drop i)) (hi : i < t.length) (hlt : i + V < t.length) (hc : t.getD i 0 = 34 ∨ Pl.isOpen (t.getD i 0) = true) : Pl.vAt (t.take (i + V) ++ s) i = i + V := by
  unfold Pl.vAt
  rw [List.drop_append, List.drop_take, Nat.add_sub_cancel_left]
  rw [show i - (t.take (i + V)).length = 0 by simp; omega, List.drop_zero]
  obtain ⟨x, hx⟩ : ∃ x, x = t.getD i 0 := ⟨_, rfl⟩
  rw [← hx] at hc
  rw [Pl.drop_at hi hx] at hV ⊢
  rw [hV] at hlt ⊢
  rw [Pl.val_take_app x _ s hc (by simp; omega)]
theorem app_get (p s : List Int) (f1 f2 : Nat → Int) (h1 : ∀ j, f1 j = p.getD j 0) (h2 : ∀ j, f2 j = s.getD j 0) : ∀ j, cat f1 p.length f2 j = (p ++ s).getD j 0 := by
  intro j
  unfold cat
  by_cases h : j < p.length
  · rw [if_pos h, h1]; simp [List.getD, List.getElem?_append_left h]
  · rw [if_neg h, h2]; simp [List.getD, List.getElem?_append_right (by omega : p.length ≤ j)]

set_option maxHeartbeats 2000000 in
theorem depends_main (a1 : Option Addr) (n1 c1 : Nat) (t : List Int) (f1 : Nat → Int) (a2 : Option Addr) (n2 c2 : Nat) (s : List Int) (f2 : Nat → Int) (w : World) (i : Nat)
    (H1 : RowAt w a1 n1 f1) (hnil1 : a1 = none → n1 = 0 ∧ c1 = 0) (hn1 : t.length = n1) (hf1 : ∀ j, f1 j = t.getD j 0) (hr1 : ∀ j, j < n1 → 0 ≤ f1 j ∧ f1 j ≤ 255)
    (H2 : RowAt w a2 n2 f2) (hnil2 : a2 = none → n2 = 0 ∧ c2 = 0) (hn2 : s.length = n2) (hf2 : ∀ j, f2 j = s.getD j 0) (hr2 : ∀ j, j < n2 → 0 ≤ f2 j ∧ f2 j ≤ 255)
    (hm : n1 + n2 ≤ 1048576) (hi : i ≤ n1) :
    Calls Try.prog 5 #[.slice a1 n1 c1, .slice a2 n2 c2, .int .i64 i] w fun e w' => e = .returned (.bool true) ∧ Below w.heap.size w w' := by
  have N1 : Hid (a1 = none → n1 = 0 ∧ c1 = 0) := hnil1
  have N2 : Hid (a2 = none → n2 = 0 ∧ c2 = 0) := hnil2
  have L1 : Hid (t.length = n1) := hn1
  have F1 : Hid (∀ j, f1 j = t.getD j 0) := hf1
  have R1 : Hid (∀ j, j < n1 → 0 ≤ f1 j ∧ f1 j ≤ 255) := hr1
  obtain ⟨R, hR⟩ : ∃ R, R = Pl.vAt t i := ⟨_, rfl⟩
  have hRi : i ≤ R := by rw [hR]; exact Pl.vAt_ge t i
  have hRn : R ≤ n1 := by rw [hR, ← hn1]; exact Pl.vAt_le t i (by omega)
  have HV : Hid (Pl.vAt t i = R) := hR.symm
  have eR : R = i + Pl.val (t.drop i) := hR
  have LH : Hid ((t.take R).length = R) := by unfold Hid; simp; omega
  have HH : Hid (Pl.vAt (t.take R) i = R) := by
    have := head_val t i _ rfl; rw [← eR] at this; exact this
  have HA : Hid (i < n1 → R < n1 → f1 i = 34 ∨ Pl.isOpen (f1 i) = true → Pl.vAt (t.take R ++ s) i = R) := fun h1 h2 h3 => by
    have := head_app_val t s i _ rfl (by omega) (by omega) (by rw [← hf1]; exact h3); rw [← eR] at this; exact this
  obtain ⟨fh, hfh⟩ : ∃ fh : Nat → Int, ∀ j, fh j = (t.take R).getD j 0 := ⟨_, fun _ => rfl⟩
  have FH : Hid (∀ j, fh j = (t.take R).getD j 0) := hfh
  have EH : Hid (∀ j, j < R → f1 j = fh j) := fun j hj => by rw [hfh, hf1]; simp [List.getD, hj]
  have RH : Hid (∀ j, j < R → 0 ≤ fh j ∧ fh j ≤ 255) := fun j hj => by rw [← EH.out j hj]; exact hr1 j (by omega)
  have FA : Hid (∀ j, cat fh R f2 j = (t.take R ++ s).getD j 0) := by
    have := app_get (t.take R) s fh f2 hfh hf2; rw [LH.out] at this; exact this
  have LA : Hid ((t.take R ++ s).length = R + n2) := by rw [List.length_append, LH.out, hn2]; rfl
  have RA : Hid (∀ j, j < R + n2 → 0 ≤ cat fh R f2 j ∧ cat fh R f2 j ≤ 255) := cat_bounds RH.out hr2
  clear hnil1 hnil2 hn1 hn2 hf1 hf2 hr1 hr2 hR eR hfh
  obtain ⟨hd, hhd⟩ : ∃ hd, hd = t.take R := ⟨_, rfl⟩
  rw [← hhd] at LH HH HA FH FA LA
  obtain ⟨ap, hap⟩ : ∃ ap, ap = hd ++ s := ⟨_, rfl⟩
  rw [← hap] at HA FA LA
  clear hhd hap
  go_enter Try.func5, Try.ntmps5
  go_wp2_with (go_at_call 17; refine (bytes17 _ _ _ _ _ _ _ _ hm).mono ?_; rintro e w1 ⟨rfl, rfl⟩)
  refine (clone_two a1 n1 c1 f1 _ H1 N1.out (by omega)).mono ?_
  rintro e w2 ⟨b1, rfl, hcase, K1, hb1⟩
  go_wp2_with fail
  refine (clone_two a2 n2 c2 f2 _ (H2.later hb1) N2.out (by omega)).mono ?_
  rintro e w3 ⟨b2, rfl, -, K2, hb2⟩
  have K1' := K1.later hb2
  have hb3 := hb1.trans (hb2.mono hb1.size)
  clear K1 H1 H2 hb1 hb2
  go_wp2_with fail
  refine (value_gen b1 n1 n1 t f1 _ i K1' L1 F1 (by omega) (Nat.le_refl _) (by unfold maxLen; omega) R1 hi).mono ?_
  rw [HV.out]
  rintro e w4 ⟨rfl, rfl⟩
  rcases hcase with ⟨rfl, rfl⟩ | ⟨g, rfl⟩
  · obtain rfl : i = 0 := by omega
    obtain rfl : R = 0 := by omega
    go_wp2_with fail
    refine (clone_nil _).mono ?_
    rintro e w5 ⟨rfl, rfl⟩
    go_wp2_with fail
    refine (zz_value_at_end none 0 0 _ (by omega)).mono ?_
    rintro e w5 ⟨rfl, rfl⟩
    go_wp2
    go_ret
    exact ⟨rfl, hb3⟩
  · go_wp2_with fail
    refine (clone_two (some ⟨g, 0, none⟩) R n1 fh _ ((K1'.take hRn).congr EH.out) (fun h => by simp at h) (by omega)).mono ?_
    rintro e w5 ⟨b3, rfl, -, K3, hb5⟩
    have K1 := K1'.later hb5
    have K2' := K2.later hb5
    have hb6 := hb3.trans (hb5.mono hb3.size)
    clear K1' K2 hb3 hb5
    go_wp2_with fail
    refine (value_gen b3 R R hd fh _ i K3 LH FH (by omega) (Nat.le_refl _) (by unfold maxLen; omega) RH hRi).mono ?_
    rw [HH.out]
    rintro e w6 ⟨rfl, rfl⟩
    by_cases hlt : R < n1
    · have hin : i < n1 := by omega
      have K1c := K1
      rcases K1c with h | ⟨b, off, ha, hbl, hc⟩
      · omega
      simp only [Option.some.injEq, Addr.mk.injEq, and_true] at ha
      obtain ⟨rfl, rfl⟩ := ha
      have hci : w6.cell? ⟨g, i, none⟩ = some (.int .u8 (f1 i)) := by have := hc i hin; rw [Nat.zero_add] at this; exact this
      clear hc
      by_cases hq : f1 i = 34 ∨ Pl.isOpen (f1 i) = true
      · have HE : Hid (Pl.vAt ap i = R) := HA.out hin hlt hq
        have h3 : (f1 i == 34) = true ∨ ((f1 i == 34) = false ∧ (f1 i == 123) = true) ∨ ((f1 i == 34) = false ∧ (f1 i == 123) = false ∧ (f1 i == 91) = true) := by
          rcases hq with h | h
          · left; simp [h]
          · cases h1 : (f1 i == 34)
            · rcases open_cases h with h | ⟨h, h'⟩
              · exact .inr (.inl ⟨rfl, h⟩)
              · exact .inr (.inr ⟨rfl, h, h'⟩)
            · left; rfl
        clear hq HA
        rcases h3 with e1 | ⟨e1, e2⟩ | ⟨e1, e2, e3⟩
        all_goals
          go_wp2_with fail
          refine (concat_gen b3 R R fh b2 n2 n2 f2 _ K3 K2' (by omega)).mono ?_
          rintro e w7 ⟨gm, rfl, KM, hb7⟩
          go_wp2_with fail
          refine (value_gen (some ⟨gm, 0, none⟩) (R + n2) (R + n2) ap _ _ i KM LA FA (by omega) (Nat.le_refl _) (by unfold maxLen; omega) RA (by omega)).mono ?_
          rw [HE.out]
          rintro e w8 ⟨rfl, rfl⟩
          go_wp2
          go_ret
          exact ⟨rfl, hb6.trans (hb7.mono hb6.size)⟩
      · have e1 : (f1 i == 34) = false := by
          cases h : (f1 i == 34)
          · rfl
          · exact absurd (.inl (by simpa using h)) hq
        have ho : Pl.isOpen (f1 i) = false := by
          cases h : Pl.isOpen (f1 i)
          · rfl
          · exact absurd (.inr h) hq
        obtain ⟨e2, e3⟩ : (f1 i == 123) = false ∧ (f1 i == 91) = false := by simpa [Pl.isOpen] using ho
        clear hq ho HA
        go_wp2
        go_ret
        exact ⟨rfl, hb6⟩
    · go_wp2
      go_ret
      exact ⟨rfl, hb6⟩
end Go.Proofs.Qxb6000551a
