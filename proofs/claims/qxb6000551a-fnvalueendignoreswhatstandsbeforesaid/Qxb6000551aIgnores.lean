/-
  THE WALKS of FnValueEndIgnoresWhatStandsBefore (4). By an AI agent.
-/
import Derived.Test.Qxb6000551aTwo
namespace Go.Proofs.Qxb6000551a
open Go.RowKit

theorem ignores_out (a : Option Addr) (n c : Nat) (a2 : Option Addr) (n2 c2 : Nat) (i : Int) (w : World) (hb : n ≤ 9223372036854775807) (hb2 : n2 ≤ 9223372036854775807) (h : i < 0 ∨ (n2 : Int) < i ∨ 1048576 < n + n2) :
    Calls Try.prog 4 #[.slice a n c, .slice a2 n2 c2, .int .i64 i] w fun e w' => e = .returned (.bool true) ∧ Below w.heap.size w w' := by
  by_cases hm : n + n2 ≤ 1048576
  · by_cases hneg : i < 0
    · clear h
      go_enter Try.func4, Try.ntmps4
      go_wp2_with (go_at_call 14; refine (bytes14 _ _ _ _ _ _ _ _ hm).mono ?_; rintro e w1 ⟨rfl, rfl⟩)
      go_ret
      exact ⟨rfl, Below.refl _ _⟩
    · have hge : (n2 : Int) < i := by omega
      clear h
      go_enter Try.func4, Try.ntmps4
      go_wp2_with (go_at_call 14; refine (bytes14 _ _ _ _ _ _ _ _ hm).mono ?_; rintro e w1 ⟨rfl, rfl⟩)
      go_ret
      exact ⟨rfl, Below.refl _ _⟩
  · clear h
    go_enter Try.func4, Try.ntmps4
    go_wp2_with (go_at_call 14; refine (bytes14_no _ _ _ _ _ _ _ _ (by omega) hb hb2).mono ?_; rintro e w1 ⟨rfl, rfl⟩)
    go_ret
    exact ⟨rfl, Below.refl _ _⟩

set_option maxHeartbeats 2000000 in
theorem ignores_main (a1 : Option Addr) (n1 c1 : Nat) (p : List Int) (f1 : Nat → Int) (a2 : Option Addr) (n2 c2 : Nat) (t : List Int) (f2 : Nat → Int) (w : World) (i : Nat)
    (H1 : RowAt w a1 n1 f1) (hnil1 : a1 = none → n1 = 0 ∧ c1 = 0) (hn1 : p.length = n1) (hf1 : ∀ j, f1 j = p.getD j 0) (hr1 : ∀ j, j < n1 → 0 ≤ f1 j ∧ f1 j ≤ 255)
    (H2 : RowAt w a2 n2 f2) (hnil2 : a2 = none → n2 = 0 ∧ c2 = 0) (hn2 : t.length = n2) (hf2 : ∀ j, f2 j = t.getD j 0) (hr2 : ∀ j, j < n2 → 0 ≤ f2 j ∧ f2 j ≤ 255)
    (hm : n1 + n2 ≤ 1048576) (hi : i ≤ n2) :
    Calls Try.prog 4 #[.slice a1 n1 c1, .slice a2 n2 c2, .int .i64 i] w fun e w' => e = .returned (.bool true) ∧ Below w.heap.size w w' := by
  have N1 : Hid (a1 = none → n1 = 0 ∧ c1 = 0) := hnil1
  have N2 : Hid (a2 = none → n2 = 0 ∧ c2 = 0) := hnil2
  have L2 : Hid (t.length = n2) := hn2
  have F2 : Hid (∀ j, f2 j = t.getD j 0) := hf2
  have R2 : Hid (∀ j, j < n2 → 0 ≤ f2 j ∧ f2 j ≤ 255) := hr2
  obtain ⟨V, hV⟩ : ∃ V, V = Pl.val (t.drop i) := ⟨_, rfl⟩
  have hVb : i + V ≤ n2 := by have := Pl.val_le (t.drop i); rw [hV]; simp at this; omega
  have HV : Hid (Pl.vAt t i = i + V) := by rw [hV]; rfl
  have HW : Hid (Pl.vAt (p ++ t.drop i) n1 = n1 + V) := by rw [hV, ← hn1]; exact moved_val p t i
  have LM : Hid ((p ++ t.drop i).length = n1 + (n2 - i)) := by rw [← hn1, ← hn2]; exact moved_len p t i
  have FM : Hid (∀ j, cat f1 n1 (fun j => f2 (i + j)) j = (p ++ t.drop i).getD j 0) := by rw [← hn1]; exact moved_get p t i f1 f2 hf1 hf2
  have RM : Hid (∀ j, j < n1 + (n2 - i) → 0 ≤ cat f1 n1 (fun j => f2 (i + j)) j ∧ cat f1 n1 (fun j => f2 (i + j)) j ≤ 255) := cat_bounds hr1 (fun j hj => hr2 (i + j) (by omega))
  have SC : Hid (i < n2 → Pl.sAt (p ++ t.drop i) (n1 + 1) = n1 + 1 + Pl.scan false (t.drop (i + 1)) ∧ Pl.sAt t (i + 1) = i + 1 + Pl.scan false (t.drop (i + 1))) := fun h => by
    rw [← hn1]; exact moved_scan p t i (by omega)
  obtain ⟨m, hmm⟩ : ∃ m, m = p ++ t.drop i := ⟨_, rfl⟩
  rw [← hmm] at HW LM FM SC
  clear hnil1 hnil2 hn1 hn2 hf1 hf2 hr1 hr2 hV hmm
  go_enter Try.func4, Try.ntmps4
  go_wp2_with (go_at_call 14; refine (bytes14 _ _ _ _ _ _ _ _ hm).mono ?_; rintro e w1 ⟨rfl, rfl⟩)
  refine (clone_two a1 n1 c1 f1 _ H1 N1.out (by omega)).mono ?_
  rintro e w2 ⟨b1, rfl, -, K1, hb1⟩
  go_wp2_with fail
  refine (clone_two a2 n2 c2 f2 _ (H2.later hb1) N2.out (by omega)).mono ?_
  rintro e w3 ⟨b2, rfl, hcase, K2, hb2⟩
  have K1' := K1.later hb2
  have hb3 := hb1.trans (hb2.mono hb1.size)
  clear K1 H1 H2 hb1 hb2
  go_wp2_with fail
  refine (value_gen b2 n2 n2 t f2 _ i K2 L2 F2 (by omega) (Nat.le_refl _) (by unfold maxLen; omega) R2 hi).mono ?_
  rw [HV.out]
  rintro e w4 ⟨rfl, rfl⟩
  rcases hcase with ⟨rfl, rfl⟩ | ⟨g, rfl⟩
  · obtain rfl : i = 0 := by omega
    obtain rfl : V = 0 := by omega
    have HCC : Hid (Calls Try.prog 15 #[.slice b1 n1 n1, .slice none 0 0] w4 fun e w' => ∃ g, e = .returned (.slice (some ⟨g, 0, none⟩) n1 n1) ∧ RowAt w' (some ⟨g, 0, none⟩) n1 (cat f1 n1 (fun j => f2 (0 + j))) ∧ Below w4.heap.size w4 w') :=
      concat_gen b1 n1 n1 f1 none 0 0 (fun j => f2 (0 + j)) w4 K1' (.inl rfl) hm
    have LM' : Hid (m.length = n1) := LM.out
    have RM' : Hid (∀ j, j < n1 → 0 ≤ cat f1 n1 (fun j => f2 (0 + j)) j ∧ cat f1 n1 (fun j => f2 (0 + j)) j ≤ 255) := RM.out
    have hm1 : n1 ≤ 1048576 := hm
    clear LM RM hm hi hVb N2 HV
    go_wp2_with fail
    refine (Calls.mono HCC.out ?_)
    rintro e w5 ⟨gm, rfl, KM, hb5⟩
    go_wp2_with fail
    refine (value_gen (some ⟨gm, 0, none⟩) n1 n1 m _ _ n1 KM LM' FM hm1 (Nat.le_refl _) (by unfold maxLen; omega) RM' (Nat.le_refl _)).mono ?_
    rw [HW.out]
    rintro e w6 ⟨rfl, rfl⟩
    go_wp2
    go_ret
    exact ⟨rfl, hb3.trans (hb5.mono hb3.size)⟩
  · obtain ⟨o', ho', KF⟩ := rowAt_from K2 hi
    go_wp2_with fail
    refine (concat_gen b1 n1 n1 f1 (some ⟨g, o', none⟩) (n2 - i) (n2 - i) (fun j => f2 (i + j)) _ K1' KF (by omega)).mono ?_
    rintro e w5 ⟨gm, rfl, KM, hb5⟩
    have K2' := K2.later hb5
    have hb6 := hb3.trans (hb5.mono hb3.size)
    clear K2 K1' KF hb3 hb5 ho'
    go_wp2_with fail
    refine (value_gen (some ⟨gm, 0, none⟩) (n1 + (n2 - i)) (n1 + (n2 - i)) m _ _ n1 KM LM FM (by omega) (Nat.le_refl _) (by unfold maxLen; omega) RM (by omega)).mono ?_
    rw [HW.out]
    rintro e w6 ⟨rfl, rfl⟩
    by_cases hlt : i < n2
    · obtain ⟨S1, S2⟩ := SC.out hlt
      obtain ⟨S, hS⟩ : ∃ S, S = Pl.scan false (t.drop (i + 1)) := ⟨_, rfl⟩
      rw [← hS] at S1 S2
      have hSb : i + 1 + S ≤ n2 := by rw [← S2, ← L2.out]; exact Pl.sAt_le _ _
      have HS1 : Hid (Pl.sAt m (n1 + 1) = n1 + 1 + S) := S1
      have HS2 : Hid (Pl.sAt t (i + 1) = i + 1 + S) := S2
      clear hS S1 S2 SC
      have K2c := K2'
      rcases K2c with h | ⟨b, off, ha, hbl, hc⟩
      · omega
      simp only [Option.some.injEq, Addr.mk.injEq, and_true] at ha
      obtain ⟨rfl, rfl⟩ := ha
      have hci : w6.cell? ⟨g, i, none⟩ = some (.int .u8 (f2 i)) := by have := hc i hlt; rw [Nat.zero_add] at this; exact this
      clear hc
      by_cases h34 : f2 i = 34
      · have HQ : Hid (f2 i = 34) := h34
        have HQ2 : Hid (cat f1 n1 (fun j => f2 (i + j)) n1 = 34) := by
          have := cat_ge f1 n1 (fun j => f2 (i + j)) 0
          simp only [Nat.add_zero] at this
          rw [this]; exact h34
        have hb34 : (f2 i == 34) = true := by simp [h34]
        clear h34
        go_wp2_with fail
        refine (string_gen (some ⟨g, 0, none⟩) n2 n2 t f2 _ i K2' L2 F2 (by omega) (Nat.le_refl _) (by unfold maxLen; omega) R2 hlt HQ).mono ?_
        rw [HS2.out]
        rintro e w7 ⟨rfl, rfl⟩
        go_wp2_with fail
        refine (string_gen (some ⟨gm, 0, none⟩) (n1 + (n2 - i)) (n1 + (n2 - i)) m _ _ n1 KM LM FM (by omega) (Nat.le_refl _) (by unfold maxLen; omega) RM (by omega) HQ2).mono ?_
        rw [HS1.out]
        rintro e w8 ⟨rfl, rfl⟩
        go_wp2
        go_ret
        exact ⟨rfl, hb6⟩
      · have hb34 : (f2 i == 34) = false := by simp [h34]
        clear h34
        go_wp2
        go_ret
        exact ⟨rfl, hb6⟩
    · go_wp2
      go_ret
      exact ⟨rfl, hb6⟩
end Go.Proofs.Qxb6000551a
