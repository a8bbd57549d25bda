/-
  THE WALKS of valueEnd (27) and ZZValueEnd (12). By an AI agent.
-/
import Derived.Test.Qxb6000551aPlain2
import Derived.Test.Qxb6000551aString
namespace Go.Proofs.Qxb6000551a
open Go.RowKit

theorem value_at_end (a : Option Addr) (n c : Nat) (w : World) (_hm : n ≤ 1048576) :
    Calls Try.prog 27 #[.slice a n c, .int .i64 n] w fun e w' => e = .returned (.int .i64 n) ∧ w' = w := by
  go_enter Try.func27, Try.ntmps27
  go_wp2
  go_ret
  exact ⟨rfl, rfl⟩

theorem ne_len {i n : Nat} (h : i < n) : ((i : Int) == (n : Int)) = false := by simp; omega

set_option maxHeartbeats 400000 in
theorem value_quote (b off n c : Nat) (t : List Int) (f : Nat → Int) (w : World) (i : Nat) (hn : Hid (t.length = n)) (HF : Hid (∀ j, f j = t.getD j 0)) (hm : n ≤ 1048576) (hnc : n ≤ c) (hcm : c ≤ maxLen)
    (HC : Hid (∀ j, j < n → w.cell? ⟨b, off + j, none⟩ = some (.int .u8 (f j)))) (HR : Hid (∀ j, j < n → 0 ≤ f j ∧ f j ≤ 255)) (hi : i < n) (HQ : Hid (f i = 34)) :
    Calls Try.prog 27 #[.slice (some ⟨b, off, none⟩) n c, .int .i64 i] w fun e w' => e = .returned (.int .i64 (Pl.vAt t i : Nat)) ∧ w' = w := by
  have hci := HC.out i hi
  have hb34 : (f i == 34) = true := by simp [HQ.out]
  have hne := ne_len hi
  have HV : Hid (Pl.vAt t i = Pl.sAt t (i + 1)) := Pl.vAt_quote (by rw [hn.out]; exact hi) (HF.out i) HQ.out
  go_enter Try.func27, Try.ntmps27
  go_wp2_with (go_at_call 30; refine (string_end b off n c t f _ i hn HF hm hnc hcm HC.out HR.out hi HQ).mono ?_; rintro e w1 ⟨rfl, rfl⟩)
  go_ret
  exact ⟨ret_int (by rw [HV.out]), rfl⟩

set_option maxHeartbeats 1000000 in
theorem value_lit (b off n c : Nat) (t : List Int) (f : Nat → Int) (w : World) (i : Nat) (hn : Hid (t.length = n)) (HF : Hid (∀ j, f j = t.getD j 0)) (hm : n ≤ 1048576)
    (HC : Hid (∀ j, j < n → w.cell? ⟨b, off + j, none⟩ = some (.int .u8 (f j)))) (hi : i < n) (h34 : f i ≠ 34) (ho : Pl.isOpen (f i) = false) :
    Calls Try.prog 27 #[.slice (some ⟨b, off, none⟩) n c, .int .i64 i] w fun e w' => e = .returned (.int .i64 (Pl.vAt t i : Nat)) ∧ w' = w := by
  have hci := HC.out i hi
  have hb34 : (f i == 34) = false := by simp [h34]
  obtain ⟨hb123, hb91⟩ : (f i == 123) = false ∧ (f i == 91) = false := by simpa [Pl.isOpen] using ho
  have hne := ne_len hi
  have HV : Hid (Pl.vAt t i = Pl.lAt t i) := Pl.vAt_lit (by rw [hn.out]; exact hi) (HF.out i) h34 ho
  clear h34 ho
  go_enter Try.func27, Try.ntmps27
  go_wp2
  go_loop [1] (fun v => ∃ k : Nat, v = .int .i64 k ∧ i ≤ k ∧ k ≤ n ∧ Hid (Pl.lAt t k = Pl.lAt t i)) (fun v => n + 1 - (intOf v).toNat)
  case atStart => exact ⟨i, rfl, by omega, by omega, rfl⟩
  case round =>
    obtain ⟨k, rfl, hik, hkn, HT⟩ := hrel
    clear hci hb34 hb123 hb91 hne
    by_cases hlt : k < n
    · have hck := HC.out k hlt
      have HL : Hid (k < t.length) := by rw [hn.out]; exact hlt
      by_cases hs : Pl.isStop (f k) = true
      · have HS : Hid (Pl.isStop (f k) = true) := hs
        have HE : Hid (Pl.vAt t i = k) := by rw [HV.out, ← HT.out, Pl.lAt_stop HL.out (HF.out k) hs]; rfl
        clear hs
        go_wp2
        all_goals first
          | (go_ret; exact ⟨ret_int (by rw [HE.out]), rfl⟩)
          | (exact (Pl.stop_absurd HS.out (by assumption) (by assumption) (by assumption) (by assumption) (by assumption) (by assumption) (by assumption)).elim)
      · have hs' : Pl.isStop (f k) = false := by simpa using hs
        have HE : Hid (Pl.lAt t (k + 1) = Pl.lAt t i) := by rw [← HT.out, Pl.lAt_step HL.out (HF.out k) hs']; rfl
        obtain ⟨e1, e2, e3, e4, e5, e6, e7⟩ := Pl.notStop hs'
        clear hs hs'
        go_wp2
        go_round
        case rel => exact ⟨k + 1, by go_num, by omega, by omega, HE⟩
        case measure => simp [intOf]; omega
    · have HE : Hid (Pl.vAt t i = k) := by rw [HV.out, ← HT.out, Pl.lAt_end (by rw [hn.out]; omega)]; rfl
      go_wp2
      go_ret
      exact ⟨ret_int (by rw [HE.out]), rfl⟩

set_option maxHeartbeats 2000000 in
theorem value_cont (b off n c : Nat) (t : List Int) (f : Nat → Int) (w : World) (i : Nat) (hn : Hid (t.length = n)) (HF : Hid (∀ j, f j = t.getD j 0)) (hm : n ≤ 1048576) (hnc : n ≤ c) (hcm : c ≤ maxLen)
    (HC : Hid (∀ j, j < n → w.cell? ⟨b, off + j, none⟩ = some (.int .u8 (f j)))) (HR : Hid (∀ j, j < n → 0 ≤ f j ∧ f j ≤ 255)) (hi : i < n) (ho : Pl.isOpen (f i) = true) :
    Calls Try.prog 27 #[.slice (some ⟨b, off, none⟩) n c, .int .i64 i] w fun e w' => e = .returned (.int .i64 (Pl.vAt t i : Nat)) ∧ w' = w := by
  have hci := HC.out i hi
  have HO : Hid (Pl.isOpen (f i) = true) := ho
  have hb34 : (f i == 34) = false := by
    cases h : (f i == 34)
    · rfl
    · exfalso; simp at h; rw [h] at ho; exact absurd ho (by decide)
  have hopen : (f i == 123) = true ∨ ((f i == 123) = false ∧ (f i == 91) = true) := by
    simp only [Pl.isOpen, Bool.or_eq_true] at ho
    cases h : (f i == 123)
    · rw [h] at ho; right; exact ⟨rfl, by simpa using ho⟩
    · left; rfl
  have hne := ne_len hi
  have HV : Hid (Pl.vAt t i = Pl.cAt t 0 i) := Pl.vAt_open (by rw [hn.out]; exact hi) (HF.out i) ho
  clear ho
  rcases hopen with h123 | ⟨h123, h91⟩
  all_goals
    go_enter Try.func27, Try.ntmps27
    go_wp2
    go_loop [1, 5] (fun v u => ∃ k d : Nat, v = .int .i64 k ∧ u = .int .i64 d ∧ i ≤ k ∧ k ≤ n ∧ d + i ≤ k ∧ Hid (Pl.cAt t d k = Pl.cAt t 0 i ∧ (d = 0 → k = i))) (fun v _ => n + 1 - (intOf v).toNat)
    case atStart => exact ⟨i, 0, rfl, rfl, by omega, by omega, by omega, rfl, fun _ => rfl⟩
    case round =>
      obtain ⟨k, d, rfl, rfl, hik, hkn, hdk, HT⟩ := hrel
      clear hci hb34 hne h123
      try clear h91
      by_cases hlt : k < n
      · have hck := HC.out k hlt
        have HL : Hid (k < t.length) := by rw [hn.out]; exact hlt
        have HX : Hid (f k = t.getD k 0) := HF.out k
        by_cases h34 : f k = 34
        · have hd : 0 < d := by
            rcases Nat.eq_zero_or_pos d with h | h
            · exfalso
              have e := HT.out.2 h
              have := HO.out
              rw [← e, h34] at this
              exact absurd this (by decide)
            · exact h
          obtain ⟨d', rfl⟩ : ∃ d', d = d' + 1 := ⟨d - 1, by omega⟩
          have H34 : Hid (f k = 34) := h34
          have hb34 : (f k == 34) = true := by simp [h34]
          obtain ⟨T, hT⟩ : ∃ T, T = Pl.sAt t (k + 1) := ⟨_, rfl⟩
          have hT1 : k < T := by rw [hT]; have := Pl.sAt_ge t (k + 1) (by have := HL.out; omega); omega
          have hT2 : T ≤ n := by rw [hT, ← hn.out]; exact Pl.sAt_le _ _
          have HE : Hid (Pl.cAt t (d' + 1) T = Pl.cAt t 0 i ∧ (d' + 1 = 0 → T = i)) := ⟨by rw [hT, Pl.cAt_string d' HL.out HX.out h34]; exact HT.out.1, fun h => by omega⟩
          have HS : Hid (T = Pl.sAt t (k + 1)) := hT
          clear h34 hT
          go_wp2_with fail
          refine (string_end b off n c t f _ k hn HF hm hnc hcm HC.out HR.out hlt H34).mono ?_
          rw [← HS.out]
          rintro e w1 ⟨rfl, rfl⟩
          go_wp2
          go_round
          case rel => exact ⟨T, d' + 1, rfl, by go_num, by omega, hT2, by omega, HE⟩
          case measure => simp [intOf]; omega
        · have hb34 : (f k == 34) = false := by simp [h34]
          by_cases hop : Pl.isOpen (f k) = true
          · have HE : Hid (Pl.cAt t (d + 1) (k + 1) = Pl.cAt t 0 i ∧ (d + 1 = 0 → k + 1 = i)) := by
              refine ⟨?_, fun h => by omega⟩
              rcases Nat.eq_zero_or_pos d with h | h
              · subst h; rw [Pl.cAt_first]; exact HT.out.1
              · obtain ⟨d', rfl⟩ : ∃ d', d = d' + 1 := ⟨d - 1, by omega⟩
                rw [Pl.cAt_open d' HL.out HX.out hop]; exact HT.out.1
            have hopen : (f k == 123) = true ∨ ((f k == 123) = false ∧ (f k == 91) = true) := by
              simp only [Pl.isOpen, Bool.or_eq_true] at hop
              cases h : (f k == 123)
              · rw [h] at hop; right; exact ⟨rfl, by simpa using hop⟩
              · left; rfl
            clear h34 hop
            rcases hopen with e1 | ⟨e1, e2⟩
            · go_wp2
              go_round
              case rel => exact ⟨k + 1, d + 1, by go_num, by go_num, by omega, by omega, by omega, HE⟩
              case measure => simp [intOf]; omega
            · go_wp2
              go_round
              case rel => exact ⟨k + 1, d + 1, by go_num, by go_num, by omega, by omega, by omega, HE⟩
              case measure => simp [intOf]; omega
          · have hop' : Pl.isOpen (f k) = false := by simpa using hop
            have hd : 0 < d := by
              rcases Nat.eq_zero_or_pos d with h | h
              · exfalso
                have e := HT.out.2 h
                have := HO.out
                rw [← e, hop'] at this
                exact absurd this (by decide)
              · exact h
            obtain ⟨e1, e2⟩ : (f k == 123) = false ∧ (f k == 91) = false := by simpa [Pl.isOpen] using hop'
            by_cases hcl : Pl.isClose (f k) = true
            · have hclose : (f k == 125) = true ∨ ((f k == 125) = false ∧ (f k == 93) = true) := by
                simp only [Pl.isClose, Bool.or_eq_true] at hcl
                cases h : (f k == 125)
                · rw [h] at hcl; right; exact ⟨rfl, by simpa using hcl⟩
                · left; rfl
              by_cases hd1 : d = 1
              · subst hd1
                have HE : Hid (Pl.vAt t i = k + 1) := by rw [HV.out, ← HT.out.1, Pl.cAt_close0 HL.out HX.out hcl]; rfl
                clear h34 hop hop' hcl
                rcases hclose with e3 | ⟨e3, e4⟩
                · go_wp2
                  go_ret
                  exact ⟨ret_int (by rw [HE.out]; omega), rfl⟩
                · go_wp2
                  go_ret
                  exact ⟨ret_int (by rw [HE.out]; omega), rfl⟩
              · obtain ⟨d', rfl⟩ : ∃ d', d = d' + 2 := ⟨d - 2, by omega⟩
                have HE : Hid (Pl.cAt t (d' + 1) (k + 1) = Pl.cAt t 0 i ∧ (d' + 1 = 0 → k + 1 = i)) := ⟨by rw [Pl.cAt_close d' HL.out HX.out hcl]; exact HT.out.1, fun h => by omega⟩
                have hdd : ((d' + 2 : Nat) : Int) - 1 = ((d' + 1 : Nat) : Int) := by omega
                clear h34 hop hop' hcl hd1
                rcases hclose with e3 | ⟨e3, e4⟩
                · go_wp2
                  go_round
                  case rel => exact ⟨k + 1, d' + 1, by go_num, by go_num, by omega, by omega, by omega, HE⟩
                  case measure => simp [intOf]; omega
                · go_wp2
                  go_round
                  case rel => exact ⟨k + 1, d' + 1, by go_num, by go_num, by omega, by omega, by omega, HE⟩
                  case measure => simp [intOf]; omega
            · have hcl' : Pl.isClose (f k) = false := by simpa using hcl
              obtain ⟨e3, e4⟩ : (f k == 125) = false ∧ (f k == 93) = false := by simpa [Pl.isClose] using hcl'
              have HE : Hid (Pl.cAt t d (k + 1) = Pl.cAt t 0 i ∧ (d = 0 → k + 1 = i)) := by
                refine ⟨?_, fun h => by omega⟩
                obtain ⟨d', rfl⟩ : ∃ d', d = d' + 1 := ⟨d - 1, by omega⟩
                rw [Pl.cAt_step d' HL.out HX.out h34 hop' hcl']; exact HT.out.1
              clear h34 hop hop' hcl hcl'
              go_wp2
              go_round
              case rel => exact ⟨k + 1, d, by go_num, by go_num, by omega, by omega, by omega, HE⟩
              case measure => simp [intOf]; omega
      · have HE : Hid (Pl.vAt t i = k) := by
          rcases Nat.eq_zero_or_pos d with h | h
          · have := HT.out.2 h; omega
          · obtain ⟨d', rfl⟩ : ∃ d', d = d' + 1 := ⟨d - 1, by omega⟩
            rw [HV.out, ← HT.out.1, Pl.cAt_end d' (by rw [hn.out]; omega)]; rfl
        go_wp2
        go_ret
        exact ⟨ret_int (by rw [HE.out]), rfl⟩

/-- valueEnd, whatever stands at i. -/
theorem value_end (b off n c : Nat) (t : List Int) (f : Nat → Int) (w : World) (i : Nat) (hn : Hid (t.length = n)) (HF : Hid (∀ j, f j = t.getD j 0)) (hm : n ≤ 1048576) (hnc : n ≤ c) (hcm : c ≤ maxLen)
    (HC : Hid (∀ j, j < n → w.cell? ⟨b, off + j, none⟩ = some (.int .u8 (f j)))) (HR : Hid (∀ j, j < n → 0 ≤ f j ∧ f j ≤ 255)) (hi : i ≤ n) :
    Calls Try.prog 27 #[.slice (some ⟨b, off, none⟩) n c, .int .i64 i] w fun e w' => e = .returned (.int .i64 (Pl.vAt t i : Nat)) ∧ w' = w := by
  by_cases hlt : i < n
  · by_cases h34 : f i = 34
    · exact value_quote b off n c t f w i hn HF hm hnc hcm HC HR hlt h34
    · by_cases ho : Pl.isOpen (f i) = true
      · exact value_cont b off n c t f w i hn HF hm hnc hcm HC HR hlt ho
      · exact value_lit b off n c t f w i hn HF hm HC hlt h34 (by simpa using ho)
  · obtain rfl : i = n := by omega
    have : Pl.vAt t i = i := by have := Pl.vAt_end t; rw [hn.out] at this; exact this
    rw [this]
    exact value_at_end _ _ _ _ hm

theorem zz_value_end (b off n c : Nat) (t : List Int) (f : Nat → Int) (w : World) (i : Nat) (hn : Hid (t.length = n)) (HF : Hid (∀ j, f j = t.getD j 0)) (hm : n ≤ 1048576) (hnc : n ≤ c) (hcm : c ≤ maxLen)
    (HC : Hid (∀ j, j < n → w.cell? ⟨b, off + j, none⟩ = some (.int .u8 (f j)))) (HR : Hid (∀ j, j < n → 0 ≤ f j ∧ f j ≤ 255)) (hi : i ≤ n) :
    Calls Try.prog 12 #[.slice (some ⟨b, off, none⟩) n c, .int .i64 i] w fun e w' => e = .returned (.int .i64 (Pl.vAt t i : Nat)) ∧ w' = w := by
  go_enter Try.func12, Try.ntmps12
  go_wp2_with (go_at_call 27; refine (value_end b off n c t f w i hn HF hm hnc hcm HC HR hi).mono ?_; rintro e w' ⟨rfl, rfl⟩)
  go_ret
  exact ⟨rfl, rfl⟩
theorem zz_value_at_end (a : Option Addr) (n c : Nat) (w : World) (hm : n ≤ 1048576) :
    Calls Try.prog 12 #[.slice a n c, .int .i64 n] w fun e w' => e = .returned (.int .i64 n) ∧ w' = w := by
  go_enter Try.func12, Try.ntmps12
  go_wp2_with (go_at_call 27; refine (value_at_end a n c w hm).mono ?_; rintro e w' ⟨rfl, rfl⟩)
  go_ret
  exact ⟨rfl, rfl⟩
end Go.Proofs.Qxb6000551a
