/-
  THE WALKS of the law's own model: zzIsSpaceB1 (25), zzIsStopB1 (29), zzModelContainerEndB1 (28, it calls itself), zzModelValueEndB1 (13). By an AI agent.
-/
import Derived.Test.Qxb6000551aPlain2
import Derived.Test.Qxb6000551aString
namespace Go.Proofs.Qxb6000551a
open Go.RowKit

theorem space_any (x : Int) (w : World) : Calls Try.prog 25 #[.int .u8 x] w fun e w' => e = .returned (.bool (Pl.isSpace x)) ∧ w' = w := by
  unfold Pl.isSpace
  cases h1 : (x == 32) <;> cases h2 : (x == 9) <;> cases h3 : (x == 10) <;> cases h4 : (x == 13)
  all_goals
    go_enter Try.func25, Try.ntmps25
    go_wp2
    go_ret
    exact ⟨rfl, rfl⟩

theorem stop_any (x : Int) (w : World) : Calls Try.prog 29 #[.int .u8 x] w fun e w' => e = .returned (.bool (Pl.isStop x)) ∧ w' = w := by
  unfold Pl.isStop
  cases h1 : (x == 44) <;> cases h2 : (x == 125) <;> cases h3 : (x == 93)
  all_goals
    go_enter Try.func29, Try.ntmps29
    go_wp2_with (go_at_call 25; refine (space_any _ _).mono ?_; rintro e w1 ⟨rfl, rfl⟩)
    go_ret
    exact ⟨by simp, rfl⟩

theorem open_cases {x : Int} (h : Pl.isOpen x = true) : (x == 123) = true ∨ ((x == 123) = false ∧ (x == 91) = true) := by
  simp only [Pl.isOpen, Bool.or_eq_true] at h
  cases h1 : (x == 123)
  · rw [h1] at h; right; exact ⟨rfl, by simpa using h⟩
  · left; rfl
theorem close_cases {x : Int} (h : Pl.isClose x = true) : (x == 125) = true ∨ ((x == 125) = false ∧ (x == 93) = true) := by
  simp only [Pl.isClose, Bool.or_eq_true] at h
  cases h1 : (x == 125)
  · rw [h1] at h; right; exact ⟨rfl, by simpa using h⟩
  · left; rfl

set_option maxHeartbeats 2000000 in
theorem model_cont (b off n c : Nat) (t : List Int) (f : Nat → Int) (w : World) (hn : Hid (t.length = n)) (HF : Hid (∀ j, f j = t.getD j 0)) (hm : n ≤ 1048576)
    (HC : Hid (∀ j, j < n → w.cell? ⟨b, off + j, none⟩ = some (.int .u8 (f j)))) :
    ∀ (m i : Nat), n - i ≤ m → i < n → Calls Try.prog 28 #[.slice (some ⟨b, off, none⟩) n c, .int .i64 i] w fun e w' => e = .returned (.int .i64 (Pl.cAt t 0 i : Nat)) ∧ w' = w := by
  intro m
  induction m with
  | zero => intro i h1 h2; omega
  | succ m ih =>
    intro i him hi
    have IH : Hid (∀ i, n - i ≤ m → i < n → Calls Try.prog 28 #[.slice (some ⟨b, off, none⟩) n c, .int .i64 i] w fun e w' => e = .returned (.int .i64 (Pl.cAt t 0 i : Nat)) ∧ w' = w) := ih
    clear ih
    go_enter Try.func28, Try.ntmps28
    go_wp2
    go_loop [5] (fun v => ∃ k : Nat, v = .int .i64 k ∧ i < k ∧ k ≤ n ∧ Hid (Pl.cAt t 1 k = Pl.cAt t 0 i)) (fun v => n + 1 - (intOf v).toNat)
    case atStart => exact ⟨i + 1, by go_num, by omega, by omega, rfl⟩
    case round =>
      obtain ⟨k, rfl, hik, hkn, HT⟩ := hrel
      by_cases hlt : k < n
      · have hck := HC.out k hlt
        have HL : Hid (k < t.length) := by rw [hn.out]; exact hlt
        have HX : Hid (f k = t.getD k 0) := HF.out k
        by_cases h34 : f k = 34
        · have hb34 : (f k == 34) = true := by simp [h34]
          obtain ⟨T, hT⟩ : ∃ T, T = Pl.sAt t (k + 1) := ⟨_, rfl⟩
          have hT1 : k < T := by rw [hT]; have := Pl.sAt_ge t (k + 1) (by have := HL.out; omega); omega
          have hT2 : T ≤ n := by rw [hT, ← hn.out]; exact Pl.sAt_le _ _
          have HE : Hid (Pl.cAt t 1 T = Pl.cAt t 0 i) := by rw [hT, Pl.cAt_string 0 HL.out HX.out h34]; exact HT.out
          have HS : Hid (T = Pl.sAt t (k + 1)) := hT
          clear h34 hT
          go_wp2_with fail
          refine (model_string_end b off n c t f _ k hn HF hm HC.out hlt).mono ?_
          rw [← HS.out]
          rintro e w1 ⟨rfl, rfl⟩
          go_wp2
          go_round
          case rel => exact ⟨T, rfl, by omega, hT2, HE⟩
          case measure => simp [intOf]; omega
        · have hb34 : (f k == 34) = false := by simp [h34]
          by_cases hop : Pl.isOpen (f k) = true
          · obtain ⟨T, hT⟩ : ∃ T, T = Pl.cAt t 0 k := ⟨_, rfl⟩
            have hT1 : k < T := by rw [hT]; exact (Pl.cAt_bound HL.out).1
            have hT2 : T ≤ n := by rw [hT, ← hn.out]; exact (Pl.cAt_bound HL.out).2
            have HE : Hid (Pl.cAt t 1 T = Pl.cAt t 0 i) := by rw [hT, Pl.cAt_inner HL.out HX.out hop]; exact HT.out
            have HS : Hid (T = Pl.cAt t 0 k) := hT
            have hopen := open_cases hop
            clear h34 hop hT
            rcases hopen with e1 | ⟨e1, e2⟩
            all_goals
              go_wp2_with fail
              refine (IH.out k (by omega) hlt).mono ?_
              rw [← HS.out]
              rintro e w1 ⟨rfl, rfl⟩
              go_wp2
              go_round
              case rel => exact ⟨T, rfl, by omega, hT2, HE⟩
              case measure => simp [intOf]; omega
          · have hop' : Pl.isOpen (f k) = false := by simpa using hop
            obtain ⟨e1, e2⟩ : (f k == 123) = false ∧ (f k == 91) = false := by simpa [Pl.isOpen] using hop'
            by_cases hcl : Pl.isClose (f k) = true
            · have hclose := close_cases hcl
              have HE : Hid (Pl.cAt t 0 i = k + 1) := by rw [← HT.out, Pl.cAt_close0 HL.out HX.out hcl]; rfl
              clear h34 hop hop' hcl
              rcases hclose with e3 | ⟨e3, e4⟩
              all_goals
                go_wp2
                go_ret
                exact ⟨ret_int (by rw [HE.out]; omega), rfl⟩
            · have hcl' : Pl.isClose (f k) = false := by simpa using hcl
              obtain ⟨e3, e4⟩ : (f k == 125) = false ∧ (f k == 93) = false := by simpa [Pl.isClose] using hcl'
              have HE : Hid (Pl.cAt t 1 (k + 1) = Pl.cAt t 0 i) := by rw [Pl.cAt_step 0 HL.out HX.out h34 hop' hcl']; exact HT.out
              clear h34 hop hop' hcl hcl'
              go_wp2
              go_round
              case rel => exact ⟨k + 1, by go_num, by omega, by omega, HE⟩
              case measure => simp [intOf]; omega
      · obtain rfl : k = n := by omega
        have HE : Hid (Pl.cAt t 0 i = k) := by rw [← HT.out, Pl.cAt_end 0 (by rw [hn.out]; omega)]; rfl
        go_wp2
        go_ret
        exact ⟨ret_int (by rw [HE.out]), rfl⟩

theorem ne_len' {i n : Nat} (h : i < n) : ((i : Int) == (n : Int)) = false := by simp; omega

theorem model_value_at_end (a : Option Addr) (n c : Nat) (w : World) :
    Calls Try.prog 13 #[.slice a n c, .int .i64 n] w fun e w' => e = .returned (.int .i64 n) ∧ w' = w := by
  go_enter Try.func13, Try.ntmps13
  go_wp2
  go_ret
  exact ⟨rfl, rfl⟩

set_option maxHeartbeats 1000000 in
theorem model_value_end (b off n c : Nat) (t : List Int) (f : Nat → Int) (w : World) (i : Nat) (hn : Hid (t.length = n)) (HF : Hid (∀ j, f j = t.getD j 0)) (hm : n ≤ 1048576)
    (HC : Hid (∀ j, j < n → w.cell? ⟨b, off + j, none⟩ = some (.int .u8 (f j)))) (hi : i ≤ n) :
    Calls Try.prog 13 #[.slice (some ⟨b, off, none⟩) n c, .int .i64 i] w fun e w' => e = .returned (.int .i64 (Pl.vAt t i : Nat)) ∧ w' = w := by
  by_cases hlt : i < n
  · have hci := HC.out i hlt
    have hne := ne_len' hlt
    have HL : Hid (i < t.length) := by rw [hn.out]; exact hlt
    by_cases h34 : f i = 34
    · have hb34 : (f i == 34) = true := by simp [h34]
      have HV : Hid (Pl.vAt t i = Pl.sAt t (i + 1)) := Pl.vAt_quote HL.out (HF.out i) h34
      clear h34
      go_enter Try.func13, Try.ntmps13
      go_wp2_with (go_at_call 19; refine (model_string_end b off n c t f _ i hn HF hm HC.out hlt).mono ?_; rintro e w1 ⟨rfl, rfl⟩)
      go_ret
      exact ⟨ret_int (by rw [HV.out]), rfl⟩
    · have hb34 : (f i == 34) = false := by simp [h34]
      by_cases ho : Pl.isOpen (f i) = true
      · have HV : Hid (Pl.vAt t i = Pl.cAt t 0 i) := Pl.vAt_open HL.out (HF.out i) ho
        have hopen := open_cases ho
        clear h34 ho
        rcases hopen with e1 | ⟨e1, e2⟩
        all_goals
          go_enter Try.func13, Try.ntmps13
          go_wp2_with (go_at_call 28; refine (model_cont b off n c t f _ hn HF hm HC (n - i) i (Nat.le_refl _) hlt).mono ?_; rintro e w1 ⟨rfl, rfl⟩)
          go_ret
          exact ⟨ret_int (by rw [HV.out]), rfl⟩
      · have ho' : Pl.isOpen (f i) = false := by simpa using ho
        obtain ⟨e1, e2⟩ : (f i == 123) = false ∧ (f i == 91) = false := by simpa [Pl.isOpen] using ho'
        have HV : Hid (Pl.vAt t i = Pl.lAt t i) := Pl.vAt_lit HL.out (HF.out i) h34 ho'
        clear h34 ho ho'
        go_enter Try.func13, Try.ntmps13
        go_wp2
        go_loop [6] (fun v => ∃ k : Nat, v = .int .i64 k ∧ i ≤ k ∧ k ≤ n ∧ Hid (Pl.lAt t k = Pl.lAt t i)) (fun v => n + 1 - (intOf v).toNat)
        case atStart => exact ⟨i, rfl, by omega, by omega, rfl⟩
        case round =>
          obtain ⟨k, rfl, hik, hkn, HT⟩ := hrel
          clear hci hne hb34 e1 e2 HL
          by_cases hk : k < n
          · have hck := HC.out k hk
            have HL : Hid (k < t.length) := by rw [hn.out]; exact hk
            by_cases hs : Pl.isStop (f k) = true
            · have HE : Hid (Pl.vAt t i = k) := by rw [HV.out, ← HT.out, Pl.lAt_stop HL.out (HF.out k) hs]; rfl
              go_wp2_with (go_at_call 29; refine (stop_any _ _).mono ?_; rintro e w1 ⟨rfl, rfl⟩)
              go_ret
              exact ⟨ret_int (by rw [HE.out]), rfl⟩
            · have hs' : Pl.isStop (f k) = false := by simpa using hs
              have HE : Hid (Pl.lAt t (k + 1) = Pl.lAt t i) := by rw [← HT.out, Pl.lAt_step HL.out (HF.out k) hs']; rfl
              clear hs
              go_wp2_with (go_at_call 29; refine (stop_any _ _).mono ?_; rintro e w1 ⟨rfl, rfl⟩)
              go_round
              case rel => exact ⟨k + 1, by go_num, by omega, by omega, HE⟩
              case measure => simp [intOf]; omega
          · have HE : Hid (Pl.vAt t i = k) := by rw [HV.out, ← HT.out, Pl.lAt_end (by rw [hn.out]; omega)]; rfl
            go_wp2
            go_ret
            exact ⟨ret_int (by rw [HE.out]), rfl⟩
  · obtain rfl : i = n := by omega
    have : Pl.vAt t i = i := by have := Pl.vAt_end t; rw [hn.out] at this; exact this
    rw [this]
    exact model_value_at_end _ _ _ _
end Go.Proofs.Qxb6000551a
