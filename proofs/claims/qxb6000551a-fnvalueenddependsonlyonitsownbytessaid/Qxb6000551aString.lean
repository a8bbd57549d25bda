/-
  THE WALKS of bytes.IndexByte at a quote (32) and of stringEnd (30), ZZStringEnd (16), zzModelStringEndB1 (19). By an AI agent.
-/
import Derived.Test.Qxb6000551aProg
import Derived.Test.Qxb6000551aPlain
import Derived.WalkKit
import Derived.WalkSpells
import Derived.WalkLawsBesides
import Derived.Lib.BytesEntry
namespace Go.Proofs.Qxb6000551a
open Go.RowKit

theorem ret_int {k : IntKind} {a b : Int} (h : a = b) : Ending.returned (.int k a) = .returned (.int k b) := by rw [h]

theorem ib_none (l : List UInt8) (c : UInt8) (h : ∀ x ∈ l, x ≠ c) : Lib.indexByte l c = -1 := by
  induction l with
  | nil => rfl
  | cons b l ih =>
    have h1 := h b (List.mem_cons_self ..)
    rw [Lib.indexByte, ih (fun x hx => h x (List.mem_cons_of_mem _ hx))]
    simp [h1]
theorem ib_some (l : List UInt8) (c : UInt8) (q : Nat) (hq : l[q]? = some c) (h : ∀ j, j < q → l[j]? ≠ some c) : Lib.indexByte l c = q := by
  induction l generalizing q with
  | nil => simp at hq
  | cons b l ih =>
    rw [Lib.indexByte]
    cases q with
    | zero => simp at hq; simp [hq]
    | succ q =>
      have h1 : b ≠ c := fun e => h 0 (by omega) (by simp [e])
      have := ih q (by simpa using hq) (fun j hj => by simpa using h (j + 1) (by omega))
      rw [this]
      have h2 : ¬ ((q : Int) = -1) := by omega
      simp [h1, h2]

theorem u8_34 {x : Int} (h0 : 0 ≤ x) (h1 : x ≤ 255) : (UInt8.ofNat x.toNat = 34) ↔ x = 34 := by
  constructor
  · intro h
    have := congrArg UInt8.toNat h
    simp at this
    omega
  · rintro rfl; rfl

def rowOf (g : Nat → Int) (m : Nat) : List Int := (List.range m).map g
theorem rowOf_len (g : Nat → Int) (m : Nat) : (rowOf g m).length = m := by simp [rowOf]
theorem rowOf_get (g : Nat → Int) (m i : Nat) (h : i < m) : (rowOf g m).getD i 0 = g i := by simp [rowOf, List.getD, h]

set_option maxHeartbeats 400000 in
theorem idx_raw (b o n c : Nat) (g : Nat → Int) (w : World) (hc : ∀ i, i < n → w.cell? ⟨b, o + i, none⟩ = some (.int .u8 (g i))) :
    Calls Try.prog 32 #[.slice (some ⟨b, o, none⟩) n c, .int .u8 34] w fun e w' => e = .returned (.int .i64 (Lib.indexByte (Lib.bytesOf (rowOf g n)) 34)) ∧ w' = w := by
  have hrun := Lib.run_indexByteSlice (P := Try.prog) w b o n c (rowOf g n) (rowOf_len g n) (fun i hi => by rw [rowOf_get g n i hi]; exact hc i hi) 34
  go_enter Try.func32, Try.ntmps32
  go_wp2
  rw [run_callFunc_extern Try.func34 (by kernel_rfl) (by kernel_rfl) (by kernel_rfl) (e := Extern.BytealgIndexByte.indexByte) (by kernel_rfl), hrun]
  simp only [Result.andThen]
  rw [Oper.upon_value]
  go_wp2
  go_ret
  exact ⟨rfl, rfl⟩

theorem bytesOf_row (g : Nat → Int) (n j : Nat) (h : j < n) : (Lib.bytesOf (rowOf g n))[j]? = some (UInt8.ofNat (g j).toNat) := by
  simp [Lib.bytesOf, rowOf, h]

theorem idx_none (b o n c : Nat) (g : Nat → Int) (w : World) (hc : ∀ i, i < n → w.cell? ⟨b, o + i, none⟩ = some (.int .u8 (g i))) (hr : ∀ i, i < n → 0 ≤ g i ∧ g i ≤ 255) (h : ∀ i, i < n → g i ≠ 34) :
    Calls Try.prog 32 #[.slice (some ⟨b, o, none⟩) n c, .int .u8 34] w fun e w' => e = .returned (.int .i64 (-1)) ∧ w' = w := by
  have := idx_raw b o n c g w hc
  rw [ib_none] at this
  · exact this
  · intro x hx
    obtain ⟨j, hj, rfl⟩ := List.mem_iff_getElem.1 hx
    have hj' : j < n := by simpa [Lib.bytesOf, rowOf] using hj
    have e := bytesOf_row g n j hj'
    rw [List.getElem?_eq_getElem hj] at e
    rw [Option.some.inj e]
    exact fun he => h j hj' ((u8_34 (hr j hj').1 (hr j hj').2).1 he)
theorem idx_some (b o n c : Nat) (g : Nat → Int) (w : World) (hc : ∀ i, i < n → w.cell? ⟨b, o + i, none⟩ = some (.int .u8 (g i))) (hr : ∀ i, i < n → 0 ≤ g i ∧ g i ≤ 255) (q : Nat) (hq : q < n) (h34 : g q = 34) (h : ∀ i, i < q → g i ≠ 34) :
    Calls Try.prog 32 #[.slice (some ⟨b, o, none⟩) n c, .int .u8 34] w fun e w' => e = .returned (.int .i64 (q : Int)) ∧ w' = w := by
  have := idx_raw b o n c g w hc
  rw [ib_some _ _ q (by rw [bytesOf_row g n q hq, h34]; rfl) (fun j hj => by
    rw [bytesOf_row g n j (by omega)]
    exact fun he => h j hj ((u8_34 (hr j (by omega)).1 (hr j (by omega)).2).1 (Option.some.inj he)))] at this
  exact this

set_option maxHeartbeats 400000 in
theorem string_end (b off n c : Nat) (t : List Int) (f : Nat → Int) (w : World) (i : Nat) (hn : Hid (t.length = n)) (HF : Hid (∀ j, f j = t.getD j 0)) (hm : n ≤ 1048576) (hnc : n ≤ c) (hcm : c ≤ maxLen)
    (hc : ∀ j, j < n → w.cell? ⟨b, off + j, none⟩ = some (.int .u8 (f j))) (hr : ∀ j, j < n → 0 ≤ f j ∧ f j ≤ 255) (hi : i < n) (hq : Hid (f i = 34)) :
    Calls Try.prog 30 #[.slice (some ⟨b, off, none⟩) n c, .int .i64 i] w fun e w' => e = .returned (.int .i64 (Pl.sAt t (i + 1) : Nat)) ∧ w' = w := by
  unfold maxLen at hcm
  go_enter Try.func30, Try.ntmps30
  go_wp2
  go_loop [1] (fun v => ∃ k : Nat, v = .int .i64 k ∧ i < k ∧ k ≤ n ∧ Hid (Pl.sAt t k = Pl.sAt t (i + 1) ∧ Pl.bsl t k = 0)) (fun v => n + 1 - (intOf v).toNat)
  case atStart => exact ⟨i + 1, by go_num, by omega, by omega, rfl, Pl.bsl_miss t f HF.out i (by rw [hq.out]; decide)⟩
  case round =>
    obtain ⟨k, rfl, hik, hkn, HT⟩ := hrel
    obtain ⟨o', ho', hop⟩ : ∃ o' : Nat, (if c = k then some (⟨b, off, none⟩ : Addr) else some ⟨b, off + k, none⟩) = some ⟨b, o', none⟩ ∧ Hid (k < n → o' = off + k) := by
      by_cases h : c = k
      · exact ⟨off, by simp [h], fun h' => by omega⟩
      · exact ⟨off + k, by simp [h], fun _ => rfl⟩
    have hcg : Hid (∀ j, j < n - k → w.cell? ⟨b, o' + j, none⟩ = some (.int .u8 (f (k + j)))) := fun j hj => by
      rw [hop.out (by omega), Nat.add_assoc]; exact hc (k + j) (by omega)
    have hrg : Hid (∀ j, j < n - k → 0 ≤ f (k + j) ∧ f (k + j) ≤ 255) := fun j hj => hr (k + j) (by omega)
    rcases Pl.first_quote f k n hkn with hno | ⟨q, hqn, h34, hno⟩
    · have HE : Hid (Pl.sAt t (i + 1) = n) := by
        have := Pl.sAt_none t f HF.out k (by rw [hn.out]; exact hkn) (fun j a b => hno j a (by rw [← hn.out]; exact b))
        rw [HT.out.1, hn.out] at this; exact this
      have HN : Hid (∀ j, j < n - k → f (k + j) ≠ 34) := fun j hj => hno (k + j) (by omega) (by omega)
      clear hno
      go_wp2_with fail
      refine (idx_none b o' (n - k) (c - k) (fun j => f (k + j)) w hcg.out hrg.out HN.out).mono ?_
      rintro e w' ⟨rfl, rfl⟩
      go_wp2
      go_ret
      exact ⟨ret_int (by rw [HE.out]), rfl⟩
    · have HN : Hid (∀ j, j < q → f (k + j) ≠ 34) := fun j hj => hno (k + j) (by omega) (by omega)
      have HQ : Hid (f (k + q) = 34) := h34
      have HA := Pl.q_at t f HF.out k (k + q) (Pl.sAt t (i + 1)) (by rw [hn.out]; exact hqn) (by omega) h34 hno HT.out.1 HT.out.2
      have HA' : Hid _ := HA
      have HZ : Hid (∀ d, d < k → d + 1 ≥ k → f d ≠ 92) := by
        intro d h1 h2 h92
        obtain rfl : k = d + 1 := by omega
        have := Pl.bsl_hit t f HF.out d h92
        rw [HT.out.2] at this; omega
      clear hno h34 HA
      go_wp2_with fail
      refine (idx_some b (off + k) (n - k) (c - k) (fun j => f (k + j)) w (fun j hj => by rw [Nat.add_assoc]; exact hc (k + j) (by omega)) hrg.out q (by omega) HQ.out HN.out).mono ?_
      rintro e w' ⟨rfl, rfl⟩
      clear hcg hrg hop ho'
      obtain ⟨p, hp⟩ : ∃ p, p = k + q := ⟨_, rfl⟩
      rw [← hp] at HA' HQ hqn
      have hp1 : (k : Int) + (q : Int) = (p : Int) := by omega
      have hkp : k ≤ p := by omega
      have HP : Hid (p = k + q) := hp
      clear hp
      go_wp2
      go_loop [6] (fun v => ∃ m : Nat, v = .int .i64 m ∧ m + k ≤ p ∧ Hid (m + Pl.bsl t (p - m) = Pl.bsl t p)) (fun v => n + 1 - (intOf v).toNat)
      case atStart => exact ⟨0, by go_num, by omega, by simp [Hid]⟩
      case round =>
        obtain ⟨m, rfl, hmk, HM⟩ := hrel
        obtain ⟨d, hd⟩ : ∃ d, p = d + 1 + m := ⟨p - 1 - m, by omega⟩
        have hdi : (p : Int) - 1 - (m : Int) = (d : Int) := by omega
        have hcd := hc d (by omega)
        have hdn : d < n := by omega
        have HD : Hid (p = d + 1 + m) := hd
        clear hd
        by_cases h92 : f d = 92
        · have HM' : Hid (m + 1 + k ≤ p ∧ m + 1 + Pl.bsl t (p - (m + 1)) = Pl.bsl t p) := by
            have h1 : m + 1 + k ≤ p := by
              rcases Nat.lt_or_ge p (m + 1 + k) with h | h
              · exact absurd h92 (HZ.out d (by omega) (by omega))
              · exact h
            refine ⟨h1, ?_⟩
            have h2 := Pl.bsl_hit t f HF.out d h92
            have h3 := HM.out
            rw [show p - m = d + 1 by omega, h2] at h3
            rw [show p - (m + 1) = d by omega]; omega
          have hb92 : (f d == 92) = true := by simp [h92]
          clear h92
          go_wp2
          go_round
          case rel => exact ⟨m + 1, by go_num, HM'.out.1, HM'.out.2⟩
          case measure => have := HM'.out.1; simp [intOf]; omega
        · have HM' : Hid (Pl.bsl t p = m) := by
            have h2 := Pl.bsl_miss t f HF.out d h92
            have h3 := HM.out
            rw [show p - m = d + 1 by omega, h2] at h3
            unfold Hid; omega
          have hb92 : (f d == 92) = false := by simp [h92]
          clear h92
          go_wp2
          · have h2 : ((m : Int) % 2 == 0) = true := by assumption
            go_ret
            exact ⟨ret_int (by
              have h3 := HA'.out.1 (by rw [HM'.out]; simp at h2; omega)
              rw [h3]; omega), rfl⟩
          · have h2 : ((m : Int) % 2 == 0) = false := by assumption
            have h3 := HA'.out.2 (by rw [HM'.out]; simp at h2; omega)
            go_round
            case rel => exact ⟨p + 1, by go_num, by omega, by omega, h3⟩
            case measure => simp [intOf]; omega

set_option maxHeartbeats 400000 in
theorem zz_string_end (b off n c : Nat) (t : List Int) (f : Nat → Int) (w : World) (i : Nat) (hn : Hid (t.length = n)) (HF : Hid (∀ j, f j = t.getD j 0)) (hm : n ≤ 1048576) (hnc : n ≤ c) (hcm : c ≤ maxLen)
    (hc : ∀ j, j < n → w.cell? ⟨b, off + j, none⟩ = some (.int .u8 (f j))) (hr : ∀ j, j < n → 0 ≤ f j ∧ f j ≤ 255) (hi : i < n) (hq : Hid (f i = 34)) :
    Calls Try.prog 16 #[.slice (some ⟨b, off, none⟩) n c, .int .i64 i] w fun e w' => e = .returned (.int .i64 (Pl.sAt t (i + 1) : Nat)) ∧ w' = w := by
  go_enter Try.func16, Try.ntmps16
  go_wp2_with (go_at_call 30; refine (string_end b off n c t f w i hn HF hm hnc hcm hc hr hi hq).mono ?_; rintro e w' ⟨rfl, rfl⟩)
  go_ret
  exact ⟨rfl, rfl⟩

set_option maxHeartbeats 400000 in
theorem model_string_end (b off n c : Nat) (t : List Int) (f : Nat → Int) (w : World) (i : Nat) (hn : Hid (t.length = n)) (HF : Hid (∀ j, f j = t.getD j 0)) (hm : n ≤ 1048576)
    (hc : ∀ j, j < n → w.cell? ⟨b, off + j, none⟩ = some (.int .u8 (f j))) (hi : i < n) :
    Calls Try.prog 19 #[.slice (some ⟨b, off, none⟩) n c, .int .i64 i] w fun e w' => e = .returned (.int .i64 (Pl.sAt t (i + 1) : Nat)) ∧ w' = w := by
  go_enter Try.func19, Try.ntmps19
  go_wp2
  go_loop [5] (fun v => ∃ k : Nat, v = .int .i64 k ∧ i < k ∧ k ≤ n + 1 ∧ Hid (Pl.sAt t k = Pl.sAt t (i + 1))) (fun v => n + 2 - (intOf v).toNat)
  case atStart => exact ⟨i + 1, by go_num, by omega, by omega, rfl⟩
  case round =>
    obtain ⟨k, rfl, hik, hkn, HT⟩ := hrel
    by_cases hlt : k < n
    · have hcd := hc k hlt
      have hkl : k < t.length := by rw [hn.out]; exact hlt
      have HL : Hid (k < t.length) := hkl
      clear hkl
      by_cases h92 : f k = 92
      · have hb92 : (f k == 92) = true := by simp [h92]
        have HR : Hid (Pl.sAt t (k + 2) = Pl.sAt t (i + 1)) := by rw [Pl.sAt_esc HL.out (HF.out k) h92]; exact HT.out
        clear h92
        go_wp2
        go_round
        case rel => exact ⟨k + 2, by go_num, by omega, by omega, HR⟩
        case measure => simp [intOf]; omega
      · have hb92 : (f k == 92) = false := by simp [h92]
        by_cases h34 : f k = 34
        · have hb34 : (f k == 34) = true := by simp [h34]
          have HR : Hid (Pl.sAt t (i + 1) = k + 1) := by rw [← HT.out]; exact Pl.sAt_quote HL.out (HF.out k) h34
          clear h92 h34
          go_wp2
          go_ret
          exact ⟨ret_int (by rw [HR.out]; omega), rfl⟩
        · have hb34 : (f k == 34) = false := by simp [h34]
          have HR : Hid (Pl.sAt t (k + 1) = Pl.sAt t (i + 1)) := by rw [Pl.sAt_step HL.out (HF.out k) h92 h34]; exact HT.out
          clear h92 h34
          go_wp2
          go_round
          case rel => exact ⟨k + 1, by go_num, by omega, by omega, HR⟩
          case measure => simp [intOf]; omega
    · have HR : Hid (Pl.sAt t (i + 1) = n) := by rw [← HT.out, Pl.sAt_end t k (by rw [hn.out]; omega), hn.out]; rfl
      go_wp2
      go_ret
      exact ⟨ret_int (by rw [HR.out]), rfl⟩
end Go.Proofs.Qxb6000551a
