/-
  THE WALK of isDigits (30) and ZZisDigits (19). By an AI agent.
-/
import Derived.Test.Qxb6001116aProg
import Derived.WalkKit
import Derived.WalkSpells
import Derived.WalkLawsBesides
import Derived.Lib.ConvBytes
namespace Go.Proofs.Qxb6001116a
open Go.RowKit

def isDg (c : UInt8) : Bool := decide (48 ≤ c.toNat) && decide (c.toNat ≤ 57)
def digL (l : List UInt8) : Bool := !l.isEmpty && l.all isDg
/-- The byte at place j, as the walk shows it. -/
def byteAt (l : List UInt8) (j : Nat) : Int := ((l.getD j 0).toNat : Int)

theorem byteAt_dg (l : List UInt8) (j : Nat) : isDg (l.getD j 0) = true ↔ (48 ≤ byteAt l j ∧ byteAt l j ≤ 57) := by
  simp only [isDg, byteAt, Bool.and_eq_true, decide_eq_true_eq]; omega
theorem digL_true (l : List UInt8) (h0 : 0 < l.length) (h : ∀ j, j < l.length → 48 ≤ byteAt l j ∧ byteAt l j ≤ 57) : digL l = true := by
  unfold digL
  have h1 : l.isEmpty = false := by cases l; simp at h0; rfl
  rw [h1]
  simp only [Bool.not_false, Bool.true_and, List.all_eq_true]
  intro x hx
  obtain ⟨j, hj, rfl⟩ := List.mem_iff_getElem.1 hx
  have := (byteAt_dg l j).2 (h j hj)
  simpa [List.getD, hj] using this
theorem digL_false (l : List UInt8) (j : Nat) (hj : j < l.length) (h : ¬ (48 ≤ byteAt l j ∧ byteAt l j ≤ 57)) : digL l = false := by
  unfold digL
  have h1 : isDg (l.getD j 0) = false := by
    cases e : isDg (l.getD j 0)
    · rfl
    · exact absurd ((byteAt_dg l j).1 e) h
  have h2 : l.all isDg = false := by
    rw [List.all_eq_false]
    exact ⟨l[j], List.getElem_mem hj, by simpa [List.getD, hj] using h1⟩
  rw [h2]; simp

theorem below_bytes (w : World) (e : TypeId) (s : ByteArray) : Below w.heap.size w (Lib.bytesWorld w e s) :=
  ⟨rfl, rfl, rfl, by rw [Lib.bytesWorld_size]; omega, fun k hk => Lib.bytesWorld_at_old w e s k hk⟩

theorem digs_empty (s : ByteArray) (w : World) (h : s.toList.isEmpty = true) (hd : s.data.toList = []) : Calls Try.prog 30 #[.string s] w fun e w' => e = .returned (.bool (digL s.data.toList)) ∧ Below w.heap.size w w' := by
  have HD : Hid (digL s.data.toList = false) := by rw [hd]; rfl
  clear hd
  go_enter Try.func30, Try.ntmps30
  go_wp2
  go_ret
  exact ⟨by rw [HD.out]; rfl, Below.refl _ _⟩

set_option maxHeartbeats 400000 in
theorem digs_more (s : ByteArray) (n : Nat) (w : World) (he : s.toList.isEmpty = false) (hn : s.size = n) (h0 : 0 < n) (hm : n ≤ 9223372036854775807) : Calls Try.prog 30 #[.string s] w fun e w' => e = .returned (.bool (digL s.data.toList)) ∧ Below w.heap.size w w' := by
  have hcv := Lib.run_convert_string_bytes (P := Try.prog) w 9 30 5 s Try.underlying9 Try.underlying30 Try.underlying5
  have HL : Hid (s.data.toList.length = n) := by rw [← hn]; rfl
  have HC : Hid (∀ j, j < n → (Lib.bytesWorld w 5 s).cell? ⟨w.heap.size, j, none⟩ = some (.int .u8 (byteAt s.data.toList j))) := fun j hj => Lib.bytesWorld_cell w 5 s j (by omega)
  have HB := below_bytes w 5 s
  obtain ⟨g, hg⟩ : ∃ g : Nat → Int, g = byteAt s.data.toList := ⟨_, rfl⟩
  obtain ⟨R, hR⟩ : ∃ R : Bool, R = digL s.data.toList := ⟨_, rfl⟩
  rw [← hR]
  have HT : Hid ((∀ j, j < n → 48 ≤ g j ∧ g j ≤ 57) → R = true) := fun h => by rw [hR, hg] at *; exact digL_true _ (by rw [HL.out]; exact h0) (fun j hj => h j (by rw [← HL.out]; exact hj))
  have HN : Hid (∀ j, j < n → ¬ (48 ≤ g j ∧ g j ≤ 57) → R = false) := fun j hj h => by rw [hR, hg] at *; exact digL_false _ j (by rw [HL.out]; exact hj) h
  rw [← hg] at HC
  clear hg hR HL
  go_enter Try.func30, Try.ntmps30
  go_wp2
  go_loop [10] (fun v => ∃ k : Nat, v = .int .i64 k ∧ k ≤ n ∧ Hid (∀ j, j < k → 48 ≤ g j ∧ g j ≤ 57)) (fun v => n - (intOf v).toNat)
  case atStart => exact ⟨0, rfl, Nat.zero_le _, fun j hj => by omega⟩
  case round =>
    obtain ⟨k, rfl, hk, HP⟩ := hrel
    by_cases hlt : k < n
    · have hck := HC.out k hlt
      by_cases hd : 48 ≤ g k ∧ g k ≤ 57
      · have HE : Hid (∀ j, j < k + 1 → 48 ≤ g j ∧ g j ≤ 57) := fun j hj => by
          by_cases e : j = k
          · rw [e]; exact hd
          · exact HP.out j (by omega)
        obtain ⟨hd1, hd2⟩ := hd
        go_wp2
        go_round
        case rel => exact ⟨k + 1, by go_num, by omega, HE⟩
        case measure => simp [intOf]; omega
      · have HE : Hid (R = false) := HN.out k hlt hd
        by_cases h1 : g k < 48
        · go_wp2
          go_ret
          exact ⟨by rw [HE.out]; rfl, HB⟩
        · have h2 : 57 < g k := by omega
          go_wp2
          go_ret
          exact ⟨by rw [HE.out]; rfl, HB⟩
    · obtain rfl : k = n := by omega
      have HE : Hid (R = true) := HT.out HP.out
      go_wp2
      go_ret
      exact ⟨by rw [HE.out]; rfl, HB⟩
end Go.Proofs.Qxb6001116a
