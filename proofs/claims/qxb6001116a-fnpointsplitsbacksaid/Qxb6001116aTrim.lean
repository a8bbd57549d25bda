/-
  THE WALK of zzTrimZeros (23). By an AI agent.
-/
import Derived.Test.Qxb6001116aDigits
import Derived.Lib.Strings
namespace Go.Proofs.Qxb6001116a
open Go.RowKit

def trimL : List UInt8 → List UInt8
  | [] => []
  | c :: r => if c = 48 then trimL r else c :: r

theorem trimL_zero (r : List UInt8) : trimL (48 :: r) = trimL r := rfl
theorem trimL_rep (k : Nat) (l : List UInt8) : trimL (List.replicate k 48 ++ l) = trimL l := by
  induction k with
  | zero => rfl
  | succ k ih => rw [List.replicate_succ, List.cons_append, trimL_zero, ih]
theorem byteAt_48 (l : List UInt8) (k : Nat) (h : k < l.length) : (byteAt l k = 48) ↔ l[k] = 48 := by
  have e : byteAt l k = (l[k].toNat : Int) := by simp [byteAt, List.getD, h]
  rw [e]
  constructor
  · intro h'
    have : l[k].toNat = 48 := by omega
    exact UInt8.toNat_inj.1 this
  · intro h'; rw [h']; rfl
theorem trim_hit (l : List UInt8) (k : Nat) (h : k < l.length) (hb : byteAt l k = 48) : trimL (l.drop (k + 1)) = trimL (l.drop k) := by
  rw [List.drop_eq_getElem_cons h, (byteAt_48 l k h).1 hb]; rfl
theorem trim_miss (l : List UInt8) (k : Nat) (h : k < l.length) (hb : byteAt l k ≠ 48) : trimL (l.drop k) = l.drop k := by
  rw [List.drop_eq_getElem_cons h]
  show (if l[k] = 48 then _ else _) = _
  rw [if_neg (fun e => hb ((byteAt_48 l k h).2 e))]
theorem trim_end (l : List UInt8) (k : Nat) (h : l.length ≤ k) : trimL (l.drop k) = l.drop k := by
  rw [List.drop_eq_nil_of_le h]; rfl

theorem ext_list {a b : ByteArray} (h : a.data.toList = b.data.toList) : a = b := ByteArray.ext (Array.toList_inj.1 h)
theorem ext_mk {a : ByteArray} {l : List UInt8} (h : a.data.toList = l) : a = ⟨l.toArray⟩ := ext_list (by simpa using h)
theorem extract_from (s : ByteArray) (k : Nat) : s.extract k s.size = ⟨(s.data.toList.drop k).toArray⟩ := by
  apply ext_mk
  rw [Lib.extract_data, List.take_of_length_le]
  have : s.data.toList.length = s.size := rfl
  simp only [List.length_drop]; omega
theorem extract_to (s : ByteArray) (k : Nat) : s.extract 0 k = ⟨(s.data.toList.take k).toArray⟩ := by
  apply ext_mk
  rw [Lib.extract_data]; simp

theorem at_byte (s : ByteArray) (k : Nat) (h : k < s.size) : ((s[k]'h).toNat : Int) = byteAt s.data.toList k := by
  have h' : k < s.data.size := h
  have e : s.data.toList.getD k 0 = s[k]'h := by
    rw [List.getD_eq_getElem?_getD, Array.getElem?_toList, Array.getElem?_eq_getElem h']; rfl
  rw [byteAt, e]
theorem ret_str {a b : ByteArray} (h : a = b) : Ending.returned (.string a) = .returned (.string b) := by rw [h]

set_option maxHeartbeats 400000 in
theorem trim_any (s : ByteArray) (n : Nat) (w : World) (hn : s.size = n) (hm : n ≤ 9223372036854775807) : Calls Try.prog 23 #[.string s] w fun e w' => e = .returned (.string ⟨(trimL s.data.toList).toArray⟩) ∧ w' = w := by
  obtain ⟨l, hl⟩ : ∃ l, l = s.data.toList := ⟨_, rfl⟩
  have HL : Hid (l = s.data.toList) := hl
  have HN : Hid (l.length = n) := by rw [hl, ← hn]; rfl
  rw [← hl]
  clear hl
  have hsz : s.size ≤ 9223372036854775807 := by omega
  have HS : Hid (s.size = n) := hn
  clear hn
  go_enter Try.func23, Try.ntmps23
  go_wp2
  go_loop [3] (fun v => ∃ k : Nat, v = .int .i64 k ∧ k ≤ s.size ∧ Hid (trimL (l.drop k) = trimL l)) (fun v => s.size - (intOf v).toNat)
  case atStart => exact ⟨0, rfl, Nat.zero_le _, rfl⟩
  case round =>
    obtain ⟨k, rfl, hk, HP⟩ := hrel
    by_cases hlt : k < s.size
    · have hx := at_byte s k hlt
      rw [← HL.out] at hx
      obtain ⟨x, hxx⟩ : ∃ x, x = byteAt l k := ⟨_, rfl⟩
      rw [← hxx] at hx
      have HX : Hid (x = byteAt l k) := hxx
      clear hxx
      have HK : Hid (k < l.length) := by rw [HN.out, ← HS.out]; exact hlt
      by_cases h48 : x = 48
      · have HE : Hid (trimL (l.drop (k + 1)) = trimL l) := by rw [trim_hit l k HK.out (by rw [← HX.out]; exact h48)]; exact HP.out
        have hb : (x == 48) = true := by simp [h48]
        clear h48
        go_wp2
        go_round
        case rel => exact ⟨k + 1, by go_num, by omega, HE⟩
        case measure => simp [intOf]; omega
      · have HE : Hid (trimL l = l.drop k) := by rw [← HP.out, trim_miss l k HK.out (by rw [← HX.out]; exact h48)]; rfl
        have hb : (x == 48) = false := by simp [h48]
        clear h48
        go_wp2
        go_ret
        exact ⟨ret_str (by rw [extract_from, ← HL.out, HE.out]), rfl⟩
    · have HE : Hid (trimL l = l.drop k) := by rw [← HP.out, trim_end l k (by rw [HN.out, ← HS.out]; omega)]; rfl
      go_wp2
      go_ret
      exact ⟨ret_str (by rw [extract_from, ← HL.out, HE.out]), rfl⟩
end Go.Proofs.Qxb6001116a
