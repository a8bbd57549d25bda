/-
  THE WALKS of point (31) and ZZpoint (21) at an empty sign. By an AI agent.
-/
import Derived.Test.Qxb6001116aCut
namespace Go.Proofs.Qxb6001116a
open Go.RowKit

theorem repL (k : Nat) : Lib.repeatL [48] k = List.replicate k 48 := by
  induction k with
  | zero => rfl
  | succ k ih => rw [Lib.repeatL, ih]; rfl

/-- The digits with zeros ahead, so that more than m stand there. -/
def padL (l : List UInt8) (m : Nat) : List UInt8 := List.replicate (m + 1 - l.length) 48 ++ l
def pointL (D : List UInt8) (c : Nat) : List UInt8 := D.take c ++ 46 :: D.drop c

theorem app_list (a b : ByteArray) : (a ++ b).data.toList = a.data.toList ++ b.data.toList := by simp

theorem point_str (D : ByteArray) (c : Nat) : ((⟨#[]⟩ : ByteArray) ++ D.extract 0 c ++ ⟨#[46]⟩ ++ D.extract c D.size) = ⟨(pointL D.data.toList c).toArray⟩ := by
  apply ext_mk
  rw [app_list, app_list, app_list, extract_to, extract_from]
  simp [pointL]

set_option maxHeartbeats 400000 in
theorem point_long (d : ByteArray) (c m : Nat) (w : World) (hm0 : 1 ≤ m) (hm : m ≤ 65536) (hd : d.size = c + m) (hc : 1 ≤ c) (hdm : d.size ≤ 1048576) :
    Calls Try.prog 31 #[.string ⟨#[]⟩, .string d, .int .i64 m] w fun e w' => e = .returned (.string ⟨(pointL d.data.toList c).toArray⟩) ∧ Below w.heap.size w w' := by
  have HP : Hid _ := point_str d c
  have hd2 : (d.size : Int) - (m : Int) = (c : Int) := by omega
  have hcs : c ≤ d.size := by omega
  have hlt : m < d.size := by omega
  clear hd
  go_enter Try.func31, Try.ntmps31
  go_wp2
  go_region
  go_wp2
  go_ret
  exact ⟨ret_str HP.out, (Below.refl _ _).drew⟩

set_option maxHeartbeats 400000 in
theorem point_short (d : ByteArray) (k m : Nat) (w : World) (hm0 : 1 ≤ m) (hm : m ≤ 65536) (hd : d.size + k = m + 1) (hk : 1 ≤ k) :
    Calls Try.prog 31 #[.string ⟨#[]⟩, .string d, .int .i64 m] w fun e w' => e = .returned (.string ⟨(pointL (List.replicate k 48 ++ d.data.toList) 1).toArray⟩) ∧ Below w.heap.size w w' := by
  have HR : Hid (∀ w, Calls Try.prog 34 #[.string ⟨#[48]⟩, .int .i64 k] w fun e w' => e = .returned (.string ⟨(List.replicate k (48 : UInt8)).toArray⟩) ∧ Below w.heap.size w w') := fun w => by
    have := Try.strings_Repeat ⟨#[48]⟩ k w (by omega) (by simp [ByteArray.size]; omega)
    rw [show (⟨#[48]⟩ : ByteArray).data.toList = [48] from rfl, repL] at this
    exact this
  obtain ⟨r, hr⟩ : ∃ r : ByteArray, r = ⟨(List.replicate k (48 : UInt8)).toArray⟩ := ⟨_, rfl⟩
  have hrs : r.size = k := by rw [hr]; simp [ByteArray.size]
  have HP : Hid (((⟨#[]⟩ : ByteArray) ++ (r ++ d).extract 0 1 ++ ⟨#[46]⟩ ++ (r ++ d).extract 1 (r ++ d).size) = ⟨(pointL (List.replicate k 48 ++ d.data.toList) 1).toArray⟩) := by
    have := point_str (r ++ d) 1
    rw [app_list, hr] at this
    rw [hr]; exact this
  rw [← hr] at HR
  clear hr
  have hd2 : (m : Int) + 1 - (d.size : Int) = (k : Int) := by omega
  have hrd : (r ++ d).size = m + 1 := by rw [ByteArray.size_append, hrs]; omega
  have hle : d.size ≤ m := by omega
  have HP' : Hid (((⟨#[]⟩ : ByteArray) ++ (r ++ d).extract 0 1 ++ ⟨#[46]⟩ ++ (r ++ d).extract 1 (m + 1)) = ⟨(pointL (List.replicate k 48 ++ d.data.toList) 1).toArray⟩) := by
    have := HP.out; rw [hrd] at this; exact this
  clear HP
  go_enter Try.func31, Try.ntmps31
  go_wp2_with (go_at_call 34; refine (HR.out _).mono ?_; rintro e w1 ⟨rfl, hb⟩)
  go_region
  go_wp2
  go_ret
  exact ⟨ret_str HP'.out, hb.drew⟩

/-- point at an empty sign, whatever the digits' number. -/
theorem point_any (d : ByteArray) (m : Nat) (w : World) (hm0 : 1 ≤ m) (hm : m ≤ 65536) (hdm : d.size ≤ 1048576) :
    Calls Try.prog 31 #[.string ⟨#[]⟩, .string d, .int .i64 m] w fun e w' => e = .returned (.string ⟨(pointL (padL d.data.toList m) ((padL d.data.toList m).length - m)).toArray⟩) ∧ Below w.heap.size w w' := by
  have hl : d.data.toList.length = d.size := rfl
  by_cases h : m < d.size
  · have := point_long d (d.size - m) m w hm0 hm (by omega) (by omega) hdm
    have e1 : padL d.data.toList m = d.data.toList := by unfold padL; rw [hl, show m + 1 - d.size = 0 by omega]; rfl
    rw [e1, hl]; exact this
  · have := point_short d (m + 1 - d.size) m w hm0 hm (by omega) (by omega)
    have e1 : padL d.data.toList m = List.replicate (m + 1 - d.size) 48 ++ d.data.toList := by unfold padL; rw [hl]
    have e2 : (padL d.data.toList m).length - m = 1 := by rw [e1]; simp; omega
    rw [e2, e1]; exact this

theorem zz_point_any (d : ByteArray) (m : Nat) (w : World) (hm0 : 1 ≤ m) (hm : m ≤ 65536) (hdm : d.size ≤ 1048576) :
    Calls Try.prog 21 #[.string ⟨#[]⟩, .string d, .int .i64 m] w fun e w' => e = .returned (.string ⟨(pointL (padL d.data.toList m) ((padL d.data.toList m).length - m)).toArray⟩) ∧ Below w.heap.size w w' := by
  have h := point_any d m w hm0 hm hdm
  obtain ⟨r, hr⟩ : ∃ r : ByteArray, r = ⟨(pointL (padL d.data.toList m) ((padL d.data.toList m).length - m)).toArray⟩ := ⟨_, rfl⟩
  rw [← hr] at h ⊢
  clear hr
  go_enter Try.func21, Try.ntmps21
  go_wp2_with (go_at_call 31; refine h.mono ?_; rintro e w' ⟨rfl, hb⟩)
  go_ret
  exact ⟨rfl, hb⟩
end Go.Proofs.Qxb6001116a
