/-
  THE WALKS of FnPointSplitsBack (7). By an AI agent.
-/
import Derived.Test.Qxb6001116aPoint
namespace Go.Proofs.Qxb6001116a
open Go.RowKit

theorem bytes20 (d : ByteArray) (i : Int) (w : World) (hm : d.size ≤ 1048576) :
    Calls Try.prog 20 #[.string d, .int .i64 i] w fun e w' => e = .returned (.bool true) ∧ w' = w := by
  go_enter Try.func20, Try.ntmps20
  go_wp2
  go_ret
  exact ⟨rfl, rfl⟩
theorem bytes20_no (d : ByteArray) (i : Int) (w : World) (hm : 1048576 < d.size) (hb : d.size ≤ 9223372036854775807) :
    Calls Try.prog 20 #[.string d, .int .i64 i] w fun e w' => e = .returned (.bool false) ∧ w' = w := by
  go_enter Try.func20, Try.ntmps20
  go_wp2
  go_ret
  exact ⟨rfl, rfl⟩

theorem law_out (d : ByteArray) (i : Int) (w : World) (hb : d.size ≤ 9223372036854775807) (h : i < 1 ∨ 65536 < i ∨ 1048576 < d.size) :
    Calls Try.prog 7 #[.string d, .int .i64 i] w fun e w' => e = .returned (.bool true) ∧ Below w.heap.size w w' := by
  by_cases hm : d.size ≤ 1048576
  · by_cases hneg : i < 1
    · clear h
      go_enter Try.func7, Try.ntmps7
      go_wp2_with (go_at_call 20; refine (bytes20 _ _ _ hm).mono ?_; rintro e w1 ⟨rfl, rfl⟩)
      go_ret
      exact ⟨rfl, Below.refl _ _⟩
    · have hge : 65536 < i := by omega
      clear h
      go_enter Try.func7, Try.ntmps7
      go_wp2_with (go_at_call 20; refine (bytes20 _ _ _ hm).mono ?_; rintro e w1 ⟨rfl, rfl⟩)
      go_ret
      exact ⟨rfl, Below.refl _ _⟩
  · clear h
    go_enter Try.func7, Try.ntmps7
    go_wp2_with (go_at_call 20; refine (bytes20_no _ _ _ (by omega) hb).mono ?_; rintro e w1 ⟨rfl, rfl⟩)
    go_ret
    exact ⟨rfl, Below.refl _ _⟩

theorem zz_digits (d : ByteArray) (w : World) (hm : d.size ≤ 1048576) : Calls Try.prog 19 #[.string d] w fun e w' => e = .returned (.bool (digL d.data.toList)) ∧ Below w.heap.size w w' := by
  have h : Calls Try.prog 30 #[.string d] w fun e w' => e = .returned (.bool (digL d.data.toList)) ∧ Below w.heap.size w w' := by
    have := digs_any d.data.toList w (by have : d.data.toList.length = d.size := rfl; omega)
    rw [← ext_mk (a := d) rfl] at this; exact this
  go_enter Try.func19, Try.ntmps19
  go_wp2_with (go_at_call 30; refine h.mono ?_; rintro e w' ⟨rfl, hb⟩)
  go_ret
  exact ⟨rfl, hb⟩

/-! ### Lists -/
theorem dg_ne (l : List UInt8) (h : l.all isDg = true) : ∀ x ∈ l, x ≠ 46 := by
  intro x hx e
  have := List.all_eq_true.1 h x hx
  rw [e] at this; exact absurd this (by decide)
theorem digL_of (l : List UInt8) (h0 : l ≠ []) (h : l.all isDg = true) : digL l = true := by
  unfold digL; rw [h]; cases l; exact absurd rfl h0; rfl
theorem pad_all (l : List UInt8) (m : Nat) (h : l.all isDg = true) : (padL l m).all isDg = true := by
  unfold padL
  rw [List.all_append, h, Bool.and_true, List.all_eq_true]
  intro x hx
  rw [List.eq_of_mem_replicate hx]; rfl
theorem pad_len (l : List UInt8) (m : Nat) : m < (padL l m).length ∧ (padL l m).length ≤ l.length + m + 1 := by
  unfold padL; simp; omega
theorem pad_trim (l : List UInt8) (m : Nat) : trimL (padL l m) = trimL l := trimL_rep _ _

set_option maxHeartbeats 1000000 in
theorem law_main (d : ByteArray) (m : Nat) (w : World) (hm0 : 1 ≤ m) (hm : m ≤ 65536) (hdm : d.size ≤ 1048576) :
    Calls Try.prog 7 #[.string d, .int .i64 m] w fun e w' => e = .returned (.bool true) ∧ Below w.heap.size w w' := by
  have HD : Hid (∀ w, Calls Try.prog 19 #[.string d] w fun e w' => e = .returned (.bool (digL d.data.toList)) ∧ Below w.heap.size w w') := fun w => zz_digits d w hdm
  have HT : Hid (∀ w, Calls Try.prog 23 #[.string d] w fun e w' => e = .returned (.string ⟨(trimL d.data.toList).toArray⟩) ∧ w' = w) := fun w => trim_any d d.size w rfl (by omega)
  cases hdig : digL d.data.toList with
  | false =>
    rw [hdig] at HD
    clear hdig
    go_enter Try.func7, Try.ntmps7
    go_wp2_with (first | (go_at_call 20; refine (bytes20 _ _ _ hdm).mono ?_; rintro e w1 ⟨rfl, rfl⟩) | (go_at_call 19; refine (HD.out _).mono ?_; rintro e w1 ⟨rfl, hb⟩))
    go_ret
    exact ⟨rfl, hb⟩
  | true =>
    rw [hdig] at HD
    have hall : d.data.toList.all isDg = true := by
      unfold digL at hdig; simp only [Bool.and_eq_true] at hdig; exact hdig.2
    obtain ⟨D, hD⟩ : ∃ D, D = padL d.data.toList m := ⟨_, rfl⟩
    have hlen : d.data.toList.length = d.size := rfl
    have hp := pad_len d.data.toList m
    rw [← hD] at hp
    have hallD : D.all isDg = true := by rw [hD]; exact pad_all _ _ hall
    obtain ⟨c, hc⟩ : ∃ c, c = D.length - m := ⟨_, rfl⟩
    have hA1 : (D.take c).all isDg = true := by rw [List.all_eq_true] at hallD ⊢; exact fun x hx => hallD x (List.mem_of_mem_take hx)
    have hB1 : (D.drop c).all isDg = true := by rw [List.all_eq_true] at hallD ⊢; exact fun x hx => hallD x (List.mem_of_mem_drop hx)
    have hAl : (D.take c).length = c := by simp; omega
    have hBl : (D.drop c).length = m := by simp; omega
    have hA2 : digL (D.take c) = true := digL_of _ (fun e => by rw [e] at hAl; simp at hAl; omega) hA1
    have hB2 : digL (D.drop c) = true := digL_of _ (fun e => by rw [e] at hBl; simp at hBl; omega) hB1
    have HPt : Hid (∀ w, Calls Try.prog 21 #[.string ⟨#[]⟩, .string d, .int .i64 m] w fun e w' => e = .returned (.string ⟨(pointL D c).toArray⟩) ∧ Below w.heap.size w w') := fun w => by
      have := zz_point_any d m w hm0 hm hdm; rw [← hD, ← hc] at this; exact this
    have hps : (⟨(pointL D c).toArray⟩ : ByteArray).size = D.length + 1 := by simp [ByteArray.size, pointL]; omega
    have HSp : Hid (∀ w, Calls Try.prog 22 #[.string ⟨(pointL D c).toArray⟩] w fun e w' => e = .returned (.tuple #[.string ⟨(D.take c).toArray⟩, .string ⟨(D.drop c).toArray⟩, .bool true]) ∧ Below w.heap.size w w') := fun w =>
      zz_split_one ⟨(pointL D c).toArray⟩ (D.take c) (D.drop c) w rfl (dg_ne _ hA1) (by rw [hps]; omega) hA2 hB2
    obtain ⟨P, hP⟩ : ∃ P : ByteArray, P = ⟨(pointL D c).toArray⟩ := ⟨_, rfl⟩
    obtain ⟨A, hAe⟩ : ∃ A : ByteArray, A = ⟨(D.take c).toArray⟩ := ⟨_, rfl⟩
    obtain ⟨B, hBe⟩ : ∃ B : ByteArray, B = ⟨(D.drop c).toArray⟩ := ⟨_, rfl⟩
    have hAB : (A ++ B).data.toList = D := by rw [app_list, hAe, hBe]; simp
    have HTr : Hid (∀ w, Calls Try.prog 23 #[.string (A ++ B)] w fun e w' => e = .returned (.string ⟨(trimL d.data.toList).toArray⟩) ∧ w' = w) := fun w => by
      have hABl : (A ++ B).size = D.length := by rw [← hAB]; rfl
      have := trim_any (A ++ B) D.length w hABl (by omega)
      rw [hAB, hD, pad_trim] at this; exact this
    have hBs : B.size = m := by rw [hBe]; simp only [ByteArray.size, List.size_toArray]; exact hBl
    have hAe0 : A.toList.isEmpty = false := by
      rw [Lib.toList_data, hAe]
      have : (D.take c) ≠ [] := fun e => by rw [e] at hAl; simp at hAl; omega
      simpa using this
    rw [← hP, ← hAe, ← hBe] at HSp
    rw [← hP] at HPt
    obtain ⟨T, hT⟩ : ∃ T : ByteArray, T = ⟨(trimL d.data.toList).toArray⟩ := ⟨_, rfl⟩
    rw [← hT] at HT HTr
    have hBm : (B.size : Int) = (m : Int) := by omega
    have hAs : A.size ≤ 2000000 := by rw [hAe]; simp only [ByteArray.size, List.size_toArray]; rw [hAl]; omega
    have hBs2 : B.size ≤ 65536 := by omega
    clear hdig hall hD hlen hp hallD hc hA1 hB1 hAl hBl hA2 hB2 hps hP hAe hBe hAB hT hBs
    go_enter Try.func7, Try.ntmps7
    go_wp2_with (first | (go_at_call 20; refine (bytes20 _ _ _ hdm).mono ?_; rintro e w1 ⟨rfl, rfl⟩) | (go_at_call 19; refine (HD.out _).mono ?_; rintro e w2 ⟨rfl, hb2⟩))
    refine (HPt.out _).mono ?_
    rintro e w3 ⟨rfl, hb3⟩
    go_wp2_with fail
    refine (HSp.out _).mono ?_
    rintro e w4 ⟨rfl, hb4⟩
    go_wp2_with fail
    refine (HTr.out _).mono ?_
    rintro e w5 ⟨rfl, rfl⟩
    go_wp2_with fail
    refine (HT.out _).mono ?_
    rintro e w6 ⟨rfl, rfl⟩
    go_wp2
    go_ret
    exact ⟨rfl, (hb2.trans (hb3.mono hb2.size)).trans (hb4.mono (Nat.le_trans hb2.size hb3.size))⟩
end Go.Proofs.Qxb6001116a
