/-
  THE WALKS of internal/stringslite.Cut (35) and strings.Cut (32) at "." where one stands, of split (25), ZZsplit (22). By an AI agent.
-/
import Derived.Test.Qxb6001116aTrim
import Derived.Test.Qxb6001116aShelf
import Derived.RegionTactic
namespace Go.Proofs.Qxb6001116a
open Go.RowKit

theorem ib_at (A B : List UInt8) (c : UInt8) (h : ∀ x ∈ A, x ≠ c) : Lib.indexByte (A ++ c :: B) c = A.length := by
  induction A with
  | nil => simp [Lib.indexByte]
  | cons b l ih =>
    have h1 := h b (List.mem_cons_self ..)
    rw [List.cons_append, Lib.indexByte, ih (fun x hx => h x (List.mem_cons_of_mem _ hx))]
    have h2 : ¬ ((l.length : Int) = -1) := by omega
    simp [h1, h2]

set_option maxHeartbeats 400000 in
theorem scut_one (p : ByteArray) (A B : List UInt8) (w : World) (hp : p.data.toList = A ++ 46 :: B) (hA : ∀ x ∈ A, x ≠ 46) (hm : p.size ≤ 9223372036854775807) :
    Calls Try.prog 35 #[.string p, .string ⟨#[46]⟩] w fun e w' => e = .returned (.tuple #[.string ⟨A.toArray⟩, .string ⟨B.toArray⟩, .bool true]) ∧ Below w.heap.size w w' := by
  have hsz : p.size = A.length + 1 + B.length := by
    have : p.data.toList.length = p.size := rfl
    rw [← this, hp]; simp; omega
  have hix := Try.stringslite_Index_one p 46 w
  rw [hp, ib_at A B 46 hA] at hix
  have e1 : p.extract 0 A.length = ⟨A.toArray⟩ := by rw [extract_to, hp]; simp
  have e2 : p.extract (A.length + 1) p.size = ⟨B.toArray⟩ := by
    rw [extract_from, hp, List.drop_append, List.drop_eq_nil_of_le (by omega), List.nil_append]
    simp
  have H1 : Hid (p.extract 0 A.length = ⟨A.toArray⟩) := e1
  have H2 : Hid (p.extract (A.length + 1) p.size = ⟨B.toArray⟩) := e2
  obtain ⟨k, hk⟩ : ∃ k, k = A.length := ⟨_, rfl⟩
  rw [← hk] at H1 H2 hix hsz
  have hks : k + 1 ≤ p.size := by omega
  have hk1 : (0 : Int) ≤ (k : Int) := by omega
  have hk2 : (k : Int) ≤ (p.size : Int) := by omega
  have hk3 : (k : Int) + 1 ≤ (p.size : Int) := by omega
  clear hk hsz e1 e2 hp hA
  go_enter Try.func35, Try.ntmps35
  go_wp2_with (go_at_call 41; refine hix.mono ?_; rintro e w' ⟨rfl, rfl⟩)
  go_region
  go_wp2
  go_ret3
  exact ⟨by rw [← H1.out, ← H2.out]; rfl, (Below.refl _ _).drew⟩

theorem cut_one (p : ByteArray) (A B : List UInt8) (w : World) (hp : p.data.toList = A ++ 46 :: B) (hA : ∀ x ∈ A, x ≠ 46) (hm : p.size ≤ 9223372036854775807) :
    Calls Try.prog 32 #[.string p, .string ⟨#[46]⟩] w fun e w' => e = .returned (.tuple #[.string ⟨A.toArray⟩, .string ⟨B.toArray⟩, .bool true]) ∧ Below w.heap.size w w' := by
  have h := scut_one p A B w hp hA hm
  clear hp hA hm
  go_enter Try.func32, Try.ntmps32
  go_wp2_with (go_at_call 35; refine h.mono ?_; rintro e w' ⟨rfl, hb⟩)
  go_ret3
  exact ⟨rfl, hb⟩

theorem digs_any (l : List UInt8) (w : World) (hm : l.length ≤ 9223372036854775807) : Calls Try.prog 30 #[.string ⟨l.toArray⟩] w fun e w' => e = .returned (.bool (digL l)) ∧ Below w.heap.size w w' := by
  cases l with
  | nil =>
    have := digs_empty ⟨([] : List UInt8).toArray⟩ w (by rw [Lib.toList_data]; rfl) rfl
    simpa using this
  | cons c r =>
    have := digs_more ⟨(c :: r).toArray⟩ (r.length + 1) w (by rw [Lib.toList_data]; rfl) (by simp [ByteArray.size]) (by omega) (by simpa using hm)
    simpa using this

set_option maxHeartbeats 400000 in
theorem split_one (p : ByteArray) (A B : List UInt8) (w : World) (hp : p.data.toList = A ++ 46 :: B) (hA : ∀ x ∈ A, x ≠ 46) (hm : p.size ≤ 9223372036854775807) (h1 : digL A = true) (h2 : digL B = true) :
    Calls Try.prog 25 #[.string p] w fun e w' => e = .returned (.tuple #[.string ⟨A.toArray⟩, .string ⟨B.toArray⟩, .bool true]) ∧ Below w.heap.size w w' := by
  have hcut := cut_one p A B w hp hA hm
  have hsz : p.size = A.length + 1 + B.length := by
    have : p.data.toList.length = p.size := rfl
    rw [← this, hp]; simp; omega
  have D1 : Hid (∀ w, Calls Try.prog 30 #[.string ⟨A.toArray⟩] w fun e w' => e = .returned (.bool true) ∧ Below w.heap.size w w') := fun w => by
    have := digs_any A w (by omega); rw [h1] at this; exact this
  have D2 : Hid (∀ w, Calls Try.prog 30 #[.string ⟨B.toArray⟩] w fun e w' => e = .returned (.bool true) ∧ Below w.heap.size w w') := fun w => by
    have := digs_any B w (by omega); rw [h2] at this; exact this
  clear hp hA h1 h2 hsz hm
  obtain ⟨a, ha⟩ : ∃ a : ByteArray, a = ⟨A.toArray⟩ := ⟨_, rfl⟩
  obtain ⟨b, hb⟩ : ∃ b : ByteArray, b = ⟨B.toArray⟩ := ⟨_, rfl⟩
  rw [← ha, ← hb] at hcut ⊢
  rw [← ha] at D1
  rw [← hb] at D2
  clear ha hb
  go_enter Try.func25, Try.ntmps25
  go_wp2_with (go_at_call 32; refine hcut.mono ?_; rintro e w1 ⟨rfl, hb1⟩)
  refine (D1.out _).mono ?_
  rintro e w2 ⟨rfl, hb2⟩
  go_wp2_with fail
  refine (D2.out _).mono ?_
  rintro e w3 ⟨rfl, hb3⟩
  go_wp2
  go_ret3
  exact ⟨rfl, (hb1.trans (hb2.mono hb1.size)).trans (hb3.mono (Nat.le_trans hb1.size hb2.size))⟩

theorem zz_split_one (p : ByteArray) (A B : List UInt8) (w : World) (hp : p.data.toList = A ++ 46 :: B) (hA : ∀ x ∈ A, x ≠ 46) (hm : p.size ≤ 9223372036854775807) (h1 : digL A = true) (h2 : digL B = true) :
    Calls Try.prog 22 #[.string p] w fun e w' => e = .returned (.tuple #[.string ⟨A.toArray⟩, .string ⟨B.toArray⟩, .bool true]) ∧ Below w.heap.size w w' := by
  have h := split_one p A B w hp hA hm h1 h2
  clear hp hA hm h1 h2
  go_enter Try.func22, Try.ntmps22
  go_wp2_with (go_at_call 25; refine h.mono ?_; rintro e w' ⟨rfl, hb⟩)
  go_ret3
  exact ⟨rfl, hb⟩
end Go.Proofs.Qxb6001116a
