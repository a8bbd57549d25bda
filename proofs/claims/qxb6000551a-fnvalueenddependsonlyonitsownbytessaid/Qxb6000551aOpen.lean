/-
  SMALL FACTS THAT THE LAWS SHARE: a slice that came in, told by a function of its places. By an AI agent.
-/
import Derived.Test.Qxb6000551aClone
import Derived.Test.Qxb6000551aString
import Derived.OpenShut
namespace Go.Proofs.Qxb6000551a
open Go.RowKit

/-- The bytes of a slice that came in. -/
def fOf (zs : List Int) (n j : Nat) : Int := (zs.take n).getD j 0

theorem fOf_eq (zs : List Int) (n : Nat) : ∀ j, fOf zs n j = (zs.take n).getD j 0 := fun _ => rfl
theorem fOf_lt (zs : List Int) (n j : Nat) (h : j < n) : fOf zs n j = zs.getD j 0 := by simp [fOf, List.getD, h]
theorem take_len {zs : List Int} {n : Nat} (h : n ≤ zs.length) : (zs.take n).length = n := by simp; omega

theorem u8_bounds {zs : List Int} (hw : ∀ z ∈ zs, (Lit.int .u8 z).wf = true) (n : Nat) (hn : n ≤ zs.length) : ∀ j, j < n → 0 ≤ fOf zs n j ∧ fOf zs n j ≤ 255 := by
  intro j hj
  rw [fOf_lt zs n j hj]
  have hj' : j < zs.length := by omega
  have : zs.getD j 0 ∈ zs := by simp [List.getD, hj']
  have := bounds_u8 (hw _ this)
  omega

theorem row_cells {w : World} {x : Addr} {zs : List Int} {n : Nat} (hn : n ≤ zs.length) (h0 : 0 < n) (hcell : ∀ i, i < zs.length → w.cell? (x.add i) = some (.int .u8 (zs.getD i 0))) :
    ∃ b off, x = ⟨b, off, none⟩ ∧ b < w.heap.size ∧ ∀ j, j < n → w.cell? ⟨b, off + j, none⟩ = some (.int .u8 (fOf zs n j)) := by
  obtain ⟨b, off, spot⟩ := x
  have hc := hcell 0 (by omega)
  have hspot : spot = none := by simpa [Addr.add] using World.cell?_spot hc
  subst hspot
  refine ⟨b, off, rfl, World.block_lt_of_cell? _ _ hc, fun j hj => ?_⟩
  rw [fOf_lt zs n j hj]
  rw [← Addr.add_lit]; exact hcell j (by omega)

/-- The cells of a block just laid. -/
theorem new_cells {w : World} {arr : Array Value} {f : Nat → Int} {n : Nat} (h : ∀ j, j < n → arr[j]? = some (.int .u8 (f j))) :
    ∀ j, j < n → (w.alloc (.cells arr 5)).cell? ⟨w.heap.size, 0 + j, none⟩ = some (.int .u8 (f j)) := by
  intro j hj
  rw [World.cell?_alloc_at _ _ _ _ rfl, Nat.zero_add]; exact h j hj

theorem bytes10 (a : Option Addr) (n c : Nat) (i : Int) (w : World) (hm : n ≤ 1048576) :
    Calls Try.prog 10 #[.slice a n c, .int .i64 i] w fun e w' => e = .returned (.bool true) ∧ w' = w := by
  go_enter Try.func10, Try.ntmps10
  go_wp2
  go_ret
  exact ⟨rfl, rfl⟩
theorem bytes10_no (a : Option Addr) (n c : Nat) (i : Int) (w : World) (hm : 1048576 < n) (hb : n ≤ 9223372036854775807) :
    Calls Try.prog 10 #[.slice a n c, .int .i64 i] w fun e w' => e = .returned (.bool false) ∧ w' = w := by
  go_enter Try.func10, Try.ntmps10
  go_wp2
  go_ret
  exact ⟨rfl, rfl⟩

theorem bytes18 (a : Option Addr) (n c : Nat) (i : Int) (w : World) (hm : n ≤ 1048576) :
    Calls Try.prog 18 #[.slice a n c, .int .i64 i] w fun e w' => e = .returned (.bool true) ∧ w' = w := by
  go_enter Try.func18, Try.ntmps18
  go_wp2
  go_ret
  exact ⟨rfl, rfl⟩
theorem bytes18_no (a : Option Addr) (n c : Nat) (i : Int) (w : World) (hm : 1048576 < n) (hb : n ≤ 9223372036854775807) :
    Calls Try.prog 18 #[.slice a n c, .int .i64 i] w fun e w' => e = .returned (.bool false) ∧ w' = w := by
  go_enter Try.func18, Try.ntmps18
  go_wp2
  go_ret
  exact ⟨rfl, rfl⟩

theorem bytes20 (a : Option Addr) (n c : Nat) (i : Int) (w : World) (hm : n ≤ 1048576) :
    Calls Try.prog 20 #[.slice a n c, .int .i64 i] w fun e w' => e = .returned (.bool true) ∧ w' = w := by
  go_enter Try.func20, Try.ntmps20
  go_wp2
  go_ret
  exact ⟨rfl, rfl⟩
theorem bytes20_no (a : Option Addr) (n c : Nat) (i : Int) (w : World) (hm : 1048576 < n) (hb : n ≤ 9223372036854775807) :
    Calls Try.prog 20 #[.slice a n c, .int .i64 i] w fun e w' => e = .returned (.bool false) ∧ w' = w := by
  go_enter Try.func20, Try.ntmps20
  go_wp2
  go_ret
  exact ⟨rfl, rfl⟩

theorem bytes14 (a : Option Addr) (n c : Nat) (a2 : Option Addr) (n2 c2 : Nat) (i : Int) (w : World) (hm : n + n2 ≤ 1048576) :
    Calls Try.prog 14 #[.slice a n c, .slice a2 n2 c2, .int .i64 i] w fun e w' => e = .returned (.bool true) ∧ w' = w := by
  go_enter Try.func14, Try.ntmps14
  go_wp2
  go_ret
  exact ⟨rfl, rfl⟩
theorem bytes14_no (a : Option Addr) (n c : Nat) (a2 : Option Addr) (n2 c2 : Nat) (i : Int) (w : World) (hm : 1048576 < n + n2) (hb : n ≤ 9223372036854775807) (hb2 : n2 ≤ 9223372036854775807) :
    Calls Try.prog 14 #[.slice a n c, .slice a2 n2 c2, .int .i64 i] w fun e w' => e = .returned (.bool false) ∧ w' = w := by
  by_cases h1 : 1048576 < n
  · go_enter Try.func14, Try.ntmps14
    go_wp2
    go_ret
    exact ⟨rfl, rfl⟩
  · by_cases h2 : 1048576 < n2
    · go_enter Try.func14, Try.ntmps14
      go_wp2
      go_ret
      exact ⟨rfl, rfl⟩
    · go_enter Try.func14, Try.ntmps14
      go_wp2
      go_ret
      exact ⟨rfl, rfl⟩

theorem bytes17 (a : Option Addr) (n c : Nat) (a2 : Option Addr) (n2 c2 : Nat) (i : Int) (w : World) (hm : n + n2 ≤ 1048576) :
    Calls Try.prog 17 #[.slice a n c, .slice a2 n2 c2, .int .i64 i] w fun e w' => e = .returned (.bool true) ∧ w' = w := by
  go_enter Try.func17, Try.ntmps17
  go_wp2
  go_ret
  exact ⟨rfl, rfl⟩
theorem bytes17_no (a : Option Addr) (n c : Nat) (a2 : Option Addr) (n2 c2 : Nat) (i : Int) (w : World) (hm : 1048576 < n + n2) (hb : n ≤ 9223372036854775807) (hb2 : n2 ≤ 9223372036854775807) :
    Calls Try.prog 17 #[.slice a n c, .slice a2 n2 c2, .int .i64 i] w fun e w' => e = .returned (.bool false) ∧ w' = w := by
  by_cases h1 : 1048576 < n
  · go_enter Try.func17, Try.ntmps17
    go_wp2
    go_ret
    exact ⟨rfl, rfl⟩
  · by_cases h2 : 1048576 < n2
    · go_enter Try.func17, Try.ntmps17
      go_wp2
      go_ret
      exact ⟨rfl, rfl⟩
    · go_enter Try.func17, Try.ntmps17
      go_wp2
      go_ret
      exact ⟨rfl, rfl⟩
end Go.Proofs.Qxb6000551a
