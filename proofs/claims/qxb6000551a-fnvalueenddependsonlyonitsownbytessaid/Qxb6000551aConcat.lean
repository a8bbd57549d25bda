/-
  THE WALK of zzConcatB1 (15). By an AI agent. After the guide's Words32Walks.lean (make with room, one append a round).
-/
import Derived.Test.Qxb6000551aRowAt
import Derived.Maps.AppendAt
namespace Go.Proofs.Qxb6000551a
open Go.RowKit

def cat (f1 : Nat → Int) (n1 : Nat) (f2 : Nat → Int) (j : Nat) : Int := if j < n1 then f1 j else f2 (j - n1)
theorem cat_lt {f1 : Nat → Int} {n1 : Nat} {f2 : Nat → Int} {j : Nat} (h : j < n1) : cat f1 n1 f2 j = f1 j := if_pos h
theorem cat_ge (f1 : Nat → Int) (n1 : Nat) (f2 : Nat → Int) (j : Nat) : cat f1 n1 f2 (n1 + j) = f2 j := by
  unfold cat; rw [if_neg (by omega)]; congr 1; omega

/-- The first k cells, as values. -/
def rowV (f : Nat → Int) (k : Nat) : List Value := (List.range k).map fun j => .int .u8 (f j)
theorem rowV_succ (f : Nat → Int) (k : Nat) : rowV f (k + 1) = rowV f k ++ [.int .u8 (f k)] := by simp [rowV, List.range_succ]

theorem owns_rowAt {w : World} {B g cap n : Nat} {f : Nat → Int} (h : w.ownsRow B 5 1 (.slice (some ⟨g, 0, none⟩) n cap) n (rowV f n)) : RowAt w (some ⟨g, 0, none⟩) n f := by
  rcases h.2 with ⟨hv, _⟩ | ⟨g', cap', cur, hv, hg, hh, hnc, hcm, hsz, htk⟩
  · simp at hv
  · simp only [Value.slice.injEq, Option.some.injEq, Addr.mk.injEq, and_true, true_and] at hv
    obtain ⟨rfl, rfl⟩ := hv
    refine .inr ⟨g, 0, rfl, (Array.getElem?_eq_some_iff.1 hh).1, fun j hj => ?_⟩
    have h1 : (rowV f n)[j]? = some (.int .u8 (f j)) := by simp [rowV, hj]
    rw [← htk, List.getElem?_take, if_pos (by omega)] at h1
    rw [Nat.zero_add]
    simp only [World.cell?, hh]
    simpa using h1

theorem below_append {w0 wr w4 : World} {B : Nat} {o : Obj} (hb : Below B w0 wr) (hB : B < wr.heap.size) (hg : (wr.alloc o).grownBy w4 (some B)) : Below B w0 w4 ∧ B < w4.heap.size := by
  have h1 : Below B w0 (wr.alloc o) := hb.alloc (by omega) o
  refine ⟨h1.grown hg (by simp; omega) (fun k hk => by cases hk; omega), ?_⟩
  have := hg.size
  simp at this; omega

set_option maxHeartbeats 1000000 in
theorem concat_gen (a1 : Option Addr) (n1 c1 : Nat) (f1 : Nat → Int) (a2 : Option Addr) (n2 c2 : Nat) (f2 : Nat → Int) (w : World) (H1 : RowAt w a1 n1 f1) (H2 : RowAt w a2 n2 f2) (hm : n1 + n2 ≤ 1048576) :
    Calls Try.prog 15 #[.slice a1 n1 c1, .slice a2 n2 c2] w fun e w' => ∃ g, e = .returned (.slice (some ⟨g, 0, none⟩) (n1 + n2) (n1 + n2)) ∧
      RowAt w' (some ⟨g, 0, none⟩) (n1 + n2) (cat f1 n1 f2) ∧ Below w.heap.size w w' := by
  obtain ⟨i0, hi, hz0, hz1, hz2⟩ := info_parts Try.info5
  go_enter Try.func15, Try.ntmps15
  go_wp2_with (at_make; refine wpList_make_own _ rfl _ _ 22 rfl w.heap.size 5 i0 (.int .u8 0) 1 Try.underlying22 hi hz0 hz1 _ _ _ (n1 + n2) rfl rfl (by omega) (by rw [hz2]; omega) (by unfold maxLen; omega) (Nat.le_refl _) ?_)
  intro w2 hown2 hgrow2
  have hb2 : Below w.heap.size w w2 := (Below.refl _ _).grown hgrow2 (Nat.le_refl _) (by simp)
  have hs2 : w.heap.size < w2.heap.size := by
    rcases hown2.2 with ⟨hv, _⟩ | ⟨g', cap', cur, hv, hg, hh, _⟩
    · simp at hv
    · simp at hv; rw [← hv.1] at hh; exact (Array.getElem?_eq_some_iff.1 hh).1
  go_wp2
  go_loopw [5, 6] (fun v i wr => ∃ k : Nat, k ≤ n1 ∧ i = .int .i64 k ∧ v = .slice (some ⟨w.heap.size, 0, none⟩) k (n1 + n2) ∧ wr.ownsRow w.heap.size 5 1 (.slice (some ⟨w.heap.size, 0, none⟩) k (n1 + n2)) k (rowV (cat f1 n1 f2) k) ∧ Below w.heap.size w wr ∧ w.heap.size < wr.heap.size)
    (fun _ i _ => n1 - (intOf i).toNat)
  case atStart => exact ⟨0, Nat.zero_le _, rfl, rfl, hown2, hb2, hs2⟩
  case round =>
    obtain ⟨k, hk, rfl, rfl, hown, hnx, hsz⟩ := hrel
    clear hown2 hgrow2 hb2 hs2
    by_cases hlt : k < n1
    · rcases H1 with h | ⟨b, off, rfl, hbl, hc⟩
      · omega
      have hck : wr.cell? ⟨b, off + k, none⟩ = some (.int .u8 (f1 k)) := by rw [hnx.cell (p := ⟨b, off + k, none⟩) hbl]; exact hc k hlt
      have HX : Hid (cat f1 n1 f2 k = f1 k) := cat_lt hlt
      obtain ⟨x, hx⟩ : ∃ x, x = f1 k := ⟨_, rfl⟩
      rw [← hx] at HX hck
      clear hx hc
      go_wp2_with (at_builtin; refine wpList_append_fits _ rfl (.tmp 20) (.tmp 25) 22 rfl w.heap.size 5 i0 1 Try.underlying22 hi hz1 w.heap.size k (n1 + n2) _ rfl (hown.alloc _) ⟨wr.heap.size, 0, none⟩ 1 1 [.int .u8 x] rfl rfl (cell_one_new _ _ _) (ints_oneCell .u8 [x]) (by omega) ?_; intro w4 hown4 hgrow4)
      obtain ⟨hb4, hs4⟩ := below_append hnx hsz hgrow4
      have hown5 : w4.ownsRow w.heap.size 5 1 (.slice (some ⟨w.heap.size, 0, none⟩) (k + 1) (n1 + n2)) (k + 1) (rowV (cat f1 n1 f2) (k + 1)) := by
        rw [rowV_succ, HX.out]; exact hown4
      go_roundw
      case rel => exact ⟨k + 1, by omega, by go_num, rfl, hown5, hb4, hs4⟩
      case measure => simp [intOf]; omega
    · obtain rfl : k = n1 := by omega
      go_wp2
      obtain ⟨wo, rfl⟩ : ∃ wo : World, wo = wr := ⟨_, rfl⟩
      go_loopw [5, 7] (fun v i wr => ∃ q : Nat, q ≤ n2 ∧ i = .int .i64 q ∧ v = .slice (some ⟨w.heap.size, 0, none⟩) (k + q) (k + n2) ∧ wr.ownsRow w.heap.size 5 1 (.slice (some ⟨w.heap.size, 0, none⟩) (k + q) (k + n2)) (k + q) (rowV (cat f1 k f2) (k + q)) ∧ Below w.heap.size w wr ∧ w.heap.size < wr.heap.size)
        (fun _ i _ => n2 - (intOf i).toNat)
      case atStart => exact ⟨0, Nat.zero_le _, rfl, rfl, hown, hnx, hsz⟩
      case round =>
        clear hown hnx hsz hk
        obtain ⟨q, hq, rfl, rfl, hown, hnx, hsz⟩ := hrel
        by_cases hlt : q < n2
        · rcases H2 with h | ⟨b, off, rfl, hbl, hc⟩
          · omega
          have hck : wr.cell? ⟨b, off + q, none⟩ = some (.int .u8 (f2 q)) := by rw [hnx.cell (p := ⟨b, off + q, none⟩) hbl]; exact hc q hlt
          have HX : Hid (cat f1 k f2 (k + q) = f2 q) := cat_ge f1 k f2 q
          obtain ⟨x, hx⟩ : ∃ x, x = f2 q := ⟨_, rfl⟩
          rw [← hx] at HX hck
          clear hx hc
          go_wp2_with (at_builtin; refine wpList_append_fits _ rfl (.tmp 33) (.tmp 38) 22 rfl w.heap.size 5 i0 1 Try.underlying22 hi hz1 w.heap.size (k + q) (k + n2) _ rfl (hown.alloc _) ⟨wr.heap.size, 0, none⟩ 1 1 [.int .u8 x] rfl rfl (cell_one_new _ _ _) (ints_oneCell .u8 [x]) (by omega) ?_; intro w4 hown4 hgrow4)
          obtain ⟨hb4, hs4⟩ := below_append hnx hsz hgrow4
          have hown5 : w4.ownsRow w.heap.size 5 1 (.slice (some ⟨w.heap.size, 0, none⟩) (k + (q + 1)) (k + n2)) (k + (q + 1)) (rowV (cat f1 k f2) (k + (q + 1))) := by
            rw [← Nat.add_assoc, rowV_succ, HX.out]; exact hown4
          go_roundw
          case rel => exact ⟨q + 1, by omega, by go_num, by rw [Nat.add_assoc], hown5, hb4, hs4⟩
          case measure => simp [intOf]; omega
        · obtain rfl : q = n2 := by omega
          go_wp2
          go_ret
          exact ⟨_, rfl, owns_rowAt hown, hnx⟩
end Go.Proofs.Qxb6000551a
