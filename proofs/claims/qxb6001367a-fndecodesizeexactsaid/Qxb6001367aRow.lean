/-
  A ROW OF BYTES OF THE CALL's OWN ('RowF'), and the walks of slices.Reverse (25) and slices.Clone (24) at []byte. By an AI agent.
-/
import Derived.Test.Qxb6001367aDecode
import Derived.Maps.AppendAt
import Derived.RegionTactic
namespace Go.Proofs.Qxb6001367a
open Go.RowKit

/-- Block g is a row of bytes, none frozen; its first n cells hold f 0, f 1, .. -/
def RowF (w : World) (g n : Nat) (f : Nat → Nat) : Prop :=
  ∃ cur : Array Value, w.heap[g]? = some (.cells cur 5 (0, 0)) ∧ n ≤ cur.size ∧ ∀ j, j < n → cur[j]? = some (.int .u8 (f j : Nat))

theorem RowF.lt {w : World} {g n : Nat} {f : Nat → Nat} (h : RowF w g n f) : g < w.heap.size := by
  obtain ⟨cur, hh, _⟩ := h; exact (Array.getElem?_eq_some_iff.1 hh).1
theorem RowF.cell {w : World} {g n : Nat} {f : Nat → Nat} (h : RowF w g n f) {j : Nat} (hj : j < n) : w.cell? ⟨g, j, none⟩ = some (.int .u8 (f j : Nat)) := by
  obtain ⟨cur, hh, _, hc⟩ := h
  simp only [World.cell?, hh]; exact hc j hj
theorem RowF.frozen {w : World} {g n : Nat} {f : Nat → Nat} (h : RowF w g n f) (j : Nat) : w.frozen? ⟨g, j, none⟩ = false := by
  obtain ⟨cur, hh, _, hc⟩ := h
  simp [World.frozen?, hh]
theorem RowF.congr {w : World} {g n : Nat} {f f' : Nat → Nat} (h : RowF w g n f) (e : ∀ j, j < n → f j = f' j) : RowF w g n f' := by
  obtain ⟨cur, hh, h1, hc⟩ := h
  exact ⟨cur, hh, h1, fun j hj => by rw [← e j hj]; exact hc j hj⟩
theorem RowF.block {w w' : World} {g n : Nat} {f : Nat → Nat} (h : RowF w g n f) (e : w'.heap[g]? = w.heap[g]?) : RowF w' g n f := by
  obtain ⟨cur, hh, h1, hc⟩ := h
  exact ⟨cur, by rw [e]; exact hh, h1, hc⟩
theorem RowF.alloc {w : World} {g n : Nat} {f : Nat → Nat} (h : RowF w g n f) (o : Obj) : RowF (w.alloc o) g n f := h.block (Below.heap_alloc w o g h.lt)

def upd (f : Nat → Nat) (i z j : Nat) : Nat := if j = i then z else f j

theorem RowF.set {w : World} {g n : Nat} {f : Nat → Nat} (h : RowF w g n f) (i z : Nat) : RowF (w.setCell ⟨g, i, none⟩ (.int .u8 (z : Nat))) g n (upd f i z) := by
  obtain ⟨cur, hh, h1, hc⟩ := h
  refine ⟨cur.setIfInBounds i (.int .u8 (z : Nat)), ?_, by simpa using h1, fun j hj => ?_⟩
  · simp only [World.setCell, Array.getElem?_modify, if_true, hh, Option.map_some]; rfl
  · unfold upd
    by_cases e : j = i
    · subst e; rw [if_pos rfl]; simp only [Array.getElem?_setIfInBounds_self]; rw [if_pos (by omega)]
    · rw [if_neg e, Array.getElem?_setIfInBounds_ne (by omega)]; exact hc j hj

/-- What slices.Reverse has done behind t exchanges. -/
def rv (k : Nat) (f : Nat → Nat) (t j : Nat) : Nat := if j < t ∨ k - t ≤ j then f (k - 1 - j) else f j

theorem rv_step (k : Nat) (f : Nat → Nat) (t : Nat) (h : t < k - 1 - t) (j : Nat) (hj : j < k) :
    upd (upd (rv k f t) t (f (k - 1 - t))) (k - 1 - t) (f t) j = rv k f (t + 1) j ∧ upd (upd (rv k f t) (k - 1 - t) (f t)) t (f (k - 1 - t)) j = rv k f (t + 1) j := by
  unfold upd rv
  by_cases h1 : j = k - 1 - t
  · have h2 : ¬ j = t := by omega
    have h3 : k - (t + 1) ≤ j := by omega
    have h4 : k - 1 - (k - 1 - t) = t := by omega
    subst h1
    simp [h2, h4]
    omega
  · by_cases h2 : j = t
    · subst h2; simp [h1]
    · have h3 : (j < t ∨ k - t ≤ j) ↔ (j < t + 1 ∨ k - (t + 1) ≤ j) := by omega
      simp only [h1, h2, if_false, h3, and_self]

set_option maxHeartbeats 1000000 in
theorem reverse_row (g k c : Nat) (f : Nat → Nat) (B : Nat) (w : World) (H : RowF w g k f) (hk : k ≤ 100000) (hB : B ≤ g) :
    Calls Try.prog 25 #[.slice (some ⟨g, 0, none⟩) k c] w fun e w' => e = .returned (.tuple #[]) ∧ RowF w' g k (fun j => f (k - 1 - j)) ∧ Below B w w' := by
  go_enter Try.func25, Try.ntmps25
  go_wp2
  go_loopw [2, 3] (fun v u wr => ∃ t : Nat, v = .int .i64 t ∧ u = .int .i64 ((k : Int) - 1 - (t : Int)) ∧ 2 * t ≤ k + 1 ∧ RowF wr g k (rv k f t) ∧ Below B w wr)
    (fun v _ _ => k + 1 - (intOf v).toNat)
  case atStart => exact ⟨0, rfl, by go_num, by omega, H.congr (fun j hj => by unfold rv; rw [if_neg (by omega)]), Below.refl _ _⟩
  case round =>
    obtain ⟨t, rfl, rfl, ht, HR, hb⟩ := hrel
    by_cases hlt : (t : Int) < (k : Int) - 1 - (t : Int)
    · obtain ⟨q, hq⟩ : ∃ q : Nat, k = q + 1 + t := ⟨k - 1 - t, by omega⟩
      have hqi : (k : Int) - 1 - (t : Int) = (q : Int) := by omega
      have htq : t < q := by omega
      have hqk : q < k := by omega
      have htk : t < k := by omega
      have c1 := HR.cell htk
      have c2 := HR.cell hqk
      have f1 := HR.frozen t
      have f2 := HR.frozen q
      have e1 : rv k f t t = f t := by unfold rv; rw [if_neg (by omega)]
      have e2 : rv k f t q = f q := by unfold rv; rw [if_neg (by omega)]
      rw [e1] at c1
      rw [e2] at c2
      obtain ⟨x, hx⟩ : ∃ x, x = f t := ⟨_, rfl⟩
      obtain ⟨y, hy⟩ : ∃ y, y = f q := ⟨_, rfl⟩
      rw [← hx] at c1
      rw [← hy] at c2
      have S1 : Hid (RowF ((wr.setCell ⟨g, t, none⟩ (.int .u8 (y : Nat))).setCell ⟨g, q, none⟩ (.int .u8 (x : Nat))) g k (rv k f (t + 1))) := by
        refine ((HR.set t y).set q x).congr (fun j hj => ?_)
        have := (rv_step k f t (by omega) j hj).1
        rw [show k - 1 - t = q by omega] at this
        rw [hx, hy]; exact this
      have S2 : Hid (RowF ((wr.setCell ⟨g, q, none⟩ (.int .u8 (x : Nat))).setCell ⟨g, t, none⟩ (.int .u8 (y : Nat))) g k (rv k f (t + 1))) := by
        refine ((HR.set q x).set t y).congr (fun j hj => ?_)
        have := (rv_step k f t (by omega) j hj).2
        rw [show k - 1 - t = q by omega] at this
        rw [hx, hy]; exact this
      have HQ : Hid (k = q + 1 + t) := hq
      clear HR e1 e2 hx hy hq hlt
      go_wp2
      go_region
      go_wp2
      go_roundw
      case rel => exact ⟨t + 1, by go_num, by go_num, by omega, by first | exact S1.out | exact S2.out, ((hb.setCell (by exact hB) _).setCell (by exact hB) _).drew⟩
      case measure => simp [intOf]; omega
    · have HE : RowF wr g k (fun j => f (k - 1 - j)) := HR.congr (fun j hj => by
        unfold rv
        by_cases h : j < t ∨ k - t ≤ j
        · rw [if_pos h]
        · rw [if_neg h]; congr 1; omega)
      go_wp2
      go_end0
      exact ⟨rfl, HE, hb⟩

theorem reverse_nil (w : World) : Calls Try.prog 25 #[.slice none 0 0] w fun e w' => e = .returned (.tuple #[]) ∧ w' = w := by
  go_enter Try.func25, Try.ntmps25
  go_wp2
  refine wp_loop_rounds 1 ?_
  rw [rounds_succ]
  go_wp2
  go_end0
  exact ⟨rfl, rfl⟩

/-- slices.Clone at a slice that is not nil. -/
theorem owns_rowF {w : World} {B g cap n : Nat} {f : Nat → Nat} {vs : List Value} (h : w.ownsRow B 5 1 (.slice (some ⟨g, 0, none⟩) n cap) n vs) (hv : ∀ j, j < n → vs[j]? = some (.int .u8 (f j : Nat))) :
    B ≤ g ∧ n ≤ cap ∧ cap ≤ maxLen ∧ RowF w g n f := by
  rcases h.2 with ⟨hv', _⟩ | ⟨g', cap', cur, hv', hg, hh, hnc, hcm, hsz, htk⟩
  · simp at hv'
  · simp only [Value.slice.injEq, Option.some.injEq, Addr.mk.injEq, and_true, true_and] at hv'
    obtain ⟨rfl, rfl⟩ := hv'
    refine ⟨hg, hnc, hcm, cur, hh, by omega, fun j hj => ?_⟩
    have h1 := hv j hj
    rw [← htk, List.getElem?_take, if_pos (by omega)] at h1
    simpa using h1

def valsF (f : Nat → Nat) (n : Nat) : List Value := (List.range n).map fun j => .int .u8 (f j : Nat)
theorem valsF_len (f : Nat → Nat) (n : Nat) : (valsF f n).length = n * 1 := by simp [valsF]
theorem valsF_get (f : Nat → Nat) (n j : Nat) (h : j < n) : (valsF f n)[j]? = some (.int .u8 (f j : Nat)) := by simp [valsF, h]
theorem valsF_some {f : Nat → Nat} {n j : Nat} {u : Value} (h : (valsF f n)[j]? = some u) : j < n ∧ u = .int .u8 (f j : Nat) := by
  have hl := (List.getElem?_eq_some_iff.1 h).1
  have hj : j < n := by simpa [valsF] using hl
  rw [valsF_get f n j hj] at h
  exact ⟨hj, (Option.some.inj h).symm⟩
theorem valsF_one (f : Nat → Nat) (n : Nat) : ∀ u ∈ valsF f n, u.oneCell' = true := by
  intro u hu
  simp only [valsF, List.mem_map] at hu
  obtain ⟨j, _, rfl⟩ := hu
  rfl

set_option maxHeartbeats 1000000 in
theorem clone_row (x : Addr) (n c : Nat) (f : Nat → Nat) (w : World) (hn : n ≤ 4096) (hc : ∀ j, j < n → w.cell? (x.add j) = some (.int .u8 (f j : Nat))) :
    Calls Try.prog 24 #[.slice (some x) n c] w fun e w' => ∃ g cap, e = .returned (.slice (some ⟨g, 0, none⟩) n cap) ∧ w.heap.size ≤ g ∧ n ≤ cap ∧ cap ≤ maxLen ∧ RowF w' g n f ∧ Below w.heap.size w w' := by
  obtain ⟨i0, hi, hz0, hz1, hz2⟩ := info_parts Try.info5
  have q22 : ∀ (w : World) (a : Option Addr) (n c n' c' : Nat), (binOp .eql 22 (.slice a n c) (.slice none n' c')).run Try.prog w = .ok (.bool a.isNone) w := fun w a n c n' c' => Lib.run_eql_slice_nil w _ _ a n c n' c' Try.underlying22
  have hown0 : (w.alloc (.cells #[] 5)).ownsRow w.heap.size 5 1 (.slice (some ⟨w.heap.size, 0, none⟩) 0 0) 0 [] :=
    ⟨rfl, .inr ⟨w.heap.size, 0, #[], rfl, Nat.le_refl _, by show (w.heap.push _)[w.heap.size]? = _; simp, Nat.le_refl _, by unfold maxLen; omega, rfl, rfl⟩⟩
  have HN : Hid (∀ j u, (valsF f n)[j]? = some u → (w.alloc (.cells #[] 5)).cell? (x.add j) = some u) := fun j u hj => by
    obtain ⟨hjn, hu⟩ := valsF_some hj
    have h1 := hc j hjn
    rw [((Below.refl w.heap.size w).alloc (Nat.le_refl _) _).cell (World.block_lt_of_cell? _ _ h1), hu]; exact h1
  clear hc
  go_enter Try.func24, Try.ntmps24
  go_wp2_with (at_builtin; refine wpList_append_own_at _ rfl (.tmp 5) (.tmp 6) 22 rfl w.heap.size 5 i0 (.int .u8 0) 1 1 Try.underlying22 hi hz0 hz1 hz2 rfl (by decide) _ 0 [] rfl hown0 x n c (valsF f n) rfl (valsF_len f n) HN.out (valsF_one f n) (by unfold maxLen; omega) (by omega) (by simp) ?_; intro v' w1 hown1 hgrow1 hnil1 hat1)
  have hb1 : Below w.heap.size w w1 := ((Below.refl _ _).alloc (Nat.le_refl _) _).grown hgrow1 (by simp) (fun k hk => by cases hk; exact Nat.le_refl _)
  obtain ⟨g, cap, hv, h1, h2, h3, h4⟩ : ∃ g cap, v' = .slice (some ⟨g, 0, none⟩) n cap ∧ w.heap.size ≤ g ∧ n ≤ cap ∧ cap ≤ maxLen ∧ RowF w1 g n f := by
    have hown2 : w1.ownsRow w.heap.size 5 1 v' n (valsF f n) := by simpa using hown1
    have hh := hown2
    rcases hh.2 with ⟨hv', _⟩ | ⟨g', cap', cur, hv', _⟩
    · exact absurd (hnil1.1 hv').1 (by intro h; cases h)
    · subst hv'
      obtain ⟨a1, a2, a3, a4⟩ := owns_rowF hown2 (fun j hj => valsF_get f n j hj)
      exact ⟨g', cap', rfl, a1, a2, a3, a4⟩
  clear hown1 hgrow1 hnil1 hat1 hown0
  subst hv
  go_wp2
  go_ret
  exact ⟨g, cap, rfl, h1, h2, h3, h4, hb1⟩
end Go.Proofs.Qxb6001367a
