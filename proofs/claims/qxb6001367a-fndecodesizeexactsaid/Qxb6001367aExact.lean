/-
  THE WALKS of zzCloneBytes (10) and FnDecodeSizeExact (7). By an AI agent.
-/
import Derived.Test.Qxb6001367aCanonical
import Derived.OpenShut
namespace Go.Proofs.Qxb6001367a
open Go.RowKit

theorem set_pre {arr : Array Value} {f : Nat → Value} {k n : Nat} (hs : arr.size = n) (hk : k < n) (h : ∀ j, j < k → arr[j]? = some (f j)) :
    (arr.setIfInBounds k (f k)).size = n ∧ ∀ j, j < k + 1 → (arr.setIfInBounds k (f k))[j]? = some (f j) := by
  refine ⟨by simp [hs], fun j hj => ?_⟩
  by_cases e : j = k
  · subst e; simp [hs, hk]
  · rw [Array.getElem?_setIfInBounds_ne (by omega)]; exact h j (by omega)

set_option maxHeartbeats 400000 in
theorem copy_any (b off n c : Nat) (f : Nat → Nat) (w : World) (hm : n ≤ 4096) (hb : b < w.heap.size)
    (hc : ∀ j, j < n → w.cell? ⟨b, off + j, none⟩ = some (.int .u8 (f j : Nat))) :
    Calls Try.prog 10 #[.slice (some ⟨b, off, none⟩) n c] w fun e w' => e = .returned (.slice (some ⟨w.heap.size, 0, none⟩) n n) ∧
      ∃ arr : Array Value, w' = w.alloc (.cells arr 5) ∧ arr.size = n ∧ ∀ j, j < n → arr[j]? = some (.int .u8 (f j : Nat)) := by
  have q22 : ∀ (w : World) (a : Option Addr) (n c n' c' : Nat), (binOp .eql 22 (.slice a n c) (.slice none n' c')).run Try.prog w = .ok (.bool a.isNone) w := fun w a n c n' c' => Lib.run_eql_slice_nil w _ _ a n c n' c' Try.underlying22
  have hmk := run_make_row' (P := Try.prog) 22 5 (.int .u8 0) 1 Try.underlying22 Try.info5 rfl .i64 .i64 n (by omega) (by omega)
  go_enter Try.func10, Try.ntmps10
  go_wp2
  go_loopw [4] (fun i wr => ∃ (k : Nat) (arr : Array Value), k ≤ n ∧ i = .int .i64 k ∧ wr = w.alloc (.cells arr 5) ∧ arr.size = n ∧ ∀ j, j < k → arr[j]? = some (.int .u8 (f j : Nat)))
    (fun i _ => n - (intOf i).toNat)
  case atStart => exact ⟨0, _, Nat.zero_le _, rfl, rfl, size_madeCells _ _, fun j hj => by omega⟩
  case round =>
    obtain ⟨k, arr, hk, rfl, rfl, hs, hpre⟩ := hrel
    by_cases hlt : k < n
    · have hcell := hc k hlt
      have hnew := set_pre (f := fun j => .int .u8 (f j : Nat)) hs hlt hpre
      go_wp2
      go_roundw
      case rel => exact ⟨k + 1, _, by omega, by go_num, rfl, hnew.1, hnew.2⟩
      case measure => simp [intOf]; omega
    · obtain rfl : k = n := by omega
      go_wp2
      go_ret
      exact ⟨rfl, arr, rfl, hs, hpre⟩

theorem bytes20 (a : Option Addr) (n c : Nat) (i : Int) (w : World) (hm : n ≤ 1048576) :
    Calls Try.prog 20 #[.slice a n c, .int .i64 i] w fun e w' => e = .returned (.bool true) ∧ w' = w := by
  go_enter Try.func20, Try.ntmps20
  go_wp2
  go_ret
  exact ⟨rfl, rfl⟩
theorem bytes20_no (a : Option Addr) (n c : Nat) (i : Int) (w : World) (hm : 1048576 < n) (hb : n ≤ 9223372036854775807) :
    Calls Try.prog 20 #[.slice a n c, .int .i64 i] w fun e w' => e = .returned (.bool false) ∧ w' = w := by
  go_enter Try.func20, Try.ntmps20
  go_wp2
  go_ret
  exact ⟨rfl, rfl⟩

theorem exact_out (a : Option Addr) (n c : Nat) (i : Int) (w : World) (hb : n ≤ 9223372036854775807) (h : i < 0 ∨ 4096 < i ∨ 4096 < n ∨ n = 0) :
    Calls Try.prog 7 #[.slice a n c, .int .i64 i] w fun e w' => e = .returned (.bool true) ∧ Below w.heap.size w w' := by
  by_cases hm : n ≤ 1048576
  · by_cases hl : 4096 < n
    · clear h
      go_enter Try.func7, Try.ntmps7
      go_wp2_with (go_at_call 20; refine (bytes20 _ _ _ _ _ hm).mono ?_; rintro e w1 ⟨rfl, rfl⟩)
      go_ret
      exact ⟨rfl, Below.refl _ _⟩
    · by_cases hneg : i < 0
      · clear h
        go_enter Try.func7, Try.ntmps7
        go_wp2_with (go_at_call 20; refine (bytes20 _ _ _ _ _ hm).mono ?_; rintro e w1 ⟨rfl, rfl⟩)
        go_ret
        exact ⟨rfl, Below.refl _ _⟩
      · by_cases hge : 4096 < i
        · clear h
          go_enter Try.func7, Try.ntmps7
          go_wp2_with (go_at_call 20; refine (bytes20 _ _ _ _ _ hm).mono ?_; rintro e w1 ⟨rfl, rfl⟩)
          go_ret
          exact ⟨rfl, Below.refl _ _⟩
        · obtain rfl : n = 0 := by omega
          clear h
          go_enter Try.func7, Try.ntmps7
          go_wp2_with (go_at_call 20; refine (bytes20 _ _ _ _ _ hm).mono ?_; rintro e w1 ⟨rfl, rfl⟩)
          go_ret
          exact ⟨rfl, Below.refl _ _⟩
  · clear h
    go_enter Try.func7, Try.ntmps7
    go_wp2_with (go_at_call 20; refine (bytes20_no _ _ _ _ _ (by omega) hb).mono ?_; rintro e w1 ⟨rfl, rfl⟩)
    go_ret
    exact ⟨rfl, Below.refl _ _⟩

/-- A leading zero byte: true at once. -/
theorem exact_zero (b off n c k : Nat) (w : World) (hn : n ≤ 4096) (hk : k ≤ 4096) (h0 : 0 < n) (hc : w.cell? ⟨b, off, none⟩ = some (.int .u8 0)) :
    Calls Try.prog 7 #[.slice (some ⟨b, off, none⟩) n c, .int .i64 k] w fun e w' => e = .returned (.bool true) ∧ Below w.heap.size w w' := by
  have hne : ((n : Int) == 0) = false := by simp; omega
  go_enter Try.func7, Try.ntmps7
  go_wp2_with (go_at_call 20; refine (bytes20 _ _ _ _ _ (by omega)).mono ?_; rintro e w1 ⟨rfl, rfl⟩)
  go_ret
  exact ⟨rfl, Below.refl _ _⟩

/-! ### Lists -/
theorem dgO_map (ds : List Nat) (h : ∀ d ∈ ds, d < 62) : (ds.map chr).map dgO = ds.map some := by
  rw [List.map_map]
  apply List.map_congr_left
  intro d hd
  exact dgO_chr d (h d hd)
theorem canon_noZero (ds : List Nat) (h : Pl.Canon 62 ds) : Lib.hasPrefix (ds.map chr) [48] = false := by
  cases ds with
  | nil => rfl
  | cons d r =>
    have h1 := h.2 d r rfl
    have h2 := h.1 d (List.mem_cons_self ..)
    have h3 : chr d ≠ 48 := fun e => by
      have a := dgO_chr d h2
      rw [e, ← chr_zero, dgO_chr 0 (by omega)] at a
      exact h1 (Option.some.inj a).symm
    have h4 : (48 : UInt8) ≠ chr d := fun e => h3 e.symm
    simp [Lib.hasPrefix, List.isPrefixOf, h4]

/-- What decoding the encoding says, by k against n. -/
theorem exact_dec (ds : List Nat) (f : Nat → Nat) (n k : Nat) (hf : ∀ j, j < n → f j < 256) (h0 : 0 < n) (hz : f 0 ≠ 0) (hc : Pl.Canon 62 ds) (hv : Pl.be 62 ds = Pl.be 256 (win f 0 n)) :
    (k < n → Pl.dec (256 ^ k) ((ds.map chr).map dgO) 0 = none) ∧ (n ≤ k → Pl.dec (256 ^ k) ((ds.map chr).map dgO) 0 = some (Pl.be 256 (win f 0 n))) := by
  rw [dgO_map ds hc.1]
  refine ⟨fun h => ?_, fun h => ?_⟩
  · apply Pl.dec_over _ _ _ (Nat.pow_pos (by omega))
    show 256 ^ k ≤ Pl.be 62 ds
    rw [hv]
    obtain ⟨q, rfl⟩ : ∃ q, n = q + 1 := ⟨n - 1, by omega⟩
    rw [win_cons]
    have h1 := Pl.be_lead 256 (f 0) (win f (0 + 1) q) hz
    rw [win_len] at h1
    have h2 : 256 ^ k ≤ 256 ^ q := Nat.pow_le_pow_right (by omega) (by omega)
    omega
  · have h1 := Pl.be_lt 256 (win f 0 n) (win_lt hf (by omega))
    rw [win_len] at h1
    have h2 : 256 ^ n ≤ 256 ^ k := Nat.pow_le_pow_right (by omega) h
    have := Pl.dec_ok (256 ^ k) ds 0 (by show Pl.be 62 ds < _; rw [hv]; omega)
    rw [this]
    show some (Pl.be 62 ds) = _
    rw [hv]
theorem exact_row (ys : List Nat) (f : Nat → Nat) (n k : Nat) (hf : ∀ j, j < n → f j < 256) (hy : ys.length = k) (hyb : ∀ y ∈ ys, y < 256) (hk : n ≤ k) (hv : Pl.be 256 ys = Pl.be 256 (win f 0 n)) :
    (∀ j, j < k - n → ys.getD j 0 = 0) ∧ ∀ j, j < n → ys.getD (k - n + j) 0 = f j := by
  have e : ys = List.replicate (k - n) 0 ++ win f 0 n := by
    apply Pl.same_len_inj 256 _ _ hyb
    · intro d hd
      rcases List.mem_append.1 hd with h | h
      · rw [List.eq_of_mem_replicate h]; omega
      · exact win_lt hf (by omega) d h
    · rw [hy]; simp [win_len]; omega
    · rw [Pl.be_app, Pl.be_zero, hv]; simp
  refine ⟨fun j hj => ?_, fun j hj => ?_⟩
  · rw [e]; simp [List.getD, List.getElem?_append_left, hj]
  · rw [e]
    simp [List.getD, win, hj]

theorem cell_heap {w w' : World} (h : w'.heap = w.heap) (a : Addr) : w'.cell? a = w.cell? a := by simp only [World.cell?, h]

set_option maxHeartbeats 2000000 in
theorem exact_main (b off n c k : Nat) (f : Nat → Nat) (w : World) (h0 : 0 < n) (hn : n ≤ 4096) (hk : k ≤ 4096) (hb : b < w.heap.size)
    (hc : ∀ j, j < n → w.cell? ⟨b, off + j, none⟩ = some (.int .u8 (f j : Nat))) (hf : ∀ j, j < n → f j < 256) (hz : f 0 ≠ 0) :
    Calls Try.prog 7 #[.slice (some ⟨b, off, none⟩) n c, .int .i64 k] w fun e w' => e = .returned (.bool true) ∧ Below w.heap.size w w' := by
  have q22 : ∀ (w : World) (a : Option Addr) (n c n' c' : Nat), (binOp .eql 22 (.slice a n c) (.slice none n' c')).run Try.prog w = .ok (.bool a.isNone) w := fun w a n c n' c' => Lib.run_eql_slice_nil w _ _ a n c n' c' Try.underlying22
  have hc0 : w.cell? ⟨b, off, none⟩ = some (.int .u8 (f 0 : Nat)) := by have := hc 0 h0; rw [Nat.add_zero] at this; exact this
  have hne : ((n : Int) == 0) = false := by simp; omega
  have hzb : (((f 0 : Nat) : Int) == 0) = false := by simpa using hz
  have HC : Hid (∀ j, j < n → w.cell? ⟨b, off + j, none⟩ = some (.int .u8 (f j : Nat))) := hc
  have HFb : Hid (∀ j, j < n → f j < 256) := hf
  have HZ : Hid (f 0 ≠ 0) := hz
  clear hc hf hz
  go_enter Try.func7, Try.ntmps7
  go_wp2_with (go_at_call 20; refine (bytes20 _ _ _ _ _ (by omega)).mono ?_; rintro e w1 ⟨rfl, rfl⟩)
  refine (copy_any b off n c f _ hn hb HC.out).mono ?_
  rintro e w2 ⟨rfl, arr, rfl, hs, harr⟩
  have hbc : Below w1.heap.size w1 (w1.alloc (.cells arr 5)) := (Below.refl _ _).alloc (Nat.le_refl _) _
  have HE := zz_encode ⟨w1.heap.size, 0, none⟩ n n f (w1.alloc (.cells arr 5)) hn (fun j hj => by
    rw [Addr.add_lit, Nat.zero_add, World.cell?_alloc_at _ _ _ _ rfl]; exact harr j hj) HFb.out
  have HA : Hid (∀ j, j < n → (w1.alloc (.cells arr 5)).cell? ⟨w1.heap.size, j, none⟩ = some (.int .u8 (f j : Nat))) := fun j hj => by
    rw [World.cell?_alloc_at _ _ _ _ rfl]; exact harr j hj
  clear harr hs hc0 hzb
  go_wp2_with fail
  refine HE.mono ?_
  rintro e w3 ⟨ds, rfl, g1, g2, g3, hb3⟩
  clear HE
  have hsz3 : w1.heap.size < w3.heap.size := by have := hb3.size; simp at this; omega
  have HW3 : Hid (∀ j, j < n → w3.cell? ⟨w1.heap.size, j, none⟩ = some (.int .u8 (f j : Nat))) := fun j hj => by
    rw [hb3.cell (p := ⟨w1.heap.size, j, none⟩) (by simp)]; exact HA.out j hj
  have hb13 : Below w1.heap.size w1 w3 := hbc.trans (hb3.mono hbc.size)
  have hx := exact_dec ds f n k HFb.out h0 HZ.out g1 g2
  have hp := canon_noZero ds g1
  have HX : Hid ((k < n → Pl.dec (256 ^ k) ((ds.map chr).map dgO) 0 = none) ∧ (n ≤ k → Pl.dec (256 ^ k) ((ds.map chr).map dgO) 0 = some (Pl.be 256 (win f 0 n)))) := hx
  have HP : Hid (Lib.hasPrefix (ds.map chr) [48] = false) := hp
  have hDec := zz_decode ⟨(ds.map chr).toArray⟩ k w3 (by simp [ByteArray.size]; omega) hk
  obtain ⟨S, hS⟩ : ∃ S : ByteArray, S = ⟨(ds.map chr).toArray⟩ := ⟨_, rfl⟩
  have HSl : Hid (S.data.toList = ds.map chr) := by rw [hS]; rfl
  rw [← hS] at hDec ⊢
  clear hS hx hp g1 g2 hbc hb3 HA
  go_wp2_with fail
  refine hDec.mono ?_
  clear hDec
  rintro e w4 ⟨hb4, ⟨rfl, h1⟩ | ⟨ys, rfl, rfl, h1, h2, h3, h4⟩⟩
  · have hkn : k < n := by
      rw [HSl.out] at h1
      rcases h1 with h | h
      · rw [HP.out] at h; cases h
      · rcases Nat.lt_or_ge k n with h' | h'
        · exact h'
        · rw [HX.out.2 h'] at h; cases h
    clear h1 HX
    go_wp2
    go_ret
    exact ⟨rfl, hb13.trans (hb4.mono hb13.size)⟩
  · have hkn : n ≤ k := by
      rw [HSl.out] at h4
      rcases Nat.lt_or_ge k n with h' | h'
      · rw [HX.out.1 h'] at h4; cases h4
      · exact h'
    have HRow : Hid ((∀ j, j < k - n → ys.getD j 0 = 0) ∧ ∀ j, j < n → ys.getD (k - n + j) 0 = f j) := by
      rw [HSl.out, HX.out.2 hkn] at h4
      exact exact_row ys f n k HFb.out h1 h2 hkn (Option.some.inj h4).symm
    have HL : Hid (ys.length = k) := h1
    clear h1 h2 h3 h4 HX HP HSl
    obtain ⟨pd, hpd⟩ : ∃ pd, k = pd + n := ⟨k - n, by omega⟩
    have hpi : (k : Int) - (n : Int) = (pd : Int) := by omega
    have HPd : Hid (k = pd + n) := hpd
    have hpk : pd ≤ k := by omega
    clear hpd
    have hbA : Below w1.heap.size w1 (w3.alloc (.cells (cellsOf ys) 5)) := hb13.trans (hb4.mono hb13.size)
    go_wp2
    go_loop [9] (fun v => ∃ t : Nat, v = .int .i64 t ∧ t ≤ pd) (fun v => pd - (intOf v).toNat)
    case atStart => exact ⟨0, rfl, Nat.zero_le _⟩
    case round =>
      obtain ⟨t, rfl, ht⟩ := hrel
      by_cases hlt : t < pd
      · have hcy : (cellsOf ys)[t]? = some (.int .u8 0) := by
          have := cellsOf_get ys t (by rw [HL.out]; omega)
          rw [HRow.out.1 t (by have := HPd.out; omega)] at this; exact this
        have htk : t < k := by omega
        go_wp2
        go_round
        case rel => exact ⟨t + 1, by go_num, by omega⟩
        case measure => simp [intOf]; omega
      · obtain rfl : t = pd := by omega
        go_wp2
        go_loopw [10] (fun v wr => ∃ t : Nat, v = .int .i64 t ∧ t ≤ n ∧ wr.heap = (w3.alloc (.cells (cellsOf ys) 5)).heap ∧ Below w1.heap.size w1 wr) (fun v _ => n - (intOf v).toNat)
        case atStart => exact ⟨0, rfl, Nat.zero_le _, rfl, hbA⟩
        case round =>
          obtain ⟨q, rfl, hq, hheap, hbw⟩ := hrel
          have HH : Hid (wr.heap = (w3.alloc (.cells (cellsOf ys) 5)).heap) := hheap
          clear hheap
          by_cases hlt : q < n
          · have hcb : wr.cell? ⟨w1.heap.size, q, none⟩ = some (.int .u8 (f q : Nat)) := by
              rw [cell_heap HH.out, World.cell?_alloc_past _ _ _ hsz3]; exact HW3.out q hlt
            have hco : wr.cell? ⟨w3.heap.size, t + q, none⟩ = some (.int .u8 (f q : Nat)) := by
              rw [cell_heap HH.out, World.cell?_alloc_at _ _ _ _ rfl]
              have := cellsOf_get ys (t + q) (by rw [HL.out, HPd.out]; omega)
              rw [this]
              have e := HRow.out.2 q hlt
              rw [show k - n + q = t + q by have := HPd.out; omega] at e
              rw [e]
            have hpq : t + q < k := by have := HPd.out; omega
            obtain ⟨y, hy⟩ : ∃ y, y = f q := ⟨_, rfl⟩
            rw [← hy] at hcb hco
            clear hy
            go_wp2
            go_region
            go_wp2
            go_roundw
            case rel => exact ⟨q + 1, by go_num, by omega, HH.out, hbw.drew⟩
            case measure => simp [intOf]; omega
          · go_wp2
            go_ret
            exact ⟨rfl, hbw⟩

/-! ### A slice that came in -/
def fOf (zs : List Int) (j : Nat) : Nat := (zs.getD j 0).toNat

theorem open_row {w : World} {x : Addr} {zs : List Int} {n : Nat} (hn : n ≤ zs.length) (h0 : 0 < n) (hcell : ∀ i, i < zs.length → w.cell? (x.add i) = some (.int .u8 (zs.getD i 0))) (hw : ∀ z ∈ zs, (Lit.int .u8 z).wf = true) :
    ∃ b off, x = ⟨b, off, none⟩ ∧ b < w.heap.size ∧ (∀ j, j < n → w.cell? ⟨b, off + j, none⟩ = some (.int .u8 (fOf zs j : Nat))) ∧ ∀ j, j < n → fOf zs j < 256 := by
  have hbd : ∀ j, j < n → 0 ≤ zs.getD j 0 ∧ zs.getD j 0 ≤ 255 := fun j hj => by
    have hj' : j < zs.length := by omega
    have : zs.getD j 0 ∈ zs := by simp [List.getD, hj']
    have := bounds_u8 (hw _ this)
    omega
  obtain ⟨b, off, spot⟩ := x
  have hc := hcell 0 (by omega)
  have hspot : spot = none := by simpa [Addr.add] using World.cell?_spot hc
  subst hspot
  refine ⟨b, off, rfl, World.block_lt_of_cell? _ _ hc, fun j hj => ?_, fun j hj => ?_⟩
  · rw [← Addr.add_lit, hcell j (by omega)]
    have := hbd j hj
    unfold fOf
    rw [Int.toNat_of_nonneg this.1]
  · have := hbd j hj
    unfold fOf; omega
end Go.Proofs.Qxb6001367a
