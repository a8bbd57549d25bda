/-
  THE WALKS of FnDecodeEncodeCanonical (4). By an AI agent.
-/
import Derived.Test.Qxb6001367aEncode
namespace Go.Proofs.Qxb6001367a
open Go.RowKit

theorem bytes14 (d : ByteArray) (i : Int) (w : World) (hm : d.size ≤ 1048576) :
    Calls Try.prog 14 #[.string d, .int .i64 i] w fun e w' => e = .returned (.bool true) ∧ w' = w := by
  go_enter Try.func14, Try.ntmps14
  go_wp2
  go_ret
  exact ⟨rfl, rfl⟩
theorem bytes14_no (d : ByteArray) (i : Int) (w : World) (hm : 1048576 < d.size) (hb : d.size ≤ 9223372036854775807) :
    Calls Try.prog 14 #[.string d, .int .i64 i] w fun e w' => e = .returned (.bool false) ∧ w' = w := by
  go_enter Try.func14, Try.ntmps14
  go_wp2
  go_ret
  exact ⟨rfl, rfl⟩

theorem canon_out (d : ByteArray) (i : Int) (w : World) (hb : d.size ≤ 9223372036854775807) (h : i < 0 ∨ 4096 < i ∨ 4096 < d.size) :
    Calls Try.prog 4 #[.string d, .int .i64 i] w fun e w' => e = .returned (.bool true) ∧ Below w.heap.size w w' := by
  by_cases hm : d.size ≤ 1048576
  · by_cases hl : 4096 < d.size
    · clear h
      go_enter Try.func4, Try.ntmps4
      go_wp2_with (go_at_call 14; refine (bytes14 _ _ _ hm).mono ?_; rintro e w1 ⟨rfl, rfl⟩)
      go_ret
      exact ⟨rfl, Below.refl _ _⟩
    · by_cases hneg : i < 0
      · clear h
        go_enter Try.func4, Try.ntmps4
        go_wp2_with (go_at_call 14; refine (bytes14 _ _ _ hm).mono ?_; rintro e w1 ⟨rfl, rfl⟩)
        go_ret
        exact ⟨rfl, Below.refl _ _⟩
      · have hge : 4096 < i := by omega
        clear h
        go_enter Try.func4, Try.ntmps4
        go_wp2_with (go_at_call 14; refine (bytes14 _ _ _ hm).mono ?_; rintro e w1 ⟨rfl, rfl⟩)
        go_ret
        exact ⟨rfl, Below.refl _ _⟩
  · clear h
    go_enter Try.func4, Try.ntmps4
    go_wp2_with (go_at_call 14; refine (bytes14_no _ _ _ (by omega) hb).mono ?_; rintro e w1 ⟨rfl, rfl⟩)
    go_ret
    exact ⟨rfl, Below.refl _ _⟩

/-! ### Lists -/
theorem win_list (ys : List Nat) : win (fun j => ys.getD j 0) 0 ys.length = ys := by
  apply List.ext_getElem
  · rw [win_len]
  · intro i h1 h2
    simp [win, List.getD, h2]
theorem dg_list (l : List UInt8) (ds : List Nat) (h : l.map dgO = ds.map some) : l = ds.map chr ∧ ∀ d ∈ ds, d < 62 := by
  induction l generalizing ds with
  | nil => cases ds; exact ⟨rfl, by simp⟩; simp at h
  | cons c r ih =>
    cases ds with
    | nil => simp at h
    | cons d t =>
      simp only [List.map_cons, List.cons.injEq] at h
      obtain ⟨h1, h2⟩ := ih t h.2
      rcases dgO_cases c with ⟨e, _⟩ | ⟨d', hd, e, _, hc⟩
      · rw [e] at h; simp at h
      · rw [e] at h
        have : d' = d := Option.some.inj h.1
        subst this
        refine ⟨by rw [List.map_cons, hc, ← h1], fun x hx => ?_⟩
        rcases List.mem_cons.1 hx with rfl | hx
        · exact hd
        · exact h2 x hx
theorem chr_zero : chr 0 = 48 := rfl
theorem canon_of (l : List UInt8) (ds : List Nat) (h : l.map dgO = ds.map some) (hp : Lib.hasPrefix l [48] = false) : Pl.Canon 62 ds := by
  obtain ⟨h1, h2⟩ := dg_list l ds h
  refine ⟨h2, fun d r e hd => ?_⟩
  subst e; subst hd
  rw [h1] at hp
  simp [Lib.hasPrefix, chr_zero, List.isPrefixOf] at hp
/-- Whatever decodeBase62 accepts is the canonical text of what it gives. -/
theorem same_text (s : ByteArray) (ys ds : List Nat) (M : Nat) (hp : Lib.hasPrefix s.data.toList [48] = false) (hd : Pl.dec M (s.data.toList.map dgO) 0 = some (Pl.be 256 ys)) (hc : Pl.Canon 62 ds) (hv : Pl.be 62 ds = Pl.be 256 ys) :
    (⟨(ds.map chr).toArray⟩ : ByteArray) = s := by
  obtain ⟨es, h1, h2, _⟩ := Pl.dec_some M _ 0 _ hd
  have hes := canon_of _ es h1 hp
  have : ds = es := Pl.canon_inj 62 (by omega) ds es hc hes (by rw [hv, h2]; rfl)
  rw [this, ← (dg_list _ es h1).1]

set_option maxHeartbeats 1000000 in
theorem canon_main (s : ByteArray) (m : Nat) (w : World) (hs : s.size ≤ 4096) (hm : m ≤ 4096) :
    Calls Try.prog 4 #[.string s, .int .i64 m] w fun e w' => e = .returned (.bool true) ∧ Below w.heap.size w w' := by
  go_enter Try.func4, Try.ntmps4
  go_wp2_with (go_at_call 14; refine (bytes14 _ _ _ (by omega)).mono ?_; rintro e w1 ⟨rfl, rfl⟩)
  refine (zz_decode s m _ (by omega) hm).mono ?_
  rintro e w2 ⟨hb, ⟨rfl, -⟩ | ⟨ys, rfl, rfl, h1, h2, h3, h4⟩⟩
  · go_wp2
    go_ret
    exact ⟨rfl, hb⟩
  · have HE := zz_encode ⟨w1.heap.size, 0, none⟩ m m (fun j => ys.getD j 0) (w1.alloc (.cells (cellsOf ys) 5)) hm (fun j hj => by
      rw [Addr.add_lit, Nat.zero_add, World.cell?_alloc_at _ _ _ _ rfl]; exact cellsOf_get ys j (by omega)) (fun j hj => by
        have : ys.getD j 0 ∈ ys := by simp [List.getD, show j < ys.length by omega]
        exact h2 _ this)
    have HX : Hid (∀ ds : List Nat, Pl.Canon 62 ds → Pl.be 62 ds = Pl.be 256 (win (fun j => ys.getD j 0) 0 m) → (⟨(ds.map chr).toArray⟩ : ByteArray) = s) := fun ds hc hv => by
      rw [← h1, win_list] at hv
      exact same_text s ys ds _ h3 h4 hc hv
    clear h1 h2 h3 h4
    go_wp2_with fail
    refine HE.mono ?_
    rintro e w3 ⟨ds, rfl, g1, g2, g3, hb3⟩
    rw [HX.out ds g1 g2]
    clear HE g1 g2
    go_wp2
    go_ret
    exact ⟨by simp, hb.trans (hb3.mono hb.size)⟩
end Go.Proofs.Qxb6001367a
