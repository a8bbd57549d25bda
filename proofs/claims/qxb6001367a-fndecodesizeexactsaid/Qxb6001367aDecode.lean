/-
  THE WALK of decodeBase62 (23) and ZZdecodeBase62 (12). By an AI agent.
-/
import Derived.Test.Qxb6001367aPlain
import Derived.Test.Qxb6001367aShelf
import Derived.WalkKit
import Derived.WalkSpells
import Derived.WalkLawsBesides
import Derived.Deep.OwnRows
import Derived.Lib.Strings
namespace Go.Proofs.Qxb6001367a
open Go.RowKit

theorem Try.info5 : (Try.prog.info? 5).map (fun i => (i.zero, i.size, i.bytes)) = some (some (.int .u8 0), 1, 1) := by kernel_rfl

def B62L : List UInt8 := [48, 49, 50, 51, 52, 53, 54, 55, 56, 57, 65, 66, 67, 68, 69, 70, 71, 72, 73, 74, 75, 76, 77, 78, 79, 80, 81, 82, 83, 84, 85, 86, 87, 88, 89, 90, 97, 98, 99, 100, 101, 102, 103, 104, 105, 106, 107, 108, 109, 110, 111, 112, 113, 114, 115, 116, 117, 118, 119, 120, 121, 122]
/-- The digit that a byte stands for. -/
def dgO (c : UInt8) : Option Nat := if Lib.indexByte B62L c < 0 then none else some (Lib.indexByte B62L c).toNat
def chr (d : Nat) : UInt8 := B62L.getD d 0

theorem ib_range (l : List UInt8) (c : UInt8) : Lib.indexByte l c = -1 ∨ ∃ d : Nat, Lib.indexByte l c = d ∧ d < l.length ∧ l.getD d 0 = c := by
  induction l with
  | nil => left; rfl
  | cons b l ih =>
    by_cases h : b = c
    · right; exact ⟨0, by simp [Lib.indexByte, h], by simp, by simpa using h⟩
    · rcases ih with h1 | ⟨d, h1, h2, h3⟩
      · left; simp [Lib.indexByte, h, h1]
      · right
        have h4 : ¬ ((d : Int) = -1) := by omega
        refine ⟨d + 1, by simp [Lib.indexByte, h, h1, h4], by simp; omega, by simpa using h3⟩
theorem dgO_cases (c : UInt8) : (dgO c = none ∧ Lib.indexByte B62L c = -1) ∨ ∃ d : Nat, d < 62 ∧ dgO c = some d ∧ Lib.indexByte B62L c = d ∧ chr d = c := by
  rcases ib_range B62L c with h | ⟨d, h1, h2, h3⟩
  · left; exact ⟨by simp [dgO, h], h⟩
  · right
    refine ⟨d, h2, ?_, h1, h3⟩
    have h4 : ¬ ((d : Int) < 0) := by omega
    simp [dgO, h1, h4]
theorem dgO_chr : ∀ d, d < 62 → dgO (chr d) = some d := by decide +kernel

theorem take_dg (l : List UInt8) (k : Nat) (h : k < l.length) : (l.take (k + 1)).map dgO = (l.take k).map dgO ++ [dgO (l.getD k 0)] := by
  rw [List.take_succ_eq_append_getElem h, List.map_append]; simp [List.getD, h]
theorem map_split (l : List UInt8) (k : Nat) : l.map dgO = (l.take k).map dgO ++ (l.drop k).map dgO := by rw [← List.map_append, List.take_append_drop]
theorem dec_bad (M : Nat) (l : List UInt8) (k V : Nat) (h : k < l.length) (hV : Pl.dec M ((l.take k).map dgO) 0 = some V) (hd : dgO (l.getD k 0) = none) : Pl.dec M (l.map dgO) 0 = none := by
  rw [map_split l (k + 1)]
  apply Pl.dec_none_app
  rw [take_dg l k h, Pl.dec_snoc, hV, hd]; rfl
theorem dec_next (M : Nat) (l : List UInt8) (k V d : Nat) (h : k < l.length) (hV : Pl.dec M ((l.take k).map dgO) 0 = some V) (hd : dgO (l.getD k 0) = some d) :
    (V * 62 + d < M → Pl.dec M ((l.take (k + 1)).map dgO) 0 = some (V * 62 + d)) ∧ (¬ V * 62 + d < M → Pl.dec M (l.map dgO) 0 = none) := by
  have e : Pl.dec M ((l.take (k + 1)).map dgO) 0 = if V * 62 + d < M then some (V * 62 + d) else none := by
    rw [take_dg l k h, Pl.dec_snoc, hV, hd]; rfl
  refine ⟨fun hlt => by rw [e, if_pos hlt], fun hge => ?_⟩
  rw [map_split l (k + 1)]
  apply Pl.dec_none_app
  rw [e, if_neg hge]

/-- The cells of a row of bytes. -/
def cellsOf (ys : List Nat) : Array Value := (ys.map fun (d : Nat) => Value.int .u8 (d : Int)).toArray
theorem cellsOf_set (ys : List Nat) (j z : Nat) : (cellsOf ys).setIfInBounds j (.int .u8 (z : Int)) = cellsOf (ys.set j z) := by
  unfold cellsOf; rw [List.setIfInBounds_toArray, List.map_set]
theorem cellsOf_get (ys : List Nat) (j : Nat) (h : j < ys.length) : (cellsOf ys)[j]? = some (.int .u8 ((ys.getD j 0 : Nat) : Int)) := by
  simp [cellsOf, List.getD, h]
theorem cellsOf_made (m : Nat) : madeCells #[.int .u8 0] m = cellsOf (List.replicate m 0) := by
  apply Array.ext'
  rw [toList_madeCells_one]; simp [cellsOf]

theorem idx62 (c : UInt8) (x : Int) (hx : x = (c.toNat : Int)) (w : World) :
    Calls Try.prog 27 #[.string ⟨#[48, 49, 50, 51, 52, 53, 54, 55, 56, 57, 65, 66, 67, 68, 69, 70, 71, 72, 73, 74, 75, 76, 77, 78, 79, 80, 81, 82, 83, 84, 85, 86, 87, 88, 89, 90, 97, 98, 99, 100, 101, 102, 103, 104, 105, 106, 107, 108, 109, 110, 111, 112, 113, 114, 115, 116, 117, 118, 119, 120, 121, 122]⟩, .int .u8 x] w fun e w' => e = .returned (.int .i64 (Lib.indexByte B62L c)) ∧ w' = w := by
  have := Try.strings_IndexByte ⟨B62L.toArray⟩ x w
  have e : x.toNat.toUInt8 = c := by rw [hx]; simp
  rw [e] at this
  exact this

theorem at_byte (s : ByteArray) (k : Nat) (h : k < s.size) : s[k]'h = s.data.toList.getD k 0 := by
  have h' : k < s.data.size := h
  rw [List.getD_eq_getElem?_getD, Array.getElem?_toList, Array.getElem?_eq_getElem h']; rfl

set_option maxHeartbeats 1000000 in
theorem decode_any (s : ByteArray) (m n : Nat) (w : World) (hn : s.size = n) (hn2 : n ≤ 1048576) (hm : m ≤ 4096) (hz : Lib.hasPrefix s.data.toList [48] = false) :
    Calls Try.prog 23 #[.string s, .int .i64 m] w fun e w' => Below w.heap.size w w' ∧
      ((e = .returned (.tuple #[.slice none 0 0, .bool false]) ∧ Pl.dec (256 ^ m) (s.data.toList.map dgO) 0 = none) ∨
       ∃ ys : List Nat, e = .returned (.tuple #[.slice (some ⟨w.heap.size, 0, none⟩) m m, .bool true]) ∧ w' = w.alloc (.cells (cellsOf ys) 5) ∧ ys.length = m ∧ (∀ y ∈ ys, y < 256) ∧ Pl.dec (256 ^ m) (s.data.toList.map dgO) 0 = some (Pl.be 256 ys)) := by
  have hhp := Try.strings_HasPrefix s ⟨#[48]⟩ w
  rw [show (⟨#[48]⟩ : ByteArray).data.toList = [48] from rfl, hz] at hhp
  have hmk : ∀ w : World, (Instr.makeSlice 22 (.int .i64 (m : Int)) (.int .i64 (m : Int))).run Try.prog w = .ok (.slice (some ⟨w.heap.size, 0, none⟩) m m) (w.alloc (.cells (cellsOf (List.replicate m 0)) 5)) := by
    have := run_make_row' (P := Try.prog) 22 5 (.int .u8 0) 1 Try.underlying22 Try.info5 rfl .i64 .i64 m (by omega) (by omega)
    rw [cellsOf_made] at this; exact this
  obtain ⟨M, hM⟩ : ∃ M, M = 256 ^ m := ⟨_, rfl⟩
  have HM : Hid (M = 256 ^ m) := hM
  rw [← hM]
  obtain ⟨l, hl⟩ : ∃ l, l = s.data.toList := ⟨_, rfl⟩
  have HL : Hid (l = s.data.toList) := hl
  have HN : Hid (l.length = n) := by rw [hl, ← hn]; rfl
  rw [← hl]
  clear hM hl hz
  have hsz : s.size ≤ 1048576 := by omega
  have HS : Hid (s.size = n) := hn
  clear hn
  go_enter Try.func23, Try.ntmps23
  go_wp2_with (go_at_call 26; refine hhp.mono ?_; rintro e w1 ⟨rfl, rfl⟩)
  go_loopw [17] (fun v wr => ∃ (k : Nat) (ys : List Nat), v = .int .i64 k ∧ k ≤ s.size ∧ wr = w1.alloc (.cells (cellsOf ys) 5) ∧ Hid (ys.length = m ∧ (∀ y ∈ ys, y < 256) ∧ Pl.dec M ((l.take k).map dgO) 0 = some (Pl.be 256 ys)))
    (fun v _ => s.size - (intOf v).toNat)
  case atStart => exact ⟨0, _, rfl, Nat.zero_le _, rfl, by simp, fun y hy => by rw [List.eq_of_mem_replicate hy]; omega, by rw [Pl.be_zero]; rfl⟩
  case round =>
    obtain ⟨k, ys, rfl, hk, rfl, HY⟩ := hrel
    by_cases hlt : k < s.size
    · obtain ⟨c, hc⟩ : ∃ c, c = l.getD k 0 := ⟨_, rfl⟩
      have hsk : s[k] = c := by rw [hc, HL.out]; exact at_byte s k hlt
      have HK : Hid (k < l.length) := by rw [HN.out, ← HS.out]; exact hlt
      rcases dgO_cases c with ⟨h1, h2⟩ | ⟨d, hd, h1, h2, h3⟩
      · have HE : Hid (Pl.dec M (l.map dgO) 0 = none) := dec_bad M l k _ HK.out HY.out.2.2 (by rw [← hc]; exact h1)
        have hix := idx62 c (c.toNat : Int) rfl (w1.alloc (.cells (cellsOf ys) 5))
        rw [h2] at hix
        have HIX : Hid (Calls Try.prog 27 _ _ _) := hix
        clear hc h1 h2 hix
        go_wp2_with fail
        refine Calls.mono HIX.out ?_
        rintro e w2 ⟨rfl, rfl⟩
        go_wp2
        go_ret2
        exact ⟨(Below.refl _ _).alloc (Nat.le_refl _) _, .inl ⟨rfl, HE.out⟩⟩
      · have hix := idx62 c (c.toNat : Int) rfl (w1.alloc (.cells (cellsOf ys) 5))
        rw [h2] at hix
        have HIX : Hid (Calls Try.prog 27 _ _ _) := hix
        have HD := dec_next M l k _ d HK.out HY.out.2.2 (by rw [← hc]; exact h1)
        have HD' : Hid _ := HD
        clear hc h1 h2 hix HD h3
        go_wp2_with fail
        refine Calls.mono HIX.out ?_
        rintro e w2 ⟨rfl, rfl⟩
        go_wp2
        go_loopw [8, 9] (fun v u wr => ∃ (t cr : Nat) (zs : List Nat), u = .int .i64 ((t : Int) - 1) ∧ v = .int .i64 cr ∧ t ≤ m ∧ cr < 62 ∧ wr = w1.alloc (.cells (cellsOf zs) 5) ∧
            Hid (zs.length = m ∧ (∀ y ∈ zs, y < 256) ∧ zs.take t = ys.take t ∧ Pl.be 256 (ys.drop t) * 62 + d = cr * 256 ^ (m - t) + Pl.be 256 (zs.drop t)))
          (fun _ u _ => (intOf u + 1).toNat)
        case atStart => exact ⟨m, d, ys, rfl, rfl, Nat.le_refl _, hd, rfl, HY.out.1, HY.out.2.1, rfl, by simp [HY.out.1, List.drop_eq_nil_of_le, Pl.be]⟩
        case round =>
          obtain ⟨t, cr, zs, rfl, rfl, htm, hcr, rfl, HZ⟩ := hrel
          by_cases ht : t = 0
          · subst ht
            obtain ⟨z1, z2, z3, z4⟩ := HZ.out
            have hzM : Pl.be 256 zs < M := by rw [HM.out]; have := Pl.be_lt 256 zs z2; rw [z1] at this; exact this
            rw [List.drop_zero, List.drop_zero, Nat.sub_zero, ← HM.out] at z4
            by_cases h0 : cr = 0
            · subst h0
              have HE : Hid (zs.length = m ∧ (∀ y ∈ zs, y < 256) ∧ Pl.dec M ((l.take (k + 1)).map dgO) 0 = some (Pl.be 256 zs)) := by
                refine ⟨z1, z2, ?_⟩
                rw [Nat.zero_mul, Nat.zero_add] at z4
                rw [← z4]; exact HD'.out.1 (by rw [z4]; exact hzM)
              clear z1 z2 z3 z4 hzM HZ
              go_wp2
              go_roundw
              case rel => exact ⟨k + 1, zs, by go_num, by omega, rfl, HE⟩
              case measure => simp [intOf]; omega
            · have HE : Hid (Pl.dec M (l.map dgO) 0 = none) := by
                apply HD'.out.2
                rw [z4]
                have : 1 * M ≤ cr * M := Nat.mul_le_mul_right _ (by omega)
                omega
              have hcn : ((cr : Int) == 0) = false := by simp; omega
              clear z1 z2 z3 z4 hzM HZ
              go_wp2
              go_ret2
              exact ⟨(Below.refl _ _).alloc (Nat.le_refl _) _, .inl ⟨rfl, HE.out⟩⟩
          · obtain ⟨j, rfl⟩ : ∃ j, t = j + 1 := ⟨t - 1, by omega⟩
            have hjj : ((j + 1 : Nat) : Int) - 1 = (j : Int) := by omega
            obtain ⟨y, hy⟩ : ∃ y, y = zs.getD j 0 := ⟨_, rfl⟩
            have hcy : (cellsOf zs)[j]? = some (.int .u8 (y : Int)) := by rw [hy]; exact cellsOf_get zs j (by rw [HZ.out.1]; omega)
            have hy256 : y < 256 := by
              have h := HZ.out.1
              have hm' : zs.getD j 0 ∈ zs := by simp [List.getD, show j < zs.length by omega]
              rw [hy]; exact HZ.out.2.1 _ hm'
            have HE := Pl.mul_list ys zs m j d cr y HY.out.1 HZ.out.1 (by omega) HZ.out.2.1 HZ.out.2.2.1 hy HZ.out.2.2.2
            have HE' : Hid _ := HE
            have HSet : Hid ((cellsOf zs).setIfInBounds j (.int .u8 (((y : Int) * 62 + (cr : Int)) % 256)) = cellsOf (zs.set j ((y * 62 + cr) % 256))) := by
              rw [← cellsOf_set]; congr 2
            have hq := Pl.carry_lt y cr hy256 hcr
            have HQ : Hid ((y * 62 + cr) / 256 < 62) := hq
            clear hy HZ HE hq
            go_wp2
            rw [HSet.out]
            go_roundw
            case rel => exact ⟨j, (y * 62 + cr) / 256, _, by go_num, by go_num, by omega, HQ.out, rfl, HE'.out⟩
            case measure => simp [intOf]
    · obtain rfl : k = s.size := by omega
      have HE : Hid (Pl.dec M (l.map dgO) 0 = some (Pl.be 256 ys)) := by
        have := HY.out.2.2
        rw [List.take_of_length_le (by rw [HN.out, HS.out]; exact Nat.le_refl _)] at this; exact this
      go_wp2
      go_ret2
      exact ⟨(Below.refl _ _).alloc (Nat.le_refl _) _, .inr ⟨ys, rfl, rfl, HY.out.1, HY.out.2.1, HE.out⟩⟩

set_option maxHeartbeats 400000 in
theorem decode_zero (s : ByteArray) (m : Nat) (w : World) (hz : Lib.hasPrefix s.data.toList [48] = true) :
    Calls Try.prog 23 #[.string s, .int .i64 m] w fun e w' => e = .returned (.tuple #[.slice none 0 0, .bool false]) ∧ w' = w := by
  have hhp := Try.strings_HasPrefix s ⟨#[48]⟩ w
  rw [show (⟨#[48]⟩ : ByteArray).data.toList = [48] from rfl, hz] at hhp
  clear hz
  go_enter Try.func23, Try.ntmps23
  go_wp2_with (go_at_call 26; refine hhp.mono ?_; rintro e w1 ⟨rfl, rfl⟩)
  go_ret2
  exact ⟨rfl, rfl⟩

/-- What decodeBase62 answers: nil and false; or a new row with the very value. -/
def Decoded (s : ByteArray) (m : Nat) (w : World) (e : Ending) (w' : World) : Prop :=
  Below w.heap.size w w' ∧
      ((e = .returned (.tuple #[.slice none 0 0, .bool false]) ∧ (Lib.hasPrefix s.data.toList [48] = true ∨ Pl.dec (256 ^ m) (s.data.toList.map dgO) 0 = none)) ∨
       ∃ ys : List Nat, e = .returned (.tuple #[.slice (some ⟨w.heap.size, 0, none⟩) m m, .bool true]) ∧ w' = w.alloc (.cells (cellsOf ys) 5) ∧ ys.length = m ∧ (∀ y ∈ ys, y < 256) ∧
         Lib.hasPrefix s.data.toList [48] = false ∧ Pl.dec (256 ^ m) (s.data.toList.map dgO) 0 = some (Pl.be 256 ys))

theorem decode_all (s : ByteArray) (m : Nat) (w : World) (hn2 : s.size ≤ 1048576) (hm : m ≤ 4096) : Calls Try.prog 23 #[.string s, .int .i64 m] w fun e w' => Decoded s m w e w' := by
  cases hz : Lib.hasPrefix s.data.toList [48] with
  | true =>
    refine (decode_zero s m w hz).mono ?_
    rintro e w' ⟨rfl, rfl⟩
    exact ⟨Below.refl _ _, .inl ⟨rfl, .inl hz⟩⟩
  | false =>
    refine (decode_any s m s.size w rfl hn2 hm hz).mono ?_
    rintro e w' ⟨hb, ⟨rfl, h⟩ | ⟨ys, rfl, rfl, h1, h2, h3⟩⟩
    · exact ⟨hb, .inl ⟨rfl, .inr h⟩⟩
    · exact ⟨hb, .inr ⟨ys, rfl, rfl, h1, h2, hz, h3⟩⟩

theorem zz_decode (s : ByteArray) (m : Nat) (w : World) (hn2 : s.size ≤ 1048576) (hm : m ≤ 4096) : Calls Try.prog 12 #[.string s, .int .i64 m] w fun e w' => Decoded s m w e w' := by
  have h := decode_all s m w hn2 hm
  go_enter Try.func12, Try.ntmps12
  go_wp2_with fail
  refine h.mono ?_
  rintro e w' ⟨hb, ⟨rfl, h1⟩ | ⟨ys, rfl, rfl, h1, h2, h3, h4⟩⟩
  · have H1 : Hid _ := h1
    clear h1
    go_wp2
    go_ret2
    exact ⟨hb, .inl ⟨rfl, H1.out⟩⟩
  · have H1 : Hid _ := h1
    have H2 : Hid _ := h2
    have H3 : Hid _ := h3
    have H4 : Hid _ := h4
    clear h1 h2 h3 h4
    go_wp2
    go_ret2
    exact ⟨hb, .inr ⟨ys, rfl, rfl, H1.out, H2.out, H3.out, H4.out⟩⟩
end Go.Proofs.Qxb6001367a
