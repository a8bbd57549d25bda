/-
  THE WALK of encodeBase62 (22) and ZZencodeBase62 (11). By an AI agent.
-/
import Derived.Test.Qxb6001367aRow
namespace Go.Proofs.Qxb6001367a
open Go.RowKit

/-- The L bytes from place s on. -/
def win (h : Nat → Nat) (s L : Nat) : List Nat := (List.range L).map fun j => h (s + j)

theorem win_zero (h : Nat → Nat) (s : Nat) : win h s 0 = [] := rfl
theorem win_snoc (h : Nat → Nat) (s k : Nat) : win h s (k + 1) = win h s k ++ [h (s + k)] := by simp [win, List.range_succ]
theorem win_cons (h : Nat → Nat) (s k : Nat) : win h s (k + 1) = h s :: win h (s + 1) k := by
  simp only [win, List.range_succ_eq_map, List.map_cons, List.map_map, Nat.add_zero]
  congr 1
  apply List.map_congr_left
  intro j _
  simp only [Function.comp]; congr 1; omega
theorem win_len (h : Nat → Nat) (s k : Nat) : (win h s k).length = k := by simp [win]
theorem win_congr {h h' : Nat → Nat} {s k : Nat} (e : ∀ j, j < k → h (s + j) = h' (s + j)) : win h s k = win h' s k := by
  unfold win; apply List.map_congr_left; intro j hj; exact e j (by simpa using hj)
theorem win_lt {h : Nat → Nat} {s k n : Nat} (e : ∀ j, j < n → h j < 256) (hs : s + k ≤ n) : ∀ d ∈ win h s k, d < 256 := by
  intro d hd
  simp only [win, List.mem_map, List.mem_range] at hd
  obtain ⟨j, hj, rfl⟩ := hd
  exact e _ (by omega)

/-- What holds of the digits es (the lowest first) and of the rest V: N is the number that is written. -/
structure Enc (N : Nat) (es : List Nat) (V : Nat) : Prop where
  lt : ∀ d ∈ es, d < 62
  val : N = V * 62 ^ es.length + Pl.be 62 es.reverse
  last : V = 0 → ∀ d r, es.reverse = d :: r → d ≠ 0

theorem Enc.start (N : Nat) : Enc N [] N := ⟨by simp, by simp [Pl.be], by simp⟩
theorem Enc.step {N : Nat} {es : List Nat} {V q r : Nat} (h : Enc N es V) (hV : V = q * 62 + r) (hr : r < 62) (hpos : 0 < V) : Enc N (es ++ [r]) q := by
  refine ⟨fun d hd => ?_, ?_, fun hq d t e => ?_⟩
  · rcases List.mem_append.1 hd with h' | h'
    · exact h.lt d h'
    · simp at h'; omega
  · rw [List.reverse_append, List.reverse_singleton, List.singleton_append, Pl.be_cons, List.length_append, List.length_singleton, List.length_reverse, Nat.pow_succ, h.val, hV, Nat.add_mul]
    have : q * 62 * 62 ^ es.length = q * (62 ^ es.length * 62) := by rw [Nat.mul_assoc, Nat.mul_comm 62]
    omega
  · rw [List.reverse_append, List.reverse_singleton, List.singleton_append] at e
    simp at e; omega
theorem Enc.canon {N : Nat} {es : List Nat} (h : Enc N es 0) : Pl.Canon 62 es.reverse ∧ Pl.be 62 es.reverse = N := by
  refine ⟨⟨fun d hd => h.lt d (by simpa using hd), fun d r e => h.last rfl d r e⟩, ?_⟩
  have := h.val; omega
theorem Enc.len {N n : Nat} {es : List Nat} {V : Nat} (h : Enc N es V) (hpos : 0 < V) (hN : N < 256 ^ n) : es.length < 8 * n := by
  apply Pl.len_bound es.length n N _ hN
  have : 1 * 62 ^ es.length ≤ V * 62 ^ es.length := Nat.mul_le_mul_right _ hpos
  have := h.val; omega

/-- The digits as the slice 'digits' holds them. -/
def esV (es : List Nat) : List Value := es.map fun (d : Nat) => Value.int .u8 ((chr d).toNat : Nat)

theorem esV_get (es : List Nat) (j : Nat) (h : j < es.length) : (esV es)[j]? = some (.int .u8 (((chr (es.getD j 0)).toNat : Nat) : Int)) := by
  simp [esV, List.getD, h]

def lenV : Value → Nat | .slice _ n _ => n | _ => 0

/-- The string that the digits es (the lowest first) give. -/
def strOf (es : List Nat) : ByteArray := ⟨(es.reverse.map chr).toArray⟩

theorem i64_or_nat (a b : Nat) (ha : a < 2 ^ 62) (hb : b < 2 ^ 62) : bits .or .i64 (a : Int) (b : Int) = ((a ||| b : Nat) : Int) := by
  have hx : a ||| b < 2 ^ 62 := Nat.or_lt_two_pow ha hb
  have ho : ∀ c : Nat, c < 2 ^ 62 → (BitVec.ofInt 64 (c : Int)).toNat = c := fun c hc => by
    rw [BitVec.ofInt_natCast, BitVec.toNat_ofNat]; exact Nat.mod_eq_of_lt (by omega)
  show IntKind.i64.wrap ((BitVec.ofInt 64 (a : Int) ||| BitVec.ofInt 64 (b : Int)).toNat : Int) = _
  rw [BitVec.toNat_or, ho a ha, ho b hb, IntKind.wrap_i64]
  omega
theorem or_byte (r d : Nat) (hr : r < 62) (hd : d < 256) : bits .or .i64 ((r : Int) * 256) (d : Int) = ((r * 256 + d : Nat) : Int) := by
  have e : (r : Int) * 256 = ((r * 256 : Nat) : Int) := by omega
  rw [e, i64_or_nat _ _ (by omega) (by omega)]
  have := Nat.shiftLeft_add_eq_or_of_lt (i := 8) (b := d) (by omega) r
  rw [Nat.shiftLeft_eq] at this
  rw [← this]
theorem chr_at (r : Nat) (h : r < (⟨#[48, 49, 50, 51, 52, 53, 54, 55, 56, 57, 65, 66, 67, 68, 69, 70, 71, 72, 73, 74, 75, 76, 77, 78, 79, 80, 81, 82, 83, 84, 85, 86, 87, 88, 89, 90, 97, 98, 99, 100, 101, 102, 103, 104, 105, 106, 107, 108, 109, 110, 111, 112, 113, 114, 115, 116, 117, 118, 119, 120, 121, 122]⟩ : ByteArray).size) :
    (⟨#[48, 49, 50, 51, 52, 53, 54, 55, 56, 57, 65, 66, 67, 68, 69, 70, 71, 72, 73, 74, 75, 76, 77, 78, 79, 80, 81, 82, 83, 84, 85, 86, 87, 88, 89, 90, 97, 98, 99, 100, 101, 102, 103, 104, 105, 106, 107, 108, 109, 110, 111, 112, 113, 114, 115, 116, 117, 118, 119, 120, 121, 122]⟩ : ByteArray)[r]'h = chr r := by
  rw [at_byte]; rfl

theorem owns_len {w : World} {B n : Nat} {v : Value} {vs : List Value} (h : w.ownsRow B 5 1 v n vs) : lenV v = n := by
  rcases h.2 with ⟨rfl, h0⟩ | ⟨g, cap, cur, rfl, _⟩
  · exact h0.symm
  · rfl
theorem owns_block {w : World} {B n k : Nat} {v : Value} {vs : List Value} (h : w.ownsRow B 5 1 v n vs) (e : v.ownBlock = some k) : B ≤ k := by
  rcases h.2 with ⟨rfl, _⟩ | ⟨g, cap, cur, rfl, hg, _⟩
  · cases e
  · cases e; exact hg
theorem esV_snoc (es : List Nat) (r : Nat) : esV (es ++ [r]) = esV es ++ [.int .u8 (((chr r).toNat : Nat) : Int)] := by simp [esV]

theorem div_win {h h' : Nat → Nat} {o k r d : Nat} (hK : Pl.be 256 (win h o k) = Pl.be 256 (win h' o k) * 62 + r) (hr : r < 62) (hd : d < 256) (e : h (o + k) = d) :
    Pl.be 256 (win h o (k + 1)) = Pl.be 256 (win (upd h' (o + k) ((r * 256 + d) / 62)) o (k + 1)) * 62 + (r * 256 + d) % 62 := by
  have := (Pl.div_step (win h' o k) _ r d hK hr hd).1
  rw [win_snoc, Pl.be_snoc, e, this, win_snoc]
  have e1 : win (upd h' (o + k) ((r * 256 + d) / 62)) o k = win h' o k := win_congr (fun j hj => by unfold upd; rw [if_neg (by omega)])
  have e2 : upd h' (o + k) ((r * 256 + d) / 62) (o + k) = (r * 256 + d) / 62 := by unfold upd; rw [if_pos rfl]
  rw [e1, e2]

theorem conv_nil (w : World) : (convert 22 9 (.slice none 0 0)).run Try.prog w = .ok (.string ⟨#[]⟩) w :=
  run_convert_bytes_nil (P := Try.prog) (w := w) 22 5 Try.underlying22 Try.underlying5 0 0 9 Try.underlying9
theorem conv_row (gd : Nat) (es : List Nat) (capd : Nat) (w : World) (H : RowF w gd es.length (fun j => (chr (es.getD (es.length - 1 - j) 0)).toNat)) :
    (convert 22 9 (.slice (some ⟨gd, 0, none⟩) es.length capd)).run Try.prog w = .ok (.string (strOf es)) w := by
  have := run_convert_bytes_back (P := Try.prog) w 22 9 5 ⟨gd, 0, none⟩ capd (es.reverse.map chr) Try.underlying22 Try.underlying5 Try.underlying9 (fun j hj => by
    have hj' : j < es.length := by simpa using hj
    rw [Addr.add_lit, Nat.zero_add, H.cell hj']
    simp [List.getD, show es.length - 1 - j < es.length by omega])
  simpa [strOf] using this

set_option maxHeartbeats 2000000 in
theorem encode_loop (x : Addr) (n c : Nat) (f : Nat → Nat) (w : World) (hn : n ≤ 4096) (hc : ∀ j, j < n → w.cell? (x.add j) = some (.int .u8 (f j : Nat))) (hf : ∀ j, j < n → f j < 256) :
    Calls Try.prog 22 #[.slice (some x) n c] w fun e w' => ∃ ds : List Nat, e = .returned (.string ⟨(ds.map chr).toArray⟩) ∧ Pl.Canon 62 ds ∧ Pl.be 62 ds = Pl.be 256 (win f 0 n) ∧ ds.length ≤ 8 * n ∧ Below w.heap.size w w' := by
  obtain ⟨i0, hi, hz0, hz1, hz2⟩ := info_parts Try.info5
  have hcl := clone_row x n c f w hn hc
  have HFb : Hid (∀ j, j < n → f j < 256) := hf
  clear hc hf
  obtain ⟨N, hN⟩ : ∃ N, N = Pl.be 256 (win f 0 n) := ⟨_, rfl⟩
  have HN : Hid (N < 256 ^ n) := by
    have := Pl.be_lt 256 (win f 0 n) (win_lt HFb.out (by omega)); rw [win_len] at this; rw [hN]; exact this
  have HE0 : Hid (Enc N [] (Pl.be 256 (win f (n - n) n))) := by rw [Nat.sub_self, hN]; exact Enc.start _
  rw [← hN]
  clear hN
  go_enter Try.func22, Try.ntmps22
  go_wp2_with (go_at_call 24; refine hcl.mono ?_; rintro e w1 ⟨g, cap, rfl, hg, hnc, hcm, HR, hb1⟩)
  have hgl := HR.lt
  go_loopw [3, 4] (fun v dv wr => ∃ (L C o : Nat) (es : List Nat) (h : Nat → Nat), v = .slice (some ⟨g, o, none⟩) L C ∧ L ≤ n ∧ L ≤ C ∧ C ≤ maxLen ∧ (0 < L → o + L = n) ∧ es.length ≤ 8 * n ∧ RowF wr g n h ∧
      wr.ownsRow w1.heap.size 5 1 dv es.length (esV es) ∧ Below w.heap.size w wr ∧ w1.heap.size ≤ wr.heap.size ∧ Hid ((∀ j, j < n → h j < 256) ∧ Enc N es (Pl.be 256 (win h (n - L) L))))
    (fun _ dv _ => 8 * n + 1 - lenV dv)
  case atStart => exact ⟨n, cap, 0, [], f, rfl, Nat.le_refl _, hnc, hcm, fun _ => by omega, by simp, HR, World.ownsRow_nil _ _ _ _, hb1, Nat.le_refl _, HFb.out, HE0.out⟩
  case round =>
    obtain ⟨L, C, o, es, h, rfl, hLn, hLC, hCm, ho, hes, HR', hown, hb, hsz, HE⟩ := hrel
    clear HR HE0 hb1
    unfold maxLen at hCm
    go_wp2
    go_loop [3] (fun v => ∃ (L' C' o' : Nat), v = .slice (some ⟨g, o', none⟩) L' C' ∧ L' ≤ n ∧ L' ≤ C' ∧ C' ≤ 9223372036854775807 ∧ (0 < L' → o' + L' = n) ∧ Hid (Enc N es (Pl.be 256 (win h (n - L') L')))) (fun v => lenV v)
    case atStart => exact ⟨L, C, o, rfl, hLn, hLC, hCm, ho, HE.out.2⟩
    case round =>
      clear ho hLn hLC hCm
      obtain ⟨L', C', o', rfl, hLn, hLC, hCm, ho, HE'⟩ := hrel
      by_cases hL0 : L' = 0
      · subst hL0
        have HC : Hid (Pl.Canon 62 es.reverse ∧ Pl.be 62 es.reverse = N) := Enc.canon HE'.out
        clear HE HE' ho HR'
        rcases hown.2 with ⟨rfl, hk0⟩ | ⟨gd, capd, cur, rfl, hgd, _⟩
        · have hes0 : es = [] := List.length_eq_zero_iff.1 hk0
          subst hes0
          go_wp2_with fail
          refine (reverse_nil _).mono ?_
          rintro e w2 ⟨rfl, rfl⟩
          have hcv : (convert 22 9 (.slice none 0 0)).run Try.prog w2 = .ok (.string ⟨#[]⟩) w2 := conv_nil w2
          go_wp2
          go_ret
          exact ⟨[], rfl, HC.out.1, HC.out.2, by simp, hb⟩
        · obtain ⟨a1, a2, a3, HRd⟩ := owns_rowF (f := fun j => (chr (es.getD j 0)).toNat) hown (fun j hj => esV_get es j hj)
          go_wp2_with fail
          refine (reverse_row gd es.length capd _ w.heap.size _ HRd (by omega) (by omega)).mono ?_
          rintro e w2 ⟨rfl, HRr, hb2⟩
          clear hown HRd
          have hcv := conv_row gd es capd w2 HRr
          go_wp2
          go_ret
          exact ⟨es.reverse, rfl, HC.out.1, HC.out.2, by simpa using hes, hb.trans hb2⟩
      · have ho' := ho (by omega)
        have hck := HR'.cell (j := o') (by omega)
        by_cases hz : h o' = 0
        · have hzb : (((h o' : Nat) : Int) == 0) = true := by simp [hz]
          have HS : Hid (Enc N es (Pl.be 256 (win h (n - (L' - 1)) (L' - 1)))) := by
            have := HE'.out
            obtain ⟨q, rfl⟩ : ∃ q, L' = q + 1 := ⟨L' - 1, by omega⟩
            rw [win_cons, show n - (q + 1) = o' by omega, hz, Pl.be_cons, Nat.zero_mul, Nat.zero_add] at this
            rw [Nat.add_sub_cancel, show n - q = o' + 1 by omega]; exact this
          obtain ⟨o2, ho2, hop⟩ : ∃ o2 : Nat, (if C' = 1 then some (⟨g, o', none⟩ : Addr) else some ⟨g, o' + 1, none⟩) = some ⟨g, o2, none⟩ ∧ Hid (0 < L' - 1 → o2 + (L' - 1) = n) := by
            by_cases hC1 : C' = 1
            · exact ⟨o', by simp [hC1], fun h' => by omega⟩
            · exact ⟨o' + 1, by simp [hC1], fun h' => by omega⟩
          clear hz
          go_wp2
          go_round
          case rel => exact ⟨L' - 1, C' - 1, o2, rfl, by omega, by omega, by omega, hop.out, HS⟩
          case measure => simp [lenV]; omega
        · have hzb : (((h o' : Nat) : Int) == 0) = false := by simpa using hz
          go_wp2
          obtain ⟨wo, rfl⟩ : ∃ wo : World, wo = wr := ⟨_, rfl⟩
          go_loopw [5, 27] (fun v u wr => ∃ (k r : Nat) (h' : Nat → Nat), u = .int .i64 k ∧ v = .int .i64 r ∧ k ≤ L' ∧ r < 62 ∧ RowF wr g n h' ∧ wr.ownsRow w1.heap.size 5 1 u4 es.length (esV es) ∧ Below w.heap.size w wr ∧ w1.heap.size ≤ wr.heap.size ∧
              Hid ((∀ j, j < n → h' j < 256) ∧ Pl.be 256 (win h o' k) = Pl.be 256 (win h' o' k) * 62 + r ∧ ∀ j, o' + k ≤ j → j < n → h' j = h j))
            (fun _ u _ => L' - (intOf u).toNat)
          case atStart => exact ⟨0, 0, h, rfl, rfl, Nat.zero_le _, by omega, HR', hown, hb, hsz, HE.out.1, rfl, fun _ _ _ => rfl⟩
          case round =>
            obtain ⟨k, r, h', rfl, rfl, hk, hr, HRk, hownk, hbk, hszk, HK⟩ := hrel
            clear HR' hown hb hsz hck hzb
            by_cases hlt : k < L'
            · have hck := HRk.cell (j := o' + k) (by omega)
              have hfk := HRk.frozen (o' + k)
              obtain ⟨d, hd⟩ : ∃ d, d = h' (o' + k) := ⟨_, rfl⟩
              rw [← hd] at hck
              have hd256 : d < 256 := by rw [hd]; exact HK.out.1 _ (by omega)
              have HA : Hid (Pl.be 256 (win h o' (k + 1)) = Pl.be 256 (win (upd h' (o' + k) ((r * 256 + d) / 62)) o' (k + 1)) * 62 + (r * 256 + d) % 62) :=
                div_win HK.out.2.1 hr hd256 (by rw [hd]; exact (HK.out.2.2 (o' + k) (Nat.le_refl _) (by omega)).symm)
              have HB : Hid ((∀ j, j < n → upd h' (o' + k) ((r * 256 + d) / 62) j < 256) ∧ ∀ j, o' + (k + 1) ≤ j → j < n → upd h' (o' + k) ((r * 256 + d) / 62) j = h j) := by
                refine ⟨fun j hj => ?_, fun j h1 h2 => ?_⟩
                · unfold upd; split
                  · omega
                  · exact HK.out.1 j hj
                · unfold upd; rw [if_neg (by omega)]; exact HK.out.2.2 j (by omega) h2
              have hor := or_byte r d hr hd256
              obtain ⟨a, ha⟩ : ∃ a, a = r * 256 + d := ⟨_, rfl⟩
              rw [← ha] at HA HB hor
              have hab : a < 15872 := by omega
              have HSet : Hid (RowF (wr.setCell ⟨g, o' + k, none⟩ (.int .u8 (((a / 62 : Nat) : Int)))) g n (upd h' (o' + k) (a / 62))) := HRk.set (o' + k) (a / 62)
              have HOw : Hid ((wr.setCell ⟨g, o' + k, none⟩ (.int .u8 (((a / 62 : Nat) : Int)))).ownsRow w1.heap.size 5 1 u4 es.length (esV es)) := ownsRow_setCell_below hownk (by exact hgl) _
              have HBe : Hid (Below w.heap.size w (wr.setCell ⟨g, o' + k, none⟩ (.int .u8 (((a / 62 : Nat) : Int))))) := hbk.setCell (by exact hg) _
              have hq1 : (a : Int) / 62 % 256 = ((a / 62 : Nat) : Int) := by omega
              have hq2 : (a : Int) % 62 = ((a % 62 : Nat) : Int) := by omega
              clear hd ha HRk hownk hbk HK
              go_wp2
              go_roundw
              case rel => exact ⟨k + 1, a % 62, _, by go_num, rfl, by omega, by omega, HSet.out, HOw.out, HBe.out, by simpa [World.setCell] using hszk, HB.out.1, HA.out, HB.out.2⟩
              case measure => simp [intOf]; omega
            · obtain rfl : k = L' := by omega
              have hidx := fun hh => chr_at r hh
              have hVpos : 0 < Pl.be 256 (win h (n - k) k) := by
                obtain ⟨q, rfl⟩ : ∃ q, k = q + 1 := ⟨k - 1, by omega⟩
                rw [show n - (q + 1) = o' by omega, win_cons]
                have := Pl.be_lead 256 (h o') (win h (o' + 1) q) hz
                have : 0 < 256 ^ (win h (o' + 1) q).length := Nat.pow_pos (by omega)
                omega
              have hlen := Enc.len HE'.out hVpos HN.out
              have HS : Hid (Enc N (es ++ [r]) (Pl.be 256 (win h' (n - k) k))) := by
                refine Enc.step HE'.out ?_ hr hVpos
                have := HK.out.2.1
                rw [show n - k = o' by omega]; exact this
              have HH : Hid (∀ j, j < n → h' j < 256) := HK.out.1
              have hlu := owns_len hownk
              have HLU : Hid (lenV u4 = es.length) := hlu
              have HOB : Hid (∀ q, u4.ownBlock = some q → w1.heap.size ≤ q) := fun q hq => owns_block hownk hq
              obtain ⟨cv, hcv⟩ : ∃ cv : Int, cv = (((chr r).toNat : Nat) : Int) := ⟨_, rfl⟩
              have HCV : Hid (cv = (((chr r).toNat : Nat) : Int)) := hcv
              have hcv' : (((chr r).toNat : Nat) : Int) = cv := hcv.symm
              clear hcv hVpos HK hz HE HE' hlu
              go_wp2_with (at_builtin; refine wpList_append_own_at _ rfl (.tmp 46) (.tmp 49) 22 rfl w1.heap.size 5 i0 (.int .u8 0) 1 1 Try.underlying22 hi hz0 hz1 hz2 rfl (by decide) _ es.length (esV es) rfl (hownk.alloc _) ⟨wr.heap.size, 0, none⟩ 1 1 [.int .u8 cv] rfl rfl (cell_one_new _ _ _) (ints_oneCell .u8 [cv]) (by unfold maxLen; omega) (by omega) (by simp; omega) ?_; intro v' w4 hown4 hgrow4 hnil4 hat4)
              have hb4 : Below w.heap.size w w4 := (hbk.alloc (by have := hbk.size; omega) _).grown hgrow4 (by have := hbk.size; simp; omega) (fun q hq => by have := HOB.out q hq; omega)
              have HR4 : RowF w4 g n h' := by
                refine (HRk.alloc (.cells #[.int .u8 cv] 5)).block (hgrow4.block g ?_ ?_)
                · have := HRk.lt; simp; omega
                · intro e; have := HOB.out g e.symm; omega
              have hs4 : w1.heap.size ≤ w4.heap.size := by have := hgrow4.size; simp at this; omega
              have hown5 : w4.ownsRow w1.heap.size 5 1 v' (es ++ [r]).length (esV (es ++ [r])) := by
                rw [esV_snoc, ← HCV.out, List.length_append, List.length_singleton]; exact hown4
              have hl5 := owns_len hown5
              go_roundw
              case rel => exact ⟨k, C', o', es ++ [r], h', rfl, hLn, hLC, by unfold maxLen; omega, ho, by simp; omega, HR4, hown5, hb4, hs4, HH.out, HS.out⟩
              case measure =>
                rw [hl5, HLU.out]; simp; omega

/-- encodeBase62, the shim. -/
theorem zz_encode (x : Addr) (n c : Nat) (f : Nat → Nat) (w : World) (hn : n ≤ 4096) (hc : ∀ j, j < n → w.cell? (x.add j) = some (.int .u8 (f j : Nat))) (hf : ∀ j, j < n → f j < 256) :
    Calls Try.prog 11 #[.slice (some x) n c] w fun e w' => ∃ ds : List Nat, e = .returned (.string ⟨(ds.map chr).toArray⟩) ∧ Pl.Canon 62 ds ∧ Pl.be 62 ds = Pl.be 256 (win f 0 n) ∧ ds.length ≤ 8 * n ∧ Below w.heap.size w w' := by
  have h := encode_loop x n c f w hn hc hf
  clear hc hf
  go_enter Try.func11, Try.ntmps11
  go_wp2_with fail
  refine h.mono ?_
  rintro e w1 ⟨ds, rfl, h1, h2, h3, hb⟩
  have H1 : Hid _ := h1
  have H2 : Hid _ := h2
  clear h1 h2 h
  go_wp2
  go_ret
  exact ⟨ds, rfl, H1.out, H2.out, h3, hb⟩
end Go.Proofs.Qxb6001367a
