/-
  PLAIN LAWS for base 62 and base 256: no Go in sight. By an AI agent.
-/
namespace Go.Proofs.Qxb6001367a.Pl

/-- The number that the digits l stand for, the first the highest, at base B. -/
def be (B : Nat) (l : List Nat) : Nat := l.foldl (fun a d => a * B + d) 0

theorem be_from (B : Nat) (l : List Nat) (a : Nat) : l.foldl (fun a d => a * B + d) a = a * B ^ l.length + be B l := by
  induction l generalizing a with
  | nil => simp [be]
  | cons d r ih =>
    have h0 : be B (d :: r) = d * B ^ r.length + be B r := by
      show List.foldl _ (0 * B + d) r = _
      rw [ih, Nat.zero_mul, Nat.zero_add]
    rw [List.foldl_cons, ih, h0, List.length_cons, Nat.pow_succ, Nat.add_mul]
    have : a * B * B ^ r.length = a * (B ^ r.length * B) := by rw [Nat.mul_assoc, Nat.mul_comm B]
    omega
theorem be_nil (B : Nat) : be B [] = 0 := rfl
theorem be_cons (B d : Nat) (r : List Nat) : be B (d :: r) = d * B ^ r.length + be B r := by
  show List.foldl _ (0 * B + d) r = _
  rw [be_from, Nat.zero_mul, Nat.zero_add]
theorem be_app (B : Nat) (l r : List Nat) : be B (l ++ r) = be B l * B ^ r.length + be B r := by
  show List.foldl _ 0 (l ++ r) = _
  rw [List.foldl_append, be_from]; rfl
theorem be_snoc (B : Nat) (l : List Nat) (d : Nat) : be B (l ++ [d]) = be B l * B + d := by
  rw [be_app, be_cons, be_nil]; simp
theorem be_lt (B : Nat) (l : List Nat) (h : ∀ d ∈ l, d < B) : be B l < B ^ l.length := by
  induction l with
  | nil => simp [be]
  | cons d r ih =>
    rw [be_cons, List.length_cons, Nat.pow_succ]
    have h1 := ih (fun x hx => h x (List.mem_cons_of_mem _ hx))
    have h2 := h d (List.mem_cons_self ..)
    have h3 : (d + 1) * B ^ r.length ≤ B * B ^ r.length := Nat.mul_le_mul_right _ h2
    rw [Nat.add_mul] at h3
    rw [Nat.mul_comm (B ^ r.length)]
    omega
theorem be_zero (B : Nat) (k : Nat) : be B (List.replicate k 0) = 0 := by
  induction k with
  | zero => rfl
  | succ k ih => rw [List.replicate_succ, be_cons, ih]; simp
theorem be_lead (B : Nat) (d : Nat) (r : List Nat) (hd : d ≠ 0) : B ^ r.length ≤ be B (d :: r) := by
  rw [be_cons]
  have : 1 * B ^ r.length ≤ d * B ^ r.length := Nat.mul_le_mul_right _ (by omega)
  omega

/-- Digits without a leading zero, told by their number. -/
def Canon (B : Nat) (l : List Nat) : Prop := (∀ d ∈ l, d < B) ∧ ∀ d r, l = d :: r → d ≠ 0

theorem canon_len (B : Nat) (hB : 1 < B) (l m : List Nat) (hl : Canon B l) (hm : Canon B m) (h : be B l = be B m) : l.length ≤ m.length := by
  rcases Nat.lt_or_ge m.length l.length with hlt | hge
  · exfalso
    cases l with
    | nil => simp at hlt
    | cons d r =>
      have h1 := be_lead B d r (hl.2 d r rfl)
      have h2 := be_lt B m hm.1
      have h3 : B ^ m.length ≤ B ^ r.length := Nat.pow_le_pow_right (by omega) (by simp at hlt; omega)
      omega
  · exact hge
theorem same_len_inj (B : Nat) (l m : List Nat) (hl : ∀ d ∈ l, d < B) (hm : ∀ d ∈ m, d < B) (hlen : l.length = m.length) (h : be B l = be B m) : l = m := by
  induction l generalizing m with
  | nil => cases m; rfl; simp at hlen
  | cons d r ih =>
    cases m with
    | nil => simp at hlen
    | cons e s =>
      have hrs : r.length = s.length := by simpa using hlen
      rw [be_cons, be_cons, ← hrs] at h
      have h1 := be_lt B r (fun x hx => hl x (List.mem_cons_of_mem _ hx))
      have h2 := be_lt B s (fun x hx => hm x (List.mem_cons_of_mem _ hx))
      rw [← hrs] at h2
      have hp : 0 < B ^ r.length := by omega
      have hd : d = e := by
        have e1 : (d * B ^ r.length + be B r) / B ^ r.length = d := by rw [Nat.add_comm, Nat.add_mul_div_right _ _ hp, Nat.div_eq_of_lt h1, Nat.zero_add]
        have e2 : (e * B ^ r.length + be B s) / B ^ r.length = e := by rw [Nat.add_comm, Nat.add_mul_div_right _ _ hp, Nat.div_eq_of_lt h2, Nat.zero_add]
        rw [h, e2] at e1; exact e1.symm
      subst hd
      rw [ih s (fun x hx => hl x (List.mem_cons_of_mem _ hx)) (fun x hx => hm x (List.mem_cons_of_mem _ hx)) hrs (by omega)]
theorem canon_inj (B : Nat) (hB : 1 < B) (l m : List Nat) (hl : Canon B l) (hm : Canon B m) (h : be B l = be B m) : l = m :=
  same_len_inj B l m hl.1 hm.1 (Nat.le_antisymm (canon_len B hB l m hl hm h) (canon_len B hB m l hm hl h.symm)) h

/-! ### Long division by 62, byte by byte -/
theorem div_step (qs : List Nat) (V r d : Nat) (h : V = be 256 qs * 62 + r) (hr : r < 62) (hd : d < 256) :
    V * 256 + d = be 256 (qs ++ [(r * 256 + d) / 62]) * 62 + (r * 256 + d) % 62 ∧ (r * 256 + d) % 62 < 62 ∧ (r * 256 + d) / 62 < 256 := by
  refine ⟨?_, Nat.mod_lt _ (by omega), by omega⟩
  rw [be_snoc, h]; omega

/-! ### Multiplication by 62 plus a digit, byte by byte, from the right -/
theorem mul_step (y c z q P L D : Nat) (Y Z : Nat) (h : Y * 62 + D = c * P + Z) (hz : z = (y * 62 + c) % 256) (hq : q = (y * 62 + c) / 256) (hL : L = P * 256) :
    (y * P + Y) * 62 + D = q * L + (z * P + Z) := by
  have e : y * 62 + c = q * 256 + z := by omega
  have e1 : (y * 62 + c) * P = (q * 256 + z) * P := by rw [e]
  rw [Nat.add_mul, Nat.add_mul] at e1
  rw [Nat.add_mul, hL]
  have e2 : y * P * 62 = y * 62 * P := by rw [Nat.mul_assoc, Nat.mul_comm P, ← Nat.mul_assoc]
  have e3 : q * (P * 256) = q * 256 * P := by rw [Nat.mul_comm P, Nat.mul_assoc]
  omega
theorem mul_list (ys zs : List Nat) (m j d c y : Nat) (hy : ys.length = m) (hz : zs.length = m) (hj : j < m) (hzb : ∀ x ∈ zs, x < 256) (ht : zs.take (j + 1) = ys.take (j + 1)) (e : y = zs.getD j 0)
    (h : be 256 (ys.drop (j + 1)) * 62 + d = c * 256 ^ (m - (j + 1)) + be 256 (zs.drop (j + 1))) :
    (zs.set j ((y * 62 + c) % 256)).length = m ∧ (∀ x ∈ zs.set j ((y * 62 + c) % 256), x < 256) ∧ (zs.set j ((y * 62 + c) % 256)).take j = ys.take j ∧
      be 256 (ys.drop j) * 62 + d = ((y * 62 + c) / 256) * 256 ^ (m - j) + be 256 ((zs.set j ((y * 62 + c) % 256)).drop j) := by
  have hgy : ys[j]'(by omega) = y := by
    have h1 : (zs.take (j + 1))[j]? = (ys.take (j + 1))[j]? := by rw [ht]
    rw [List.getElem?_take, List.getElem?_take, if_pos (by omega), if_pos (by omega), List.getElem?_eq_getElem (by omega), List.getElem?_eq_getElem (by omega)] at h1
    rw [e]; simp only [List.getD, List.getElem?_eq_getElem (show j < zs.length by omega), Option.getD_some]
    exact (Option.some.inj h1).symm
  refine ⟨by simpa using hz, fun x hx => ?_, ?_, ?_⟩
  · rcases List.mem_or_eq_of_mem_set hx with h' | h'
    · exact hzb x h'
    · rw [h']; exact Nat.mod_lt _ (by omega)
  · rw [List.take_set_of_le (Nat.le_refl _)]
    have : (zs.take (j + 1)).take j = (ys.take (j + 1)).take j := by rw [ht]
    rw [List.take_take, List.take_take] at this
    rw [show min j (j + 1) = j by omega] at this; exact this
  · rw [List.drop_eq_getElem_cons (show j < ys.length by omega), hgy]
    have e2 : (zs.set j ((y * 62 + c) % 256)).drop j = ((y * 62 + c) % 256) :: zs.drop (j + 1) := by
      rw [List.drop_eq_getElem_cons (by simp; omega), List.getElem_set_self, List.drop_set_of_lt (by omega)]
    rw [e2, be_cons, be_cons]
    have l1 : (ys.drop (j + 1)).length = m - (j + 1) := by simp; omega
    have l2 : (zs.drop (j + 1)).length = m - (j + 1) := by simp; omega
    rw [l1, l2]
    exact mul_step y c _ _ (256 ^ (m - (j + 1))) (256 ^ (m - j)) d _ _ h rfl rfl (by rw [← Nat.pow_succ]; congr 1; omega)
theorem carry_lt (y c : Nat) (hy : y < 256) (hc : c < 62) : (y * 62 + c) / 256 < 62 := by omega

/-! ### decode, character by character -/
/-- Read the digits (none: no digit) on from the value V; refuse what reaches M. -/
def dec (M : Nat) : List (Option Nat) → Nat → Option Nat
  | [], V => some V
  | none :: _, _ => none
  | some d :: r, V => if V * 62 + d < M then dec M r (V * 62 + d) else none

theorem dec_some (M : Nat) (l : List (Option Nat)) (V W : Nat) (h : dec M l V = some W) : ∃ ds : List Nat, l = ds.map some ∧ W = ds.foldl (fun a d => a * 62 + d) V ∧ (l ≠ [] → W < M) := by
  induction l generalizing V with
  | nil => simp only [dec] at h; exact ⟨[], rfl, by simpa using (Option.some.inj h).symm, fun h => absurd rfl h⟩
  | cons o r ih =>
    cases o with
    | none => simp [dec] at h
    | some d =>
      simp only [dec] at h
      split at h
      · rename_i hlt
        obtain ⟨ds, rfl, h2, h3⟩ := ih _ h
        refine ⟨d :: ds, rfl, h2, fun _ => ?_⟩
        cases ds with
        | nil => simp only [List.foldl_nil] at h2; rw [h2]; exact hlt
        | cons e es => exact h3 (by simp)
      · simp at h
theorem fold_ge (ds : List Nat) (V : Nat) : V ≤ ds.foldl (fun a d => a * 62 + d) V := by
  induction ds generalizing V with
  | nil => exact Nat.le_refl _
  | cons d r ih => exact Nat.le_trans (by omega) (ih (V * 62 + d))
theorem dec_ok (M : Nat) (ds : List Nat) (V : Nat) (h : ds.foldl (fun a d => a * 62 + d) V < M) : dec M (ds.map some) V = some (ds.foldl (fun a d => a * 62 + d) V) := by
  induction ds generalizing V with
  | nil => rfl
  | cons d r ih =>
    have h1 := fold_ge r (V * 62 + d)
    simp only [List.map_cons, dec, List.foldl_cons] at h ⊢
    rw [if_pos (by omega), ih _ h]
theorem dec_over (M : Nat) (ds : List Nat) (V : Nat) (hV : V < M) (h : M ≤ ds.foldl (fun a d => a * 62 + d) V) : dec M (ds.map some) V = none := by
  induction ds generalizing V with
  | nil => simp at h; omega
  | cons d r ih =>
    simp only [List.map_cons, dec, List.foldl_cons] at h ⊢
    split
    · rename_i hlt; exact ih _ hlt h
    · rfl
theorem dec_snoc (M : Nat) (l : List (Option Nat)) (o : Option Nat) (V : Nat) : dec M (l ++ [o]) V = match dec M l V with | none => none | some W => dec M [o] W := by
  induction l generalizing V with
  | nil => rfl
  | cons x r ih =>
    cases x with
    | none => rfl
    | some d =>
      simp only [List.cons_append, dec]
      split
      · exact ih _
      · rfl
theorem dec_none_app (M : Nat) (l r : List (Option Nat)) (V : Nat) (h : dec M l V = none) : dec M (l ++ r) V = none := by
  induction l generalizing V with
  | nil => simp [dec] at h
  | cons x s ih =>
    cases x with
    | none => rfl
    | some d =>
      simp only [List.cons_append, dec] at h ⊢
      split
      · rename_i hlt; rw [if_pos hlt] at h; exact ih _ h
      · rfl

/-! ### How many digits -/
theorem len_bound (k n N : Nat) (h1 : 62 ^ k ≤ N) (h2 : N < 256 ^ n) : k < 8 * n := by
  rcases Nat.lt_or_ge k (8 * n) with h | h
  · exact h
  · exfalso
    have a : 2 ^ (8 * n) ≤ 2 ^ k := Nat.pow_le_pow_right (by omega) h
    have b : 2 ^ k ≤ 62 ^ k := Nat.pow_le_pow_left (by omega) k
    have c : (256 : Nat) ^ n = 2 ^ (8 * n) := by rw [Nat.pow_mul]
    omega
end Go.Proofs.Qxb6001367a.Pl
