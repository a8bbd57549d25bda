namespace Go.Proofs.Qxb6000551a.Pl

/-- How many bytes of l a JSON string's rest takes (its closing quote counted in); e: the byte before was an open backslash. -/
def scan : Bool → List Int → Nat
  | _, [] => 0
  | true, _ :: r => 1 + scan false r
  | false, c :: r => if c = 92 then 1 + scan true r else if c = 34 then 1 else 1 + scan false r

/-- How many backslashes stand right before place q. -/
def bsl (t : List Int) : Nat → Nat
  | 0 => 0
  | q + 1 => if t.getD q 0 = 92 then bsl t q + 1 else 0

def isOpen (c : Int) : Bool := c == 123 || c == 91
def isClose (c : Int) : Bool := c == 125 || c == 93
def isSpace (c : Int) : Bool := c == 32 || c == 9 || c == 10 || c == 13
def isStop (c : Int) : Bool := c == 44 || c == 125 || c == 93 || isSpace c

/-- How many bytes the rest of a container takes; m: 0 outside strings, 1 in a string, 2 behind an open backslash; d: how many inner containers are open. -/
def cont : Nat → Nat → List Int → Nat
  | _, _, [] => 0
  | 0, d, c :: r => if c = 34 then 1 + cont 1 d r else if isOpen c then 1 + cont 0 (d + 1) r else if isClose c then (match d with | 0 => 1 | d' + 1 => 1 + cont 0 d' r) else 1 + cont 0 d r
  | 1, d, c :: r => if c = 92 then 1 + cont 2 d r else if c = 34 then 1 + cont 0 d r else 1 + cont 1 d r
  | _ + 2, d, _ :: r => 1 + cont 1 d r

def lit : List Int → Nat
  | [] => 0
  | c :: r => if isStop c then 0 else 1 + lit r

/-- How many bytes the value takes that stands at l's head. -/
def val : List Int → Nat
  | [] => 0
  | c :: r => if c = 34 then 1 + scan false r else if isOpen c then 1 + cont 0 0 r else lit (c :: r)

theorem scan_le (e : Bool) (l : List Int) : scan e l ≤ l.length := by
  induction l generalizing e with
  | nil => cases e <;> simp [scan]
  | cons c r ih =>
    cases e
    · simp only [scan]; split
      · have := ih true; simp; omega
      · split
        · simp
        · have := ih false; simp; omega
    · have := ih false; simp [scan]; omega

theorem scan_pos (e : Bool) (c : Int) (r : List Int) : 1 ≤ scan e (c :: r) := by
  cases e
  · simp only [scan]; split
    · omega
    · split <;> omega
  · simp [scan]

/-- A string that ends ahead of the text's end is closed by a quote. -/
theorem scan_quote (e : Bool) (l : List Int) (h : scan e l < l.length) : l.getD (scan e l - 1) 0 = 34 := by
  induction l generalizing e with
  | nil => simp at h
  | cons c r ih =>
    cases r with
    | nil => have := scan_pos e c []; simp at h; omega
    | cons c2 r2 =>
      cases e
      · simp only [scan] at h ⊢
        split
        · rename_i h92
          rw [if_pos h92] at h
          have hp := scan_pos true c2 r2
          have := ih true (by simp at h ⊢; simp [scan] at h ⊢; omega)
          obtain ⟨k, hk⟩ : ∃ k, scan true (c2 :: r2) = k + 1 := ⟨_, (Nat.succ_pred_eq_of_pos hp).symm⟩
          simp only [scan] at hk this ⊢
          rw [hk] at this ⊢
          rw [show 1 + (k + 1) - 1 = k + 1 from by omega, show k + 1 - 1 = k from by omega] at *
          simpa using this
        · rename_i h92
          rw [if_neg h92] at h
          split
          · rename_i h34; simp [h34]
          · rename_i h34
            rw [if_neg h34] at h
            have hp := scan_pos false c2 r2
            obtain ⟨k, hk⟩ : ∃ k, scan false (c2 :: r2) = k + 1 := ⟨_, (Nat.succ_pred_eq_of_pos hp).symm⟩
            have := ih false (by simp only [scan] at hk ⊢; simp only [hk] at h ⊢; simp at h ⊢; omega)
            simp only [scan] at hk this ⊢
            rw [hk] at this ⊢
            rw [show 1 + (k + 1) - 1 = k + 1 from by omega, show k + 1 - 1 = k from by omega] at *
            simpa using this
      · have hp := scan_pos false c2 r2
        obtain ⟨k, hk⟩ : ∃ k, scan false (c2 :: r2) = k + 1 := ⟨_, (Nat.succ_pred_eq_of_pos hp).symm⟩
        have h' : 1 + scan false (c2 :: r2) < (c :: c2 :: r2).length := h
        have := ih false (by rw [hk] at h' ⊢; simp at h' ⊢; omega)
        show (c :: c2 :: r2).getD (1 + scan false (c2 :: r2) - 1) 0 = 34
        rw [hk] at this ⊢
        rw [show 1 + (k + 1) - 1 = k + 1 from by omega, show k + 1 - 1 = k from by omega] at *
        simpa using this

/-- What closed keeps its end whatever follows. -/
theorem scan_take (e : Bool) (l s : List Int) (h : scan e l < l.length) : scan e (l.take (scan e l) ++ s) = scan e l := by
  induction l generalizing e with
  | nil => simp at h
  | cons c r ih =>
    cases e
    · by_cases h92 : c = 92
      · have e1 : scan false (c :: r) = 1 + scan true r := by simp [scan, h92]
        rw [e1] at h ⊢
        have := ih true (by simp at h; omega)
        rw [Nat.add_comm 1, List.take_succ_cons, List.cons_append, h92]
        rw [show scan false (92 :: (r.take (scan true r) ++ s)) = 1 + scan true (r.take (scan true r) ++ s) from by simp [scan], this, Nat.add_comm]
      · by_cases h34 : c = 34
        · subst h34; simp [scan]
        · have e1 : ∀ x, scan false (c :: x) = 1 + scan false x := fun x => by simp [scan, h92, h34]
          rw [e1] at h ⊢
          have := ih false (by simp at h; omega)
          rw [Nat.add_comm 1, List.take_succ_cons, List.cons_append, e1, this, Nat.add_comm]
    · have e1 : ∀ x, scan true (c :: x) = 1 + scan false x := fun x => by simp [scan]
      rw [e1] at h ⊢
      have := ih false (by simp at h; omega)
      rw [Nat.add_comm 1, List.take_succ_cons, List.cons_append, e1, this, Nat.add_comm]

theorem cont_le (m d : Nat) (l : List Int) : cont m d l ≤ l.length := by
  induction l generalizing m d with
  | nil => simp [cont]
  | cons c r ih =>
    match m with
    | 0 =>
      simp only [cont, List.length_cons]
      split
      · have := ih 1 d; omega
      · split
        · have := ih 0 (d + 1); omega
        · split
          · split
            · omega
            · rename_i d'; have := ih 0 d'; omega
          · have := ih 0 d; omega
    | 1 =>
      simp only [cont, List.length_cons]
      split
      · have := ih 2 d; omega
      · split
        · have := ih 0 d; omega
        · have := ih 1 d; omega
    | k + 2 => have := ih 1 d; simp [cont]; omega

/-- In a string the container's reader goes as the string's. -/
theorem cont_scan (d : Nat) (e : Bool) (l : List Int) : cont (if e then 2 else 1) d l = scan e l + cont 0 d (l.drop (scan e l)) := by
  induction l generalizing e with
  | nil => cases e <;> simp [scan, cont]
  | cons c r ih =>
    have ih1 : cont 1 d r = scan false r + cont 0 d (r.drop (scan false r)) := by simpa using ih false
    have ih2 : cont 2 d r = scan true r + cont 0 d (r.drop (scan true r)) := by simpa using ih true
    cases e
    · by_cases h92 : c = 92
      · simp [scan, cont, h92, ih2, Nat.add_comm 1]; omega
      · by_cases h34 : c = 34
        · simp [scan, cont, h34]
        · simp [scan, cont, h92, h34, ih1, Nat.add_comm 1]; omega
    · simp [scan, cont, ih1, Nat.add_comm 1]; omega

theorem cont_split (m d k : Nat) (l : List Int) : cont m (d + k + 1) l = cont m k l + cont 0 d (l.drop (cont m k l)) := by
  induction l generalizing m k with
  | nil => simp [cont]
  | cons c r ih =>
    match m with
    | 0 =>
      by_cases h34 : c = 34
      · simp [cont, h34, ih 1 k, Nat.add_comm 1]; omega
      · by_cases ho : isOpen c = true
        · have := ih 0 (k + 1)
          simp [cont, h34, ho, Nat.add_comm 1, ← Nat.add_assoc] at this ⊢; omega
        · by_cases hc : isClose c = true
          · cases k with
            | zero => simp [cont, h34, ho, hc, Nat.add_comm 1]
            | succ k =>
              have := ih 0 k
              simp [cont, h34, ho, hc, Nat.add_comm 1, ← Nat.add_assoc] at this ⊢; omega
          · simp [cont, h34, ho, hc, ih 0 k, Nat.add_comm 1]; omega
    | 1 =>
      by_cases h92 : c = 92
      · simp [cont, h92, ih 2 k, Nat.add_comm 1]; omega
      · by_cases h34 : c = 34
        · simp [cont, h34, ih 0 k, Nat.add_comm 1]; omega
        · simp [cont, h92, h34, ih 1 k, Nat.add_comm 1]; omega
    | n + 2 => simp [cont, ih 1 k, Nat.add_comm 1]; omega

theorem cont_take (m d : Nat) (l s : List Int) (h : cont m d l < l.length) : cont m d (l.take (cont m d l) ++ s) = cont m d l := by
  induction l generalizing m d with
  | nil => simp at h
  | cons c r ih =>
    have step : ∀ m' d', (∀ x, cont m d (c :: x) = 1 + cont m' d' x) → cont m d ((c :: r).take (cont m d (c :: r)) ++ s) = cont m d (c :: r) := by
      intro m' d' e1
      rw [e1] at h ⊢
      have := ih m' d' (by simp at h; omega)
      rw [Nat.add_comm 1, List.take_succ_cons, List.cons_append, e1, this, Nat.add_comm]
    match m with
    | 0 =>
      by_cases h34 : c = 34
      · exact step 1 d (fun x => by simp [cont, h34])
      · by_cases ho : isOpen c = true
        · exact step 0 (d + 1) (fun x => by simp [cont, h34, ho])
        · by_cases hc : isClose c = true
          · cases d with
            | zero => simp [cont, h34, ho, hc]
            | succ d => exact step 0 d (fun x => by simp [cont, h34, ho, hc])
          · exact step 0 d (fun x => by simp [cont, h34, ho, hc])
    | 1 =>
      by_cases h92 : c = 92
      · exact step 2 d (fun x => by simp [cont, h92])
      · by_cases h34 : c = 34
        · exact step 0 d (fun x => by simp [cont, h34])
        · exact step 1 d (fun x => by simp [cont, h92, h34])
    | n + 2 => exact step 1 d (fun x => by simp [cont])

theorem lit_le (l : List Int) : lit l ≤ l.length := by
  induction l with
  | nil => simp [lit]
  | cons c r ih => simp only [lit]; split <;> simp; omega
theorem lit_take (l : List Int) : lit (l.take (lit l)) = lit l := by
  induction l with
  | nil => simp [lit]
  | cons c r ih =>
    by_cases h : isStop c = true
    · simp [lit, h]
    · simp [lit, h, Nat.add_comm 1, ih]

theorem val_le (l : List Int) : val l ≤ l.length := by
  cases l with
  | nil => simp [val]
  | cons c r =>
    simp only [val]
    split
    · have := scan_le false r; simp; omega
    · split
      · have := cont_le 0 0 r; simp; omega
      · exact lit_le _
theorem val_take_app (c : Int) (r s : List Int) (hc : c = 34 ∨ isOpen c = true) (h : val (c :: r) < (c :: r).length) : val ((c :: r).take (val (c :: r)) ++ s) = val (c :: r) := by
  by_cases h34 : c = 34
  · have e1 : ∀ x, val (c :: x) = 1 + scan false x := fun x => by simp [val, h34]
    rw [e1] at h ⊢
    rw [Nat.add_comm 1, List.take_succ_cons, List.cons_append, e1, scan_take false r s (by simp at h; omega), Nat.add_comm]
  · have ho : isOpen c = true := by rcases hc with h | h; exact absurd h h34; exact h
    have e1 : ∀ x, val (c :: x) = 1 + cont 0 0 x := fun x => by simp [val, h34, ho]
    rw [e1] at h ⊢
    rw [Nat.add_comm 1, List.take_succ_cons, List.cons_append, e1, cont_take 0 0 r s (by simp at h; omega), Nat.add_comm]
theorem val_take (l : List Int) : val (l.take (val l)) = val l := by
  by_cases h : val l < l.length
  · cases l with
    | nil => simp [val]
    | cons c r =>
      by_cases hc : c = 34 ∨ isOpen c = true
      · simpa using val_take_app c r [] hc h
      · have h34 : ¬ c = 34 := fun h => hc (.inl h)
        have ho : ¬ isOpen c = true := fun h => hc (.inr h)
        have e1 : ∀ x, val (c :: x) = lit (c :: x) := fun x => by simp [val, h34, ho]
        rw [e1]
        have hl := lit_take (c :: r)
        by_cases hs : isStop c = true
        · simp [lit, hs, val]
        · have : lit (c :: r) = lit r + 1 := by simp [lit, hs, Nat.add_comm]
          rw [this] at hl ⊢
          rw [List.take_succ_cons] at hl ⊢
          rw [e1, hl]
  · rw [List.take_of_length_le (by omega)]

/-- The forward reader at every place between a quote and the next one stands as the count of backslashes says. -/
theorem bsl_scan (t : List Int) (i q tg : Nat) (hi : bsl t i = 0) (hq : q ≤ t.length) (hno : ∀ k, i ≤ k → k < q → t.getD k 0 ≠ 34) (h0 : i + scan false (t.drop i) = tg) :
    ∀ p, i ≤ p → p ≤ q → p + scan (decide (bsl t p % 2 = 1)) (t.drop p) = tg := by
  intro p hip
  induction p with
  | zero => intro _; obtain rfl : i = 0 := by omega
            simpa [hi] using h0
  | succ p ih =>
    intro hpq
    by_cases hp : i = p + 1
    · subst hp; simpa [hi] using h0
    · have := ih (by omega) (by omega)
      have hlt : p < t.length := by omega
      have hn := hno p (by omega) (by omega)
      rw [List.drop_eq_getElem_cons hlt] at this
      have hg : t.getD p 0 = t[p] := by simp [List.getD, hlt]
      rw [hg] at hn
      by_cases hodd : bsl t p % 2 = 1
      · have e2 : bsl t (p + 1) % 2 ≠ 1 := by
          simp only [bsl]; split <;> omega
        rw [decide_eq_true hodd] at this
        rw [decide_eq_false e2]
        simp only [scan] at this; omega
      · rw [decide_eq_false hodd] at this
        by_cases h92 : t[p] = 92
        · have e2 : bsl t (p + 1) % 2 = 1 := by
            simp only [bsl, hg, h92, if_true]; omega
          rw [decide_eq_true e2]
          simp only [scan, h92, if_true] at this; omega
        · have e2 : bsl t (p + 1) % 2 ≠ 1 := by
            simp only [bsl, hg, h92, if_false]; omega
          rw [decide_eq_false e2]
          simp only [scan, h92, hn, if_false] at this; omega

theorem scan_none (e : Bool) (l : List Int) (h : ∀ x ∈ l, x ≠ 34) : scan e l = l.length := by
  induction l generalizing e with
  | nil => cases e <;> simp [scan]
  | cons c r ih =>
    have ih' := fun e => ih e (fun x hx => h x (List.mem_cons_of_mem _ hx))
    have hc := h c (List.mem_cons_self ..)
    cases e
    · simp only [scan]
      split
      · rw [ih' true]; simp; omega
      · first | (rw [if_neg hc, ih' false]; simp; omega) | (rw [ih' false]; simp; omega)
    · simp [scan, ih' false]; omega

/-- The string's end, read from place k on (k may stand one past the text's end). -/
def sAt (t : List Int) (k : Nat) : Nat := if t.length < k then t.length else k + scan false (t.drop k)

theorem sAt_le (t : List Int) (k : Nat) : sAt t k ≤ t.length := by
  unfold sAt; split
  · omega
  · have := scan_le false (t.drop k); simp at this; omega
theorem drop_at {t : List Int} {k : Nat} {x : Int} (h : k < t.length) (hx : x = t.getD k 0) : t.drop k = x :: t.drop (k + 1) := by
  rw [List.drop_eq_getElem_cons h, hx]; simp [List.getD, h]
theorem sAt_end (t : List Int) (k : Nat) (h : t.length ≤ k) : sAt t k = t.length := by
  unfold sAt; split
  · rfl
  · rw [List.drop_eq_nil_of_le h]; simp [scan]; omega
theorem sAt_esc {t : List Int} {k : Nat} {x : Int} (h : k < t.length) (hx : x = t.getD k 0) (h92 : x = 92) : sAt t (k + 2) = sAt t k := by
  unfold sAt
  rw [if_neg (show ¬ t.length < k by omega), drop_at h hx, h92]
  by_cases h1 : k + 1 < t.length
  · rw [if_neg (by omega), drop_at h1 rfl]; simp [scan, Nat.add_assoc]; omega
  · rw [if_pos (by omega), List.drop_eq_nil_of_le (by omega)]; simp [scan]; omega
theorem sAt_quote {t : List Int} {k : Nat} {x : Int} (h : k < t.length) (hx : x = t.getD k 0) (h34 : x = 34) : sAt t k = k + 1 := by
  unfold sAt
  rw [if_neg (show ¬ t.length < k by omega), drop_at h hx, h34]; simp [scan]
theorem sAt_step {t : List Int} {k : Nat} {x : Int} (h : k < t.length) (hx : x = t.getD k 0) (h92 : x ≠ 92) (h34 : x ≠ 34) : sAt t (k + 1) = sAt t k := by
  unfold sAt
  rw [if_neg (show ¬ t.length < k by omega), if_neg (by omega), drop_at h hx]; simp [scan, h92, h34]; omega
theorem sAt_gt (t : List Int) (k : Nat) (h : k < t.length) : k + 1 ≤ sAt t k := by
  unfold sAt; rw [if_neg (by omega), drop_at h rfl]
  have := scan_pos false (t.getD k 0) (t.drop (k + 1)); omega
theorem sAt_ge (t : List Int) (k : Nat) (h : k ≤ t.length) : k ≤ sAt t k := by
  unfold sAt; rw [if_neg (by omega)]; omega
/-- A string that ends ahead of the text's end is closed by a quote that is not the opening one. -/
theorem sAt_last (t : List Int) (k : Nat) (h : sAt t k < t.length) : k < sAt t k ∧ t.getD (sAt t k - 1) 0 = 34 := by
  have hk : k < t.length := by
    rcases Nat.lt_or_ge k t.length with h' | h'
    · exact h'
    · rw [sAt_end t k h'] at h; omega
  refine ⟨sAt_gt t k hk, ?_⟩
  have hp := sAt_gt t k hk
  unfold sAt at h hp ⊢
  rw [if_neg (by omega)] at h hp ⊢
  have := scan_quote false (t.drop k) (by simp; omega)
  rw [show k + scan false (t.drop k) - 1 = k + (scan false (t.drop k) - 1) by omega]
  simpa [List.getD, List.getElem?_drop] using this

/-- No quote from k on: the string runs to the text's end. -/
theorem sAt_none (t : List Int) (f : Nat → Int) (hf : ∀ j, f j = t.getD j 0) (k : Nat) (hk : k ≤ t.length) (h : ∀ j, k ≤ j → j < t.length → f j ≠ 34) : sAt t k = t.length := by
  unfold sAt
  rw [if_neg (by omega), scan_none]
  · simp; omega
  · intro x hx
    obtain ⟨j, hj, rfl⟩ := List.mem_iff_getElem.1 hx
    have hj' : j < t.length - k := by simpa using hj
    have := h (k + j) (by omega) (by omega)
    rw [hf] at this
    simpa [List.getD, show k + j < t.length by omega] using this

theorem q_at (t : List Int) (f : Nat → Int) (hf : ∀ j, f j = t.getD j 0) (k p T : Nat) (hp : p < t.length) (hkp : k ≤ p) (h34 : f p = 34) (hno : ∀ j, k ≤ j → j < p → f j ≠ 34) (hT : sAt t k = T) (h0 : bsl t k = 0) :
    (bsl t p % 2 = 0 → T = p + 1) ∧ (bsl t p % 2 = 1 → sAt t (p + 1) = T ∧ bsl t (p + 1) = 0) := by
  have hT' : k + scan false (t.drop k) = T := by unfold sAt at hT; rwa [if_neg (by omega)] at hT
  have := bsl_scan t k p T h0 (by omega) (fun j a b => by rw [← hf]; exact hno j a b) hT' p hkp (Nat.le_refl _)
  rw [drop_at (x := 34) hp (by rw [← hf, h34])] at this
  refine ⟨fun he => ?_, fun ho => ⟨?_, ?_⟩⟩
  · rw [decide_eq_false (by omega)] at this; simp [scan] at this; omega
  · rw [decide_eq_true ho] at this
    unfold sAt; rw [if_neg (by omega)]; simp only [scan] at this; omega
  · show (if t.getD p 0 = 92 then bsl t p + 1 else 0) = 0
    rw [← hf, h34]; rfl

theorem bsl_hit (t : List Int) (f : Nat → Int) (hf : ∀ j, f j = t.getD j 0) (d : Nat) (h : f d = 92) : bsl t (d + 1) = bsl t d + 1 := by
  simp only [bsl]; rw [← hf, h, if_pos rfl]
theorem bsl_miss (t : List Int) (f : Nat → Int) (hf : ∀ j, f j = t.getD j 0) (d : Nat) (h : f d ≠ 92) : bsl t (d + 1) = 0 := by
  simp only [bsl]; rw [← hf, if_neg h]

/-- The first quote from k on, or none. -/
theorem first_quote (f : Nat → Int) (k n : Nat) (hk : k ≤ n) : (∀ j, k ≤ j → j < n → f j ≠ 34) ∨ ∃ q, k + q < n ∧ f (k + q) = 34 ∧ ∀ j, k ≤ j → j < k + q → f j ≠ 34 := by
  obtain ⟨m, rfl⟩ : ∃ m, n = k + m := ⟨n - k, by omega⟩
  induction m with
  | zero => left; intro j a b; omega
  | succ m ih =>
    rcases ih (by omega) with h | ⟨q, a, b, c⟩
    · by_cases e : f (k + m) = 34
      · exact .inr ⟨m, by omega, e, h⟩
      · left; intro j a b
        by_cases e2 : j = k + m
        · rw [e2]; exact e
        · exact h j a (by omega)
    · exact .inr ⟨q, by omega, b, c⟩

end Go.Proofs.Qxb6000551a.Pl
