/-
  PLAIN LAWS, THE SECOND PART: a value's end by places. No Go in sight. By an AI agent.
-/
import Derived.Test.Qxb6000551aPlain
namespace Go.Proofs.Qxb6000551a.Pl

/-- Where the value that begins at place i ends. -/
def vAt (t : List Int) (i : Nat) : Nat := i + val (t.drop i)
/-- Where the container ends, read from place k on at depth d (at depth 0 an opener stands at k). -/
def cAt (t : List Int) (d k : Nat) : Nat := match d with
  | 0 => k + 1 + cont 0 0 (t.drop (k + 1))
  | d + 1 => k + cont 0 d (t.drop k)
def lAt (t : List Int) (k : Nat) : Nat := k + lit (t.drop k)

variable {t : List Int} {k : Nat} {x : Int}

theorem sAt_eq (t : List Int) (k : Nat) (h : k ≤ t.length) : sAt t k = k + scan false (t.drop k) := by unfold sAt; rw [if_neg (by omega)]

theorem vAt_end (t : List Int) : vAt t t.length = t.length := by simp [vAt, val]
theorem vAt_le (t : List Int) (i : Nat) (h : i ≤ t.length) : vAt t i ≤ t.length := by
  have := val_le (t.drop i); unfold vAt; simp at this; omega
theorem vAt_ge (t : List Int) (i : Nat) : i ≤ vAt t i := by unfold vAt; omega
theorem vAt_quote (h : k < t.length) (hx : x = t.getD k 0) (e : x = 34) : vAt t k = sAt t (k + 1) := by
  rw [sAt_eq t (k + 1) (by omega), vAt, drop_at h hx]; simp [val, e]; omega
theorem vAt_open (h : k < t.length) (hx : x = t.getD k 0) (e : isOpen x = true) : vAt t k = cAt t 0 k := by
  have h34 : x ≠ 34 := by intro h'; subst h'; simp [isOpen] at e
  simp only [vAt, cAt]; rw [drop_at h hx]; simp [val, e, h34]; omega
theorem vAt_lit (h : k < t.length) (hx : x = t.getD k 0) (e : x ≠ 34) (e' : isOpen x = false) : vAt t k = lAt t k := by
  simp only [vAt, lAt]; rw [drop_at h hx]; simp [val, e, e']

theorem cAt_first : cAt t 1 (k + 1) = cAt t 0 k := rfl
theorem cAt_end (d : Nat) (h : t.length ≤ k) : cAt t (d + 1) k = k := by simp only [cAt]; rw [List.drop_eq_nil_of_le h]; simp [cont]
theorem cAt_string (d : Nat) (h : k < t.length) (hx : x = t.getD k 0) (e : x = 34) : cAt t (d + 1) (sAt t (k + 1)) = cAt t (d + 1) k := by
  simp only [cAt]
  rw [sAt_eq t (k + 1) (by omega), drop_at h hx, e]
  have := cont_scan d false (t.drop (k + 1))
  rw [List.drop_drop] at this
  simp only [cont, if_true]
  simp at this
  omega
theorem cAt_open (d : Nat) (h : k < t.length) (hx : x = t.getD k 0) (e : isOpen x = true) : cAt t (d + 2) (k + 1) = cAt t (d + 1) k := by
  have h34 : x ≠ 34 := by intro h'; subst h'; simp [isOpen] at e
  simp only [cAt]; rw [drop_at h hx]; simp [cont, h34, e]; omega
theorem cAt_close0 (h : k < t.length) (hx : x = t.getD k 0) (e : isClose x = true) : cAt t 1 k = k + 1 := by
  have h34 : x ≠ 34 := by intro h'; subst h'; simp [isClose] at e
  have ho : isOpen x = false := by simp [isClose] at e; rcases e with e | e <;> subst e <;> decide
  simp only [cAt]; rw [drop_at h hx]; simp [cont, h34, e, ho]
theorem cAt_close (d : Nat) (h : k < t.length) (hx : x = t.getD k 0) (e : isClose x = true) : cAt t (d + 1) (k + 1) = cAt t (d + 2) k := by
  have h34 : x ≠ 34 := by intro h'; subst h'; simp [isClose] at e
  have ho : isOpen x = false := by simp [isClose] at e; rcases e with e | e <;> subst e <;> decide
  simp only [cAt]; rw [drop_at h hx]; simp [cont, h34, e, ho]; omega
theorem cAt_step (d : Nat) (h : k < t.length) (hx : x = t.getD k 0) (h34 : x ≠ 34) (ho : isOpen x = false) (hc : isClose x = false) : cAt t (d + 1) (k + 1) = cAt t (d + 1) k := by
  simp only [cAt]; rw [drop_at h hx]; simp [cont, h34, ho, hc]; omega
/-- An inner container passed over whole: recursive descent and the depth counter agree. -/
theorem cAt_inner (h : k < t.length) (hx : x = t.getD k 0) (e : isOpen x = true) : cAt t 1 (cAt t 0 k) = cAt t 1 k := by
  have h34 : x ≠ 34 := by intro h'; subst h'; simp [isOpen] at e
  simp only [cAt]
  rw [drop_at h hx]
  have := cont_split 0 0 0 (t.drop (k + 1))
  rw [List.drop_drop] at this
  simp [cont, h34, e] at this ⊢
  omega
theorem cAt_bound (h : k < t.length) : k < cAt t 0 k ∧ cAt t 0 k ≤ t.length := by
  have := cont_le 0 0 (t.drop (k + 1)); simp only [cAt]; simp at this; omega

theorem lAt_end (h : t.length ≤ k) : lAt t k = k := by simp only [lAt]; rw [List.drop_eq_nil_of_le h]; simp [lit]
theorem lAt_stop (h : k < t.length) (hx : x = t.getD k 0) (e : isStop x = true) : lAt t k = k := by
  simp only [lAt]; rw [drop_at h hx]; simp [lit, e]
theorem lAt_step (h : k < t.length) (hx : x = t.getD k 0) (e : isStop x = false) : lAt t (k + 1) = lAt t k := by
  simp only [lAt]; rw [drop_at h hx]; simp [lit, e]; omega

theorem notStop (e : isStop x = false) : (x == 44) = false ∧ (x == 125) = false ∧ (x == 93) = false ∧ (x == 32) = false ∧ (x == 9) = false ∧ (x == 10) = false ∧ (x == 13) = false := by
  simp [isStop, isSpace] at e
  simp [e]
theorem stop_absurd (e : isStop x = true) (h1 : (x == 44) = false) (h2 : (x == 125) = false) (h3 : (x == 93) = false) (h4 : (x == 32) = false) (h5 : (x == 9) = false) (h6 : (x == 10) = false) (h7 : (x == 13) = false) : False := by
  simp [isStop, isSpace, h1, h2, h3, h4, h5, h6, h7] at e
end Go.Proofs.Qxb6000551a.Pl
