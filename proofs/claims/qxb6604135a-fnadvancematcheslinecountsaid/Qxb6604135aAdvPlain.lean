/-
  Seat b6604135a: the plain law behind FnAdvanceMatchesLineCount: no Go in sight.
-/
import Derived.RowKit
namespace Go.Proofs.Qxb6604135a.Adv
open Go.RowKit

/-- How many of the k bytes from s on are line feeds. -/
def nl (f : Nat → Int) (s : Nat) : Nat → Nat
  | 0 => 0
  | k + 1 => nl f s k + (if f (s + k) = 10 then 1 else 0)

/-- How many of the k bytes from s on begin a character. -/
def ch (f : Nat → Int) (s : Nat) : Nat → Nat
  | 0 => 0
  | k + 1 => ch f s k + (if f (s + k) < 128 ∨ 192 ≤ f (s + k) then 1 else 0)

/-- The column that Advance holds behind k bytes. -/
def col (f : Nat → Int) (s : Nat) (C : Int) : Nat → Int
  | 0 => C
  | k + 1 => if f (s + k) = 10 then 1 else if f (s + k) < 128 ∨ 192 ≤ f (s + k) then wrap64 (col f s C k + 1) else col f s C k

theorem wrap64_add (a b : Int) : wrap64 (wrap64 a + b) = wrap64 (a + b) := by unfold wrap64; omega
theorem wrap64_id (a : Int) (h : -9223372036854775808 ≤ a ∧ a ≤ 9223372036854775807) : wrap64 a = a := by unfold wrap64; omega
theorem wrap64_rng (a : Int) : -9223372036854775808 ≤ wrap64 a ∧ wrap64 a ≤ 9223372036854775807 := by unfold wrap64; omega

theorem ch_le (f : Nat → Int) (s k : Nat) : ch f s k ≤ k := by
  induction k with
  | zero => exact Nat.le_refl _
  | succ k ih => unfold ch; split <;> omega

theorem nl_le (f : Nat → Int) (s k : Nat) : nl f s k ≤ k := by
  induction k with
  | zero => exact Nat.le_refl _
  | succ k ih => unfold nl; split <;> omega

/-- No line feed among the k bytes. -/
theorem col_plain (f : Nat → Int) (s : Nat) (C : Int) (hC : -9223372036854775808 ≤ C ∧ C ≤ 9223372036854775807) : ∀ k, (∀ i, i < k → f (s + i) ≠ 10) → col f s C k = wrap64 (C + ch f s k)
  | 0, _ => by unfold col ch; rw [wrap64_id] <;> simp <;> omega
  | k + 1, h => by
    have ih := col_plain f s C hC k (fun i hi => h i (by omega))
    unfold col ch
    rw [if_neg (h k (by omega)), ih]
    split
    · rw [wrap64_add]; congr 1; simp; omega
    · simp

/-- A line feed at s + j, none behind it. -/
theorem col_fed (f : Nat → Int) (s : Nat) (C : Int) (j : Nat) (hj : f (s + j) = 10) : ∀ m, (∀ i, i < m → f (s + j + 1 + i) ≠ 10) → col f s C (j + 1 + m) = wrap64 (1 + ch f (s + j + 1) m)
  | 0, _ => by
    show (if f (s + j) = 10 then (1 : Int) else _) = _
    rw [if_pos hj]
    have e : (1 : Int) + (ch f (s + j + 1) 0 : Nat) = 1 := by simp [ch]
    rw [e, wrap64_id _ ⟨by omega, by omega⟩]
  | m + 1, h => by
    have ih := col_fed f s C j hj m (fun i hi => h i (by omega))
    have e : s + (j + 1 + m) = s + j + 1 + m := by omega
    show (if f (s + (j + 1 + m)) = 10 then (1 : Int) else if f (s + (j + 1 + m)) < 128 ∨ 192 ≤ f (s + (j + 1 + m)) then wrap64 (col f s C (j + 1 + m) + 1) else col f s C (j + 1 + m)) = _
    have e2 : ch f (s + j + 1) (m + 1) = ch f (s + j + 1) m + (if f (s + j + 1 + m) < 128 ∨ 192 ≤ f (s + j + 1 + m) then 1 else 0) := rfl
    rw [e, if_neg (h m (by omega)), ih, e2]
    split
    · rw [wrap64_add]; congr 1
    · simp

/-- The same counts, taken from the other end. -/
theorem nl_front (f : Nat → Int) : ∀ (k s : Nat), nl f s (k + 1) = nl f (s + 1) k + (if f s = 10 then 1 else 0)
  | 0, s => by simp [nl]
  | k + 1, s => by
    have ih := nl_front f k s
    have e : nl f s (k + 1 + 1) = nl f s (k + 1) + (if f (s + (k + 1)) = 10 then 1 else 0) := rfl
    have e2 : nl f (s + 1) (k + 1) = nl f (s + 1) k + (if f (s + 1 + k) = 10 then 1 else 0) := rfl
    rw [e, e2, ih, show s + 1 + k = s + (k + 1) from by omega]; omega

/-- What the law's loop knows when it has come down to position p: 'q' is its 'last'. -/
def Last (f : Nat → Int) (p off : Nat) (q : Int) : Prop :=
  (q = -1 ∧ ∀ i, p ≤ i → i < off → f i ≠ 10) ∨ (∃ j : Nat, q = j ∧ p ≤ j ∧ j < off ∧ f j = 10 ∧ ∀ i, j < i → i < off → f i ≠ 10)

theorem last_start (f : Nat → Int) (off : Nat) : Last f off off (-1) := .inl ⟨rfl, fun i h1 h2 => by omega⟩
theorem last_keep {f : Nat → Int} {p off : Nat} {q : Int} (h : Last f (p + 1) off q) (hp : f p ≠ 10) : Last f p off q := by
  rcases h with ⟨h1, h2⟩ | ⟨j, h1, h2, h3, h4, h5⟩
  · refine .inl ⟨h1, fun i hi ho => ?_⟩
    by_cases e : i = p
    · subst e; exact hp
    · exact h2 i (by omega) ho
  · exact .inr ⟨j, h1, by omega, h3, h4, h5⟩
theorem last_more {f : Nat → Int} {p off : Nat} {q : Int} (h : Last f (p + 1) off q) (hq : ¬ q < 0) : Last f p off q := by
  rcases h with ⟨h1, h2⟩ | ⟨j, h1, h2, h3, h4, h5⟩
  · omega
  · exact .inr ⟨j, h1, by omega, h3, h4, h5⟩
theorem last_hit {f : Nat → Int} {p off : Nat} {q : Int} (h : Last f (p + 1) off q) (hpo : p < off) (hq : q < 0) (hp : f p = 10) : Last f p off (p : Int) := by
  rcases h with ⟨h1, h2⟩ | ⟨j, h1, h2, h3, h4, h5⟩
  · exact .inr ⟨p, rfl, Nat.le_refl _, hpo, hp, fun i hi ho => h2 i (by omega) ho⟩
  · omega

/-- THE PLAIN LAW, no line feed. -/
theorem law_none (f : Nat → Int) (s n : Nat) (C q : Int) (hC : -9223372036854775808 ≤ C ∧ C ≤ 9223372036854775807) (h : Last f s (s + n) q) (hq : q < 0) :
    col f s C n = wrap64 (C + ch f s n) := by
  rcases h with ⟨h1, h2⟩ | ⟨j, h1, h2, h3, h4, h5⟩
  · exact col_plain f s C hC n (fun i hi => h2 (s + i) (by omega) (by omega))
  · omega
/-- THE PLAIN LAW, a line feed: 'q' is where the last one stands. -/
theorem law_fed (f : Nat → Int) (s n : Nat) (C q : Int) (h : Last f s (s + n) q) (hq : ¬ q < 0) :
    ∃ j : Nat, q = j ∧ s ≤ j ∧ j < s + n ∧ col f s C n = wrap64 (1 + ch f (j + 1) (s + n - (j + 1))) := by
  rcases h with ⟨h1, h2⟩ | ⟨j, h1, h2, h3, h4, h5⟩
  · omega
  · refine ⟨j, h1, h2, h3, ?_⟩
    have e := col_fed f s C (j - s) (by rw [show s + (j - s) = j from by omega]; exact h4) (s + n - (j + 1)) (fun i hi => by rw [show s + (j - s) + 1 + i = j + 1 + i from by omega]; exact h5 _ (by omega) (by omega))
    rw [show j - s + 1 + (s + n - (j + 1)) = n from by omega, show s + (j - s) + 1 = j + 1 from by omega] at e
    exact e
end Go.Proofs.Qxb6604135a.Adv
