/-
  Seat b6604135a: the plain law behind the three statements on firstLow: no Go in sight.
-/
namespace Go.Proofs.Qxb6604135a.Low

/-- r is the first j from b on, below n, with g j ≤ d; or -1 where there is none. -/
def IsFirst (g : Nat → Int) (n b : Nat) (d r : Int) : Prop :=
  (r = -1 ∧ ∀ j, b ≤ j → j < n → d < g j) ∨ (∃ j : Nat, r = j ∧ b ≤ j ∧ j < n ∧ g j ≤ d ∧ ∀ i, b ≤ i → i < j → d < g i)

theorem first_one {g : Nat → Int} {n b : Nat} {d r r' : Int} (h : IsFirst g n b d r) (h' : IsFirst g n b d r') : r = r' := by
  rcases h with ⟨h1, h2⟩ | ⟨j, h1, h2, h3, h4, h5⟩ <;> rcases h' with ⟨k1, k2⟩ | ⟨i, k1, k2, k3, k4, k5⟩
  · omega
  · have := h2 i k2 k3; omega
  · have := k2 j h2 h3; omega
  · rcases Nat.lt_trichotomy i j with c | c | c
    · have := h5 i k2 c; omega
    · omega
    · have := k5 j h2 c; omega

/-- m is the lowest of g from lo on, below hi. -/
def IsMin (g : Nat → Int) (lo hi : Nat) (m : Int) : Prop := (∀ i, lo ≤ i → i < hi → m ≤ g i) ∧ ∃ i, lo ≤ i ∧ i < hi ∧ g i = m

theorem min_start (g : Nat → Int) (lo : Nat) : IsMin g lo (lo + 1) (g lo) :=
  ⟨fun i h1 h2 => by have : i = lo := by omega
                     subst this; exact Int.le_refl _, lo, Nat.le_refl _, by omega, rfl⟩
theorem min_low {g : Nat → Int} {lo i : Nat} {m : Int} (h : IsMin g lo i m) (hi : lo ≤ i) (hg : g i < m) : IsMin g lo (i + 1) (g i) := by
  refine ⟨fun t h1 h2 => ?_, i, hi, by omega, rfl⟩
  by_cases e : t = i
  · subst e; exact Int.le_refl _
  · have := h.1 t h1 (by omega); omega
theorem min_keep {g : Nat → Int} {lo i : Nat} {m : Int} (h : IsMin g lo i m) (hg : ¬ g i < m) : IsMin g lo (i + 1) m := by
  refine ⟨fun t h1 h2 => ?_, ?_⟩
  · by_cases e : t = i
    · subst e; omega
    · exact h.1 t h1 (by omega)
  · obtain ⟨t, h1, h2, h3⟩ := h.2
    exact ⟨t, h1, by omega, h3⟩
theorem min_one {g : Nat → Int} {lo hi : Nat} {m m' : Int} (h : IsMin g lo hi m) (h' : IsMin g lo hi m') : m = m' := by
  obtain ⟨t, h1, h2, h3⟩ := h.2
  obtain ⟨s, k1, k2, k3⟩ := h'.2
  have a := h.1 s k1 k2
  have b := h'.1 t h1 h2
  omega

/-- Level k + 1 stands on level k. -/
def Stands (N : Nat → Nat) (L : Nat → Nat → Int) (k : Nat) : Prop :=
  N (k + 1) = (N k + 63) / 64 ∧ ∀ j, j < N (k + 1) → IsMin (L k) (j * 64) (min (j * 64 + 64) (N k)) (L (k + 1) j)

/-- An index: K levels, each on the one below, the top one a single run. -/
def WF (K : Nat) (N : Nat → Nat) (L : Nat → Nat → Int) : Prop := 0 < K ∧ N (K - 1) ≤ 64 ∧ ∀ k, k + 1 < K → Stands N L k

/-- The first block under entry b of level k. -/
def cov : Nat → Nat → Nat
  | 0, b => b
  | k + 1, b => cov k (b * 64)

theorem cov_mono : ∀ (k : Nat) {a b : Nat}, a ≤ b → cov k a ≤ cov k b
  | 0, _, _, h => h
  | k + 1, a, b, h => cov_mono k (by omega)

theorem cov_all {K : Nat} {N : Nat → Nat} {L : Nat → Nat → Int} (h : ∀ k, k + 1 < K → Stands N L k) : ∀ k, k < K → N 0 ≤ cov k (N k)
  | 0, _ => Nat.le_refl _
  | k + 1, hk => by
    have ih := cov_all h k (by omega)
    have e := (h k hk).1
    have m := cov_mono k (a := N k) (b := N (k + 1) * 64) (by omega)
    exact Nat.le_trans ih m

theorem cov_range {K : Nat} {N : Nat → Nat} {L : Nat → Nat → Int} {d : Int} (h : ∀ k, k + 1 < K → Stands N L k) : ∀ k, k < K → ∀ a c, (∀ t, a ≤ t → t < c → t < N k → d < L k t) →
    ∀ j, cov k a ≤ j → j < cov k c → j < N 0 → d < L 0 j
  | 0, _, _, _, hr, j, h1, h2, h3 => hr j h1 h2 h3
  | k + 1, hk, a, c, hr, j, h1, h2, h3 => by
    refine cov_range h k (by omega) (a * 64) (c * 64) (fun s s1 s2 s3 => ?_) j h1 h2 h3
    obtain ⟨e1, e2⟩ := h k hk
    have t1 : s / 64 < N (k + 1) := by omega
    have t2 := hr (s / 64) (by omega) (by omega) t1
    have t3 := (e2 (s / 64) t1).1 s (by omega) (by omega)
    omega

/-- Nothing found from b0 on, below entry b of level k. -/
def Clear (N : Nat → Nat) (L : Nat → Nat → Int) (b0 : Nat) (d : Int) (k b : Nat) : Prop := b0 ≤ cov k b ∧ ∀ j, b0 ≤ j → j < cov k b → j < N 0 → d < L 0 j

theorem clear_start (N : Nat → Nat) (L : Nat → Nat → Int) (b0 : Nat) (d : Int) : Clear N L b0 d 0 b0 := ⟨Nat.le_refl _, fun j h1 h2 _ => by
  have h2' : j < b0 := h2
  omega⟩

theorem clear_scan {K : Nat} {N : Nat → Nat} {L : Nat → Nat → Int} {b0 : Nat} {d : Int} (h : WF K N L) {k b e : Nat} (hk : k < K) (hc : Clear N L b0 d k b) (hbe : b ≤ e) (hs : ∀ t, b ≤ t → t < e → d < L k t) :
    Clear N L b0 d k e := by
  refine ⟨Nat.le_trans hc.1 (cov_mono k hbe), fun j h1 h2 h3 => ?_⟩
  by_cases c : j < cov k b
  · exact hc.2 j h1 c h3
  · exact cov_range h.2.2 k hk b e (fun t t1 t2 _ => hs t t1 t2) j (by omega) h2 h3

theorem clear_up {N : Nat → Nat} {L : Nat → Nat → Int} {b0 : Nat} {d : Int} {k c : Nat} (h : Clear N L b0 d k (c * 64)) : Clear N L b0 d (k + 1) c := h
theorem clear_down {N : Nat → Nat} {L : Nat → Nat → Int} {b0 : Nat} {d : Int} {k c : Nat} (h : Clear N L b0 d (k + 1) c) : Clear N L b0 d k (c * 64) := h

/-- The scan came to the end of a level. -/
theorem none_left {K : Nat} {N : Nat → Nat} {L : Nat → Nat → Int} {b0 : Nat} {d : Int} (h : WF K N L) {k : Nat} (hk : k < K) (hc : Clear N L b0 d k (N k)) : IsFirst (L 0) (N 0) b0 d (-1) :=
  .inl ⟨rfl, fun j h1 h2 => hc.2 j h1 (Nat.lt_of_lt_of_le h2 (cov_all h.2.2 k hk)) h2⟩

/-- The descent came to level 0. -/
theorem found {N : Nat → Nat} {L : Nat → Nat → Int} {b0 : Nat} {d : Int} {b : Nat} (hc : Clear N L b0 d 0 b) (hb : b < N 0) (hd : L 0 b ≤ d) : IsFirst (L 0) (N 0) b0 d b := by
  have h1 : b0 ≤ b := hc.1
  exact .inr ⟨b, rfl, h1, hb, hd, fun i i1 i2 => hc.2 i i1 i2 (by omega)⟩

/-- Under an entry that is low lies one that is. -/
theorem under {K : Nat} {N : Nat → Nat} {L : Nat → Nat → Int} {d : Int} (h : WF K N L) {k b : Nat} (hk : k + 1 < K) (hb : b < N (k + 1)) (hd : L (k + 1) b ≤ d) : ∃ t, b * 64 ≤ t ∧ t < b * 64 + 64 ∧ t < N k ∧ L k t ≤ d := by
  obtain ⟨_, e2⟩ := h.2.2 k hk
  obtain ⟨t, t1, t2, t3⟩ := (e2 b hb).2
  exact ⟨t, t1, by omega, by omega, by omega⟩

/-- A higher level is no larger; the top one is a single run: where a run ends ahead of its level, there is a level above, and it has an entry there. -/
theorem up_ok {K : Nat} {N : Nat → Nat} {L : Nat → Nat → Int} (h : WF K N L) {k b : Nat} (hk : k < K) (hb : (b / 64 + 1) * 64 < N k) : k + 1 < K ∧ b / 64 + 1 < N (k + 1) := by
  have h1 : k + 1 < K := by
    rcases Nat.lt_or_ge (k + 1) K with c | c
    · exact c
    · have : k = K - 1 := by omega
      have := h.2.1
      subst k
      omega
  refine ⟨h1, ?_⟩
  have := (h.2.2 k h1).1
  omega

/-! What the third statement says of the answers. -/
theorem lower_none {g : Nat → Int} {n b : Nat} {d r lo : Int} (h : IsFirst g n b d r) (hl : IsFirst g n b (d - 1) lo) (hr : r = -1) : lo = -1 := by
  rcases hl with ⟨l1, _⟩ | ⟨j, l1, l2, l3, l4, _⟩
  · exact l1
  · rcases h with ⟨_, h2⟩ | ⟨i, h1, _⟩
    · have := h2 j l2 l3; omega
    · omega
theorem some_facts {g : Nat → Int} {n b : Nat} {d r : Int} (h : IsFirst g n b d r) (hr : r ≠ -1) : ∃ j : Nat, r = j ∧ b ≤ j ∧ j < n ∧ g j ≤ d ∧ ∀ i, b ≤ i → i < j → d < g i := by
  rcases h with ⟨h1, _⟩ | h
  · exact absurd h1 hr
  · exact h
theorem again {g : Nat → Int} {n j : Nat} {d r : Int} (hj : j < n) (hg : g j ≤ d) (h : IsFirst g n j d r) : r = j :=
  first_one h (.inr ⟨j, rfl, Nat.le_refl _, hj, hg, fun i h1 h2 => by omega⟩)
theorem later {g : Nat → Int} {n j : Nat} {d r : Int} (h : IsFirst g n (j + 1) d r) : r = -1 ∨ (j : Int) < r := by
  rcases h with ⟨h1, _⟩ | ⟨i, h1, h2, _⟩
  · exact .inl h1
  · right; omega
theorem lower_later {g : Nat → Int} {n b j : Nat} {d lo : Int} (hl : IsFirst g n b (d - 1) lo) (hj : ∀ i, b ≤ i → i < j → d < g i) : lo = -1 ∨ (j : Int) ≤ lo := by
  rcases hl with ⟨h1, _⟩ | ⟨i, h1, h2, h3, h4, _⟩
  · exact .inl h1
  · right
    by_cases c : i < j
    · have := hj i h2 c; omega
    · omega
end Go.Proofs.Qxb6604135a.Low
