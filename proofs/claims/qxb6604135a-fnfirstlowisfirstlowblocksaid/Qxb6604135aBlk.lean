/-
  Seat b6604135a: the walk of FnFirstLowIsFirstLowBlock (6).
-/
import Derived.Test.Qxb6604135aCloneL
import Derived.Test.Qxb6604135aOver
namespace Go.Proofs.Qxb6604135a
open Go.ChangeShapes Go.WideShapes Go.ChangeAt Go.RowKit

theorem clone_e (a : Option Addr) (c : Nat) (w : World) (ha : a = none → c = 0) :
    Calls Try.prog 21 #[.slice a 0 c] w fun e w' => ∃ a' : Option Addr, e = .returned (.slice a' 0 0) ∧ Below w.heap.size w w' := by
  match a, ha with
  | none, ha =>
    obtain rfl := ha rfl
    exact (cloneU16_nil w).mono fun e w' ⟨h1, h2⟩ => ⟨none, h1, h2 ▸ Below.refl _ _⟩
  | some x, _ => exact (cloneU16_any x 0 c (fun _ => 0) w (by omega) (fun i hi => absurd hi (by omega))).mono fun e w' ⟨h1, _, h3⟩ => ⟨_, h1, h3⟩

theorem cloneL_e (la : Option Addr) (K Kc : Nat) (R : Nat → Option Addr) (n c : Nat → Nat) (G : Nat → Nat → Int) (w : World) (ha : la = none → K = 0 ∧ Kc = 0) (hK : K ≤ 65536) (hn : ∀ r, r < K → n r ≤ 524288) (hO : Outer w la K R n c G) :
    Calls Try.prog 22 #[.slice la K Kc] w fun e w' => ∃ a' : Option Addr, e = .returned (.slice a' K K) ∧ Below w.heap.size w w' := by
  rcases hO with h0 | ⟨B, O, rfl, hR⟩
  · subst h0
    match la, ha with
    | none, ha =>
      obtain ⟨_, rfl⟩ := ha rfl
      exact (cloneL_nil w).mono fun e w' ⟨h1, h2⟩ => ⟨none, h1, h2 ▸ Below.refl _ _⟩
    | some x, _ => exact (cloneL_zero x Kc w).mono fun e w' ⟨h1, h2⟩ => ⟨_, h1, h2⟩
  · exact (cloneL_rows B O K Kc R n c G w hK hn hR).mono fun e w' ⟨h1, A, h2⟩ => ⟨_, h1, h2.2.2⟩

/-- Nothing that was there has turned: the rows lie as they lay. -/
theorem Outer.kept {w w' : World} {la : Option Addr} {K : Nat} {R : Nat → Option Addr} {n c : Nat → Nat} {G : Nat → Nat → Int} (h : Outer w la K R n c G) (hb : Below w.heap.size w w') : Outer w' la K R n c G := by
  rcases h with h | ⟨B, O, rfl, hR⟩
  · exact .inl h
  · refine .inr ⟨B, O, rfl, fun r hr => ?_⟩
    obtain ⟨h1, h2, h3, h4⟩ := hR r hr
    exact ⟨(hb.cell (p := ⟨B, O + r, none⟩) (World.block_lt_of_cell? _ _ h1)).trans h1, h2, h3, fun x hx i hi => ⟨(hb.cell (World.block_lt_of_cell? _ _ (h4 x hx i hi).1)).trans (h4 x hx i hi).1, (h4 x hx i hi).2⟩⟩

/-- In a well-formed index no level is empty, so none of its rows is nil. -/
theorem lev_pos {K : Nat} {n : Nat → Nat} {G : Nat → Nat → Int} (h : Low.WF K n G) (h0 : 0 < n 0) : ∀ r, r < K → 0 < n r
  | 0, _ => h0
  | r + 1, hr => by
    have ih := lev_pos h h0 r (by omega)
    have e := (h.2.2 r hr).1
    omega
theorem rows_some {w : World} {B O K : Nat} {R : Nat → Option Addr} {n c : Nat → Nat} {G : Nat → Nat → Int} (h : Low.WF K n G) (hR : RowsIn w B O K R n c G) (h0 : 0 < n 0) {r : Nat} (hr : r < K) : (R r).isNone = false := by
  have hp := lev_pos h h0 r hr
  obtain ⟨_, h2, _⟩ := hR r hr
  cases hx : R r with
  | none => have := h2 hx; omega
  | some _ => rfl

set_option maxHeartbeats 400000 in
theorem blk_big (sa la : Option Addr) (m sc K Kc : Nat) (R : Nat → Option Addr) (n c : Nat → Nat) (G : Nat → Nat → Int) (rc b d : Int) (w : World) (hm : m ≤ 9223372036854775807) (hK : K ≤ 9223372036854775807) (hO : Outer w la K R n c G) (hbig : 524288 < m ∨ 65536 < K) :
    Calls Try.prog 6 #[.slice sa m sc, .slice la K Kc, .int .i64 rc, .int .i64 b, .int .i64 d] w fun e w' => e = .returned (.bool true) ∧ w = w' := by
  have HO : Hid (Outer w la K R n c G) := hO
  clear hO
  rcases hbig with hbig | hbig
  · go_enter Try.func6, Try.ntmps6
    go_wp2_with fail
    refine (bytes_any sa la m sc K Kc R n c G rc b d _ hm hK HO.out).mono ?_
    rintro e w' ⟨rfl, f, rfl, _⟩
    cases f
    · go_wp2_with fail
      go_ret
      exact ⟨rfl, rfl⟩
    · go_wp2_with fail
      go_ret
      exact ⟨rfl, rfl⟩
  · by_cases h2 : 524288 < m
    all_goals
      go_enter Try.func6, Try.ntmps6
      go_wp2_with fail
      refine (bytes_any sa la m sc K Kc R n c G rc b d _ hm hK HO.out).mono ?_
      rintro e w' ⟨rfl, f, rfl, _⟩
      cases f
      · go_wp2_with fail
        go_ret
        exact ⟨rfl, rfl⟩
      · go_wp2_with fail
        go_ret
        exact ⟨rfl, rfl⟩

set_option maxHeartbeats 1000000 in
theorem blk_neg (sa la : Option Addr) (m sc K Kc : Nat) (R : Nat → Option Addr) (n c : Nat → Nat) (G : Nat → Nat → Int) (rc b d : Int) (w : World) (hm : m ≤ 524288) (hK : K ≤ 65536) (hO : Outer w la K R n c G) (hb : b < 0) :
    Calls Try.prog 6 #[.slice sa m sc, .slice la K Kc, .int .i64 rc, .int .i64 b, .int .i64 d] w fun e w' => e = .returned (.bool true) ∧ w = w' := by
  have HO : Hid (Outer w la K R n c G) := hO
  clear hO
  go_enter Try.func6, Try.ntmps6
  go_wp2_with fail
  refine (bytes_any sa la m sc K Kc R n c G rc b d _ (by omega) (by omega) HO.out).mono ?_
  rintro e w' ⟨rfl, f, rfl, _⟩
  cases f
  · go_wp2_with fail
    go_ret
    exact ⟨rfl, rfl⟩
  · go_wp2_with fail
    refine (fits_any sa la m sc K Kc R n c G _ hm hK HO.out).mono ?_
    rintro e w' ⟨rfl, f, rfl, _⟩
    cases f
    · go_wp2_with fail
      go_ret
      exact ⟨rfl, rfl⟩
    · go_wp2_with fail
      go_ret
      exact ⟨rfl, rfl⟩

set_option maxHeartbeats 1000000 in
theorem blk_empty (sa la : Option Addr) (sc K Kc : Nat) (R : Nat → Option Addr) (n c : Nat → Nat) (G : Nat → Nat → Int) (rc d : Int) (b : Nat) (w : World) (hb : b ≤ 9223372036854775807) (hK : K ≤ 65536) (hO : Outer w la K R n c G) (hs : sa = none → sc = 0) (hl : la = none → K = 0 ∧ Kc = 0) :
    Calls Try.prog 6 #[.slice sa 0 sc, .slice la K Kc, .int .i64 rc, .int .i64 b, .int .i64 d] w fun e w' => e = .returned (.bool true) ∧ Below w.heap.size w w' := by
  have HO : Hid (Outer w la K R n c G) := hO
  have Hs : Hid (sa = none → sc = 0) := hs
  have Hl : Hid (la = none → K = 0 ∧ Kc = 0) := hl
  clear hO hs hl
  go_enter Try.func6, Try.ntmps6
  go_wp2_with fail
  refine (bytes_any sa la 0 sc K Kc R n c G rc b d _ (by omega) (by omega) HO.out).mono ?_
  rintro e w' ⟨rfl, f, rfl, _⟩
  cases f
  · go_wp2_with fail
    go_ret
    exact ⟨rfl, Below.refl _ _⟩
  · go_wp2_with fail
    refine (fits_any sa la 0 sc K Kc R n c G _ (by omega) hK HO.out).mono ?_
    rintro e w' ⟨rfl, f, rfl, hfit⟩
    cases f
    · go_wp2_with fail
      go_ret
      exact ⟨rfl, Below.refl _ _⟩
    · have HF : Hid (∀ r, r < K → n r ≤ 524288) := hfit rfl
      clear hfit
      go_wp2_with fail
      refine (wf_empty sa la sc K Kc _).mono ?_
      rintro e w' ⟨rfl, rfl⟩
      go_wp2_with fail
      refine (clone_e sa sc _ Hs.out).mono ?_
      rintro e w1 ⟨s1, rfl, hb1⟩
      have HB1 : Hid (Below w.heap.size w w1) := hb1
      clear hb1
      go_wp2_with fail
      refine (cloneL_e la K Kc R n c G _ Hl.out hK HF.out (Outer.kept HO.out HB1.out)).mono ?_
      rintro e w2 ⟨l1, rfl, hb2⟩
      have HB2 : Hid (Below w.heap.size w w2) := below_next HB1.out hb2
      clear hb2
      go_wp2_with fail
      refine (zz_none _ _ 0 _ _ _ _ b _ _ _ (Nat.zero_le _) hb rfl).mono ?_
      rintro e w3 ⟨rfl, hb3⟩
      have HB3 : Hid (Below w.heap.size w w3) := below_next HB2.out hb3
      clear hb3
      go_wp2_with fail
      go_ret
      exact ⟨rfl, HB3.out⟩

set_option maxHeartbeats 1000000 in
theorem blk_none (sa la : Option Addr) (m sc Kc : Nat) (rc d : Int) (b : Nat) (w : World) (hm : 0 < m) (hm2 : m ≤ 524288) :
    Calls Try.prog 6 #[.slice sa m sc, .slice la 0 Kc, .int .i64 rc, .int .i64 b, .int .i64 d] w fun e w' => e = .returned (.bool true) ∧ w = w' := by
  go_enter Try.func6, Try.ntmps6
  go_wp2_with fail
  refine (bytes_zero sa la m sc Kc rc b d _ (by omega)).mono ?_
  rintro e w' ⟨rfl, rfl⟩
  go_wp2_with fail
  refine (fits_zero sa la m sc Kc _ (by omega)).mono ?_
  rintro e w' ⟨rfl, rfl⟩
  go_wp2_with fail
  refine (wf_none sa la m sc Kc _ hm hm2).mono ?_
  rintro e w' ⟨rfl, rfl⟩
  go_wp2_with fail
  go_ret
  exact ⟨rfl, rfl⟩

set_option maxHeartbeats 1000000 in
theorem blk_main (x : Addr) (m sc B O K1 Kc : Nat) (f : Nat → Int) (R : Nat → Option Addr) (n c : Nat → Nat) (G : Nat → Nat → Int) (rc d : Int) (b : Nat) (w : World) (hb : b ≤ 9223372036854775807) (hm : 0 < m) (hm2 : m ≤ 524288) (hK : K1 + 1 ≤ 65536)
    (hR : RowsIn w B O (K1 + 1) R n c G) (hc : ∀ i, i < m → w.cell? (x.add i) = some (.int .u16 (f i))) :
    Calls Try.prog 6 #[.slice (some x) m sc, .slice (some ⟨B, O, none⟩) (K1 + 1) Kc, .int .i64 rc, .int .i64 b, .int .i64 d] w fun e w' => e = .returned (.bool true) ∧ Below w.heap.size w w' := by
  have HO : Hid (Outer w (some ⟨B, O, none⟩) (K1 + 1) R n c G) := .inr ⟨B, O, rfl, hR⟩
  have HR : Hid (RowsIn w B O (K1 + 1) R n c G) := hR
  have HC : Hid (∀ i, i < m → w.cell? (x.add i) = some (.int .u16 (f i))) := hc
  clear hR hc
  go_enter Try.func6, Try.ntmps6
  go_wp2_with fail
  refine (bytes_any (some x) _ m sc (K1 + 1) Kc R n c G rc b d _ (by omega) (by omega) HO.out).mono ?_
  rintro e w' ⟨rfl, f1, rfl, _⟩
  cases f1
  · go_wp2_with fail
    go_ret
    exact ⟨rfl, Below.refl _ _⟩
  · go_wp2_with fail
    refine (fits_any (some x) _ m sc (K1 + 1) Kc R n c G _ (by omega) hK HO.out).mono ?_
    rintro e w' ⟨rfl, f2, rfl, hfit⟩
    cases f2
    · go_wp2_with fail
      go_ret
      exact ⟨rfl, Below.refl _ _⟩
    · have HF : Hid (∀ r, r < K1 + 1 → n r ≤ 524288) := hfit rfl
      clear hfit
      go_wp2_with fail
      refine (wf_rows (some x) m sc B O K1 Kc R n c G _ hm hm2 hK HF.out HR.out).mono ?_
      rintro e w' ⟨rfl, f3, rfl, hwf⟩
      cases f3
      · go_wp2_with fail
        go_ret
        exact ⟨rfl, Below.refl _ _⟩
      · obtain ⟨hnm, h64, hst⟩ := hwf rfl
        have HW : Hid (Low.WF (K1 + 1) n G) := ⟨by omega, h64, hst⟩
        subst hnm
        clear hst h64
        go_wp2_with fail
        refine (cloneU16_any x (n 0) sc f _ (by omega) HC.out).mono ?_
        rintro e w1 ⟨rfl, hrow, hb1⟩
        have HB1 : Hid (Below w.heap.size w w1) := hb1
        have HR1 : Hid (RowsIn w1 B O (K1 + 1) R n c G) := by
          rcases Outer.kept HO.out hb1 with h | ⟨B2, O2, h, hR2⟩
          · omega
          · simp only [Option.some.injEq, Addr.mk.injEq, and_true] at h
            obtain ⟨rfl, rfl⟩ := h
            exact hR2
        clear hb1 hrow
        go_wp2_with fail
        refine (cloneL_rows B O (K1 + 1) Kc R n c G _ hK HF.out HR1.out).mono ?_
        rintro e w2 ⟨rfl, A, hcp⟩
        have HB2 : Hid (Below w.heap.size w w2) := below_next HB1.out hcp.2.2
        have HLv : Hid (Levels w2 w1.heap.size (K1 + 1) A n G) := copied_done hcp (fun r hr => by have := HF.out r hr; omega) (fun r hr => rows_some HW.out HR.out hm hr)
        clear hcp
        go_wp2_with fail
        refine (zz_any _ (n 0) (n 0) w1.heap.size (K1 + 1) (K1 + 1) A n G rc b d b (G 0) _ (by omega) HLv.out HW.out rfl rfl hb rfl).mono ?_
        rintro e w3 ⟨r, rfl, hr, hb3⟩
        have HB3 : Hid (Below w.heap.size w w3) := below_next HB2.out hb3
        have HLv3 : Hid (Levels w3 w1.heap.size (K1 + 1) A n G) := Levels.kept HLv.out hb3
        have HRr : Hid (Low.IsFirst (G 0) (n 0) b d r) := hr
        have hh0 : w3.cell? ⟨w1.heap.size, 0, none⟩ = some (.slice (some ⟨A 0, 0, none⟩) (n 0) (n 0)) := (HLv3.out 0 (by omega)).1
        clear hr hb3
        go_wp2_with fail
        refine (lin_any (A 0) (n 0) (G 0) b d _ (by omega) hb (HLv3.out 0 (by omega)).2.2).mono ?_
        rintro e w4 ⟨r', rfl, hr', rfl⟩
        obtain rfl := Low.first_one HRr.out hr'
        clear hr'
        go_wp2
        go_ret
        exact ⟨rfl, HB3.out⟩
end Go.Proofs.Qxb6604135a
