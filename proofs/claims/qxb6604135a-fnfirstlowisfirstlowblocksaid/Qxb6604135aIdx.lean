/-
  Seat b6604135a: the contracts of zzBytes_FnFirstLowIsFirstLowBlock (18) and zzIndexFits (19).
-/
import Derived.Test.Qxb6604135aLowZ
namespace Go.Proofs.Qxb6604135a
open Go.ChangeShapes Go.WideShapes Go.ChangeAt Go.RowKit

/-- The rows of a slice of slices that came in. -/
def RowsIn (w : World) (B O K : Nat) (R : Nat → Option Addr) (n c : Nat → Nat) (G : Nat → Nat → Int) : Prop :=
  ∀ r, r < K → w.cell? ⟨B, O + r, none⟩ = some (.slice (R r) (n r) (c r)) ∧ (R r = none → n r = 0 ∧ c r = 0) ∧ n r ≤ 9223372036854775807 ∧
    ∀ x, R r = some x → ∀ i, i < n r → w.cell? (x.add i) = some (.int .u16 (G r i)) ∧ 0 ≤ G r i ∧ G r i ≤ 65535

/-- It returned some bool, of which Q holds. -/
def Says (e : Ending) (Q : Bool → Prop) : Prop := ∃ f : Bool, e = .returned (.bool f) ∧ Q f

/-- Of the outer slice: it is empty, or it lies at a plain address. -/
def Outer (w : World) (a : Option Addr) (K : Nat) (R : Nat → Option Addr) (n c : Nat → Nat) (G : Nat → Nat → Int) : Prop := K = 0 ∨ ∃ B O, a = some ⟨B, O, none⟩ ∧ RowsIn w B O K R n c G

theorem bytes_false1 (a la : Option Addr) (m c K Kc : Nat) (rc b d : Int) (w : World) (h : 1048576 < m) (hm : m ≤ 9223372036854775807) :
    Calls Try.prog 18 #[.slice a m c, .slice la K Kc, .int .i64 rc, .int .i64 b, .int .i64 d] w fun e w' => e = .returned (.bool false) ∧ w = w' := by
  go_enter Try.func18, Try.ntmps18
  go_wp2
  go_ret
  exact ⟨rfl, rfl⟩
theorem bytes_false2 (a la : Option Addr) (m c K Kc : Nat) (rc b d : Int) (w : World) (h : m ≤ 1048576) (h2 : 1048576 < K) (hm : K ≤ 9223372036854775807) :
    Calls Try.prog 18 #[.slice a m c, .slice la K Kc, .int .i64 rc, .int .i64 b, .int .i64 d] w fun e w' => e = .returned (.bool false) ∧ w = w' := by
  go_enter Try.func18, Try.ntmps18
  go_wp2
  go_ret
  exact ⟨rfl, rfl⟩
theorem bytes_false3 (a la : Option Addr) (m c K Kc : Nat) (rc b d : Int) (w : World) (h : m ≤ 1048576) (h2 : K ≤ 1048576) (h3 : 1048576 < m + K) :
    Calls Try.prog 18 #[.slice a m c, .slice la K Kc, .int .i64 rc, .int .i64 b, .int .i64 d] w fun e w' => e = .returned (.bool false) ∧ w = w' := by
  go_enter Try.func18, Try.ntmps18
  go_wp2
  go_ret
  exact ⟨rfl, rfl⟩
theorem bytes_zero (a la : Option Addr) (m c Kc : Nat) (rc b d : Int) (w : World) (h : m ≤ 1048576) :
    Calls Try.prog 18 #[.slice a m c, .slice la 0 Kc, .int .i64 rc, .int .i64 b, .int .i64 d] w fun e w' => e = .returned (.bool true) ∧ w = w' := by
  go_enter Try.func18, Try.ntmps18
  go_wp2
  refine wp_loop_rounds 1 ?_
  rw [rounds_succ]
  go_wp2
  go_ret
  exact ⟨rfl, rfl⟩

set_option maxHeartbeats 1000000 in
theorem bytes_rows (a : Option Addr) (m cc B O K Kc : Nat) (R : Nat → Option Addr) (n c : Nat → Nat) (G : Nat → Nat → Int) (rc b d : Int) (w : World) (h3 : m + K ≤ 1048576) (hR : RowsIn w B O K R n c G) :
    Calls Try.prog 18 #[.slice a m cc, .slice (some ⟨B, O, none⟩) K Kc, .int .i64 rc, .int .i64 b, .int .i64 d] w fun e w' => w = w' ∧ Says e (fun _ => True) := by
  have HR : Hid (RowsIn w B O K R n c G) := hR
  clear hR
  go_enter Try.func18, Try.ntmps18
  go_wp2
  go_loop [10, 11, 12] (fun _ zz kk => ∃ (k s : Nat), k ≤ K ∧ s ≤ 1048576 ∧ kk = .int .i64 k ∧ zz = .int .i64 s) (fun _ _ kk => K - (intOf kk).toNat)
  case atStart => exact ⟨0, m + K, by omega, h3, rfl, by go_num⟩
  case round =>
    obtain ⟨k, s, hk, hs, rfl, rfl⟩ := hrel
    by_cases hlt : k < K
    · obtain ⟨hh, _, hn63, _⟩ := HR.out k hlt
      by_cases h1 : 1048576 < n k
      · go_wp2
        go_ret
        exact ⟨rfl, _, rfl, trivial⟩
      · by_cases h2 : 1048576 < s + n k
        · go_wp2
          go_ret
          exact ⟨rfl, _, rfl, trivial⟩
        · go_wp2
          go_round
          case rel => exact ⟨k + 1, s + n k, by omega, by omega, by go_num, by go_num⟩
          case measure => simp [intOf]; omega
    · go_wp2
      go_ret
      exact ⟨rfl, _, rfl, trivial⟩

/-- Whatever came in. -/
theorem bytes_any (a la : Option Addr) (m cc K Kc : Nat) (R : Nat → Option Addr) (n c : Nat → Nat) (G : Nat → Nat → Int) (rc b d : Int) (w : World) (hm : m ≤ 9223372036854775807) (hK : K ≤ 9223372036854775807) (hO : Outer w la K R n c G) :
    Calls Try.prog 18 #[.slice a m cc, .slice la K Kc, .int .i64 rc, .int .i64 b, .int .i64 d] w fun e w' => w = w' ∧ Says e (fun _ => True) := by
  by_cases h1 : 1048576 < m
  · exact (bytes_false1 a la m cc K Kc rc b d w h1 hm).mono fun e w' h => ⟨h.2, _, h.1, trivial⟩
  by_cases h2 : 1048576 < K
  · exact (bytes_false2 a la m cc K Kc rc b d w (by omega) h2 hK).mono fun e w' h => ⟨h.2, _, h.1, trivial⟩
  by_cases h3 : 1048576 < m + K
  · exact (bytes_false3 a la m cc K Kc rc b d w (by omega) (by omega) h3).mono fun e w' h => ⟨h.2, _, h.1, trivial⟩
  rcases hO with h0 | ⟨B, O, rfl, hR⟩
  · subst h0; exact (bytes_zero a la m cc Kc rc b d w (by omega)).mono fun e w' h => ⟨h.2, _, h.1, trivial⟩
  · exact bytes_rows a m cc B O K Kc R n c G rc b d w (by omega) hR

theorem fits_zero (a la : Option Addr) (m c Kc : Nat) (w : World) (h : m ≤ 524288) :
    Calls Try.prog 19 #[.slice a m c, .slice la 0 Kc] w fun e w' => e = .returned (.bool true) ∧ w = w' := by
  go_enter Try.func19, Try.ntmps19
  go_wp2
  refine wp_loop_rounds 1 ?_
  rw [rounds_succ]
  go_wp2
  go_ret
  exact ⟨rfl, rfl⟩
theorem fits_false (a la : Option Addr) (m c K Kc : Nat) (w : World) (h : m ≤ 524288) (hK : K ≤ 65536) (h3 : 1048576 < 2 * m + 24 * K) :
    Calls Try.prog 19 #[.slice a m c, .slice la K Kc] w fun e w' => e = .returned (.bool false) ∧ w = w' := by
  go_enter Try.func19, Try.ntmps19
  go_wp2
  go_ret
  exact ⟨rfl, rfl⟩

set_option maxHeartbeats 1000000 in
theorem fits_rows (a : Option Addr) (m cc B O K Kc : Nat) (R : Nat → Option Addr) (n c : Nat → Nat) (G : Nat → Nat → Int) (w : World) (h : m ≤ 524288) (hK : K ≤ 65536) (h3 : 2 * m + 24 * K ≤ 1048576) (hR : RowsIn w B O K R n c G) :
    Calls Try.prog 19 #[.slice a m cc, .slice (some ⟨B, O, none⟩) K Kc] w fun e w' => w = w' ∧ Says e (fun f => f = true → ∀ r, r < K → n r ≤ 524288) := by
  have HR : Hid (RowsIn w B O K R n c G) := hR
  clear hR
  go_enter Try.func19, Try.ntmps19
  go_wp2
  go_loop [4, 5, 6] (fun _ zz kk => ∃ (k s : Nat), k ≤ K ∧ s ≤ 1048576 ∧ kk = .int .i64 k ∧ zz = .int .i64 s ∧ ∀ r, r < k → n r ≤ 524288) (fun _ _ kk => K - (intOf kk).toNat)
  case atStart => exact ⟨0, 2 * m + 24 * K, by omega, h3, rfl, by go_num, fun r hr => by omega⟩
  case round =>
    obtain ⟨k, s, hk, hs, rfl, rfl, hle⟩ := hrel
    have HL : Hid (∀ r, r < k → n r ≤ 524288) := hle
    clear hle
    by_cases hlt : k < K
    · obtain ⟨hh, _, hn63, _⟩ := HR.out k hlt
      by_cases h1 : 524288 < n k
      · go_wp2
        go_ret
        exact ⟨rfl, _, rfl, fun h => by simp at h⟩
      · by_cases h2 : 1048576 < s + 2 * n k
        · go_wp2
          go_ret
          exact ⟨rfl, _, rfl, fun h => by simp at h⟩
        · go_wp2
          go_round
          case rel => exact ⟨k + 1, s + 2 * n k, by omega, by omega, by go_num, by go_num, fun r hr => by
            by_cases e : r = k
            · subst e; omega
            · exact HL.out r (by omega)⟩
          case measure => simp [intOf]; omega
    · obtain rfl : k = K := by omega
      go_wp2
      go_ret
      exact ⟨rfl, _, rfl, fun _ => HL.out⟩

/-- Whatever came in. -/
theorem fits_any (a la : Option Addr) (m cc K Kc : Nat) (R : Nat → Option Addr) (n c : Nat → Nat) (G : Nat → Nat → Int) (w : World) (h : m ≤ 524288) (hK : K ≤ 65536) (hO : Outer w la K R n c G) :
    Calls Try.prog 19 #[.slice a m cc, .slice la K Kc] w fun e w' => w = w' ∧ Says e (fun f => f = true → ∀ r, r < K → n r ≤ 524288) := by
  by_cases h3 : 1048576 < 2 * m + 24 * K
  · exact (fits_false a la m cc K Kc w h hK h3).mono fun e w' h => ⟨h.2, false, h.1, fun h => by simp at h⟩
  rcases hO with h0 | ⟨B, O, rfl, hR⟩
  · subst h0; exact (fits_zero a la m cc Kc w h).mono fun e w' h => ⟨h.2, true, h.1, fun _ r hr => by omega⟩
  · exact fits_rows a m cc B O K Kc R n c G w h hK (by omega) hR
end Go.Proofs.Qxb6604135a
