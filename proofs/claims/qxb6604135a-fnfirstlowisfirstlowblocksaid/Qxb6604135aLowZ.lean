/-
  Seat b6604135a: the contract of ZZFirstLow (23); zzBuildLevels (26) over an empty slice.
-/
import Derived.Test.Qxb6604135aBuild
namespace Go.Proofs.Qxb6604135a
open Go.ChangeShapes Go.WideShapes Go.ChangeAt Go.RowKit

theorem Levels.below {B0 : Nat} {w w' : World} {B K : Nat} {A N : Nat → Nat} {L : Nat → Nat → Int} (h : Levels w B K A N L) (hb : Below B0 w w') (hB : 0 < K → B < B0) (hA : ∀ k, k < K → A k < B0) : Levels w' B K A N L :=
  fun k hk => ⟨(hb.cell (p := ⟨B, k, none⟩) (hB (by omega))).trans (h k hk).1, (h k hk).2.1, (h k hk).2.2.below hb (fun _ => hA k hk)⟩
theorem Levels.head {w : World} {B K : Nat} {A N : Nat → Nat} {L : Nat → Nat → Int} (h : Levels w B K A N L) (hK : 0 < K) : B < w.heap.size := World.block_lt_of_cell? _ _ (h 0 hK).1
/-- Nothing that was there has turned: the levels lie as they lay. -/
theorem Levels.kept {w w' : World} {B K : Nat} {A N : Nat → Nat} {L : Nat → Nat → Int} (h : Levels w B K A N L) (hb : Below w.heap.size w w') : Levels w' B K A N L :=
  fun k hk => ⟨(hb.cell (p := ⟨B, k, none⟩) (h.head (by omega))).trans (h k hk).1, (h k hk).2.1, (h k hk).2.2.below hb (fun hn => (h k hk).2.2.lt hn)⟩

theorem build_empty (a : Option Addr) (w : World) :
    Calls Try.prog 26 #[.slice a 0 0] w fun e w' => e = .returned (.slice (some ⟨w.heap.size, 0, none⟩) 1 1) ∧ Below w.heap.size w w' := by
  go_enter Try.func26, Try.ntmps26
  go_wp2
  refine wp_loop_rounds 1 ?_
  rw [rounds_succ]
  go_wp2
  go_ret
  exact ⟨rfl, (Below.refl _ _).alloc (Nat.le_refl _) _⟩

theorem zz_none (a la : Option Addr) (n c lk lc : Nat) (rc : Int) (b : Nat) (d y : Int) (w : World) (hb : n ≤ b) (hbm : b ≤ 9223372036854775807) (hy : y = b) :
    Calls Try.prog 23 #[.slice a n c, .slice la lk lc, .int .i64 rc, .int .i64 y, .int .i64 d] w fun e w' => e = .returned (.int .i64 (-1)) ∧ Below w.heap.size w w' := by
  subst hy
  go_enter Try.func23, Try.ntmps23
  go_wp2_with fail
  refine (low_none w.heap.size a n c b d _ (by simp) hb hbm).mono ?_
  rintro e w' ⟨rfl, rfl⟩
  go_wp2
  go_ret
  exact ⟨rfl, (Below.refl _ _).alloc (Nat.le_refl _) _⟩

set_option maxHeartbeats 400000 in
theorem zz_low (a : Option Addr) (c B K Kc : Nat) (A N : Nat → Nat) (L : Nat → Nat → Int) (rc : Int) (b : Nat) (d : Int) (w : World) (hK : K ≤ 1048576) (hL : Levels w B K A N L) (hW : Low.WF K N L) (hb : b < N 0) :
    Calls Try.prog 23 #[.slice a (N 0) c, .slice (some ⟨B, 0, none⟩) K Kc, .int .i64 rc, .int .i64 b, .int .i64 d] w fun e w' => ∃ r, e = .returned (.int .i64 r) ∧ Low.IsFirst (L 0) (N 0) b d r ∧ Below w.heap.size w w' := by
  have HL : Hid (Levels w B K A N L) := hL
  have HW : Hid (Low.WF K N L) := hW
  clear hL hW
  go_enter Try.func23, Try.ntmps23
  go_wp2_with fail
  refine (low_any w.heap.size a c B K Kc A N L b d _ (by simp) (by simp) hK (Levels.kept HL.out ((Below.refl _ _).alloc (Nat.le_refl _) _)) HW.out hb).mono ?_
  rintro e w' ⟨r, rfl, hr, rfl⟩
  have HR : Hid (Low.IsFirst (L 0) (N 0) b d r) := hr
  clear hr
  go_wp2
  go_ret
  exact ⟨r, rfl, HR.out, (Below.refl _ _).alloc (Nat.le_refl _) _⟩

/-- Whatever b: the first low block, or -1. -/
theorem zz_any (a : Option Addr) (n c B K Kc : Nat) (A N : Nat → Nat) (L : Nat → Nat → Int) (rc : Int) (b : Nat) (d y : Int) (g : Nat → Int) (w : World) (hK : K ≤ 1048576) (hL : Levels w B K A N L) (hW : Low.WF K N L) (hn : N 0 = n) (hg : L 0 = g) (hbm : b ≤ 9223372036854775807) (hy : y = b) :
    Calls Try.prog 23 #[.slice a n c, .slice (some ⟨B, 0, none⟩) K Kc, .int .i64 rc, .int .i64 y, .int .i64 d] w fun e w' => ∃ r, e = .returned (.int .i64 r) ∧ Low.IsFirst g n b d r ∧ Below w.heap.size w w' := by
  subst hn hg hy
  by_cases hb : b < N 0
  · exact zz_low a c B K Kc A N L rc b d w hK hL hW hb
  · exact (zz_none a _ (N 0) c K Kc rc b d b w (by omega) hbm rfl).mono fun e w' ⟨h1, h2⟩ => ⟨-1, h1, .inl ⟨rfl, fun j h3 h4 => by omega⟩, h2⟩
end Go.Proofs.Qxb6604135a
