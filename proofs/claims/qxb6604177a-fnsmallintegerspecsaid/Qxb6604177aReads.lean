/-
  Seat b6604177a: the walk of FnSmallIntegerReadsWhatDecimalWrites (4).
-/
import Derived.Test.Qxb6604177aMake
namespace Go.Proofs.Qxb6604177a
open Go.ChangeShapes Go.WideShapes Go.ChangeAt Go.RowKit

theorem grown_trans {a b c : World} (h : Grown a b) (k : Grown b c) : Grown a c :=
  ⟨World.keptBut_trans h.1 k.1, fun x => (k.2.1 x).trans (h.2.1 x), Nat.le_trans h.2.2 k.2.2⟩

theorem reads_n (n z : Int) (w : World) (h : n < 0 ∨ 999999999 < n) : Calls Try.prog 4 #[.int .i32 n, .int .i64 z] w fun e w' => e = .returned (.bool true) ∧ w = w' := by
  rcases h with h | h
  · go_enter Try.func4, Try.ntmps4
    go_wp2
    go_ret
    exact ⟨rfl, rfl⟩
  · have h2 : ¬ n < 0 := by omega
    go_enter Try.func4, Try.ntmps4
    go_wp2
    go_ret
    exact ⟨rfl, rfl⟩
theorem reads_z (n z : Int) (w : World) (h1 : 0 ≤ n) (h2 : n ≤ 999999999) (h : z < 0 ∨ 65536 < z) : Calls Try.prog 4 #[.int .i32 n, .int .i64 z] w fun e w' => e = .returned (.bool true) ∧ w = w' := by
  rcases h with h | h
  · go_enter Try.func4, Try.ntmps4
    go_wp2
    go_ret
    exact ⟨rfl, rfl⟩
  · have h3 : ¬ z < 0 := by omega
    go_enter Try.func4, Try.ntmps4
    go_wp2
    go_ret
    exact ⟨rfl, rfl⟩

/-- z zeros ahead of the digits of N: at most nine bytes are read back, more are refused. -/
theorem zeros_ahead {t1 t2 : ByteArray} {z m : Nat} {g : Nat → Int} {N : Int} (h1 : Dec.Txt t1 z (fun _ => 48)) (h2 : Dec.Txt t2 m g) (hd : Dec.Digs g m) (hv : Dec.val g 0 m = N) (hs : z + m ≤ 9) (w : World) :
    Calls Try.prog 28 #[.string (t1 ++ t2)] w fun e w' => e = .returned (.tuple #[.int .i32 N, .bool true]) ∧ w = w' := by
  have hT := Dec.txt_append h1 h2
  have hD : Dec.Digs (fun k => if k < z then 48 else g (k - z)) (z + m) := fun k hk => by
    by_cases c : k < z
    · simp only [if_pos c]; omega
    · simp only [if_neg c]; exact hd _ (by omega)
  have hV : Dec.val (fun k => if k < z then 48 else g (k - z)) 0 (z + m) = N := by
    rw [Dec.val_split, Dec.val_zeros z (fun k hk => if_pos hk), ← hv]
    exact Dec.val_congr 0 m (fun k _ => by rw [if_neg (by omega), show z + k - z = k from by omega])
  have := small_yes (t1 ++ t2) (z + m) _ w hs hT hD
  rwa [hV] at this

theorem itoa_all (N : Int) (w : World) (hN : 0 ≤ N) (hN2 : N ≤ 999999999) :
    Calls Try.prog 16 #[.int .i32 N] w fun e w' => ∃ t, e = .returned (.string t) ∧ ∃ m g, Dec.Txt t m g ∧ 0 < m ∧ m ≤ 9 ∧ Dec.Digs g m ∧ Dec.val g 0 m = N ∧ Grown w w' := by
  by_cases h : N = 0
  · subst h
    exact (itoa_zero w).mono fun e w' ⟨h1, h2⟩ => ⟨_, h1, 1, fun _ => 48, txt_zero, by omega, by omega, fun k _ => show (48 : Int) ≤ 48 ∧ (48 : Int) ≤ 57 from ⟨by omega, by omega⟩, rfl, h2 ▸ Grown.refl _⟩
  · exact itoa_any N w (by omega) hN2

set_option maxHeartbeats 400000 in
theorem reads_main (N : Int) (z : Nat) (w : World) (hN : 0 ≤ N) (hN2 : N ≤ 999999999) (hz : z ≤ 65536) : Calls Try.prog 4 #[.int .i32 N, .int .i64 z] w fun e w' => e = .returned (.bool true) ∧ Grown w w' := by
  go_enter Try.func4, Try.ntmps4
  go_wp2_with fail
  refine (zeros_any z _ hz).mono ?_
  rintro e w1 ⟨t1, rfl, hT1, hg1⟩
  have HT1 : Hid (Dec.Txt t1 z (fun _ => 48)) := hT1
  have HG1 : Hid (Grown w w1) := hg1
  have hs1 : t1.size = z := hT1.1
  clear hT1 hg1
  go_wp2_with fail
  refine (itoa_all N _ hN hN2).mono ?_
  rintro e w2 ⟨t2, rfl, m, g, hT2, hm0, hm9, hD2, hv2, hg2⟩
  have HT2 : Hid (Dec.Txt t2 m g) := hT2
  have HD2 : Hid (Dec.Digs g m) := hD2
  have HV2 : Hid (Dec.val g 0 m = N) := hv2
  have HG2 : Hid (Grown w w2) := grown_trans HG1.out hg2
  have hs2 : t2.size = m := hT2.1
  clear hT2 hD2 hv2 hg2
  go_wp2_with fail
  by_cases h9 : z + m ≤ 9
  · refine (zz_of _ N true _ (fun w => zeros_ahead HT1.out HT2.out HD2.out HV2.out h9 w)).mono ?_
    rintro e w3 ⟨rfl, rfl⟩
    go_wp2
    go_ret
    exact ⟨rfl, HG2.out⟩
  · refine (zz_of _ 0 false _ (fun w => small_long (t1 ++ t2) w (by rw [ByteArray.size_append, hs1, hs2]; omega) (by rw [ByteArray.size_append, hs1, hs2]; omega))).mono ?_
    rintro e w3 ⟨rfl, rfl⟩
    go_wp2
    go_ret
    exact ⟨rfl, HG2.out⟩
end Go.Proofs.Qxb6604177a
