/-
  Seat b6604135a: the walk of FnFirstLowResumesAndOrdersByDepth (8).
-/
import Derived.Test.Qxb6604135aOver
namespace Go.Proofs.Qxb6604135a
open Go.ChangeShapes Go.WideShapes Go.ChangeAt Go.RowKit

theorem res_big (x : Option Addr) (len cap : Nat) (b d : Int) (w : World) (h : 1048576 < len) (hm : len ≤ 9223372036854775807) :
    Calls Try.prog 8 #[.slice x len cap, .int .i64 b, .int .i64 d] w fun e w' => e = .returned (.bool true) ∧ w = w' := by
  go_enter Try.func8, Try.ntmps8
  go_wp2
  go_ret
  exact ⟨rfl, rfl⟩
theorem res_mid (x : Option Addr) (len cap : Nat) (b d : Int) (w : World) (h : 65536 < len) (hm : len ≤ 1048576) :
    Calls Try.prog 8 #[.slice x len cap, .int .i64 b, .int .i64 d] w fun e w' => e = .returned (.bool true) ∧ w = w' := by
  go_enter Try.func8, Try.ntmps8
  go_wp2
  go_ret
  exact ⟨rfl, rfl⟩
theorem res_neg (x : Option Addr) (len cap : Nat) (b d : Int) (w : World) (hm : len ≤ 65536) (hb : b < 0) :
    Calls Try.prog 8 #[.slice x len cap, .int .i64 b, .int .i64 d] w fun e w' => e = .returned (.bool true) ∧ w = w' := by
  go_enter Try.func8, Try.ntmps8
  go_wp2
  go_ret
  exact ⟨rfl, rfl⟩


/-- The least depth: depth-1 goes round. -/
theorem res_min (x : Option Addr) (len cap : Nat) (b d : Int) (w : World) (hm : len ≤ 65536) (hb : 0 ≤ b) (hd : d = -9223372036854775808) :
    Calls Try.prog 8 #[.slice x len cap, .int .i64 b, .int .i64 d] w fun e w' => e = .returned (.bool true) ∧ w = w' := by
  have hw : d < wrap64 (d - 1) := by unfold wrap64; omega
  clear hd
  go_enter Try.func8, Try.ntmps8
  go_wp2
  go_ret
  exact ⟨rfl, rfl⟩

set_option maxHeartbeats 400000 in
theorem res_nil (b : Nat) (d : Int) (w : World) (hb : b ≤ 9223372036854775807) (hd : -9223372036854775808 < d) (hd2 : d ≤ 9223372036854775807) :
    Calls Try.prog 8 #[.slice none 0 0, .int .i64 b, .int .i64 d] w fun e w' => e = .returned (.bool true) ∧ Below w.heap.size w w' := by
  have hmk := make0
  go_enter Try.func8, Try.ntmps8
  go_wp2_with (first
    | (go_at_call 21; refine (cloneU16_nil _).mono ?_; rintro e w' ⟨rfl, rfl⟩)
    | (go_at_call 26; refine (build_empty _ _).mono ?_; rintro e w1 ⟨rfl, hb1⟩; have HB1 : Hid (Below w.heap.size w w1) := hb1; clear hb1)
    | (go_at_call 27; go_in))
  refine (zz_none _ _ 0 _ _ _ _ b _ _ _ (Nat.zero_le _) hb rfl).mono ?_
  rintro e w2 ⟨rfl, hb2⟩
  have HB2 : Hid (Below w.heap.size w w2) := below_call HB1.out _ hb2
  clear hb2 hmk
  go_wp2_with fail
  refine (zz_none _ _ 0 _ _ _ _ b _ _ _ (Nat.zero_le _) hb rfl).mono ?_
  rintro e w3 ⟨rfl, hb3⟩
  have HB3 : Hid (Below w.heap.size w w3) := below_next HB2.out hb3
  clear hb3
  go_wp2_with fail
  go_ret
  exact ⟨rfl, HB3.out⟩

set_option maxHeartbeats 400000 in
theorem res_empty (x : Addr) (cap b : Nat) (d : Int) (w : World) (hb : b ≤ 9223372036854775807) (hd : -9223372036854775808 < d) (hd2 : d ≤ 9223372036854775807) :
    Calls Try.prog 8 #[.slice (some x) 0 cap, .int .i64 b, .int .i64 d] w fun e w' => e = .returned (.bool true) ∧ Below w.heap.size w w' := by
  have hmk := make0
  go_enter Try.func8, Try.ntmps8
  go_wp2_with (first
    | (go_at_call 21; refine (cloneU16_any x 0 cap (fun _ => 0) _ (by omega) (fun i hi => absurd hi (by omega))).mono ?_; rintro e w0 ⟨rfl, hrow, hb0⟩; have HB0 : Hid (Below w.heap.size w w0) := hb0; clear hb0 hrow)
    | (go_at_call 26; refine (build_empty _ _).mono ?_; rintro e w1 ⟨rfl, hb1⟩; have HB1 : Hid (Below w.heap.size w w1) := below_next HB0.out hb1; clear hb1)
    | (go_at_call 27; go_in))
  refine (zz_none _ _ 0 _ _ _ _ b _ _ _ (Nat.zero_le _) hb rfl).mono ?_
  rintro e w2 ⟨rfl, hb2⟩
  have HB2 : Hid (Below w.heap.size w w2) := below_call HB1.out _ hb2
  clear hb2 hmk
  go_wp2_with fail
  refine (zz_none _ _ 0 _ _ _ _ b _ _ _ (Nat.zero_le _) hb rfl).mono ?_
  rintro e w3 ⟨rfl, hb3⟩
  have HB3 : Hid (Below w.heap.size w w3) := below_next HB2.out hb3
  clear hb3
  go_wp2_with fail
  go_ret
  exact ⟨rfl, HB3.out⟩

set_option maxHeartbeats 1000000 in
theorem res_main (x : Addr) (len cap b : Nat) (f : Nat → Int) (d : Int) (w : World) (h0 : 0 < len) (hl : len ≤ 65536) (hb : b ≤ 9223372036854775807) (hc : ∀ i, i < len → w.cell? (x.add i) = some (.int .u16 (f i))) (hf : ∀ i, 0 ≤ f i ∧ f i ≤ 65535)
    (hd : -9223372036854775808 < d) (hd2 : d ≤ 9223372036854775807) :
    Calls Try.prog 8 #[.slice (some x) len cap, .int .i64 b, .int .i64 d] w fun e w' => e = .returned (.bool true) ∧ Below w.heap.size w w' := by
  have hmk := run_make_row' (P := Try.prog) 37 28 (.int .u16 0) 2 Try.underlying37 Try.info28 rfl .i64 .i64 len (by omega) (by omega)
  have HC : Hid (∀ i, i < len → w.cell? (x.add i) = some (.int .u16 (f i))) := hc
  have HF : Hid (∀ i, 0 ≤ f i ∧ f i ≤ 65535) := hf
  clear hc hf
  go_enter Try.func8, Try.ntmps8
  go_wp2_with (first
    | (go_at_call 21; refine (cloneU16_any x len cap f _ (by omega) HC.out).mono ?_; rintro e w0 ⟨rfl, hrow, hb0⟩; have HB0 : Hid (Below w.heap.size w w0) := hb0; have HN0 : Hid (Nums w0 w.heap.size len f) := fun i hi => ⟨hrow.cell hi, HF.out i⟩; clear hb0 hrow)
    | (go_at_call 27; go_in))
  refine (build_any w.heap.size len f _ h0 hl HN0.out).mono ?_
  rintro e w1 ⟨B, K, Kc, A, N, L, rfl, hK, hLv, hWF, hN, hL, hA, hb1⟩
  have HB1 : Hid (Below w.heap.size w w1) := below_next HB0.out hb1
  have HN1 : Hid (Nums w1 w.heap.size len f) := Nums.below HN0.out hb1 (fun h => Nums.lt HN0.out h)
  have HLv : Hid (Levels w1 B K A N L) := hLv
  have HWF : Hid (Low.WF K N L) := hWF
  have HNe : Hid (N 0 = len) := hN
  have HLe : Hid (L 0 = f) := hL
  clear hb1 hLv hWF hN hL hA
  go_wp2_with fail
  refine (zz_any _ len len B K Kc A N L 0 b d b f _ (by omega) (Levels.kept HLv.out ((Below.refl _ _).alloc (Nat.le_refl _) _)) HWF.out HNe.out HLe.out hb rfl).mono ?_
  rintro e w2 ⟨r, rfl, hr, hb2⟩
  have HB2 : Hid (Below w.heap.size w w2) := below_call HB1.out _ hb2
  have HN2 : Hid (Nums w2 w.heap.size len f) := Nums.below (Nums.alloc HN1.out _) hb2 (fun h => Nums.lt (Nums.alloc HN1.out _) h)
  have HLv2 : Hid (Levels w2 B K A N L) := Levels.kept (Levels.kept HLv.out ((Below.refl _ _).alloc (Nat.le_refl _) _)) hb2
  have HR : Hid (Low.IsFirst f len b d r) := hr
  clear hr hb2 hmk
  go_wp2_with fail
  refine (zz_any _ len len B K Kc A N L 0 b (d - 1) b f _ (by omega) HLv2.out HWF.out HNe.out HLe.out hb rfl).mono ?_
  rintro e w3 ⟨lo, rfl, hlo, hb3⟩
  have HB3 : Hid (Below w.heap.size w w3) := below_next HB2.out hb3
  have HN3 : Hid (Nums w3 w.heap.size len f) := Nums.below HN2.out hb3 (fun h => Nums.lt HN2.out h)
  have HLv3 : Hid (Levels w3 B K A N L) := Levels.kept HLv2.out hb3
  have HLo : Hid (Low.IsFirst f len b (d - 1) lo) := hlo
  clear hlo hb3
  by_cases hr1 : r = -1
  · obtain rfl := Low.lower_none HR.out HLo.out hr1
    subst hr1
    go_wp2_with fail
    go_ret
    exact ⟨rfl, HB3.out⟩
  · obtain ⟨j, rfl, hj1, hj2, hj3, hj4⟩ := Low.some_facts HR.out hr1
    have HJ4 : Hid (∀ i, b ≤ i → i < j → d < f i) := hj4
    have t1 : ((j : Int) == -1) = false := by rw [beq_eq_false_iff_ne]; omega
    clear hr1 hj4
    obtain ⟨hcj, hjl, hjh⟩ := HN3.out j hj2
    go_wp2_with fail
    refine (zz_any _ len len B K Kc A N L 0 j d j f _ (by omega) HLv3.out HWF.out HNe.out HLe.out (by omega) rfl).mono ?_
    rintro e w4 ⟨r2, rfl, hr2, hb4⟩
    obtain rfl := Low.again hj2 hj3 hr2
    have HB4 : Hid (Below w.heap.size w w4) := below_next HB3.out hb4
    have HLv4 : Hid (Levels w4 B K A N L) := Levels.kept HLv3.out hb4
    clear hr2 hb4 hcj
    go_wp2_with fail
    refine (zz_any _ len len B K Kc A N L 0 (j + 1) d _ f _ (by omega) HLv4.out HWF.out HNe.out HLe.out (by omega) (by omega)).mono ?_
    rintro e w5 ⟨nx, rfl, hnx, hb5⟩
    have HB5 : Hid (Below w.heap.size w w5) := below_next HB4.out hb5
    have hnx2 := Low.later hnx
    have hlo2 := Low.lower_later HLo.out HJ4.out
    clear hnx hb5
    rcases hnx2 with hnx2 | hnx2
    · subst hnx2
      rcases hlo2 with hlo2 | hlo2
      · subst hlo2
        go_wp2_with fail
        go_ret
        exact ⟨rfl, HB5.out⟩
      · have t2 : (lo != -1) = true := by rw [bne_iff_ne]; omega
        go_wp2_with fail
        go_ret
        exact ⟨rfl, HB5.out⟩
    · have t3 : (nx != -1) = true := by rw [bne_iff_ne]; omega
      rcases hlo2 with hlo2 | hlo2
      · subst hlo2
        go_wp2_with fail
        go_ret
        exact ⟨rfl, HB5.out⟩
      · have t2 : (lo != -1) = true := by rw [bne_iff_ne]; omega
        go_wp2_with fail
        go_ret
        exact ⟨rfl, HB5.out⟩
end Go.Proofs.Qxb6604135a
