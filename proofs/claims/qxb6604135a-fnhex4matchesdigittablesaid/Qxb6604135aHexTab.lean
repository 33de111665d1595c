/-
  Seat b6604135a: the walk of FnHex4MatchesDigitTable (3).
-/
import Derived.Test.Qxb6604135aHex
namespace Go.Proofs.Qxb6604135a
open Go.ChangeShapes Go.WideShapes Go.ChangeAt Go.RowKit

theorem ret_bool {a b : Bool} (h : a = b) : Ending.returned (.bool a) = .returned (.bool b) := by rw [h]

theorem tab_big (x : Option Addr) (len cap : Nat) (w : World) (h : 1048576 < len) (hm : len ≤ 9223372036854775807) :
    Calls Try.prog 3 #[.slice x len cap] w fun e w' => e = .returned (.bool true) ∧ w = w' := by
  go_enter Try.func3, Try.ntmps3
  go_wp2
  go_ret
  exact ⟨rfl, rfl⟩

theorem tab_short (x : Option Addr) (len cap : Nat) (w : World) (h : len < 4) :
    Calls Try.prog 3 #[.slice x len cap] w fun e w' => e = .returned (.bool true) ∧ w = w' := by
  go_enter Try.func3, Try.ntmps3
  go_wp2
  go_ret
  exact ⟨rfl, rfl⟩

set_option maxHeartbeats 1000000 in
theorem tab_no (b off len cap : Nat) (f : Nat → Int) (w : World) (h4 : 4 ≤ len) (hl : len ≤ 1048576) (hr : ∀ i, 0 ≤ f i ∧ f i ≤ 255) (hc : ∀ i, i < len → w.cell? ⟨b, off + i, none⟩ = some (.int .u8 (f i)))
    (hno : ¬ (hexB (f 0) = true ∧ hexB (f 1) = true ∧ hexB (f 2) = true ∧ hexB (f 3) = true)) :
    Calls Try.prog 3 #[.slice (some ⟨b, off, none⟩) len cap] w fun e w' => e = .returned (.bool true) ∧ w = w' := by
  have c0 : w.cell? ⟨b, off, none⟩ = some (.int .u8 (f 0)) := hc 0 (by omega)
  have c1 := hc 1 (by omega)
  have c2 := hc 2 (by omega)
  have c3 := hc 3 (by omega)
  have HR : Hid _ := hr
  clear hc hr
  by_cases h0 : hexB (f 0) = true
  · by_cases h1 : hexB (f 1) = true
    · by_cases h2 : hexB (f 2) = true
      · have h3 : hexB (f 3) = false := by simpa [h0, h1, h2] using hno
        clear hno
        go_enter Try.func3, Try.ntmps3
        go_wp2_with (first | (go_at_call 10; refine (digit_any _ _ (HR.out _)).mono ?_; rintro e w' ⟨rfl, rfl⟩) | go_in)
        go_ret
        exact ⟨rfl, rfl⟩
      · have h2 : hexB (f 2) = false := by simpa using h2
        clear hno
        go_enter Try.func3, Try.ntmps3
        go_wp2_with (first | (go_at_call 10; refine (digit_any _ _ (HR.out _)).mono ?_; rintro e w' ⟨rfl, rfl⟩) | go_in)
        go_ret
        exact ⟨rfl, rfl⟩
    · have h1 : hexB (f 1) = false := by simpa using h1
      clear hno
      go_enter Try.func3, Try.ntmps3
      go_wp2_with (first | (go_at_call 10; refine (digit_any _ _ (HR.out _)).mono ?_; rintro e w' ⟨rfl, rfl⟩) | go_in)
      go_ret
      exact ⟨rfl, rfl⟩
  · have h0 : hexB (f 0) = false := by simpa using h0
    clear hno
    go_enter Try.func3, Try.ntmps3
    go_wp2_with (first | (go_at_call 10; refine (digit_any _ _ (HR.out _)).mono ?_; rintro e w' ⟨rfl, rfl⟩) | go_in)
    go_ret
    exact ⟨rfl, rfl⟩

set_option maxHeartbeats 1000000 in
theorem tab_yes (b off len cap : Nat) (f : Nat → Int) (w : World) (h4 : 4 ≤ len) (hl : len ≤ 1048576) (hr : ∀ i, 0 ≤ f i ∧ f i ≤ 255) (hc : ∀ i, i < len → w.cell? ⟨b, off + i, none⟩ = some (.int .u8 (f i)))
    (h0 : hexB (f 0) = true) (h1 : hexB (f 1) = true) (h2 : hexB (f 2) = true) (h3 : hexB (f 3) = true) :
    Calls Try.prog 3 #[.slice (some ⟨b, off, none⟩) len cap] w fun e w' => e = .returned (.bool true) ∧ Below w.heap.size w w' := by
  have c0 : w.cell? ⟨b, off, none⟩ = some (.int .u8 (f 0)) := hc 0 (by omega)
  have c1 := hc 1 (by omega)
  have c2 := hc 2 (by omega)
  have c3 := hc 3 (by omega)
  have r0 := hexV_rng (f 0)
  have r1 := hexV_rng (f 1)
  have r2 := hexV_rng (f 2)
  have r3 := hexV_rng (f 3)
  have HR : Hid _ := hr
  have HC : Hid (∀ i, i < len → w.cell? ((⟨b, off, none⟩ : Addr).add i) = some (.int .u8 (f i))) := fun i hi => by rw [Go.WideShapes.add_plain]; exact hc i hi
  clear hc hr
  go_enter Try.func3, Try.ntmps3
  go_wp2_with (first
    | (go_at_call 10; refine (digit_any _ _ (HR.out _)).mono ?_; rintro e w' ⟨rfl, rfl⟩)
    | (go_at_call 11; refine (cloneBytes_any _ len cap f _ hl HC.out).mono ?_; rintro e w1 ⟨rfl, hrow, hbel1⟩; have HR1 : Hid _ := hrow; have HB1 : Hid _ := hbel1; clear hrow hbel1)
    | (go_at_call 9; go_in))
  have hB : ∀ i, i < 4 → w1.cell? ⟨w.heap.size, i, none⟩ = some (.int .u8 (f i)) ∧ hexB (f i) = true := fun i hi => ⟨World.rowIs.cell HR1.out (by omega), by
    match i, hi with
    | 0, _ => exact h0
    | 1, _ => exact h1
    | 2, _ => exact h2
    | 3, _ => exact h3⟩
  refine (zzhex4_any w.heap.size len f _ h4 (by omega) hB).mono ?_
  rintro e w' ⟨rfl, rfl⟩
  clear hB
  go_wp2
  go_ret
  have e : (((hexV (f 0) * 16 + hexV (f 1)) * 16 + hexV (f 2)) * 16 + hexV (f 3) == hexV (f 0) * 4096 + hexV (f 1) * 256 + hexV (f 2) * 16 + hexV (f 3)) = true := by
    rw [beq_iff_eq]; omega
  exact ⟨ret_bool e, HB1.out⟩
end Go.Proofs.Qxb6604135a
