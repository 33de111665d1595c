/-
  Seat b6604135a: the walk of FnFirstLowOverBuiltLevels (7).
-/
import Derived.Test.Qxb6604135aLowZ
namespace Go.Proofs.Qxb6604135a
open Go.ChangeShapes Go.WideShapes Go.ChangeAt Go.RowKit

theorem ret_bool {a b : Bool} (h : a = b) : Ending.returned (.bool a) = .returned (.bool b) := by rw [h]

theorem over_big (x : Option Addr) (len cap : Nat) (b d : Int) (w : World) (h : 1048576 < len) (hm : len ≤ 9223372036854775807) :
    Calls Try.prog 7 #[.slice x len cap, .int .i64 b, .int .i64 d] w fun e w' => e = .returned (.bool true) ∧ w = w' := by
  go_enter Try.func7, Try.ntmps7
  go_wp2
  go_ret
  exact ⟨rfl, rfl⟩
theorem over_mid (x : Option Addr) (len cap : Nat) (b d : Int) (w : World) (h : 65536 < len) (hm : len ≤ 1048576) :
    Calls Try.prog 7 #[.slice x len cap, .int .i64 b, .int .i64 d] w fun e w' => e = .returned (.bool true) ∧ w = w' := by
  go_enter Try.func7, Try.ntmps7
  go_wp2
  go_ret
  exact ⟨rfl, rfl⟩
theorem over_neg (x : Option Addr) (len cap : Nat) (b d : Int) (w : World) (hm : len ≤ 65536) (hb : b < 0) :
    Calls Try.prog 7 #[.slice x len cap, .int .i64 b, .int .i64 d] w fun e w' => e = .returned (.bool true) ∧ w = w' := by
  go_enter Try.func7, Try.ntmps7
  go_wp2
  go_ret
  exact ⟨rfl, rfl⟩

theorem make0 (w : World) : (Instr.makeSlice 37 (.int .i64 0) (.int .i64 0)).run Try.prog w = .ok (.slice (some ⟨w.heap.size, 0, none⟩) 0 0) (w.alloc (.cells (madeCells #[.int .u16 0] 0) 28)) :=
  run_make_row' (P := Try.prog) 37 28 (.int .u16 0) 2 Try.underlying37 Try.info28 rfl .i64 .i64 0 (by omega) (by omega) w

/-- A call made behind others, in new memory. -/
theorem below_call {w w1 w2 : World} (h1 : Below w.heap.size w w1) (o : Obj) (h2 : Below (w1.alloc o).heap.size (w1.alloc o) w2) : Below w.heap.size w w2 :=
  (h1.alloc h1.size o).trans (h2.mono (by have := h1.size; simp; omega))
theorem below_next {w w1 w2 : World} (h1 : Below w.heap.size w w1) (h2 : Below w1.heap.size w1 w2) : Below w.heap.size w w2 := h1.trans (h2.mono h1.size)

set_option maxHeartbeats 400000 in
theorem over_nil (b : Nat) (d : Int) (w : World) (hb : b ≤ 9223372036854775807) :
    Calls Try.prog 7 #[.slice none 0 0, .int .i64 b, .int .i64 d] w fun e w' => e = .returned (.bool true) ∧ Below w.heap.size w w' := by
  have hmk := make0
  go_enter Try.func7, Try.ntmps7
  go_wp2_with (first
    | (go_at_call 21; refine (cloneU16_nil _).mono ?_; rintro e w' ⟨rfl, rfl⟩)
    | (go_at_call 26; refine (build_empty _ _).mono ?_; rintro e w1 ⟨rfl, hb1⟩; have HB1 : Hid (Below w.heap.size w w1) := hb1; clear hb1)
    | (go_at_call 25; go_in))
  refine (zz_none _ _ 0 _ _ _ _ b d _ _ (Nat.zero_le _) hb rfl).mono ?_
  rintro e w2 ⟨rfl, hb2⟩
  have HB2 : Hid (Below w.heap.size w w2) := below_call HB1.out _ hb2
  clear hb2 hmk
  go_wp2_with (go_at_call 24; refine (lin_empty _ _ _ _ _ (by omega)).mono ?_; rintro e w3 ⟨rfl, rfl⟩)
  go_ret
  exact ⟨rfl, HB2.out⟩

set_option maxHeartbeats 400000 in
theorem over_empty (x : Addr) (cap b : Nat) (d : Int) (w : World) (hb : b ≤ 9223372036854775807) :
    Calls Try.prog 7 #[.slice (some x) 0 cap, .int .i64 b, .int .i64 d] w fun e w' => e = .returned (.bool true) ∧ Below w.heap.size w w' := by
  have hmk := make0
  go_enter Try.func7, Try.ntmps7
  go_wp2_with (first
    | (go_at_call 21; refine (cloneU16_any x 0 cap (fun _ => 0) _ (by omega) (fun i hi => absurd hi (by omega))).mono ?_; rintro e w0 ⟨rfl, hrow, hb0⟩; have HB0 : Hid (Below w.heap.size w w0) := hb0; clear hb0 hrow)
    | (go_at_call 26; refine (build_empty _ _).mono ?_; rintro e w1 ⟨rfl, hb1⟩; have HB1 : Hid (Below w.heap.size w w1) := below_next HB0.out hb1; clear hb1)
    | (go_at_call 25; go_in))
  refine (zz_none _ _ 0 _ _ _ _ b d _ _ (Nat.zero_le _) hb rfl).mono ?_
  rintro e w2 ⟨rfl, hb2⟩
  have HB2 : Hid (Below w.heap.size w w2) := below_call HB1.out _ hb2
  clear hb2 hmk
  go_wp2_with (go_at_call 24; refine (lin_empty _ _ _ _ _ (by omega)).mono ?_; rintro e w3 ⟨rfl, rfl⟩)
  go_ret
  exact ⟨rfl, HB2.out⟩

set_option maxHeartbeats 400000 in
theorem over_main (x : Addr) (len cap b : Nat) (f : Nat → Int) (d : Int) (w : World) (h0 : 0 < len) (hl : len ≤ 65536) (hb : b ≤ 9223372036854775807) (hc : ∀ i, i < len → w.cell? (x.add i) = some (.int .u16 (f i))) (hf : ∀ i, 0 ≤ f i ∧ f i ≤ 65535) :
    Calls Try.prog 7 #[.slice (some x) len cap, .int .i64 b, .int .i64 d] w fun e w' => e = .returned (.bool true) ∧ Below w.heap.size w w' := by
  have hmk := run_make_row' (P := Try.prog) 37 28 (.int .u16 0) 2 Try.underlying37 Try.info28 rfl .i64 .i64 len (by omega) (by omega)
  have HC : Hid (∀ i, i < len → w.cell? (x.add i) = some (.int .u16 (f i))) := hc
  have HF : Hid (∀ i, 0 ≤ f i ∧ f i ≤ 65535) := hf
  clear hc hf
  go_enter Try.func7, Try.ntmps7
  go_wp2_with (first
    | (go_at_call 21; refine (cloneU16_any x len cap f _ (by omega) HC.out).mono ?_; rintro e w0 ⟨rfl, hrow, hb0⟩; have HB0 : Hid (Below w.heap.size w w0) := hb0; have HN0 : Hid (Nums w0 w.heap.size len f) := fun i hi => ⟨hrow.cell hi, HF.out i⟩; clear hb0 hrow)
    | (go_at_call 25; go_in))
  refine (build_any w.heap.size len f _ h0 hl HN0.out).mono ?_
  rintro e w1 ⟨B, K, Kc, A, N, L, rfl, hK, hLv, hWF, hN, hL, hA, hb1⟩
  have HB1 : Hid (Below w.heap.size w w1) := below_next HB0.out hb1
  have HN1 : Hid (Nums w1 w.heap.size len f) := Nums.below HN0.out hb1 (fun h => Nums.lt HN0.out h)
  have HLv : Hid (Levels w1 B K A N L) := hLv
  have HWF : Hid (Low.WF K N L) := hWF
  have HNe : Hid (N 0 = len) := hN
  have HLe : Hid (L 0 = f) := hL
  clear hb1 hLv hWF hN hL hA
  go_wp2_with fail
  refine (zz_any _ len len B K Kc A N L 0 b d b f _ (by omega) (Levels.kept HLv.out ((Below.refl _ _).alloc (Nat.le_refl _) _)) HWF.out HNe.out HLe.out hb rfl).mono ?_
  rintro e w2 ⟨r, rfl, hr, hb2⟩
  have HB2 : Hid (Below w.heap.size w w2) := below_call HB1.out _ hb2
  have HN2 : Hid (Nums w2 w.heap.size len f) := Nums.below (Nums.alloc HN1.out _) hb2 (fun h => Nums.lt (Nums.alloc HN1.out _) h)
  have HR : Hid (Low.IsFirst f len b d r) := hr
  clear hr hb2 hmk
  go_wp2_with fail
  refine (lin_any w.heap.size len f b d _ (by omega) hb HN2.out).mono ?_
  rintro e w3 ⟨r', rfl, hr', rfl⟩
  obtain rfl := Low.first_one HR.out hr'
  clear hr'
  go_wp2
  go_ret
  exact ⟨rfl, HB2.out⟩
end Go.Proofs.Qxb6604135a
