/-
  Seat b6604135a: the walk of FnHex4ReadsBackEncodedValue (4).
-/
import Derived.Test.Qxb6604135aHex
namespace Go.Proofs.Qxb6604135a
open Go.ChangeShapes Go.WideShapes Go.ChangeAt Go.RowKit

/-- The digit that zzHexChar writes. -/
def hexC (d : Int) (u : Bool) : Int := if d < 10 then 48 + d else if u then 55 + d else 87 + d

theorem hexC_B (d : Int) (u : Bool) (h : 0 ≤ d ∧ d ≤ 15) : hexB (hexC d u) = true ∧ hexV (hexC d u) = d := by
  cases u
  · have e : hexC d false = if d < 10 then 48 + d else 87 + d := rfl
    rw [e]
    by_cases h1 : d < 10
    · rw [if_pos h1]
      exact ⟨decide_eq_true (by omega), by unfold hexV; rw [if_pos (by omega)]; omega⟩
    · rw [if_neg h1]
      exact ⟨decide_eq_true (by omega), by unfold hexV; rw [if_neg (by omega), if_pos (by omega)]; omega⟩
  · have e : hexC d true = if d < 10 then 48 + d else 55 + d := rfl
    rw [e]
    by_cases h1 : d < 10
    · rw [if_pos h1]
      exact ⟨decide_eq_true (by omega), by unfold hexV; rw [if_pos (by omega)]; omega⟩
    · rw [if_neg h1]
      exact ⟨decide_eq_true (by omega), by unfold hexV; rw [if_neg (by omega), if_neg (by omega), if_pos (by omega)]; omega⟩

theorem ret_u8 {k : IntKind} {a b : Int} (h : a = b) : Ending.returned (.int k a) = .returned (.int k b) := by rw [h]

theorem char_any (d : Int) (u : Bool) (w : World) (h : 0 ≤ d ∧ d ≤ 15) :
    Calls Try.prog 14 #[.int .i64 d, .bool u] w fun e w' => e = .returned (.int .u8 (hexC d u)) ∧ w = w' := by
  by_cases h1 : d < 10
  · have e : hexC d u = 48 + d := by unfold hexC; rw [if_pos h1]
    rw [e]; clear e
    go_enter Try.func14, Try.ntmps14
    go_wp2
    go_ret
    exact ⟨rfl, rfl⟩
  · cases u
    · have e : hexC d false = 87 + d := by unfold hexC; rw [if_neg h1]; rfl
      rw [e]; clear e
      go_enter Try.func14, Try.ntmps14
      go_wp2
      go_ret
      exact ⟨ret_u8 (by omega), rfl⟩
    · have e : hexC d true = 55 + d := by unfold hexC; rw [if_neg h1]; rfl
      rw [e]; clear e
      go_enter Try.func14, Try.ntmps14
      go_wp2
      go_ret
      exact ⟨ret_u8 (by omega), rfl⟩

theorem back_big (v m : Int) (x : Option Addr) (len cap : Nat) (w : World) (h : 1048576 < len) (hm : len ≤ 9223372036854775807) :
    Calls Try.prog 4 #[.int .u16 v, .int .u8 m, .slice x len cap] w fun e w' => e = .returned (.bool true) ∧ w = w' := by
  go_enter Try.func4, Try.ntmps4
  go_wp2
  go_ret
  exact ⟨rfl, rfl⟩

/-- What is left of v when k digits are still to be written. -/
def Wv (v : Int) (k : Nat) : Int := if k = 0 then v / 65536 else if k = 1 then v / 4096 else if k = 2 then v / 256 else if k = 3 then v / 16 else v
theorem Wv_step (v : Int) (k : Nat) (h : k < 4) : Wv v k = Wv v (k + 1) / 16 := by
  match k, h with
  | 0, _ => show v / 65536 = v / 4096 / 16; omega
  | 1, _ => show v / 4096 = v / 256 / 16; omega
  | 2, _ => show v / 256 = v / 16 / 16; omega
  | 3, _ => rfl
theorem Wv_rng (v : Int) (k : Nat) (h : 0 ≤ v ∧ v ≤ 65535) : 0 ≤ Wv v k ∧ Wv v k ≤ 65535 := by
  unfold Wv; split; omega; split; omega; split; omega; split <;> omega
theorem Wv_back (v : Int) (h : 0 ≤ v ∧ v ≤ 65535) : ((Wv v 1 % 16 * 16 + Wv v 2 % 16) * 16 + Wv v 3 % 16) * 16 + Wv v 4 % 16 = v := by
  show ((v / 4096 % 16 * 16 + v / 256 % 16) * 16 + v / 16 % 16) * 16 + v % 16 = v
  omega

/-- The digits from place k on stand as they should. -/
def Writ (v : Int) (k : Nat) (g : Nat → Int) : Prop := ∀ j, k ≤ j → j < 4 → hexB (g j) = true ∧ hexV (g j) = Wv v (j + 1) % 16
theorem writ_step {v : Int} {j : Nat} {g : Nat → Int} (h : Writ v (j + 1) g) (u : Bool) (hr : 0 ≤ Wv v (j + 1) % 16 ∧ Wv v (j + 1) % 16 ≤ 15) : Writ v j (fun i => if i = j then hexC (Wv v (j + 1) % 16) u else g i) := by
  intro i h1 h2
  by_cases e : i = j
  · subst e; simp only [if_pos]; exact hexC_B _ u hr
  · simp only [if_neg e]; exact h i (by omega) h2
theorem row_set {w : World} {b : Nat} {t : TypeId} {n : Nat} {k : IntKind} {g : Nat → Int} (h : w.rowIs b t n (fun j => .int k (g j))) (i : Nat) (y : Int) : (w.setCell ⟨b, i, none⟩ (.int k y)).rowIs b t n (fun j => .int k (if j = i then y else g j)) :=
  (h.set i (.int k y)).congr fun j _ => by
    by_cases e : j = i
    · rw [if_pos e, if_pos e]
    · rw [if_neg e, if_neg e]

set_option maxHeartbeats 1000000 in
theorem back_any (v m : Int) (x : Addr) (len cap : Nat) (f : Nat → Int) (w : World) (hl : len ≤ 1048576) (hv : 0 ≤ v ∧ v ≤ 65535) (_hm : 0 ≤ m ∧ m ≤ 255) (hc : ∀ i, i < len → w.cell? (x.add i) = some (.int .u8 (f i))) :
    Calls Try.prog 4 #[.int .u16 v, .int .u8 m, .slice (some x) len cap] w fun e w' => e = .returned (.bool true) ∧ Below w.heap.size w w' := by
  have hmk := run_make_row' (P := Try.prog) 22 5 (.int .u8 0) 1 Try.underlying22 Try.info5 rfl .i64 .i64 (4 + len) (by omega) (by omega)
  rw [show ((4 + len : Nat) : Int) = 4 + (len : Int) from by omega] at hmk
  have HC : Hid _ := hc
  clear hc
  go_enter Try.func4, Try.ntmps4
  go_wp2_with (first
    | (go_at_call 11; refine (cloneBytes_any _ len cap f _ hl HC.out).mono ?_; rintro e w1 ⟨rfl, hrow, hbel1⟩; have HR1 : Hid _ := hrow; have HB1 : Hid _ := hbel1; clear hrow hbel1)
    | (go_at_call 13; go_in))
  have hz1 : w.heap.size < w1.heap.size := World.rowIs.lt HR1.out
  have hmr := World.rowIs_made w1 (.int .u8 0) (4 + len) 5
  have hbw : Below w1.heap.size w1 (w1.alloc (.cells (madeCells #[.int .u8 0] (4 + len)) 5)) := (Below.refl _ _).alloc (Nat.le_refl _) _
  have HM : Hid _ := hmr
  have HB : Hid _ := hbw
  clear hmr hbw hmk
  go_loopw [8, 9] (fun wv i wr => ∃ (k : Nat) (g : Nat → Int), k ≤ 4 ∧ i = .int .i64 ((k : Int) - 1) ∧ wv = .int .i64 (Wv v k) ∧ wr.rowIs w1.heap.size 5 (4 + len) (fun j => .int .u8 (g j)) ∧ Writ v k g ∧ Below w1.heap.size w1 wr) (fun _ i _ => (intOf i + 1).toNat)
  case atStart => exact ⟨4, fun _ => 0, by omega, rfl, rfl, HM.out, fun j h1 h2 => by omega, HB.out⟩
  case round =>
    obtain ⟨k, g, hk, rfl, rfl, hrow, hwrit, hbel⟩ := hrel
    have HW : Hid _ := hwrit
    clear HM HB hwrit
    have hwr := Wv_rng v k hv
    by_cases hlt : 0 < k
    · obtain ⟨j, rfl⟩ : ∃ j, k = j + 1 := ⟨k - 1, by omega⟩
      rw [show (((j + 1 : Nat) : Int) - 1) = ((j : Nat) : Int) from by omega]
      have hcd : wr.cell? ⟨w1.heap.size, j, none⟩ = some (.int .u8 (g j)) := hrow.cell (by omega)
      have hfz := hrow.frozen j
      have HS : Hid _ := Wv_step v j (by omega)
      have HR : Hid _ := hrow
      have HB : Hid _ := hbel
      clear hrow hbel
      go_wp2_with (go_at_call 14; refine (char_any _ _ _ (by omega)).mono ?_; rintro e w' ⟨rfl, rfl⟩)
      go_roundw
      case rel => exact ⟨j, _, by omega, rfl, by rw [HS.out], row_set HR.out j _, writ_step HW.out _ (by omega), Below.setCell HB.out (Nat.le_refl _) _⟩
      case measure => simp [intOf]
    · obtain rfl : k = 0 := by omega
      obtain ⟨wo, rfl⟩ : ∃ wo : World, wo = wr := ⟨_, rfl⟩
      have HR : Hid _ := hrow
      have HB : Hid _ := hbel
      clear hrow hbel
      go_wp2
      go_loopw [10] (fun i wr => ∃ (k : Nat) (g' : Nat → Int), k ≤ len ∧ i = .int .i64 k ∧ wr.rowIs w1.heap.size 5 (4 + len) (fun j => .int .u8 (g' j)) ∧ (∀ j, j < 4 → g' j = g j) ∧ Below w1.heap.size w1 wr) (fun i _ => len - (intOf i).toNat)
      case atStart => exact ⟨0, g, by omega, rfl, HR.out, fun _ _ => rfl, HB.out⟩
      case round =>
        obtain ⟨k, g', hk, rfl, hrow, hgg, hbel⟩ := hrel
        clear HR HB
        have HG : Hid _ := hgg
        clear hgg
        by_cases hlt2 : k < len
        · have hcs : wr.cell? ⟨w.heap.size, k, none⟩ = some (.int .u8 (f k)) := (hbel.cell (p := ⟨w.heap.size, k, none⟩) hz1).trans (World.rowIs.cell HR1.out hlt2)
          have hcd : wr.cell? ⟨w1.heap.size, 4 + k, none⟩ = some (.int .u8 (g' (4 + k))) := hrow.cell (by omega)
          have hfz := hrow.frozen (4 + k)
          have HR : Hid _ := hrow
          have HB : Hid _ := hbel
          clear hrow hbel
          go_wp2
          go_roundw
          case rel => exact ⟨k + 1, _, by omega, by go_num, row_set HR.out (4 + k) _, fun j hj => by rw [if_neg (by omega)]; exact HG.out j hj, Below.setCell HB.out (Nat.le_refl _) _⟩
          case measure => simp [intOf]; omega
        · have HE : Hid (Below w.heap.size w wr) := (Below.trans HB1.out (hbel.mono (by omega)))
          have hB : ∀ i, i < 4 → wr.cell? ⟨w1.heap.size, i, none⟩ = some (.int .u8 (g' i)) ∧ hexB (g' i) = true := fun i hi => ⟨hrow.cell (by omega), by rw [HG.out i hi]; exact (HW.out i (by omega) hi).1⟩
          have hV : ∀ i, i < 4 → hexV (g' i) = Wv v (i + 1) % 16 := fun i hi => by rw [HG.out i hi]; exact (HW.out i (by omega) hi).2
          have hval : ((hexV (g' 0) * 16 + hexV (g' 1)) * 16 + hexV (g' 2)) * 16 + hexV (g' 3) = v := by
            rw [hV 0 (by omega), hV 1 (by omega), hV 2 (by omega), hV 3 (by omega)]; exact Wv_back v hv
          have HBB : Hid _ := hB
          clear hrow hbel hB hV
          go_wp2_with (go_at_call 12; refine (zzhex4_any w1.heap.size (4 + len) g' _ (by omega) (by omega) HBB.out).mono ?_; rw [hval]; rintro e w' ⟨rfl, rfl⟩)
          go_ret
          exact ⟨rfl, HE.out⟩
set_option maxHeartbeats 1000000 in
theorem back_nil (v m : Int) (w : World) (hv : 0 ≤ v ∧ v ≤ 65535) (_hm : 0 ≤ m ∧ m ≤ 255) :
    Calls Try.prog 4 #[.int .u16 v, .int .u8 m, .slice none 0 0] w fun e w' => e = .returned (.bool true) ∧ Below w.heap.size w w' := by
  have hmk := run_make_row' (P := Try.prog) 22 5 (.int .u8 0) 1 Try.underlying22 Try.info5 rfl .i64 .i64 4 (by omega) (by omega)
  rw [show ((4 : Nat) : Int) = 4 from rfl] at hmk
  go_enter Try.func4, Try.ntmps4
  go_wp2_with (first
    | (go_at_call 11; refine (cloneBytes_nil _).mono ?_; rintro e w ⟨rfl, rfl⟩)
    | (go_at_call 13; go_in))
  have hmr := World.rowIs_made w (.int .u8 0) 4 5
  have hbw : Below w.heap.size w (w.alloc (.cells (madeCells #[.int .u8 0] 4) 5)) := (Below.refl _ _).alloc (Nat.le_refl _) _
  have HM : Hid _ := hmr
  have HB : Hid _ := hbw
  clear hmr hbw hmk
  go_loopw [8, 9] (fun wv i wr => ∃ (k : Nat) (g : Nat → Int), k ≤ 4 ∧ i = .int .i64 ((k : Int) - 1) ∧ wv = .int .i64 (Wv v k) ∧ wr.rowIs w.heap.size 5 4 (fun j => .int .u8 (g j)) ∧ Writ v k g ∧ Below w.heap.size w wr) (fun _ i _ => (intOf i + 1).toNat)
  case atStart => exact ⟨4, fun _ => 0, by omega, rfl, rfl, HM.out, fun j h1 h2 => by omega, HB.out⟩
  case round =>
    obtain ⟨k, g, hk, rfl, rfl, hrow, hwrit, hbel⟩ := hrel
    have HW : Hid _ := hwrit
    clear HM HB hwrit
    have hwr := Wv_rng v k hv
    by_cases hlt : 0 < k
    · obtain ⟨j, rfl⟩ : ∃ j, k = j + 1 := ⟨k - 1, by omega⟩
      rw [show (((j + 1 : Nat) : Int) - 1) = ((j : Nat) : Int) from by omega]
      have hcd : wr.cell? ⟨w.heap.size, j, none⟩ = some (.int .u8 (g j)) := hrow.cell (by omega)
      have hfz := hrow.frozen j
      have HS : Hid _ := Wv_step v j (by omega)
      have HR : Hid _ := hrow
      have HB : Hid _ := hbel
      clear hrow hbel
      go_wp2_with (go_at_call 14; refine (char_any _ _ _ (by omega)).mono ?_; rintro e w' ⟨rfl, rfl⟩)
      go_roundw
      case rel => exact ⟨j, _, by omega, rfl, by rw [HS.out], row_set HR.out j _, writ_step HW.out _ (by omega), Below.setCell HB.out (Nat.le_refl _) _⟩
      case measure => simp [intOf]
    · obtain rfl : k = 0 := by omega
      obtain ⟨wo, rfl⟩ : ∃ wo : World, wo = wr := ⟨_, rfl⟩
      have HR : Hid _ := hrow
      have HB : Hid _ := hbel
      clear hrow hbel
      go_wp2
      refine wp_loop_rounds 1 ?_
      rw [rounds_succ]
      have hB : ∀ i, i < 4 → wo.cell? ⟨w.heap.size, i, none⟩ = some (.int .u8 (g i)) ∧ hexB (g i) = true := fun i hi => ⟨World.rowIs.cell HR.out (by omega), (HW.out i (by omega) hi).1⟩
      have hV : ∀ i, i < 4 → hexV (g i) = Wv v (i + 1) % 16 := fun i hi => (HW.out i (by omega) hi).2
      have hval : ((hexV (g 0) * 16 + hexV (g 1)) * 16 + hexV (g 2)) * 16 + hexV (g 3) = v := by
        rw [hV 0 (by omega), hV 1 (by omega), hV 2 (by omega), hV 3 (by omega)]; exact Wv_back v hv
      have HBB : Hid _ := hB
      clear hB hV
      go_wp2_with (go_at_call 12; refine (zzhex4_any w.heap.size 4 g _ (by omega) (by omega) HBB.out).mono ?_; rw [hval]; rintro e w' ⟨rfl, rfl⟩)
      go_ret
      exact ⟨rfl, HB.out⟩
end Go.Proofs.Qxb6604135a
