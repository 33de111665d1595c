/-
  Seat b6604177a: the contracts of b1NineDigits (13), b1PadNine (14), b1Zeros (15), b1Itoa (16).
-/
import Derived.Test.Qxb6604177aSmall
namespace Go.Proofs.Qxb6604177a
open Go.ChangeShapes Go.WideShapes Go.ChangeAt Go.RowKit

theorem Try.info5 : (Try.prog.info? 5).map (fun i => (i.zero, i.size, i.bytes)) = some (some (.int .u8 0), 1, 1) := by kernel_rfl

/-- 'string(b)' of n bytes that lie at ⟨b, off⟩. -/
theorem conv_txt (w : World) (b off n cap : Nat) (h : Nat → Int) (hc : ∀ i, i < n → w.cell? ⟨b, off + i, none⟩ = some (.int .u8 (h i))) (hr : ∀ i, i < n → 0 ≤ h i ∧ h i ≤ 255) :
    ∃ t, (convert 32 9 (.slice (some ⟨b, off, none⟩) n cap)).run Try.prog w = .ok (.string t) w ∧ Dec.Txt t n h :=
  ⟨_, run_convert_bytes_arg w 32 5 Try.underlying32 Try.underlying5 b off n cap ((List.range n).map h) (by simp) (fun i hi => by
    rw [hc i hi]; simp [List.getD, hi]) 9 Try.underlying9, Dec.txt_nums n h hr⟩

theorem row_set {w : World} {b : Nat} {t : TypeId} {n : Nat} {k : IntKind} {g : Nat → Int} (h : w.rowIs b t n (fun j => .int k (g j))) (i : Nat) (y : Int) : (w.setCell ⟨b, i, none⟩ (.int k y)).rowIs b t n (fun j => .int k (if j = i then y else g j)) :=
  (h.set i (.int k y)).congr fun j _ => by
    by_cases e : j = i
    · rw [if_pos e, if_pos e]
    · rw [if_neg e, if_neg e]

theorem row9 (w : World) : (w.alloc (.cells #[.int .u8 0, .int .u8 0, .int .u8 0, .int .u8 0, .int .u8 0, .int .u8 0, .int .u8 0, .int .u8 0, .int .u8 0] 31)).rowIs w.heap.size 31 9 (fun _ => .int .u8 0) :=
  World.rowIs_alloc w #[.int .u8 0, .int .u8 0, .int .u8 0, .int .u8 0, .int .u8 0, .int .u8 0, .int .u8 0, .int .u8 0, .int .u8 0] 31 (fun _ => .int .u8 0) (fun i hi => by
    match i, hi with
    | 0, _ => rfl
    | 1, _ => rfl
    | 2, _ => rfl
    | 3, _ => rfl
    | 4, _ => rfl
    | 5, _ => rfl
    | 6, _ => rfl
    | 7, _ => rfl
    | 8, _ => rfl)
theorem row10 (w : World) : (w.alloc (.cells #[.int .u8 0, .int .u8 0, .int .u8 0, .int .u8 0, .int .u8 0, .int .u8 0, .int .u8 0, .int .u8 0, .int .u8 0, .int .u8 0] 33)).rowIs w.heap.size 33 10 (fun _ => .int .u8 0) :=
  World.rowIs_alloc w #[.int .u8 0, .int .u8 0, .int .u8 0, .int .u8 0, .int .u8 0, .int .u8 0, .int .u8 0, .int .u8 0, .int .u8 0, .int .u8 0] 33 (fun _ => .int .u8 0) (fun i hi => by
    match i, hi with
    | 0, _ => rfl
    | 1, _ => rfl
    | 2, _ => rfl
    | 3, _ => rfl
    | 4, _ => rfl
    | 5, _ => rfl
    | 6, _ => rfl
    | 7, _ => rfl
    | 8, _ => rfl
    | 9, _ => rfl)

set_option maxHeartbeats 400000 in
theorem nine_any (g : Nat → Int) (w : World) (hD : Dec.Digs g 9) :
    Calls Try.prog 13 #[.int .i32 (Dec.val g 0 9)] w fun e w' => ∃ t, e = .returned (.string t) ∧ Dec.Txt t 9 g ∧ Grown w w' := by
  have HD : Hid (Dec.Digs g 9) := hD
  have HR : Hid _ := row9 w
  have HG : Hid (Grown w (w.alloc (.cells #[.int .u8 0, .int .u8 0, .int .u8 0, .int .u8 0, .int .u8 0, .int .u8 0, .int .u8 0, .int .u8 0, .int .u8 0] 31))) := (Grown.refl w).alloc _ _
  clear hD
  go_enter Try.func13, Try.ntmps13
  go_wp2
  go_loopw [0, 4] (fun nn kk wr => ∃ (k : Nat) (h : Nat → Int), k ≤ 9 ∧ kk = .int .i64 ((k : Int) - 1) ∧ nn = .int .i32 (Dec.val g 0 k) ∧ wr.rowIs w.heap.size 31 9 (fun j => .int .u8 (h j)) ∧ (∀ j, k ≤ j → j < 9 → h j = g j) ∧ Grown w wr) (fun _ kk _ => (intOf kk + 1).toNat)
  case atStart => exact ⟨9, fun _ => 0, by omega, rfl, rfl, HR.out, fun j h1 h2 => by omega, HG.out⟩
  case round =>
    obtain ⟨k, h, hk, rfl, rfl, hrow, hw, hgr⟩ := hrel
    have HR : Hid (wr.rowIs w.heap.size 31 9 (fun j => .int .u8 (h j))) := hrow
    have HW : Hid (∀ j, k ≤ j → j < 9 → h j = g j) := hw
    have HG : Hid (Grown w wr) := hgr
    have hv := Dec.val_nine (g := g) (n := k) (fun j hj => HD.out j (by omega)) hk
    clear hrow hw hgr
    by_cases hlt : 0 < k
    · obtain ⟨j, rfl⟩ : ∃ j, k = j + 1 := ⟨k - 1, by omega⟩
      rw [show (((j + 1 : Nat) : Int) - 1) = ((j : Nat) : Int) from by omega]
      have hcd : wr.cell? ⟨w.heap.size, j, none⟩ = some (.int .u8 (h j)) := World.rowIs.cell HR.out (by omega)
      have hfz := World.rowIs.frozen HR.out j
      have hd := HD.out j (by omega)
      have HV : Hid (Dec.val g 0 (j + 1) = 10 * Dec.val g 0 j + (g j - 48)) := rfl
      have HE : Hid (48 + Dec.val g 0 (j + 1) % 10 = g j ∧ Dec.val g 0 (j + 1) / 10 = Dec.val g 0 j) := by
        have e : Dec.val g 0 (j + 1) = 10 * Dec.val g 0 j + (g j - 48) := rfl
        unfold Hid; omega
      clear hd
      go_wp2
      go_roundw
      case rel =>
        refine ⟨j, _, by omega, rfl, by rw [HE.out.2], row_set HR.out j _, fun i h1 h2 => ?_, Grown.setCell HG.out (Nat.le_refl _) _⟩
        by_cases e : i = j
        · subst e; rw [if_pos rfl]; exact HE.out.1
        · rw [if_neg e]; exact HW.out i (by omega) h2
      case measure => simp [intOf]
    · obtain rfl : k = 0 := by omega
      obtain ⟨t, hcv, hT⟩ := conv_txt wr w.heap.size 0 9 9 g (fun i hi => by rw [Nat.zero_add, ← HW.out i (by omega) hi]; exact World.rowIs.cell HR.out hi) (fun i hi => by have := HD.out i hi; omega)
      have HT : Hid (Dec.Txt t 9 g) := hT
      clear hT
      go_wp2
      go_ret
      exact ⟨t, rfl, HT.out, HG.out⟩

set_option maxHeartbeats 400000 in
theorem pad_any (s : ByteArray) (w : World) (hs : s.size ≤ 9) (hD : Dec.Digs (Dec.byt s) s.size) :
    Calls Try.prog 14 #[.string s] w fun e w' => ∃ t, e = .returned (.string t) ∧ Dec.Txt t 9 (Dec.pad (Dec.byt s) s.size) ∧ Grown w w' := by
  have HD : Hid (Dec.Digs (Dec.pad (Dec.byt s) s.size) 9) := Dec.pad_digs hD hs
  have HR : Hid _ := row9 w
  have HG : Hid (Grown w (w.alloc (.cells #[.int .u8 0, .int .u8 0, .int .u8 0, .int .u8 0, .int .u8 0, .int .u8 0, .int .u8 0, .int .u8 0, .int .u8 0] 31))) := (Grown.refl w).alloc _ _
  clear hD
  go_enter Try.func14, Try.ntmps14
  go_wp2
  go_loopw [5] (fun kk wr => ∃ (k : Nat) (h : Nat → Int), k ≤ 9 ∧ kk = .int .i64 k ∧ wr.rowIs w.heap.size 31 9 (fun j => .int .u8 (h j)) ∧ (∀ j, j < k → h j = Dec.pad (Dec.byt s) s.size j) ∧ Grown w wr) (fun kk _ => 9 - (intOf kk).toNat)
  case atStart => exact ⟨0, fun _ => 0, by omega, rfl, HR.out, fun j h1 => by omega, HG.out⟩
  case round =>
    obtain ⟨k, h, hk, rfl, hrow, hw, hgr⟩ := hrel
    have HR : Hid (wr.rowIs w.heap.size 31 9 (fun j => .int .u8 (h j))) := hrow
    have HW : Hid (∀ j, j < k → h j = Dec.pad (Dec.byt s) s.size j) := hw
    have HG : Hid (Grown w wr) := hgr
    clear hrow hw hgr
    by_cases hlt : k < 9
    · have hcd : wr.cell? ⟨w.heap.size, k, none⟩ = some (.int .u8 (h k)) := World.rowIs.cell HR.out hlt
      have hfz := World.rowIs.frozen HR.out k
      by_cases hp : k < 9 - s.size
      · have HP : Hid (Dec.pad (Dec.byt s) s.size k = 48) := if_pos hp
        go_wp2
        go_roundw
        case rel =>
          refine ⟨k + 1, _, by omega, by go_num, row_set HR.out k _, fun i h1 => ?_, Grown.setCell HG.out (Nat.le_refl _) _⟩
          by_cases e : i = k
          · subst e; rw [if_pos rfl]; exact HP.out.symm
          · rw [if_neg e]; exact HW.out i (by omega)
        case measure => simp [intOf]; omega
      · obtain ⟨q, hq⟩ : ∃ q, k = 9 - s.size + q := ⟨k - (9 - s.size), by omega⟩
        have hqs : q < s.size := by omega
        have HP : Hid (Dec.pad (Dec.byt s) s.size k = (s[q].toNat : Int)) := by
          show (if k < 9 - s.size then (48 : Int) else Dec.byt s (k - (9 - s.size))) = _
          rw [if_neg hp, show k - (9 - s.size) = q from by omega, Dec.byt_at hqs]
        have eix : ((k : Int) - (9 - (s.size : Int))) = (q : Int) := by omega
        have HQ : Hid (k = 9 - s.size + q) := hq
        clear hq
        go_wp2
        go_roundw
        case rel =>
          refine ⟨k + 1, _, by omega, by go_num, row_set HR.out k _, fun i h1 => ?_, Grown.setCell HG.out (Nat.le_refl _) _⟩
          by_cases e : i = k
          · subst e; rw [if_pos rfl]; exact HP.out.symm
          · rw [if_neg e]; exact HW.out i (by omega)
        case measure => simp [intOf]; omega
    · obtain rfl : k = 9 := by omega
      obtain ⟨t, hcv, hT⟩ := conv_txt wr w.heap.size 0 9 9 (Dec.pad (Dec.byt s) s.size) (fun i hi => by rw [Nat.zero_add, ← HW.out i hi]; exact World.rowIs.cell HR.out hi) (fun i hi => by have := HD.out i hi; omega)
      have HT : Hid (Dec.Txt t 9 (Dec.pad (Dec.byt s) s.size)) := hT
      clear hT
      go_wp2
      go_ret
      exact ⟨t, rfl, HT.out, HG.out⟩

set_option maxHeartbeats 400000 in
theorem zeros_any (z : Nat) (w : World) (hz : z ≤ 65536) :
    Calls Try.prog 15 #[.int .i64 z] w fun e w' => ∃ t, e = .returned (.string t) ∧ Dec.Txt t z (fun _ => 48) ∧ Grown w w' := by
  have hmk := run_make_row' (P := Try.prog) 32 5 (.int .u8 0) 1 Try.underlying32 Try.info5 rfl .i64 .i64 z (by omega) (by omega)
  have HR : Hid ((w.alloc (.cells (madeCells #[.int .u8 0] z) 5)).rowIs w.heap.size 5 z (fun _ => .int .u8 0)) := World.rowIs_made w (.int .u8 0) z 5
  have HG : Hid (Grown w (w.alloc (.cells (madeCells #[.int .u8 0] z) 5))) := (Grown.refl w).alloc _ _
  go_enter Try.func15, Try.ntmps15
  go_wp2
  go_loopw [4] (fun kk wr => ∃ (k : Nat) (h : Nat → Int), k ≤ z ∧ kk = .int .i64 k ∧ wr.rowIs w.heap.size 5 z (fun j => .int .u8 (h j)) ∧ (∀ j, j < k → h j = 48) ∧ Grown w wr) (fun kk _ => z - (intOf kk).toNat)
  case atStart => exact ⟨0, fun _ => 0, by omega, rfl, HR.out, fun j h1 => by omega, HG.out⟩
  case round =>
    obtain ⟨k, h, hk, rfl, hrow, hw, hgr⟩ := hrel
    have HR : Hid (wr.rowIs w.heap.size 5 z (fun j => .int .u8 (h j))) := hrow
    have HW : Hid (∀ j, j < k → h j = 48) := hw
    have HG2 : Hid (Grown w wr) := hgr
    clear hrow hw hgr hmk HG
    by_cases hlt : k < z
    · have hcd : wr.cell? ⟨w.heap.size, k, none⟩ = some (.int .u8 (h k)) := World.rowIs.cell HR.out hlt
      have hfz := World.rowIs.frozen HR.out k
      go_wp2
      go_roundw
      case rel =>
        refine ⟨k + 1, _, by omega, by go_num, row_set HR.out k _, fun i h1 => ?_, Grown.setCell HG2.out (Nat.le_refl _) _⟩
        by_cases e : i = k
        · subst e; rw [if_pos rfl]
        · rw [if_neg e]; exact HW.out i (by omega)
      case measure => simp [intOf]; omega
    · obtain rfl : k = z := by omega
      obtain ⟨t, hcv, hT⟩ := conv_txt wr w.heap.size 0 k k (fun _ => 48) (fun i hi => by rw [Nat.zero_add, ← HW.out i hi]; exact World.rowIs.cell HR.out hi) (fun i hi => by omega)
      have HT : Hid (Dec.Txt t k (fun _ => 48)) := hT
      clear hT
      go_wp2
      go_ret
      exact ⟨t, rfl, HT.out, HG2.out⟩

theorem txt_zero : Dec.Txt { data := #[48] } 1 (fun _ => 48) := ⟨rfl, fun k h => by
  have h' : k < 1 := h
  match k, h' with
  | 0, _ => rfl⟩

theorem itoa_zero (w : World) : Calls Try.prog 16 #[.int .i32 0] w fun e w' => e = .returned (.string { data := #[48] }) ∧ w = w' := by
  go_enter Try.func16, Try.ntmps16
  go_wp2
  go_ret
  exact ⟨rfl, rfl⟩

/-- 'b[i:]' of the array of ten bytes. -/
theorem slice33 (w : World) (B i : Nat) (h : i < 10) : (Instr.sliceAt 33 (.pointer (some ⟨B, 0, none⟩)) (some (.int .i64 (i : Int))) none none).run Try.prog w = .ok (.slice (some ⟨B, i, none⟩) (10 - i) (10 - i)) w := by
  rcases (show i = 0 ∨ i = 1 ∨ i = 2 ∨ i = 3 ∨ i = 4 ∨ i = 5 ∨ i = 6 ∨ i = 7 ∨ i = 8 ∨ i = 9 from by omega) with rfl | rfl | rfl | rfl | rfl | rfl | rfl | rfl | rfl | rfl
  all_goals kernel_rfl

/-- One digit is written ahead of the others. -/
theorem itoa_step {h : Nat → Int} {p : Nat} {q N : Int} (hp : p ≤ 9) (hv : Dec.val (fun k => h (p + 1 + k)) q (10 - (p + 1)) = N) (_hq : 0 ≤ q) :
    Dec.val (fun k => (fun i => if i = p then 48 + q % 10 else h i) (p + k)) (q / 10) (10 - p) = N := by
  have e := Dec.val_step (fun i => if i = p then 48 + q % 10 else h i) p (10 - (p + 1)) (q / 10) (q % 10) (if_pos rfl)
  rw [show 10 - (p + 1) + 1 = 10 - p from by omega, show 10 * (q / 10) + q % 10 = q from by omega] at e
  rw [e, ← hv]
  exact Dec.val_congr q _ (fun k _ => if_neg (by omega))

set_option maxHeartbeats 400000 in
theorem itoa_any (N : Int) (w : World) (hN : 0 < N) (hN2 : N ≤ 999999999) :
    Calls Try.prog 16 #[.int .i32 N] w fun e w' => ∃ t, e = .returned (.string t) ∧ ∃ m g, Dec.Txt t m g ∧ 0 < m ∧ m ≤ 9 ∧ Dec.Digs g m ∧ Dec.val g 0 m = N ∧ Grown w w' := by
  have HR : Hid _ := row10 w
  have HG : Hid (Grown w (w.alloc (.cells #[.int .u8 0, .int .u8 0, .int .u8 0, .int .u8 0, .int .u8 0, .int .u8 0, .int .u8 0, .int .u8 0, .int .u8 0, .int .u8 0] 33))) := (Grown.refl w).alloc _ _
  have hN0 : (N == 0) = false := by rw [beq_eq_false_iff_ne]; omega
  go_enter Try.func16, Try.ntmps16
  go_wp2
  go_loopw [0, 4] (fun nn ii wr => ∃ (i : Nat) (q : Int) (h : Nat → Int), 1 ≤ i ∧ i ≤ 10 ∧ ii = .int .i64 i ∧ nn = .int .i32 q ∧ 0 ≤ q ∧ q ≤ 999999999 ∧ q < 10 ^ (i - 1) ∧ wr.rowIs w.heap.size 33 10 (fun j => .int .u8 (h j)) ∧ (∀ j, i ≤ j → j < 10 → 48 ≤ h j ∧ h j ≤ 57) ∧ Dec.val (fun k => h (i + k)) q (10 - i) = N ∧ Grown w wr) (fun nn _ _ => (intOf nn).toNat)
  case atStart => exact ⟨10, N, fun _ => 0, by omega, by omega, rfl, rfl, by omega, hN2, by show N < 1000000000; omega, HR.out, fun j h1 h2 => by omega, rfl, HG.out⟩
  case round =>
    obtain ⟨i, q, h, hi1, hi2, rfl, rfl, hq0, hq9, hqp, hrow, hdg, hv, hgr⟩ := hrel
    have HR2 : Hid (wr.rowIs w.heap.size 33 10 (fun j => .int .u8 (h j))) := hrow
    have HW : Hid (∀ j, i ≤ j → j < 10 → 48 ≤ h j ∧ h j ≤ 57) := hdg
    have HG2 : Hid (Grown w wr) := hgr
    have HV : Hid (Dec.val (fun k => h (i + k)) q (10 - i) = N) := hv
    have HQ : Hid (q < 10 ^ (i - 1)) := hqp
    clear hrow hdg hgr hv hqp HR HG
    by_cases hlt : 0 < q
    · obtain ⟨p, rfl⟩ : ∃ p, i = p + 1 := ⟨i - 1, by omega⟩
      have hp : 1 ≤ p := by
        rcases Nat.eq_zero_or_pos p with c | c
        · subst c
          have := HQ.out
          have e : (10 : Int) ^ (0 + 1 - 1) = 1 := by decide
          omega
        · exact c
      have hcd : wr.cell? ⟨w.heap.size, p, none⟩ = some (.int .u8 (h p)) := World.rowIs.cell HR2.out (by omega)
      have hfz := World.rowIs.frozen HR2.out p
      have HQ2 : Hid (q / 10 < 10 ^ (p - 1)) := by
        have h1 := HQ.out
        obtain ⟨r, rfl⟩ : ∃ r, p = r + 1 := ⟨p - 1, by omega⟩
        have e : (10 : Int) ^ (r + 1 + 1 - 1) = 10 ^ r * 10 := Int.pow_succ 10 r
        show q / 10 < 10 ^ r
        omega
      have HV2 : Hid (Dec.val (fun k => (fun i => if i = p then 48 + q % 10 else h i) (p + k)) (q / 10) (10 - p) = N) := itoa_step (by omega) HV.out hq0
      go_wp2
      go_roundw
      case rel =>
        refine ⟨p, q / 10, _, hp, by omega, by go_num, rfl, by omega, by omega, HQ2.out, row_set HR2.out p _, fun j h1 h2 => ?_, HV2.out, Grown.setCell HG2.out (Nat.le_refl _) _⟩
        by_cases e : j = p
        · subst e; rw [if_pos rfl]; omega
        · rw [if_neg e]; exact HW.out j (by omega) h2
      case measure => simp [intOf]; omega
    · obtain rfl : q = 0 := by omega
      have hi10 : i < 10 := by
        rcases Nat.lt_or_ge i 10 with c | c
        · exact c
        · obtain rfl : i = 10 := by omega
          have e : (0 : Int) = N := HV.out
          omega
      obtain ⟨t, hcv, hT⟩ := conv_txt wr w.heap.size i (10 - i) (10 - i) (fun k => h (i + k)) (fun k hk => World.rowIs.cell HR2.out (by omega)) (fun k hk => by have := HW.out (i + k) (by omega) (by omega); omega)
      have HT : Hid (Dec.Txt t (10 - i) (fun k => h (i + k))) := hT
      clear hT
      have hsl := slice33 wr w.heap.size i hi10
      go_wp2
      go_ret
      exact ⟨t, rfl, 10 - i, _, HT.out, by omega, by omega, fun k hk => HW.out (i + k) (by omega) (by omega), HV.out, HG2.out⟩
end Go.Proofs.Qxb6604177a
