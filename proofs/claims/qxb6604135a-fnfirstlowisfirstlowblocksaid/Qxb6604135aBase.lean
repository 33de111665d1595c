/-
  Seat b6604135a: what all six proofs share: closed facts on the program's types; the contracts of zzCloneBytes (11) and zzCloneU16 (21).
-/
import Derived.Test.Qxb6604135aRows
import Derived.WalkKit
import Derived.ProofKit
import Derived.WalkSpells
import Derived.Below
import Derived.Lib.SliceRun
import Derived.Deep.OwnRows
namespace Go.Proofs.Qxb6604135a
open Go.ChangeShapes Go.WideShapes Go.ChangeAt Go.RowKit

theorem Try.info5 : (Try.prog.info? 5).map (fun i => (i.zero, i.size, i.bytes)) = some (some (.int .u8 0), 1, 1) := by kernel_rfl
theorem Try.info28 : (Try.prog.info? 28).map (fun i => (i.zero, i.size, i.bytes)) = some (some (.int .u16 0), 1, 2) := by kernel_rfl

/-- Where a slice has an element its address is a plain one, in a block that is there. -/
theorem addr_at {w : World} {x : Addr} {len : Nat} {g : Nat → Value} (h : ∀ i, i < len → w.cell? (x.add i) = some (g i)) (hp : 0 < len) :
    ∃ b off, x = ⟨b, off, none⟩ ∧ b < w.heap.size ∧ ∀ j, j < len → w.cell? ⟨b, off + j, none⟩ = some (g j) := by
  obtain ⟨b, off, spot⟩ := x
  have hspot : spot = none := by simpa [Addr.add] using World.cell?_spot (h 0 hp)
  subst hspot
  have h' : ∀ j, j < len → w.cell? ⟨b, off + j, none⟩ = some (g j) := fun j hj => by rw [← Go.WideShapes.add_plain]; exact h j hj
  exact ⟨b, off, rfl, World.block_lt_of_cell? _ _ (h' 0 hp), h'⟩

/-- One round of a copy: cell k is written. -/
theorem row_step {w : World} {b : Nat} {t : TypeId} {n : Nat} {g : Nat → Value} {z : Value} {k : Nat} (h : w.rowIs b t n (fun j => if j < k then g j else z)) :
    (w.setCell ⟨b, k, none⟩ (g k)).rowIs b t n (fun j => if j < k + 1 then g j else z) := by
  refine (h.set k (g k)).congr fun i hi => ?_
  by_cases e : i = k
  · subst e; simp
  · by_cases h2 : i < k
    · rw [if_neg e, if_pos h2, if_pos (by omega)]
    · rw [if_neg e, if_neg h2, if_neg (by omega)]

theorem cloneBytes_nil (w : World) : Calls Try.prog 11 #[.slice none 0 0] w fun e w' => e = .returned (.slice none 0 0) ∧ w = w' := by
  have q22 : ∀ (w : World) (a : Option Addr) (n c n' c' : Nat), (binOp .eql 22 (.slice a n c) (.slice none n' c')).run Try.prog w = .ok (.bool a.isNone) w := fun w a n c n' c' => Lib.run_eql_slice_nil w _ _ a n c n' c' Try.underlying22
  go_enter Try.func11, Try.ntmps11
  go_wp2
  go_ret
  exact ⟨rfl, rfl⟩

set_option maxHeartbeats 400000 in
theorem cloneBytes_any (x : Addr) (len cap : Nat) (f : Nat → Int) (w : World) (hl : len ≤ 1048576) (hc : ∀ i, i < len → w.cell? (x.add i) = some (.int .u8 (f i))) :
    Calls Try.prog 11 #[.slice (some x) len cap] w fun e w' => e = .returned (.slice (some ⟨w.heap.size, 0, none⟩) len len) ∧ w'.rowIs w.heap.size 5 len (fun i => .int .u8 (f i)) ∧ Below w.heap.size w w' := by
  have q22 : ∀ (w : World) (a : Option Addr) (n c n' c' : Nat), (binOp .eql 22 (.slice a n c) (.slice none n' c')).run Try.prog w = .ok (.bool a.isNone) w := fun w a n c n' c' => Lib.run_eql_slice_nil w _ _ a n c n' c' Try.underlying22
  have hmk := run_make_row' (P := Try.prog) 22 5 (.int .u8 0) 1 Try.underlying22 Try.info5 rfl .i64 .i64 len (by omega) (by omega)
  have hr0 := (World.rowIs_made w (.int .u8 0) len 5)
  have hb0 : Below w.heap.size w (w.alloc (.cells (madeCells #[.int .u8 0] len) 5)) := (Below.refl _ _).alloc (Nat.le_refl _) _
  go_enter Try.func11, Try.ntmps11
  go_wp2
  go_loopw [4] (fun i wr => ∃ k : Nat, k ≤ len ∧ i = .int .i64 k ∧ wr.rowIs w.heap.size 5 len (fun j => if j < k then .int .u8 (f j) else .int .u8 0) ∧ Below w.heap.size w wr) (fun i _ => len - (intOf i).toNat)
  case atStart => exact ⟨0, Nat.zero_le _, rfl, hr0.congr fun i _ => by simp, hb0⟩
  case round =>
    obtain ⟨k, hk, rfl, hrow, hbel⟩ := hrel
    clear hmk q22 hr0 hb0
    by_cases hlt : k < len
    · obtain ⟨b, off, rfl, hbs, hc'⟩ := addr_at (g := fun j => .int .u8 (f j)) hc (by omega)
      have hck := hc' k hlt
      have hcr : wr.cell? ⟨b, off + k, none⟩ = some (.int .u8 (f k)) := (hbel.cell (p := ⟨b, off + k, none⟩) hbs).trans hck
      have hcd : wr.cell? ⟨w.heap.size, k, none⟩ = some (if k < k then .int .u8 (f k) else .int .u8 0) := hrow.cell hlt
      simp at hcd
      have hfz := hrow.frozen k
      have R1 : Hid _ := row_step (g := fun j => .int .u8 (f j)) hrow
      have R2 : Hid _ := hbel.setCell (p := ⟨w.heap.size, k, none⟩) (Nat.le_refl _) (.int .u8 (f k))
      clear hrow hbel hc hck hc'
      go_wp2
      go_roundw
      case rel => exact ⟨k + 1, by omega, by go_num, R1.out, R2.out⟩
      case measure => simp [intOf]; omega
    · go_wp2
      go_ret
      exact ⟨rfl, hrow.congr fun i hi => if_pos (by omega), hbel⟩
theorem cloneU16_nil (w : World) : Calls Try.prog 21 #[.slice none 0 0] w fun e w' => e = .returned (.slice none 0 0) ∧ w = w' := by
  have q37 : ∀ (w : World) (a : Option Addr) (n c n' c' : Nat), (binOp .eql 37 (.slice a n c) (.slice none n' c')).run Try.prog w = .ok (.bool a.isNone) w := fun w a n c n' c' => Lib.run_eql_slice_nil w _ _ a n c n' c' Try.underlying37
  go_enter Try.func21, Try.ntmps21
  go_wp2
  go_ret
  exact ⟨rfl, rfl⟩

set_option maxHeartbeats 400000 in
theorem cloneU16_any (x : Addr) (len cap : Nat) (f : Nat → Int) (w : World) (hl : len ≤ 1048576) (hc : ∀ i, i < len → w.cell? (x.add i) = some (.int .u16 (f i))) :
    Calls Try.prog 21 #[.slice (some x) len cap] w fun e w' => e = .returned (.slice (some ⟨w.heap.size, 0, none⟩) len len) ∧ w'.rowIs w.heap.size 28 len (fun i => .int .u16 (f i)) ∧ Below w.heap.size w w' := by
  have q37 : ∀ (w : World) (a : Option Addr) (n c n' c' : Nat), (binOp .eql 37 (.slice a n c) (.slice none n' c')).run Try.prog w = .ok (.bool a.isNone) w := fun w a n c n' c' => Lib.run_eql_slice_nil w _ _ a n c n' c' Try.underlying37
  have hmk := run_make_row' (P := Try.prog) 37 28 (.int .u16 0) 2 Try.underlying37 Try.info28 rfl .i64 .i64 len (by omega) (by omega)
  have hr0 := (World.rowIs_made w (.int .u16 0) len 28)
  have hb0 : Below w.heap.size w (w.alloc (.cells (madeCells #[.int .u16 0] len) 28)) := (Below.refl _ _).alloc (Nat.le_refl _) _
  go_enter Try.func21, Try.ntmps21
  go_wp2
  go_loopw [4] (fun i wr => ∃ k : Nat, k ≤ len ∧ i = .int .i64 k ∧ wr.rowIs w.heap.size 28 len (fun j => if j < k then .int .u16 (f j) else .int .u16 0) ∧ Below w.heap.size w wr) (fun i _ => len - (intOf i).toNat)
  case atStart => exact ⟨0, Nat.zero_le _, rfl, hr0.congr fun i _ => by simp, hb0⟩
  case round =>
    obtain ⟨k, hk, rfl, hrow, hbel⟩ := hrel
    clear hmk q37 hr0 hb0
    by_cases hlt : k < len
    · obtain ⟨b, off, rfl, hbs, hc'⟩ := addr_at (g := fun j => .int .u16 (f j)) hc (by omega)
      have hck := hc' k hlt
      have hcr : wr.cell? ⟨b, off + k, none⟩ = some (.int .u16 (f k)) := (hbel.cell (p := ⟨b, off + k, none⟩) hbs).trans hck
      have hcd : wr.cell? ⟨w.heap.size, k, none⟩ = some (if k < k then .int .u16 (f k) else .int .u16 0) := hrow.cell hlt
      simp at hcd
      have hfz := hrow.frozen k
      have R1 : Hid _ := row_step (g := fun j => .int .u16 (f j)) hrow
      have R2 : Hid _ := hbel.setCell (p := ⟨w.heap.size, k, none⟩) (Nat.le_refl _) (.int .u16 (f k))
      clear hrow hbel hc hck hc'
      go_wp2
      go_roundw
      case rel => exact ⟨k + 1, by omega, by go_num, R1.out, R2.out⟩
      case measure => simp [intOf]; omega
    · go_wp2
      go_ret
      exact ⟨rfl, hrow.congr fun i hi => if_pos (by omega), hbel⟩
end Go.Proofs.Qxb6604135a
