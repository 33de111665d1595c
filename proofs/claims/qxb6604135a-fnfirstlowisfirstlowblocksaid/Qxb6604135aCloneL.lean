/-
  Seat b6604135a: the contract of zzCloneLows (22).
-/
import Derived.Test.Qxb6604135aWF
namespace Go.Proofs.Qxb6604135a
open Go.ChangeShapes Go.WideShapes Go.ChangeAt Go.RowKit

/-- The header of row j's copy. -/
def CH (R : Nat → Option Addr) (A n : Nat → Nat) (j : Nat) : Value := if (R j).isNone = true then .slice none 0 0 else .slice (some ⟨A j, 0, none⟩) (n j) (n j)

/-- What has been copied when k rows are through. -/
def Copied (w0 : World) (K k : Nat) (R : Nat → Option Addr) (n : Nat → Nat) (G : Nat → Nat → Int) (A : Nat → Nat) (wr : World) : Prop :=
  wr.rowIs w0.heap.size 37 K (fun j => if j < k then CH R A n j else .slice none 0 0) ∧ (∀ j, j < k → (R j).isNone = false → w0.heap.size < A j ∧ A j < wr.heap.size ∧ Nums wr (A j) (n j) (G j)) ∧ Below w0.heap.size w0 wr

theorem Nums.setOther {w : World} {b m : Nat} {g : Nat → Int} (h : Nums w b m g) {a : Addr} (ha : b ≠ a.block) (v : Value) : Nums (w.setCell a v) b m g :=
  fun i hi => ⟨(World.cell?_of_block (w := w) (a := ⟨b, i, none⟩) (Below.heap_setCell w a v b ha)).trans (h i hi).1, (h i hi).2⟩

theorem copied_start (w : World) (K : Nat) (R : Nat → Option Addr) (n : Nat → Nat) (G : Nat → Nat → Int) : Copied w K 0 R n G (fun _ => 0) (w.alloc (.cells (madeCells #[.slice none 0 0] K) 37)) :=
  ⟨(World.rowIs_made w (.slice none 0 0) K 37).congr fun i _ => by simp, fun j hj => by omega, (Below.refl _ _).alloc (Nat.le_refl _) _⟩

theorem copied_nil {w0 wr : World} {K k : Nat} {R : Nat → Option Addr} {n : Nat → Nat} {G : Nat → Nat → Int} {A : Nat → Nat} (h : Copied w0 K k R n G A wr) (hR : R k = none) :
    Copied w0 K (k + 1) R n G A (wr.setCell ⟨w0.heap.size, k, none⟩ (.slice none 0 0)) := by
  obtain ⟨h1, h2, h3⟩ := h
  have hs := row_step (g := CH R A n) h1
  have e : CH R A n k = .slice none 0 0 := by unfold CH; rw [hR]; rfl
  rw [e] at hs
  refine ⟨hs, fun j hj hn => ?_, h3.setCell (Nat.le_refl _) _⟩
  by_cases c : j = k
  · subst c; rw [hR] at hn; simp at hn
  · obtain ⟨a1, a2, a3⟩ := h2 j (by omega) hn
    exact ⟨a1, by simpa using a2, a3.setOther (by show A j ≠ w0.heap.size; omega) _⟩

theorem copied_some {w0 wr w1 : World} {K k : Nat} {R : Nat → Option Addr} {n : Nat → Nat} {G : Nat → Nat → Int} {A : Nat → Nat} {x : Addr} (h : Copied w0 K k R n G A wr) (hR : R k = some x)
    (hrow : Nums w1 wr.heap.size (n k) (G k)) (hb : Below wr.heap.size wr w1) (hz : wr.heap.size < w1.heap.size) :
    Copied w0 K (k + 1) R n G (upd A k wr.heap.size) (w1.setCell ⟨w0.heap.size, k, none⟩ (.slice (some ⟨wr.heap.size, 0, none⟩) (n k) (n k))) := by
  obtain ⟨h1, h2, h3⟩ := h
  have hlt : w0.heap.size < wr.heap.size := h1.lt
  have h1' : w1.rowIs w0.heap.size 37 K (fun j => if j < k then CH R (upd A k wr.heap.size) n j else .slice none 0 0) := by
    refine (h1.of_block (hb.block _ hlt)).congr fun j _ => ?_
    by_cases c : j < k
    · rw [if_pos c, if_pos c]; unfold CH; rw [upd_old _ _ c]
    · rw [if_neg c, if_neg c]
  have hs := row_step (g := CH R (upd A k wr.heap.size) n) h1'
  have e : CH R (upd A k wr.heap.size) n k = .slice (some ⟨wr.heap.size, 0, none⟩) (n k) (n k) := by unfold CH; rw [hR, upd_at]; rfl
  rw [e] at hs
  refine ⟨hs, fun j hj hn => ?_, (h3.trans (hb.mono (by omega))).setCell (Nat.le_refl _) _⟩
  by_cases c : j = k
  · subst c
    rw [upd_at]
    exact ⟨hlt, by simpa using hz, hrow.setOther (by show wr.heap.size ≠ w0.heap.size; omega) _⟩
  · have hj' : j < k := by omega
    rw [upd_old _ _ hj']
    obtain ⟨a1, a2, a3⟩ := h2 j hj' hn
    exact ⟨a1, by simp; omega, (a3.below hb (fun _ => a2)).setOther (by show A j ≠ w0.heap.size; omega) _⟩

/-- All rows copied, none of them nil: levels in new memory. -/
theorem copied_done {w0 wr : World} {K : Nat} {R : Nat → Option Addr} {n : Nat → Nat} {G : Nat → Nat → Int} {A : Nat → Nat} (h : Copied w0 K K R n G A wr) (hn : ∀ r, r < K → n r ≤ 1048576) (hR : ∀ r, r < K → (R r).isNone = false) :
    Levels wr w0.heap.size K A n G := fun k hk => by
  obtain ⟨h1, h2, _⟩ := h
  refine ⟨?_, hn k hk, (h2 k hk (hR k hk)).2.2⟩
  have := h1.cell hk
  rw [if_pos hk] at this
  unfold CH at this
  rw [if_neg (by rw [hR k hk]; simp)] at this
  exact this

theorem cloneL_nil (w : World) : Calls Try.prog 22 #[.slice none 0 0] w fun e w' => e = .returned (.slice none 0 0) ∧ w = w' := by
  have q38 : ∀ (w : World) (a : Option Addr) (n c n' c' : Nat), (binOp .eql 38 (.slice a n c) (.slice none n' c')).run Try.prog w = .ok (.bool a.isNone) w := fun w a n c n' c' => Lib.run_eql_slice_nil w _ _ a n c n' c' Try.underlying38
  go_enter Try.func22, Try.ntmps22
  go_wp2
  go_ret
  exact ⟨rfl, rfl⟩

theorem cloneL_zero (x : Addr) (c : Nat) (w : World) : Calls Try.prog 22 #[.slice (some x) 0 c] w fun e w' => e = .returned (.slice (some ⟨w.heap.size, 0, none⟩) 0 0) ∧ Below w.heap.size w w' := by
  have q38 : ∀ (w : World) (a : Option Addr) (n c n' c' : Nat), (binOp .eql 38 (.slice a n c) (.slice none n' c')).run Try.prog w = .ok (.bool a.isNone) w := fun w a n c n' c' => Lib.run_eql_slice_nil w _ _ a n c n' c' Try.underlying38
  have hmk : ∀ w : World, (Instr.makeSlice 38 (.int .i64 0) (.int .i64 0)).run Try.prog w = .ok (.slice (some ⟨w.heap.size, 0, none⟩) 0 0) (w.alloc (.cells (madeCells #[.slice none 0 0] 0) 37)) :=
    fun w => run_make_row' (P := Try.prog) 38 37 (.slice none 0 0) 24 Try.underlying38 Try.info37 rfl .i64 .i64 0 (by omega) (by omega) w
  go_enter Try.func22, Try.ntmps22
  go_wp2
  refine wp_loop_rounds 1 ?_
  rw [rounds_succ]
  go_wp2
  go_ret
  exact ⟨rfl, (Below.refl _ _).alloc (Nat.le_refl _) _⟩

set_option maxHeartbeats 1000000 in
theorem cloneL_rows (B O K Kc : Nat) (R : Nat → Option Addr) (n c : Nat → Nat) (G : Nat → Nat → Int) (w : World) (hK : K ≤ 65536) (hn : ∀ r, r < K → n r ≤ 524288) (hR : RowsIn w B O K R n c G) :
    Calls Try.prog 22 #[.slice (some ⟨B, O, none⟩) K Kc] w fun e w' => e = .returned (.slice (some ⟨w.heap.size, 0, none⟩) K K) ∧ ∃ A, Copied w K K R n G A w' := by
  have q38 : ∀ (w : World) (a : Option Addr) (n c n' c' : Nat), (binOp .eql 38 (.slice a n c) (.slice none n' c')).run Try.prog w = .ok (.bool a.isNone) w := fun w a n c n' c' => Lib.run_eql_slice_nil w _ _ a n c n' c' Try.underlying38
  have hmk := run_make_row' (P := Try.prog) 38 37 (.slice none 0 0) 24 Try.underlying38 Try.info37 rfl .i64 .i64 K (by omega) (by omega)
  have HS : Hid (Copied w K 0 R n G (fun _ => 0) (w.alloc (.cells (madeCells #[.slice none 0 0] K) 37))) := copied_start w K R n G
  have HN : Hid (∀ r, r < K → n r ≤ 524288) := hn
  have HR : Hid (RowsIn w B O K R n c G) := hR
  clear hn hR
  go_enter Try.func22, Try.ntmps22
  go_wp2
  go_loopw [4] (fun kk wr => ∃ (k : Nat) (A : Nat → Nat), k ≤ K ∧ kk = .int .i64 k ∧ Copied w K k R n G A wr) (fun kk _ => K - (intOf kk).toNat)
  case atStart => exact ⟨0, _, by omega, rfl, HS.out⟩
  case round =>
    obtain ⟨k, A, hk, rfl, hcp⟩ := hrel
    have HC : Hid (Copied w K k R n G A wr) := hcp
    clear HS hmk q38 hcp
    by_cases hlt : k < K
    · obtain ⟨hh, hR0, _, hRx⟩ := HR.out k hlt
      have hnk := HN.out k hlt
      have hBs : B < w.heap.size := World.block_lt_of_cell? _ _ hh
      have hhr : wr.cell? ⟨B, O + k, none⟩ = some (.slice (R k) (n k) (c k)) := (HC.out.2.2.cell (p := ⟨B, O + k, none⟩) hBs).trans hh
      have hsz : w.heap.size < wr.heap.size := World.rowIs.lt HC.out.1
      match hx : R k with
      | none =>
        obtain ⟨hz1, hz2⟩ := hR0 hx
        rw [hx, hz1, hz2] at hhr
        have hcd : wr.cell? ⟨w.heap.size, k, none⟩ = some (.slice none 0 0) := (World.rowIs.cell HC.out.1 hlt).trans (by rw [if_neg (Nat.lt_irrefl k)])
        have hfz := World.rowIs.frozen HC.out.1 k
        have HE : Hid (R k = none) := hx
        clear hh hR0 hRx hx hz1 hz2 hnk
        go_wp2_with (go_at_call 21; refine (cloneU16_nil _).mono ?_; rintro e w' ⟨rfl, rfl⟩)
        go_roundw
        case rel => exact ⟨k + 1, A, by omega, by go_num, copied_nil HC.out HE.out⟩
        case measure => simp [intOf]; omega
      | some x =>
        have HX : Hid (∀ i, i < n k → wr.cell? (x.add i) = some (.int .u16 (G k i))) := fun i hi => by
          have h1 := (hRx x hx i hi).1
          exact (HC.out.2.2.cell (World.block_lt_of_cell? _ _ h1)).trans h1
        have HXr : Hid (∀ i, i < n k → 0 ≤ G k i ∧ G k i ≤ 65535) := fun i hi => (hRx x hx i hi).2
        rw [hx] at hhr
        have HE : Hid (R k = some x) := hx
        clear hh hR0 hRx hx
        go_wp2_with fail
        refine (cloneU16_any x (n k) (c k) (G k) _ (by omega) HX.out).mono ?_
        rintro e w1 ⟨rfl, hrow, hb1⟩
        have hz1 : wr.heap.size < w1.heap.size := hrow.lt
        have hcd : w1.cell? ⟨w.heap.size, k, none⟩ = some (.slice none 0 0) := (hb1.cell (p := ⟨w.heap.size, k, none⟩) hsz).trans ((World.rowIs.cell HC.out.1 hlt).trans (by rw [if_neg (Nat.lt_irrefl k)]))
        have hfz : w1.frozen? ⟨w.heap.size, k, none⟩ = false := (hb1.frozen (p := ⟨w.heap.size, k, none⟩) hsz).trans (World.rowIs.frozen HC.out.1 k)
        have HNew : Hid (Copied w K (k + 1) R n G (upd A k wr.heap.size) (w1.setCell ⟨w.heap.size, k, none⟩ (.slice (some ⟨wr.heap.size, 0, none⟩) (n k) (n k)))) :=
          copied_some HC.out HE.out (fun i hi => ⟨hrow.cell hi, HXr.out i hi⟩) hb1 hz1
        clear hrow hb1
        go_wp2
        go_roundw
        case rel => exact ⟨k + 1, _, by omega, by go_num, HNew.out⟩
        case measure => simp [intOf]; omega
    · obtain rfl : k = K := by omega
      go_wp2
      go_ret
      exact ⟨rfl, A, HC.out⟩
end Go.Proofs.Qxb6604135a
