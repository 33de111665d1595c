/-
  Seat b6604135a: the contract of zzBuildLevels (26).
-/
import Derived.Test.Qxb6604135aBuildParts
namespace Go.Proofs.Qxb6604135a
open Go.ChangeShapes Go.WideShapes Go.ChangeAt Go.RowKit

theorem mins_step {g : Nat → Int} {n j : Nat} {M : Nat → Int} {q : Int} {hi : Nat} (h : ∀ i, i < j → Low.IsMin g (i * 64) (min (i * 64 + 64) n) (M i)) (hq : Low.IsMin g (j * 64) hi q) (e : hi = min (j * 64 + 64) n) :
    ∀ i, i < j + 1 → Low.IsMin g (i * 64) (min (i * 64 + 64) n) (if i = j then q else M i) := by
  intro i hi
  by_cases c : i = j
  · subst c; rw [if_pos rfl, ← e]; exact hq
  · rw [if_neg c]; exact h i (by omega)
theorem min_rng {g : Nat → Int} {lo n a : Nat} {m : Int} (h : Low.IsMin g lo (min a n) m) (hg : ∀ t, t < n → 0 ≤ g t ∧ g t ≤ 65535) : 0 ≤ m ∧ m ≤ 65535 := by
  obtain ⟨t, _, h2, h3⟩ := h.2
  have := hg t (by omega)
  omega

set_option maxHeartbeats 2000000 in
theorem build_any (A0 n : Nat) (g : Nat → Int) (w : World) (hn : 0 < n) (hn2 : n ≤ 65536) (hG : Nums w A0 n g) :
    Calls Try.prog 26 #[.slice (some ⟨A0, 0, none⟩) n n] w fun e w' =>
      ∃ B K Kc A N L, e = .returned (.slice (some ⟨B, 0, none⟩) K Kc) ∧ K ≤ n + 1 ∧ Levels w' B K A N L ∧ Low.WF K N L ∧ N 0 = n ∧ L 0 = g ∧ A 0 = A0 ∧ Below w.heap.size w w' := by
  have HS : Hid (Built w A0 n g (w.alloc (.cells #[.slice (some ⟨A0, 0, none⟩) n n] 37)) (.slice (some ⟨w.heap.size, 0, none⟩) 1 1) 1 (fun _ => A0) (fun _ => n) (fun _ => g)) := built_start w A0 n g hn hG
  clear hG
  go_enter Try.func26, Try.ntmps26
  go_wp2
  go_loopw [3, 4] (fun v lv wr => ∃ (K : Nat) (A N : Nat → Nat) (L : Nat → Nat → Int), lv = .slice (some ⟨A (K - 1), 0, none⟩) (N (K - 1)) (N (K - 1)) ∧ Built w A0 n g wr v K A N L) (fun _ lv _ => lenOf lv)
  case atStart => exact ⟨1, _, _, _, rfl, HS.out⟩
  case round =>
    obtain ⟨K, A, N, L, rfl, hBt⟩ := hrel
    clear HS
    have HBt : Hid (Built w A0 n g wr u3 K A N L) := hBt
    obtain ⟨wo, rfl⟩ : ∃ wo : World, wo = wr := ⟨_, rfl⟩
    have hNn : N (K - 1) ≤ n := (hBt.2.2.2.1 (K - 1) (by have := hBt.1; omega)).2.1
    have HN : Hid (Nums wo (A (K - 1)) (N (K - 1)) (L (K - 1))) := (hBt.2.2.2.1 (K - 1) (by have := hBt.1; omega)).2.2
    clear hBt
    by_cases h64 : 64 < N (K - 1)
    · have hmk := run_make_row' (P := Try.prog) 37 28 (.int .u16 0) 2 Try.underlying37 Try.info28 rfl .i64 .i64 ((N (K - 1) + 63) / 64) (by omega) (by omega)
      rw [show ((((N (K - 1) + 63) / 64) : Nat) : Int) = ((N (K - 1) : Int) + 64 - 1) / 64 from by omega] at hmk
      have HM : Hid ((wo.alloc (.cells (madeCells #[.int .u16 0] ((N (K - 1) + 63) / 64)) 28)).rowIs wo.heap.size 28 ((N (K - 1) + 63) / 64) (fun _ => .int .u16 0)) := World.rowIs_made wo (.int .u16 0) ((N (K - 1) + 63) / 64) 28
      have HBo : Hid (Below wo.heap.size wo (wo.alloc (.cells (madeCells #[.int .u16 0] ((N (K - 1) + 63) / 64)) 28))) := (Below.refl _ _).alloc (Nat.le_refl _) _
      go_wp2
      go_loopw [7] (fun jj wr => ∃ (j : Nat) (M : Nat → Int), j ≤ ((N (K - 1) + 63) / 64) ∧ jj = .int .i64 j ∧ wr.rowIs wo.heap.size 28 ((N (K - 1) + 63) / 64) (fun i => .int .u16 (M i)) ∧ (∀ i, i < j → Low.IsMin (L (K - 1)) (i * 64) (min (i * 64 + 64) (N (K - 1))) (M i)) ∧ Below wo.heap.size wo wr) (fun jj _ => ((N (K - 1) + 63) / 64) - (intOf jj).toNat)
      case atStart => exact ⟨0, fun _ => 0, by omega, rfl, HM.out, fun i hi => by omega, HBo.out⟩
      case round =>
        obtain ⟨j, M, hj, rfl, hrow, hmins, hbel⟩ := hrel
        obtain ⟨wi, rfl⟩ : ∃ wi : World, wi = wr := ⟨_, rfl⟩
        have HR2 : Hid (wi.rowIs wo.heap.size 28 ((N (K - 1) + 63) / 64) (fun i => .int .u16 (M i))) := hrow
        have HM2 : Hid (∀ i, i < j → Low.IsMin (L (K - 1)) (i * 64) (min (i * 64 + 64) (N (K - 1))) (M i)) := hmins
        have HB2 : Hid (Below wo.heap.size wo wi) := hbel
        have HN2 : Hid (Nums wi (A (K - 1)) (N (K - 1)) (L (K - 1))) := Nums.below HN.out hbel (fun h => Nums.lt HN.out h)
        clear hrow hmins hbel hmk HM HBo
        by_cases hlt : j < ((N (K - 1) + 63) / 64)
        · obtain ⟨hc0, hlo0, hhi0⟩ := HN2.out (j * 64) (by omega)
          by_cases hmin : N (K - 1) < j * 64 + 64
          · go_wp2
            go_loop [10, 11] (fun m i => ∃ (t : Nat) (q : Int), j * 64 + 1 ≤ t ∧ t ≤ N (K - 1) ∧ i = .int .i64 t ∧ m = .int .u16 q ∧ Low.IsMin (L (K - 1)) (j * 64) t q) (fun _ i => N (K - 1) - (intOf i).toNat)
            case atStart => exact ⟨j * 64 + 1, _, Nat.le_refl _, by omega, by go_num, rfl, Low.min_start _ _⟩
            case round =>
              obtain ⟨t, q, ht1, ht2, rfl, rfl, hmn⟩ := hrel
              have HI : Hid (Low.IsMin (L (K - 1)) (j * 64) t q) := hmn
              clear hmn
              by_cases hlt3 : t < N (K - 1)
              · obtain ⟨hct, hlo, hhi⟩ := HN2.out t (by omega)
                by_cases hq : L (K - 1) t < q
                · go_wp2
                  go_round
                  case rel => exact ⟨t + 1, _, by omega, by omega, by go_num, rfl, Low.min_low HI.out (by omega) hq⟩
                  case measure => simp [intOf]; omega
                · go_wp2
                  go_round
                  case rel => exact ⟨t + 1, _, by omega, by omega, by go_num, rfl, Low.min_keep HI.out hq⟩
                  case measure => simp [intOf]; omega
              · obtain rfl : t = N (K - 1) := by omega
                have hcd : wi.cell? ⟨wo.heap.size, j, none⟩ = some (.int .u16 (M j)) := World.rowIs.cell HR2.out hlt
                have hfz := World.rowIs.frozen HR2.out j
                go_wp2
                go_roundw
                case rel => exact ⟨j + 1, _, by omega, by go_num, row_set HR2.out j q, mins_step HM2.out HI.out (by omega), Below.setCell HB2.out (Nat.le_refl _) _⟩
                case measure => simp [intOf]; omega

          · go_wp2
            go_loop [10, 11] (fun m i => ∃ (t : Nat) (q : Int), j * 64 + 1 ≤ t ∧ t ≤ (j * 64 + 64) ∧ i = .int .i64 t ∧ m = .int .u16 q ∧ Low.IsMin (L (K - 1)) (j * 64) t q) (fun _ i => (j * 64 + 64) - (intOf i).toNat)
            case atStart => exact ⟨j * 64 + 1, _, Nat.le_refl _, by omega, by go_num, rfl, Low.min_start _ _⟩
            case round =>
              obtain ⟨t, q, ht1, ht2, rfl, rfl, hmn⟩ := hrel
              have HI : Hid (Low.IsMin (L (K - 1)) (j * 64) t q) := hmn
              clear hmn
              by_cases hlt3 : t < (j * 64 + 64)
              · obtain ⟨hct, hlo, hhi⟩ := HN2.out t (by omega)
                by_cases hq : L (K - 1) t < q
                · go_wp2
                  go_round
                  case rel => exact ⟨t + 1, _, by omega, by omega, by go_num, rfl, Low.min_low HI.out (by omega) hq⟩
                  case measure => simp [intOf]; omega
                · go_wp2
                  go_round
                  case rel => exact ⟨t + 1, _, by omega, by omega, by go_num, rfl, Low.min_keep HI.out hq⟩
                  case measure => simp [intOf]; omega
              · obtain rfl : t = (j * 64 + 64) := by omega
                have hcd : wi.cell? ⟨wo.heap.size, j, none⟩ = some (.int .u16 (M j)) := World.rowIs.cell HR2.out hlt
                have hfz := World.rowIs.frozen HR2.out j
                go_wp2
                go_roundw
                case rel => exact ⟨j + 1, _, by omega, by go_num, row_set HR2.out j q, mins_step HM2.out HI.out (by omega), Below.setCell HB2.out (Nat.le_refl _) _⟩
                case measure => simp [intOf]; omega

        · obtain rfl : j = ((N (K - 1) + 63) / 64) := by omega
          obtain ⟨i0, hi, hz0, hz1, hz2⟩ := info_parts Try.info37
          have hw0 : w.heap.size ≤ wo.heap.size := (HBt.out).2.2.2.2.2.2.2.2.size
          have HOw : Hid ((wi.alloc (.cells #[.slice (some ⟨wo.heap.size, 0, none⟩) ((N (K - 1) + 63) / 64) ((N (K - 1) + 63) / 64)] 37)).ownsRow w.heap.size 37 1 u3 K ((List.range K).map (Hdr A N))) := (owns_below HBt.out.2.2.1 HB2.out).alloc _
          have hKn : N (K - 1) + K ≤ n + 1 := HBt.out.2.1
          have hwi : wo.heap.size ≤ wi.heap.size := HB2.out.size
          have HNu : Hid (Nums wi wo.heap.size ((N (K - 1) + 63) / 64) M) := fun i hi => ⟨World.rowIs.cell HR2.out hi, min_rng (HM2.out i hi) (fun t ht => (HN.out t (by omega)).2)⟩
          go_wp2_with (at_builtin; refine wpList_append_own _ rfl _ _ 38 rfl w.heap.size 37 i0 (.slice none 0 0) 1 24 Try.underlying38 hi hz0 hz1 hz2 rfl (by decide) u3 K _ rfl HOw.out ⟨wi.heap.size, 0, none⟩ 1 1 [.slice (some ⟨wo.heap.size, 0, none⟩) ((N (K - 1) + 63) / 64) ((N (K - 1) + 63) / 64)] rfl rfl (cell_one_new _ _ _) ?c2 ?c3 ?c4 ?c5 ?_)
          case c2 => intro u hu; simp at hu; subst hu; rfl
          case c3 => unfold maxLen; omega
          case c4 => omega
          case c5 => simp; omega
          · intro v' w4 hown hgrow _
            have R : Hid (Built w A0 n g w4 v' (K + 1) (upd A K wo.heap.size) (upd N K ((N (K - 1) + 63) / 64)) (upd L K M)) := built_step HBt.out h64 hw0 HNu.out HB2.out HM2.out rfl hown hgrow
            clear hown hgrow
            go_wp2
            go_roundw
            case rel => exact ⟨K + 1, _, _, _, by rw [Nat.add_sub_cancel, upd_at, upd_at], R.out⟩
            case measure => simp [lenOf]; omega
    · have HD := built_done HBt.out (by omega) h64
      obtain ⟨B, Kc, rfl, hD⟩ := HD
      have HD : Hid _ := hD
      clear hD
      go_wp2
      go_ret
      exact ⟨B, K, Kc, A, N, L, rfl, HD.out⟩
end Go.Proofs.Qxb6604135a
