/-
  Seat b6604135a: the contract of zzWellFormed (20).
-/
import Derived.Test.Qxb6604135aIdx
namespace Go.Proofs.Qxb6604135a
open Go.ChangeShapes Go.WideShapes Go.ChangeAt Go.RowKit

/-- A row that has an element lies at a plain address. -/
theorem row_at {w : World} {B O K : Nat} {R : Nat → Option Addr} {n c : Nat → Nat} {G : Nat → Nat → Int} (h : RowsIn w B O K R n c G) {r : Nat} (hr : r < K) (hn : 0 < n r) :
    ∃ b o, R r = some ⟨b, o, none⟩ ∧ ∀ i, i < n r → w.cell? ⟨b, o + i, none⟩ = some (.int .u16 (G r i)) ∧ 0 ≤ G r i ∧ G r i ≤ 65535 := by
  obtain ⟨_, h2, _, h4⟩ := h r hr
  match hx : R r with
  | none => have := h2 hx; omega
  | some x =>
    have h4' := h4 x hx
    obtain ⟨b, o, e, _, hc⟩ := addr_at (g := fun j => .int .u16 (G r j)) (fun i hi => (h4' i hi).1) hn
    exact ⟨b, o, by rw [e], fun i hi => ⟨hc i hi, (h4' i hi).2⟩⟩

theorem wf_empty (a la : Option Addr) (c K Kc : Nat) (w : World) :
    Calls Try.prog 20 #[.slice a 0 c, .slice la K Kc] w fun e w' => e = .returned (.bool true) ∧ w = w' := by
  go_enter Try.func20, Try.ntmps20
  go_wp2
  go_ret
  exact ⟨rfl, rfl⟩
theorem wf_none (a la : Option Addr) (m c Kc : Nat) (w : World) (hm : 0 < m) (hm2 : m ≤ 524288) :
    Calls Try.prog 20 #[.slice a m c, .slice la 0 Kc] w fun e w' => e = .returned (.bool false) ∧ w = w' := by
  have t1 : ((m : Int) == 0) = false := by rw [beq_eq_false_iff_ne]; omega
  go_enter Try.func20, Try.ntmps20
  go_wp2
  go_ret
  exact ⟨rfl, rfl⟩

/-- What it means that zzWellFormed says yes. -/
def WfQ (m K1 : Nat) (n : Nat → Nat) (G : Nat → Nat → Int) (f : Bool) : Prop := f = true → n 0 = m ∧ n K1 ≤ 64 ∧ ∀ k, k + 1 < K1 + 1 → Low.Stands n G k

/-- What its outer loop knows at level p + 1. -/
def WfL (K1 : Nat) (n : Nat → Nat) (G : Nat → Nat → Int) (kk : Value) : Prop := ∃ p : Nat, p ≤ K1 ∧ kk = .int .i64 ((p : Int) + 1) ∧ 0 < n p ∧ ∀ j, j < p → Low.Stands n G j

set_option maxRecDepth 20000 in
set_option maxHeartbeats 2000000 in
theorem wf_rows (a : Option Addr) (m cc B O K1 Kc : Nat) (R : Nat → Option Addr) (n c : Nat → Nat) (G : Nat → Nat → Int) (w : World) (hm : 0 < m) (hm2 : m ≤ 524288) (hK : K1 + 1 ≤ 65536) (hn : ∀ r, r < K1 + 1 → n r ≤ 524288) (hR : RowsIn w B O (K1 + 1) R n c G) :
    Calls Try.prog 20 #[.slice a m cc, .slice (some ⟨B, O, none⟩) (K1 + 1) Kc] w fun e w' => w = w' ∧ Says e (WfQ m K1 n G) := by
  have HR : Hid (RowsIn w B O (K1 + 1) R n c G) := hR
  have HN : Hid (∀ r, r < K1 + 1 → n r ≤ 524288) := hn
  have h0 : w.cell? ⟨B, O, none⟩ = some (.slice (R 0) (n 0) (c 0)) := (hR 0 (by omega)).1
  have t1 : ((m : Int) == 0) = false := by rw [beq_eq_false_iff_ne]; omega
  have t2 : (((K1 + 1 : Nat) : Int) == 0) = false := by rw [beq_eq_false_iff_ne]; omega
  have hn0 := hn 0 (by omega)
  clear hR hn
  by_cases hm0 : n 0 = m
  · have t3 : ((n 0 : Int) != (m : Int)) = false := by simp [hm0]
    have HM : Hid (n 0 = m) := hm0
    clear hm0
    go_enter Try.func20, Try.ntmps20
    go_wp2
    go_loop [4, 5] (fun _ kk => WfL K1 n G kk) (fun _ kk => K1 + 1 - (intOf kk).toNat)
    case atStart => exact ⟨0, by omega, rfl, by have := HM.out; omega, fun j hj => by omega⟩
    case round =>
      obtain ⟨p, hp, rfl, hnp, hst⟩ := hrel
      have HT : Hid (∀ j, j < p → Low.Stands n G j) := hst
      clear hst
      by_cases hlt : p < K1
      · obtain ⟨bp, op, hRp, hcp⟩ := row_at HR.out (r := p) (by omega) hnp
        have hh1 := (HR.out p (by omega)).1
        have hh2 := (HR.out (p + 1) (by omega)).1
        have hl1 := HN.out p (by omega)
        have hl2 := HN.out (p + 1) (by omega)
        rw [hRp] at hh1
        have HP : Hid (∀ i, i < n p → w.cell? ⟨bp, op + i, none⟩ = some (.int .u16 (G p i)) ∧ 0 ≤ G p i ∧ G p i ≤ 65535) := hcp
        clear hRp hcp
        by_cases hce : n (p + 1) = (n p + 63) / 64
        · have hnq : 0 < n (p + 1) := by omega
          obtain ⟨bq, oq, hRq, hcq⟩ := row_at HR.out (r := p + 1) (by omega) hnq
          rw [hRq] at hh2
          have HQ2 : Hid (∀ i, i < n (p + 1) → w.cell? ⟨bq, oq + i, none⟩ = some (.int .u16 (G (p + 1) i)) ∧ 0 ≤ G (p + 1) i ∧ G (p + 1) i ≤ 65535) := hcq
          have t4 : ((n (p + 1) : Int) != ((n p : Int) + 64 - 1) / 64) = false := by rw [bne_eq_false_iff_eq]; omega
          have HCE : Hid (n (p + 1) = (n p + 63) / 64) := hce
          have hce1 : n (p + 1) * 64 ≤ n p + 63 := by omega
          clear hRq hcq hce
          go_wp2
          go_loop [4, 8] (fun _ jj => ∃ j : Nat, j ≤ n (p + 1) ∧ jj = .int .i64 j ∧ ∀ i, i < j → Low.IsMin (G p) (i * 64) (min (i * 64 + 64) (n p)) (G (p + 1) i)) (fun _ jj => n (p + 1) - (intOf jj).toNat)
          case atStart => exact ⟨0, by omega, rfl, fun i hi => by omega⟩
          case round =>
            obtain ⟨j, hj, rfl, hmins⟩ := hrel
            have HS : Hid (∀ i, i < j → Low.IsMin (G p) (i * 64) (min (i * 64 + 64) (n p)) (G (p + 1) i)) := hmins
            clear hmins
            by_cases hlt2 : j < n (p + 1)
            · obtain ⟨hc0, hlo0, hhi0⟩ := HP.out (j * 64) (by omega)
              obtain ⟨hcj, hloj, hhij⟩ := HQ2.out j hlt2
              by_cases hmin : n p < j * 64 + 64
              · go_wp2
                go_loop [11, 12] (fun m i => ∃ (t : Nat) (q : Int), j * 64 + 1 ≤ t ∧ t ≤ n p ∧ i = .int .i64 t ∧ m = .int .u16 q ∧ Low.IsMin (G p) (j * 64) t q) (fun _ i => n p - (intOf i).toNat)
                case atStart => exact ⟨j * 64 + 1, _, Nat.le_refl _, by omega, by go_num, rfl, Low.min_start _ _⟩
                case round =>
                  obtain ⟨t, q, ht1, ht2, rfl, rfl, hmn⟩ := hrel
                  have HI : Hid (Low.IsMin (G p) (j * 64) t q) := hmn
                  clear hmn
                  by_cases hlt3 : t < n p
                  · obtain ⟨hct, hlo, hhi⟩ := HP.out t (by omega)
                    by_cases hq : G p t < q
                    · go_wp2
                      go_round
                      case rel => exact ⟨t + 1, _, by omega, by omega, by go_num, rfl, Low.min_low HI.out (by omega) hq⟩
                      case measure => simp [intOf]; omega
                    · go_wp2
                      go_round
                      case rel => exact ⟨t + 1, _, by omega, by omega, by go_num, rfl, Low.min_keep HI.out hq⟩
                      case measure => simp [intOf]; omega
                  · obtain rfl : t = n p := by omega
                    by_cases heq : G (p + 1) j = q
                    · have t9 : (G (p + 1) j != q) = false := by simp [heq]
                      have HQ : Hid (G (p + 1) j = q) := heq
                      clear heq
                      go_wp2
                      go_round
                      case rel => exact ⟨j + 1, by omega, by go_num, fun i hi => by
                        by_cases e : i = j
                        · subst e; rw [HQ.out, show min (i * 64 + 64) (n p) = n p from by omega]; exact HI.out
                        · exact HS.out i (by omega)⟩
                      case measure => simp [intOf]; omega
                    · have t9 : (G (p + 1) j != q) = true := by simp [heq]
                      clear heq
                      go_wp2
                      go_ret
                      exact ⟨rfl, false, rfl, fun h => by simp at h⟩

              · go_wp2
                go_loop [11, 12] (fun m i => ∃ (t : Nat) (q : Int), j * 64 + 1 ≤ t ∧ t ≤ (j * 64 + 64) ∧ i = .int .i64 t ∧ m = .int .u16 q ∧ Low.IsMin (G p) (j * 64) t q) (fun _ i => (j * 64 + 64) - (intOf i).toNat)
                case atStart => exact ⟨j * 64 + 1, _, Nat.le_refl _, by omega, by go_num, rfl, Low.min_start _ _⟩
                case round =>
                  obtain ⟨t, q, ht1, ht2, rfl, rfl, hmn⟩ := hrel
                  have HI : Hid (Low.IsMin (G p) (j * 64) t q) := hmn
                  clear hmn
                  by_cases hlt3 : t < (j * 64 + 64)
                  · obtain ⟨hct, hlo, hhi⟩ := HP.out t (by omega)
                    by_cases hq : G p t < q
                    · go_wp2
                      go_round
                      case rel => exact ⟨t + 1, _, by omega, by omega, by go_num, rfl, Low.min_low HI.out (by omega) hq⟩
                      case measure => simp [intOf]; omega
                    · go_wp2
                      go_round
                      case rel => exact ⟨t + 1, _, by omega, by omega, by go_num, rfl, Low.min_keep HI.out hq⟩
                      case measure => simp [intOf]; omega
                  · obtain rfl : t = (j * 64 + 64) := by omega
                    by_cases heq : G (p + 1) j = q
                    · have t9 : (G (p + 1) j != q) = false := by simp [heq]
                      have HQ : Hid (G (p + 1) j = q) := heq
                      clear heq
                      go_wp2
                      go_round
                      case rel => exact ⟨j + 1, by omega, by go_num, fun i hi => by
                        by_cases e : i = j
                        · subst e; rw [HQ.out, show min (i * 64 + 64) (n p) = (i * 64 + 64) from by omega]; exact HI.out
                        · exact HS.out i (by omega)⟩
                      case measure => simp [intOf]; omega
                    · have t9 : (G (p + 1) j != q) = true := by simp [heq]
                      clear heq
                      go_wp2
                      go_ret
                      exact ⟨rfl, false, rfl, fun h => by simp at h⟩

            · have HJ : Hid (j = n (p + 1)) := by unfold Hid; omega
              have hge : n (p + 1) ≤ j := by omega
              clear t4 hce1 hj hh1 hh2 h0 t1 t2 t3
              go_wp2
              go_round
              case rel => exact ⟨p + 1, by omega, by go_num, hnq, fun i hi => by
                by_cases e : i = p
                · subst e; exact ⟨HCE.out, fun x hx => HS.out x (by omega)⟩
                · exact HT.out i (by omega)⟩
              case measure => simp [intOf]; omega
        · have t4 : ((n (p + 1) : Int) != ((n p : Int) + 64 - 1) / 64) = true := by rw [bne_iff_ne]; omega
          clear hce
          go_wp2
          go_ret
          exact ⟨rfl, false, rfl, fun h => by simp at h⟩
      · obtain rfl : p = K1 := by omega
        have hh1 := (HR.out p (by omega)).1
        have hl1 := HN.out p (by omega)
        go_wp2
        go_ret
        exact ⟨rfl, _, rfl, fun h => ⟨HM.out, by have := of_decide_eq_true h; omega, fun k hk => HT.out k (by omega)⟩⟩
  · have t3 : ((n 0 : Int) != (m : Int)) = true := by rw [bne_iff_ne]; omega
    clear hm0
    go_enter Try.func20, Try.ntmps20
    go_wp2
    go_ret
    exact ⟨rfl, false, rfl, fun h => by simp at h⟩
end Go.Proofs.Qxb6604135a
