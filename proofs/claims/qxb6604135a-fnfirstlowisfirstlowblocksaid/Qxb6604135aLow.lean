/-
  Seat b6604135a: the contracts of zzLinearFirst (24), firstLow (29), ZZFirstLow (23).
-/
import Derived.Test.Qxb6604135aBase
import Derived.Test.Qxb6604135aLowPlain
import Derived.WalkLawsBesides
namespace Go.Proofs.Qxb6604135a
open Go.ChangeShapes Go.WideShapes Go.ChangeAt Go.RowKit

/-- Block b holds n numbers g. -/
def Nums (w : World) (b n : Nat) (g : Nat → Int) : Prop := ∀ i, i < n → w.cell? ⟨b, i, none⟩ = some (.int .u16 (g i)) ∧ 0 ≤ g i ∧ g i ≤ 65535

theorem lin_empty (a : Option Addr) (c : Nat) (b d : Int) (w : World) (_hb : 0 ≤ b) :
    Calls Try.prog 24 #[.slice a 0 c, .int .i64 0, .int .i64 b, .int .i64 d] w fun e w' => e = .returned (.int .i64 (-1)) ∧ w = w' := by
  go_enter Try.func24, Try.ntmps24
  go_wp2
  refine wp_loop_rounds 1 ?_
  rw [rounds_succ]
  go_wp2
  go_ret
  exact ⟨rfl, rfl⟩

set_option maxHeartbeats 400000 in
theorem lin_any (A n : Nat) (g : Nat → Int) (b : Nat) (d : Int) (w : World) (hn : n ≤ 1048576) (_hb : b ≤ 9223372036854775807) (hG : Nums w A n g) :
    Calls Try.prog 24 #[.slice (some ⟨A, 0, none⟩) n n, .int .i64 n, .int .i64 b, .int .i64 d] w fun e w' => ∃ r, e = .returned (.int .i64 r) ∧ Low.IsFirst g n b d r ∧ w = w' := by
  go_enter Try.func24, Try.ntmps24
  go_wp2
  go_loop [9] (fun i => ∃ k : Nat, b ≤ k ∧ k ≤ max b n ∧ i = .int .i64 k ∧ ∀ j, b ≤ j → j < k → d < g j) (fun i => n - (intOf i).toNat)
  case atStart => exact ⟨b, Nat.le_refl _, by omega, rfl, fun j h1 h2 => by omega⟩
  case round =>
    obtain ⟨k, hk1, hk2, rfl, hcl⟩ := hrel
    have HC : Hid _ := hcl
    clear hcl
    by_cases hlt : k < n
    · obtain ⟨hck, hlo, hhi⟩ := hG k hlt
      clear hG
      by_cases hd : g k ≤ d
      · go_wp2
        go_ret
        exact ⟨_, rfl, .inr ⟨k, rfl, hk1, hlt, hd, HC.out⟩, rfl⟩
      · go_wp2
        go_round
        case rel => exact ⟨k + 1, by omega, by omega, by go_num, fun j h1 h2 => by
          by_cases e : j = k
          · subst e; omega
          · exact HC.out j h1 (by omega)⟩
        case measure => simp [intOf]; omega
    · clear hG
      go_wp2
      go_ret
      exact ⟨_, rfl, .inl ⟨rfl, fun j h1 h2 => HC.out j h1 (by omega)⟩, rfl⟩

/-- K levels lie in memory, their headers from ⟨B, 0⟩ on. -/
def Levels (w : World) (B K : Nat) (A N : Nat → Nat) (L : Nat → Nat → Int) : Prop :=
  ∀ k, k < K → w.cell? ⟨B, k, none⟩ = some (.slice (some ⟨A k, 0, none⟩) (N k) (N k)) ∧ N k ≤ 1048576 ∧ Nums w (A k) (N k) (L k)

theorem low_none (X : Nat) (a : Option Addr) (n c : Nat) (b : Nat) (d : Int) (w : World) (hX : w.cell? ⟨X, 0, none⟩ = some (.slice a n c)) (hb : n ≤ b) (_hbm : b ≤ 9223372036854775807) :
    Calls Try.prog 29 #[.pointer (some ⟨X, 0, none⟩), .int .i64 b, .int .i64 d] w fun e w' => e = .returned (.int .i64 (-1)) ∧ w = w' := by
  go_enter Try.func29, Try.ntmps29
  go_wp2
  go_ret
  exact ⟨rfl, rfl⟩

set_option maxHeartbeats 1000000 in
theorem low_any (X : Nat) (a : Option Addr) (c B K Kc : Nat) (A N : Nat → Nat) (L : Nat → Nat → Int) (b : Nat) (d : Int) (w : World)
    (hX0 : w.cell? ⟨X, 0, none⟩ = some (.slice a (N 0) c)) (hX1 : w.cell? ⟨X, 1, none⟩ = some (.slice (some ⟨B, 0, none⟩) K Kc)) (hK : K ≤ 1048576) (hL : Levels w B K A N L) (hW : Low.WF K N L) (hb : b < N 0) :
    Calls Try.prog 29 #[.pointer (some ⟨X, 0, none⟩), .int .i64 b, .int .i64 d] w fun e w' => ∃ r, e = .returned (.int .i64 r) ∧ Low.IsFirst (L 0) (N 0) b d r ∧ w = w' := by
  have hN0 : N 0 ≤ 1048576 := (hL 0 hW.1).2.1
  have HL : Hid _ := hL
  have HW : Hid _ := hW
  have hK0 : 0 < K := hW.1
  clear hL hW
  go_enter Try.func29, Try.ntmps29
  go_wp2
  go_loop [1, 6, 7] (fun bb _ kk => ∃ (k b1 : Nat), k < K ∧ b1 < N k ∧ bb = .int .i64 b1 ∧ kk = .int .i64 k ∧ Low.Clear N L b d k b1) (fun _ _ kk => K - (intOf kk).toNat)
  case atStart => exact ⟨0, b, hK0, hb, rfl, rfl, Low.clear_start N L b d⟩
  case round =>
    obtain ⟨k, b1, hk, hb1, rfl, rfl, hcl⟩ := hrel
    have HC : Hid _ := hcl
    obtain ⟨hh, hNk, hnums⟩ := HL.out k hk
    have HN : Hid _ := hnums
    clear hcl hnums
    by_cases hmin : N k < (b1 / 64 + 1) * 64
    · go_wp2
      go_loop [1] (fun bb => ∃ i : Nat, b1 ≤ i ∧ i ≤ N k ∧ bb = .int .i64 i ∧ ∀ t, b1 ≤ t → t < i → d < L k t) (fun bb => N k - (intOf bb).toNat)
      case atStart => exact ⟨b1, Nat.le_refl _, by omega, rfl, fun t h1 h2 => by omega⟩
      case round =>
        obtain ⟨i, hi1, hi2, rfl, hcl⟩ := hrel
        have HI : Hid _ := hcl
        clear hcl
        by_cases hlt : i < N k
        · have hiN : i < N k := by omega
          obtain ⟨hck, hlo, hhi⟩ := HN.out i hiN
          by_cases hd : L k i ≤ d
          · have HC2 : Hid _ := Low.clear_scan HW.out hk HC.out hi1 HI.out
            go_wp2
            go_loop [1, 7] (fun bb kk => ∃ (k2 b2 : Nat), k2 < K ∧ b2 < N k2 ∧ bb = .int .i64 b2 ∧ kk = .int .i64 k2 ∧ L k2 b2 ≤ d ∧ Low.Clear N L b d k2 b2) (fun _ kk => (intOf kk).toNat)
            case atStart => exact ⟨k, i, hk, hiN, rfl, rfl, hd, HC2.out⟩
            case round =>
              obtain ⟨k2, b2, hk2, hb2, rfl, rfl, hd2, hcl2⟩ := hrel
              clear HC2 HC HN HI hd hh hb1 hNk
              by_cases hk0 : 0 < k2
              · obtain ⟨k3, rfl⟩ : ∃ k3, k2 = k3 + 1 := ⟨k2 - 1, by omega⟩
                have HU : Hid _ := Low.under HW.out hk2 hb2 hd2
                have HC3 : Hid _ := Low.clear_down hcl2
                obtain ⟨hh3, hN3, hnums3⟩ := HL.out (k3 + 1) hk2
                obtain ⟨hh4, hN4, hnums4⟩ := HL.out k3 (by omega)
                have HN4 : Hid _ := hnums4
                clear hcl2 hd2 hnums3 hnums4 hh3
                go_wp2
                go_loop [1] (fun bb => ∃ i2 : Nat, b2 * 64 ≤ i2 ∧ bb = .int .i64 i2 ∧ (∃ t, i2 ≤ t ∧ t < b2 * 64 + 64 ∧ t < N k3 ∧ L k3 t ≤ d) ∧ ∀ t, b2 * 64 ≤ t → t < i2 → d < L k3 t) (fun bb => b2 * 64 + 64 - (intOf bb).toNat)
                case atStart => exact ⟨b2 * 64, Nat.le_refl _, by go_num, HU.out, fun t h1 h2 => by omega⟩
                case round =>
                  obtain ⟨i2, hi2, rfl, hex, hcl4⟩ := hrel
                  obtain ⟨t, ht1, ht2, ht3, ht4⟩ := hex
                  have HT : Hid _ := ht4
                  have HI4 : Hid _ := hcl4
                  clear ht4 hcl4 HU
                  obtain ⟨hck4, hlo4, hhi4⟩ := HN4.out i2 (by omega)
                  have e1 : ((k3 + 1 : Nat) : Int) - 1 = (k3 : Int) := by omega
                  by_cases hd4 : d < L k3 i2
                  · go_wp2
                    go_round
                    case rel => exact ⟨i2 + 1, by omega, by go_num, ⟨t, by
                      rcases Nat.lt_or_ge i2 t with c | c
                      · exact c
                      · have := HT.out
                        obtain rfl : i2 = t := by omega
                        omega, ht2, ht3, HT.out⟩, fun t h1 h2 => by
                      by_cases e : t = i2
                      · subst e; exact hd4
                      · exact HI4.out t h1 (by omega)⟩
                    case measure => simp [intOf]; omega
                  · go_wp2
                    go_round
                    case rel => exact ⟨k3, i2, by omega, by omega, rfl, by go_num, by omega, Low.clear_scan HW.out (by omega) HC3.out hi2 HI4.out⟩
                    case measure => simp [intOf]
              · obtain rfl : k2 = 0 := by omega
                have HF : Hid _ := Low.found hcl2 hb2 hd2
                clear hcl2 hd2
                go_wp2
                go_ret
                exact ⟨_, rfl, HF.out, rfl⟩

          · go_wp2
            go_round
            case rel => exact ⟨i + 1, by omega, by omega, by go_num, fun t h1 h2 => by
              by_cases e : t = i
              · subst e; omega
              · exact HI.out t h1 (by omega)⟩
            case measure => simp [intOf]; omega
        · obtain rfl : i = N k := by omega
          have HC2 : Hid _ := Low.clear_scan HW.out hk HC.out hi1 HI.out
          have HF : Hid (Low.IsFirst (L 0) (N 0) b d (-1)) := Low.none_left HW.out hk HC2.out
          go_wp2
          go_ret
          exact ⟨_, rfl, HF.out, rfl⟩
    · go_wp2
      go_loop [1] (fun bb => ∃ i : Nat, b1 ≤ i ∧ i ≤ (b1 / 64 + 1) * 64 ∧ bb = .int .i64 i ∧ ∀ t, b1 ≤ t → t < i → d < L k t) (fun bb => (b1 / 64 + 1) * 64 - (intOf bb).toNat)
      case atStart => exact ⟨b1, Nat.le_refl _, by omega, rfl, fun t h1 h2 => by omega⟩
      case round =>
        obtain ⟨i, hi1, hi2, rfl, hcl⟩ := hrel
        have HI : Hid _ := hcl
        clear hcl
        by_cases hlt : i < (b1 / 64 + 1) * 64
        · have hiN : i < N k := by omega
          obtain ⟨hck, hlo, hhi⟩ := HN.out i hiN
          by_cases hd : L k i ≤ d
          · have HC2 : Hid _ := Low.clear_scan HW.out hk HC.out hi1 HI.out
            go_wp2
            go_loop [1, 7] (fun bb kk => ∃ (k2 b2 : Nat), k2 < K ∧ b2 < N k2 ∧ bb = .int .i64 b2 ∧ kk = .int .i64 k2 ∧ L k2 b2 ≤ d ∧ Low.Clear N L b d k2 b2) (fun _ kk => (intOf kk).toNat)
            case atStart => exact ⟨k, i, hk, hiN, rfl, rfl, hd, HC2.out⟩
            case round =>
              obtain ⟨k2, b2, hk2, hb2, rfl, rfl, hd2, hcl2⟩ := hrel
              clear HC2 HC HN HI hd hh hb1 hNk
              by_cases hk0 : 0 < k2
              · obtain ⟨k3, rfl⟩ : ∃ k3, k2 = k3 + 1 := ⟨k2 - 1, by omega⟩
                have HU : Hid _ := Low.under HW.out hk2 hb2 hd2
                have HC3 : Hid _ := Low.clear_down hcl2
                obtain ⟨hh3, hN3, hnums3⟩ := HL.out (k3 + 1) hk2
                obtain ⟨hh4, hN4, hnums4⟩ := HL.out k3 (by omega)
                have HN4 : Hid _ := hnums4
                clear hcl2 hd2 hnums3 hnums4 hh3
                go_wp2
                go_loop [1] (fun bb => ∃ i2 : Nat, b2 * 64 ≤ i2 ∧ bb = .int .i64 i2 ∧ (∃ t, i2 ≤ t ∧ t < b2 * 64 + 64 ∧ t < N k3 ∧ L k3 t ≤ d) ∧ ∀ t, b2 * 64 ≤ t → t < i2 → d < L k3 t) (fun bb => b2 * 64 + 64 - (intOf bb).toNat)
                case atStart => exact ⟨b2 * 64, Nat.le_refl _, by go_num, HU.out, fun t h1 h2 => by omega⟩
                case round =>
                  obtain ⟨i2, hi2, rfl, hex, hcl4⟩ := hrel
                  obtain ⟨t, ht1, ht2, ht3, ht4⟩ := hex
                  have HT : Hid _ := ht4
                  have HI4 : Hid _ := hcl4
                  clear ht4 hcl4 HU
                  obtain ⟨hck4, hlo4, hhi4⟩ := HN4.out i2 (by omega)
                  have e1 : ((k3 + 1 : Nat) : Int) - 1 = (k3 : Int) := by omega
                  by_cases hd4 : d < L k3 i2
                  · go_wp2
                    go_round
                    case rel => exact ⟨i2 + 1, by omega, by go_num, ⟨t, by
                      rcases Nat.lt_or_ge i2 t with c | c
                      · exact c
                      · have := HT.out
                        obtain rfl : i2 = t := by omega
                        omega, ht2, ht3, HT.out⟩, fun t h1 h2 => by
                      by_cases e : t = i2
                      · subst e; exact hd4
                      · exact HI4.out t h1 (by omega)⟩
                    case measure => simp [intOf]; omega
                  · go_wp2
                    go_round
                    case rel => exact ⟨k3, i2, by omega, by omega, rfl, by go_num, by omega, Low.clear_scan HW.out (by omega) HC3.out hi2 HI4.out⟩
                    case measure => simp [intOf]
              · obtain rfl : k2 = 0 := by omega
                have HF : Hid _ := Low.found hcl2 hb2 hd2
                clear hcl2 hd2
                go_wp2
                go_ret
                exact ⟨_, rfl, HF.out, rfl⟩

          · go_wp2
            go_round
            case rel => exact ⟨i + 1, by omega, by omega, by go_num, fun t h1 h2 => by
              by_cases e : t = i
              · subst e; omega
              · exact HI.out t h1 (by omega)⟩
            case measure => simp [intOf]; omega
        · obtain rfl : i = (b1 / 64 + 1) * 64 := by omega
          have HC2 : Hid _ := Low.clear_scan HW.out hk HC.out hi1 HI.out
          by_cases heq : (b1 / 64 + 1) * 64 = N k
          · have HF : Hid (Low.IsFirst (L 0) (N 0) b d (-1)) := Low.none_left HW.out hk (heq ▸ HC2.out)
            go_wp2
            go_ret
            exact ⟨_, rfl, HF.out, rfl⟩
          · obtain ⟨hk2, hup⟩ := Low.up_ok (b := b1) HW.out hk (by omega)
            have t1 : (((b1 : Int) / 64 + 1) * 64 == (N k : Int)) = false := by rw [beq_eq_false_iff_ne]; omega
            have t2 : ((k : Int) == (K : Int) - 1) = false := by rw [beq_eq_false_iff_ne]; omega
            clear heq
            go_wp2
            go_round
            case rel => exact ⟨.int .i64 ((b1 : Int) / 64 + 1), _, .int .i64 ((k : Int) + 1), ⟨k + 1, hk2, b1 / 64 + 1, hup, by go_num, by go_num, Low.clear_up HC2.out⟩, rfl, rfl, rfl⟩
            case measure => simp [intOf]; omega
end Go.Proofs.Qxb6604135a
