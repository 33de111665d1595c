/-
  Seat b6604135a: the contracts of zzHexDigit (10), hex4 (28), ZZHex4 (12).
-/
import Derived.Test.Qxb6604135aBase
import Derived.WalkLawsBesides
namespace Go.Proofs.Qxb6604135a
open Go.ChangeShapes Go.WideShapes Go.ChangeAt Go.RowKit

/-- Is c a hexadecimal digit? -/
def hexB (c : Int) : Bool := decide ((48 ≤ c ∧ c ≤ 57) ∨ (97 ≤ c ∧ c ≤ 102) ∨ (65 ≤ c ∧ c ≤ 70))
/-- Its value. -/
def hexV (c : Int) : Int := if 48 ≤ c ∧ c ≤ 57 then c - 48 else if 97 ≤ c ∧ c ≤ 102 then c - 87 else if 65 ≤ c ∧ c ≤ 70 then c - 55 else 0

theorem hexB_cases {c : Int} (h : hexB c = true) : (48 ≤ c ∧ c ≤ 57 ∧ hexV c = c - 48) ∨ (97 ≤ c ∧ c ≤ 102 ∧ hexV c = c - 87) ∨ (65 ≤ c ∧ c ≤ 70 ∧ hexV c = c - 55) := by
  have h' := of_decide_eq_true h
  unfold hexV
  rcases h' with h' | h' | h'
  · left; exact ⟨h'.1, h'.2, if_pos h'⟩
  · right; left; exact ⟨h'.1, h'.2, by rw [if_neg (by omega), if_pos h']⟩
  · right; right; exact ⟨h'.1, h'.2, by rw [if_neg (by omega), if_neg (by omega), if_pos h']⟩
theorem hexV_rng (c : Int) : 0 ≤ hexV c ∧ hexV c ≤ 15 := by unfold hexV; split; omega; split; omega; split <;> omega

theorem ret_pair {k : IntKind} {a b : Int} {x y : Bool} (h : a = b) (g : x = y) : Ending.returned (.tuple #[.int k a, .bool x]) = .returned (.tuple #[.int k b, .bool y]) := by rw [h, g]

set_option maxHeartbeats 400000 in
theorem digit_any (c : Int) (w : World) (hc : 0 ≤ c ∧ c ≤ 255) :
    Calls Try.prog 10 #[.int .u8 c] w fun e w' => e = .returned (.tuple #[.int .i64 (hexV c), .bool (hexB c)]) ∧ w = w' := by
  by_cases h : hexB c = true
  · rcases hexB_cases h with ⟨h1, h2, h3⟩ | ⟨h1, h2, h3⟩ | ⟨h1, h2, h3⟩
    · rw [h, h3]
      clear h h3
      go_enter Try.func10, Try.ntmps10
      go_wp2
      go_ret2
      exact ⟨rfl, rfl⟩
    · rw [h, h3]
      clear h h3
      go_enter Try.func10, Try.ntmps10
      go_wp2
      go_ret2
      exact ⟨ret_pair (by omega) rfl, rfl⟩
    · rw [h, h3]
      clear h h3
      go_enter Try.func10, Try.ntmps10
      go_wp2
      go_ret2
      exact ⟨ret_pair (by omega) rfl, rfl⟩
  · have hV : hexV c = 0 := by unfold hexV; have h' : ¬ _ := fun k => h (decide_eq_true k); rw [if_neg (by omega), if_neg (by omega), if_neg (by omega)]
    have hF : hexB c = false := by simpa using h
    have h' : ¬ ((48 ≤ c ∧ c ≤ 57) ∨ (97 ≤ c ∧ c ≤ 102) ∨ (65 ≤ c ∧ c ≤ 70)) := fun k => h (decide_eq_true k)
    rw [hV, hF]
    clear hV hF h
    rcases (show c < 48 ∨ (58 ≤ c ∧ c < 65) ∨ (71 ≤ c ∧ c < 97) ∨ 103 ≤ c from by omega) with h | ⟨h, h2⟩ | ⟨h, h2⟩ | h
    all_goals
      clear h'
      go_enter Try.func10, Try.ntmps10
      go_wp2
      go_ret2
      exact ⟨rfl, rfl⟩

theorem or_low (x d : Int) (hx : 0 ≤ x ∧ x ≤ 4095) (hd : 0 ≤ d ∧ d ≤ 15) : bits .or .i32 (x * 16) d = x * 16 + d := by
  obtain ⟨a, rfl⟩ : ∃ a : Nat, x = a := ⟨x.toNat, by omega⟩
  obtain ⟨e, rfl⟩ : ∃ e : Nat, d = e := ⟨d.toNat, by omega⟩
  have h := Nat.two_pow_add_eq_or_of_lt (i := 4) (b := e) (by omega) a
  have e1 : ((a : Int) * 16) = ((2 ^ 4 * a : Nat) : Int) := by omega
  rw [e1]
  unfold bits
  simp only [BitVec.ofInt_natCast, BitVec.toNat_or, BitVec.toNat_ofNat]
  rw [show IntKind.i32.bits = 32 from rfl, Nat.mod_eq_of_lt (by omega), Nat.mod_eq_of_lt (by omega), ← h, IntWalk.i32_in _ ⟨by omega, by omega⟩]
  omega

/-- The value of the first k digits. -/
def acc (f : Nat → Int) : Nat → Int
  | 0 => 0
  | k + 1 => acc f k * 16 + hexV (f k)
theorem acc_rng (f : Nat → Int) : ∀ k, k ≤ 4 → 0 ≤ acc f k ∧ acc f k < 16 ^ k
  | 0, _ => by simp [acc]
  | 1, _ => by have := hexV_rng (f 0); simp [acc]; omega
  | 2, _ => by have := hexV_rng (f 0); have := hexV_rng (f 1); simp [acc]; omega
  | 3, _ => by have := hexV_rng (f 0); have := hexV_rng (f 1); have := hexV_rng (f 2); simp [acc]; omega
  | 4, _ => by have := hexV_rng (f 0); have := hexV_rng (f 1); have := hexV_rng (f 2); have := hexV_rng (f 3); simp [acc]; omega

set_option maxHeartbeats 400000 in
theorem hex4_any (b n : Nat) (f : Nat → Int) (w : World) (hn : 4 ≤ n) (hn2 : n ≤ 2097152) (hB : ∀ i, i < 4 → w.cell? ⟨b, i, none⟩ = some (.int .u8 (f i)) ∧ hexB (f i) = true) :
    Calls Try.prog 28 #[.slice (some ⟨b, 0, none⟩) n n] w fun e w' => e = .returned (.int .i32 (((hexV (f 0) * 16 + hexV (f 1)) * 16 + hexV (f 2)) * 16 + hexV (f 3))) ∧ w = w' := by
  have c0 := (hB 0 (by omega)).1
  clear c0
  go_enter Try.func28, Try.ntmps28
  go_wp2
  go_loop [3, 9] (fun r i => ∃ k : Nat, k ≤ 4 ∧ i = .int .i64 k ∧ r = .int .i32 (acc f k)) (fun _ i => 4 - (intOf i).toNat)
  case atStart => exact ⟨0, by omega, rfl, rfl⟩
  case round =>
    obtain ⟨k, hk, rfl, rfl⟩ := hrel
    by_cases hlt : k < 4
    · obtain ⟨hck, hx⟩ := hB k hlt
      have ha : 0 ≤ acc f k ∧ acc f k ≤ 4095 := by
        have := acc_rng f k hk
        have h16 : (16 : Int) ^ k ≤ 4096 := by
          match k, hlt with
          | 0, _ => decide
          | 1, _ => decide
          | 2, _ => decide
          | 3, _ => decide
        omega
      have HA : Hid (acc f (k + 1) = acc f k * 16 + hexV (f k)) := rfl
      rcases hexB_cases hx with ⟨h1, h2, h3⟩ | ⟨h1, h2, h3⟩ | ⟨h1, h2, h3⟩
      all_goals
        have H3 : Hid _ := h3
        clear h3 hx hB
        go_wp2
        go_round
        case rel => exact ⟨k + 1, by omega, by go_num, by rw [HA.out, H3.out, or_low _ _ ha (by omega)] <;> go_num⟩
        case measure => simp [intOf]; omega
    · obtain rfl : k = 4 := by omega
      clear hB
      go_wp2
      go_ret
      exact ⟨by simp [acc], rfl⟩

theorem zzhex4_any (b n : Nat) (f : Nat → Int) (w : World) (hn : 4 ≤ n) (hn2 : n ≤ 2097152) (hB : ∀ i, i < 4 → w.cell? ⟨b, i, none⟩ = some (.int .u8 (f i)) ∧ hexB (f i) = true) :
    Calls Try.prog 12 #[.slice (some ⟨b, 0, none⟩) n n] w fun e w' => e = .returned (.int .i32 (((hexV (f 0) * 16 + hexV (f 1)) * 16 + hexV (f 2)) * 16 + hexV (f 3))) ∧ w = w' := by
  have HB : Hid _ := hB
  clear hB
  go_enter Try.func12, Try.ntmps12
  go_wp2_with fail
  refine (hex4_any b n f _ hn hn2 HB.out).mono ?_
  rintro e w' ⟨rfl, rfl⟩
  go_wp2
  go_ret
  exact ⟨rfl, rfl⟩
end Go.Proofs.Qxb6604135a
