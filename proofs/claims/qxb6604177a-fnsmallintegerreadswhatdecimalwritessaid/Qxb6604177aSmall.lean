/-
  Seat b6604177a: the contracts of smallInteger (28), ZZSmallInteger (11), b1AllDigits (12).
-/
import Derived.Test.Qxb6604177aRows
import Derived.Test.Qxb6604177aPlain
import Derived.WalkKit
import Derived.ProofKit
import Derived.WalkSpells
import Derived.Below
import Derived.Deep.OwnRows
import Derived.WalkLawsBesides
namespace Go.Proofs.Qxb6604177a
open Go.ChangeShapes Go.WideShapes Go.ChangeAt Go.RowKit

theorem ret_pair {k : IntKind} {a b : Int} {x y : Bool} (h : a = b) (g : x = y) : Ending.returned (.tuple #[.int k a, .bool x]) = .returned (.tuple #[.int k b, .bool y]) := by rw [h, g]
theorem ret_bool {a b : Bool} (h : a = b) : Ending.returned (.bool a) = .returned (.bool b) := by rw [h]

theorem small_long (s : ByteArray) (w : World) (h : 9 < s.size) (hm : s.size ≤ 9223372036854775807) :
    Calls Try.prog 28 #[.string s] w fun e w' => e = .returned (.tuple #[.int .i32 0, .bool false]) ∧ w = w' := by
  go_enter Try.func28, Try.ntmps28
  go_wp2
  go_ret2
  exact ⟨rfl, rfl⟩

set_option maxHeartbeats 400000 in
theorem small_yes (s : ByteArray) (n : Nat) (g : Nat → Int) (w : World) (hn : n ≤ 9) (hT : Dec.Txt s n g) (hD : Dec.Digs g n) :
    Calls Try.prog 28 #[.string s] w fun e w' => e = .returned (.tuple #[.int .i32 (Dec.val g 0 n), .bool true]) ∧ w = w' := by
  obtain ⟨hsz, hby⟩ := hT
  have HB : Hid (∀ k (h : k < s.size), (s[k].toNat : Int) = g k) := hby
  have HD : Hid (Dec.Digs g n) := hD
  have hs9 : s.size ≤ 9 := by omega
  clear hby hD
  subst hsz
  go_enter Try.func28, Try.ntmps28
  go_wp2
  go_loop [4, 12] (fun v i => ∃ k : Nat, k ≤ s.size ∧ i = .int .i64 k ∧ v = .int .i32 (Dec.val g 0 k)) (fun _ i => s.size - (intOf i).toNat)
  case atStart => exact ⟨0, Nat.zero_le _, rfl, rfl⟩
  case round =>
    obtain ⟨k, hk, rfl, rfl⟩ := hrel
    by_cases hlt : k < s.size
    · have hv := Dec.val_small (g := g) (n := k) (fun j hj => HD.out j (by omega)) (by omega)
      have hg := HD.out k hlt
      have hs := HB.out k hlt
      have h1 : 48 ≤ (s[k].toNat : Int) ∧ (s[k].toNat : Int) ≤ 57 := by omega
      have HS : Hid ((s[k].toNat : Int) = g k) := hs
      have HV : Hid (Dec.val g 0 (k + 1) = 10 * Dec.val g 0 k + (g k - 48)) := rfl
      clear hg hs
      go_wp2
      go_round
      case rel => exact ⟨k + 1, by omega, by go_num, by rw [HV.out, ← HS.out]⟩
      case measure => simp [intOf]; omega
    · obtain rfl : k = s.size := by omega
      go_wp2
      go_ret2
      exact ⟨rfl, rfl⟩

set_option maxHeartbeats 400000 in
theorem small_no (s : ByteArray) (w : World) (hn : s.size ≤ 9) (hD : ¬ Dec.Digs (Dec.byt s) s.size) :
    Calls Try.prog 28 #[.string s] w fun e w' => e = .returned (.tuple #[.int .i32 0, .bool false]) ∧ w = w' := by
  have HD : Hid (¬ Dec.Digs (Dec.byt s) s.size) := hD
  clear hD
  go_enter Try.func28, Try.ntmps28
  go_wp2
  go_loop [4, 12] (fun v i => ∃ k : Nat, k ≤ s.size ∧ i = .int .i64 k ∧ v = .int .i32 (Dec.val (Dec.byt s) 0 k) ∧ Dec.Digs (Dec.byt s) k) (fun _ i => s.size - (intOf i).toNat)
  case atStart => exact ⟨0, Nat.zero_le _, rfl, rfl, fun j hj => by omega⟩
  case round =>
    obtain ⟨k, hk, rfl, rfl, hdg⟩ := hrel
    by_cases hlt : k < s.size
    · have hv := Dec.val_small hdg (by omega)
      have HG : Hid (Dec.Digs (Dec.byt s) k) := hdg
      have HS : Hid ((s[k].toNat : Int) = Dec.byt s k) := Dec.byt_at hlt
      have HV : Hid (Dec.val (Dec.byt s) 0 (k + 1) = 10 * Dec.val (Dec.byt s) 0 k + (Dec.byt s k - 48)) := rfl
      clear hdg
      by_cases h1 : (s[k].toNat : Int) < 48
      · go_wp2
        go_ret2
        exact ⟨rfl, rfl⟩
      · by_cases h2 : (57 : Int) < (s[k].toNat : Int)
        · go_wp2
          go_ret2
          exact ⟨rfl, rfl⟩
        · go_wp2
          go_round
          case rel => exact ⟨k + 1, by omega, by go_num, by rw [HV.out, ← HS.out], fun j hj => by
            by_cases e : j = k
            · subst e; rw [← HS.out]; omega
            · exact HG.out j (by omega)⟩
          case measure => simp [intOf]; omega
    · obtain rfl : k = s.size := by omega
      exact absurd hdg HD.out

theorem zz_of (s : ByteArray) (v : Int) (b : Bool) (w : World) (h : ∀ w : World, Calls Try.prog 28 #[.string s] w fun e w' => e = .returned (.tuple #[.int .i32 v, .bool b]) ∧ w = w') :
    Calls Try.prog 11 #[.string s] w fun e w' => e = .returned (.tuple #[.int .i32 v, .bool b]) ∧ w = w' := by
  have H : Hid (∀ w : World, Calls Try.prog 28 #[.string s] w fun e w' => e = .returned (.tuple #[.int .i32 v, .bool b]) ∧ w = w') := h
  clear h
  go_enter Try.func11, Try.ntmps11
  go_wp2_with fail
  refine (H.out _).mono ?_
  rintro e w' ⟨rfl, rfl⟩
  go_wp2
  go_ret2
  exact ⟨rfl, rfl⟩

set_option maxHeartbeats 400000 in
theorem digits_yes (s : ByteArray) (w : World) (hn : s.size ≤ 1048576) (hD : Dec.Digs (Dec.byt s) s.size) :
    Calls Try.prog 12 #[.string s] w fun e w' => e = .returned (.bool true) ∧ w = w' := by
  have HD : Hid (Dec.Digs (Dec.byt s) s.size) := hD
  clear hD
  go_enter Try.func12, Try.ntmps12
  go_wp2
  go_loop [3] (fun i => ∃ k : Nat, k ≤ s.size ∧ i = .int .i64 k) (fun i => s.size - (intOf i).toNat)
  case atStart => exact ⟨0, Nat.zero_le _, rfl⟩
  case round =>
    obtain ⟨k, hk, rfl⟩ := hrel
    by_cases hlt : k < s.size
    · have hg := HD.out k hlt
      rw [← Dec.byt_at hlt] at hg
      go_wp2
      go_round
      case rel => exact ⟨k + 1, by omega, by go_num⟩
      case measure => simp [intOf]; omega
    · go_wp2
      go_ret
      exact ⟨rfl, rfl⟩

set_option maxHeartbeats 400000 in
theorem digits_no (s : ByteArray) (w : World) (hn : s.size ≤ 1048576) (hD : ¬ Dec.Digs (Dec.byt s) s.size) :
    Calls Try.prog 12 #[.string s] w fun e w' => e = .returned (.bool false) ∧ w = w' := by
  have HD : Hid (¬ Dec.Digs (Dec.byt s) s.size) := hD
  clear hD
  go_enter Try.func12, Try.ntmps12
  go_wp2
  go_loop [3] (fun i => ∃ k : Nat, k ≤ s.size ∧ i = .int .i64 k ∧ Dec.Digs (Dec.byt s) k) (fun i => s.size - (intOf i).toNat)
  case atStart => exact ⟨0, Nat.zero_le _, rfl, fun j hj => by omega⟩
  case round =>
    obtain ⟨k, hk, rfl, hdg⟩ := hrel
    by_cases hlt : k < s.size
    · have HG : Hid (Dec.Digs (Dec.byt s) k) := hdg
      have HS : Hid ((s[k].toNat : Int) = Dec.byt s k) := Dec.byt_at hlt
      clear hdg
      by_cases h1 : (s[k].toNat : Int) < 48
      · go_wp2
        go_ret
        exact ⟨rfl, rfl⟩
      · by_cases h2 : (57 : Int) < (s[k].toNat : Int)
        · go_wp2
          go_ret
          exact ⟨rfl, rfl⟩
        · go_wp2
          go_round
          case rel => exact ⟨k + 1, by omega, by go_num, fun j hj => by
            by_cases e : j = k
            · subst e; rw [← HS.out]; omega
            · exact HG.out j (by omega)⟩
          case measure => simp [intOf]; omega
    · obtain rfl : k = s.size := by omega
      exact absurd hdg HD.out
end Go.Proofs.Qxb6604177a
