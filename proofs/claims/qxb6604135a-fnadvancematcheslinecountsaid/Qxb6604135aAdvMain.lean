/-
  Seat b6604135a: the walk of FnAdvanceMatchesLineCount (5), the main ways.
-/
import Derived.Test.Qxb6604135aAdvLaw
namespace Go.Proofs.Qxb6604135a
open Go.ChangeShapes Go.WideShapes Go.ChangeAt Go.RowKit

theorem nl_step (f : Nat → Int) (s j t : Nat) (h : s + j < t) : Adv.nl f (s + j) (t - (s + j)) = Adv.nl f (s + (j + 1)) (t - (s + (j + 1))) + (if f (s + j) = 10 then 1 else 0) := by
  have e : t - (s + j) = (t - (s + (j + 1))) + 1 := by omega
  rw [e, Adv.nl_front]; rfl

theorem law_none_to (f : Nat → Int) (s t : Nat) (C q : Int) (hst : s ≤ t) (hC : -9223372036854775808 ≤ C ∧ C ≤ 9223372036854775807) (h : Adv.Last f s t q) (hq : q < 0) :
    Adv.col f s C (t - s) = wrap64 (C + Adv.ch f s (t - s)) :=
  Adv.law_none f s (t - s) C q hC (by rw [show s + (t - s) = t from by omega]; exact h) hq
theorem law_fed_to (f : Nat → Int) (s t : Nat) (C q : Int) (hst : s ≤ t) (h : Adv.Last f s t q) (hq : ¬ q < 0) :
    ∃ j : Nat, q = j ∧ s ≤ j ∧ j < t ∧ Adv.col f s C (t - s) = wrap64 (1 + Adv.ch f (j + 1) (t - (j + 1))) := by
  obtain ⟨j, h1, h2, h3, h4⟩ := Adv.law_fed f s (t - s) C q (by rw [show s + (t - s) = t from by omega]; exact h) hq
  rw [show s + (t - s) = t from by omega] at h3 h4
  exact ⟨j, h1, h2, h3, h4⟩
theorem Bytes.alloc {w : World} {b n : Nat} {f : Nat → Int} (h : Bytes w b n f) (hb : b < w.heap.size) (o : Obj) : Bytes (w.alloc o) b n f := fun i hi => ⟨(World.cell?_alloc_lt _ _ ⟨b, i, none⟩ hb).trans (h i hi).1, (h i hi).2⟩

set_option maxHeartbeats 2000000 in
theorem law_main (x : Addr) (len cap : Nat) (f : Nat → Int) (s t : Nat) (l c : Int) (w : World) (hl : len ≤ 1048576) (hc : ∀ i, i < len → w.cell? (x.add i) = some (.int .u8 (f i))) (hf : ∀ i, i < len → 0 ≤ f i ∧ f i ≤ 255)
    (hst : s ≤ t) (htn : t ≤ len) (h3 : (l == 0) = false) (hL : -9223372036854775808 ≤ l ∧ l ≤ 9223372036854775807) (hC : -9223372036854775808 ≤ c ∧ c ≤ 9223372036854775807) :
    Calls Try.prog 5 #[.int .i64 s, .int .i64 l, .int .i64 c, .slice (some x) len cap, .int .i64 t] w fun e w' => e = .returned (.bool true) ∧ Below w.heap.size w w' := by
  have HC : Hid _ := hc
  have HF : Hid _ := hf
  have HFr : Hid (Frm s l c s l c) := .inl ⟨by simpa using h3, rfl, rfl, rfl⟩
  clear hc hf
  go_enter Try.func5, Try.ntmps5
  go_wp2_with (first
    | (go_at_call 11; refine (cloneBytes_any x len cap f _ hl HC.out).mono ?_; rintro e w1 ⟨rfl, hrow, hbel1⟩; have HR1 : Hid _ := hrow; have HB1 : Hid _ := hbel1; clear hrow hbel1)
    | (go_at_call 16; fail)
    | go_at_call 15; go_in)
  have hB2 : Bytes (w1.alloc (.cells #[.int .i64 (s : Int), .int .i64 l, .int .i64 c] 34)) w.heap.size len f := fun i hi => ⟨(World.rowIs.alloc HR1.out _).cell hi, HF.out i hi⟩
  have hz1 : w.heap.size < w1.heap.size := World.rowIs.lt HR1.out
  refine (adv_to w.heap.size len f s t s l c t l c _ hL hl hB2 (by simp; omega) hst htn rfl HFr).mono ?_
  rintro e w3 ⟨rfl, hbel3⟩
  have hz3 : w1.heap.size + 1 ≤ w3.heap.size := by have := hbel3.size; simpa using this
  have hB3 : Bytes w3 w.heap.size len f := fun i hi => ⟨(hbel3.cell (p := ⟨w.heap.size, i, none⟩) (by simp; omega)).trans (hB2 i hi).1, HF.out i hi⟩
  have HB3 : Hid _ := hB3
  have HE : Hid (∀ o, Below w.heap.size w (w3.alloc o)) := fun o => (((Below.alloc HB1.out (by omega) _).trans (hbel3.mono (by simp; omega)))).alloc (by omega) o
  clear hB2 hB3 hbel3
  go_wp2_with fail
  go_loop [16, 17, 18] (fun nn la i => ∃ (k : Nat) (q : Int), s + k ≤ t ∧ i = .int .i64 ((s : Int) + k - 1) ∧ nn = .int .i64 (Adv.nl f (s + k) (t - (s + k))) ∧ la = .int .i64 q ∧ Adv.Last f (s + k) t q) (fun _ _ i => (intOf i + 1 - s).toNat)
  case atStart => exact ⟨t - s, -1, by omega, by go_num, by rw [show s + (t - s) = t from by omega, Nat.sub_self]; rfl, rfl, by rw [show s + (t - s) = t from by omega]; exact Adv.last_start f t⟩
  case round =>
    obtain ⟨k, q, hk, rfl, rfl, rfl, hq⟩ := hrel
    have HQ : Hid _ := hq
    have hnl := Adv.nl_le f (s + k) (t - (s + k))
    clear hq
    by_cases hlt : 0 < k
    · obtain ⟨j, rfl⟩ : ∃ j, k = j + 1 := ⟨k - 1, by omega⟩
      rw [show ((s : Int) + ((j + 1 : Nat) : Int) - 1) = ((s + j : Nat) : Int) from by omega]
      have hck : ∀ o, (w3.alloc o).cell? ⟨w.heap.size, s + j, none⟩ = some (.int .u8 (f (s + j))) := fun o => (Bytes.alloc HB3.out (by omega) o (s + j) (by omega)).1
      obtain ⟨_, hlo, hhi⟩ := HB3.out (s + j) (by omega)
      have HS : Hid _ := nl_step f s j t (by omega)
      by_cases h10 : f (s + j) = 10
      · have t1 : (f (s + j) == 10) = true := by simp [h10]
        have H10 : Hid _ := h10
        clear h10
        by_cases hq0 : q < 0
        · go_wp2_with fail
          go_round
          case rel => exact ⟨j, _, by omega, by go_num, by rw [HS.out, if_pos H10.out]; go_num, rfl, Adv.last_hit HQ.out (by omega) hq0 H10.out⟩
          case measure => simp [intOf]; omega
        · go_wp2_with fail
          go_round
          case rel => exact ⟨j, _, by omega, by go_num, by rw [HS.out, if_pos H10.out]; go_num, rfl, Adv.last_more HQ.out hq0⟩
          case measure => simp [intOf]; omega
      · have t1 : (f (s + j) == 10) = false := by simp [h10]
        have H10 : Hid _ := h10
        clear h10
        go_wp2_with fail
        go_round
        case rel => exact ⟨j, _, by omega, by go_num, by rw [HS.out, if_neg H10.out]; go_num, rfl, Adv.last_keep HQ.out H10.out⟩
        case measure => simp [intOf]; omega
    · obtain rfl : k = 0 := by omega
      have hq := HQ.out
      rw [Nat.add_zero] at hq hnl
      by_cases hq0 : q < 0
      · have hcol := law_none_to f s t c q hst hC hq hq0
        clear hq HQ
        go_wp2_with (first | (go_at_call 17; refine (chars_to w.heap.size len f s t _ _ _ hl (Bytes.alloc HB3.out (by omega) _) hst htn rfl rfl).mono ?_; rintro e w4 ⟨rfl, rfl⟩))
        go_ret
        exact ⟨rfl, HE.out _⟩
      · obtain ⟨j, rfl, hj1, hj2, hcol⟩ := law_fed_to f s t c q hst hq hq0
        clear hq HQ
        go_wp2_with (first | (go_at_call 17; refine (chars_to w.heap.size len f (j + 1) t _ _ _ hl (Bytes.alloc HB3.out (by omega) _) (by omega) htn (by omega) rfl).mono ?_; rintro e w4 ⟨rfl, rfl⟩))
        go_ret
        exact ⟨rfl, HE.out _⟩
theorem nl_step0 (f : Nat → Int) (j t : Nat) (h : j < t) : Adv.nl f j (t - j) = Adv.nl f (j + 1) (t - (j + 1)) + (if f j = 10 then 1 else 0) := by
  have e : t - j = (t - (j + 1)) + 1 := by omega
  rw [e, Adv.nl_front]

set_option maxHeartbeats 2000000 in
theorem law_main0 (x : Addr) (len cap : Nat) (f : Nat → Int) (t : Nat) (o c : Int) (w : World) (hl : len ≤ 1048576) (hc : ∀ i, i < len → w.cell? (x.add i) = some (.int .u8 (f i))) (hf : ∀ i, i < len → 0 ≤ f i ∧ f i ≤ 255)
    (htn : t ≤ len) :
    Calls Try.prog 5 #[.int .i64 o, .int .i64 0, .int .i64 c, .slice (some x) len cap, .int .i64 t] w fun e w' => e = .returned (.bool true) ∧ Below w.heap.size w w' := by
  have HC : Hid _ := hc
  have HF : Hid _ := hf
  have HFr : Hid (Frm o 0 c 0 1 1) := .inr ⟨rfl, rfl, rfl, rfl⟩
  clear hc hf
  go_enter Try.func5, Try.ntmps5
  go_wp2_with (first
    | (go_at_call 11; refine (cloneBytes_any x len cap f _ hl HC.out).mono ?_; rintro e w1 ⟨rfl, hrow, hbel1⟩; have HR1 : Hid _ := hrow; have HB1 : Hid _ := hbel1; clear hrow hbel1)
    | (go_at_call 16; fail)
    | go_at_call 15; go_in)
  have hB2 : Bytes (w1.alloc (.cells #[.int .i64 o, .int .i64 0, .int .i64 c] 34)) w.heap.size len f := fun i hi => ⟨(World.rowIs.alloc HR1.out _).cell hi, HF.out i hi⟩
  have hz1 : w.heap.size < w1.heap.size := World.rowIs.lt HR1.out
  refine (adv_to w.heap.size len f 0 t o 0 c t 1 1 _ ⟨by omega, by omega⟩ hl hB2 (by simp; omega) (Nat.zero_le _) htn rfl HFr).mono ?_
  rintro e w3 ⟨rfl, hbel3⟩
  have hz3 : w1.heap.size + 1 ≤ w3.heap.size := by have := hbel3.size; simpa using this
  have hB3 : Bytes w3 w.heap.size len f := fun i hi => ⟨(hbel3.cell (p := ⟨w.heap.size, i, none⟩) (by simp; omega)).trans (hB2 i hi).1, HF.out i hi⟩
  have HB3 : Hid _ := hB3
  have HE : Hid (∀ o, Below w.heap.size w (w3.alloc o)) := fun o => (((Below.alloc HB1.out (by omega) _).trans (hbel3.mono (by simp; omega)))).alloc (by omega) o
  clear hB2 hB3 hbel3
  go_wp2_with fail
  go_loop [16, 17, 18] (fun nn la i => ∃ (k : Nat) (q : Int), k ≤ t ∧ i = .int .i64 ((k : Int) - 1) ∧ nn = .int .i64 (Adv.nl f k (t - k)) ∧ la = .int .i64 q ∧ Adv.Last f k t q) (fun _ _ i => (intOf i + 1).toNat)
  case atStart => exact ⟨t, -1, by omega, by go_num, by rw [Nat.sub_self]; rfl, rfl, Adv.last_start f t⟩
  case round =>
    obtain ⟨k, q, hk, rfl, rfl, rfl, hq⟩ := hrel
    have HQ : Hid _ := hq
    have hnl := Adv.nl_le f k (t - k)
    clear hq
    by_cases hlt : 0 < k
    · obtain ⟨j, rfl⟩ : ∃ j, k = j + 1 := ⟨k - 1, by omega⟩
      rw [show (((j + 1 : Nat) : Int) - 1) = ((j : Nat) : Int) from by omega]
      have hck : ∀ o, (w3.alloc o).cell? ⟨w.heap.size, j, none⟩ = some (.int .u8 (f j)) := fun o => (Bytes.alloc HB3.out (by omega) o j (by omega)).1
      obtain ⟨_, hlo, hhi⟩ := HB3.out j (by omega)
      have HS : Hid _ := nl_step0 f j t (by omega)
      by_cases h10 : f j = 10
      · have t1 : (f j == 10) = true := by simp [h10]
        have H10 : Hid _ := h10
        clear h10
        by_cases hq0 : q < 0
        · go_wp2_with fail
          go_round
          case rel => exact ⟨j, _, by omega, by go_num, by rw [HS.out, if_pos H10.out]; go_num, rfl, Adv.last_hit HQ.out (by omega) hq0 H10.out⟩
          case measure => simp [intOf]
        · go_wp2_with fail
          go_round
          case rel => exact ⟨j, _, by omega, by go_num, by rw [HS.out, if_pos H10.out]; go_num, rfl, Adv.last_more HQ.out hq0⟩
          case measure => simp [intOf]
      · have t1 : (f j == 10) = false := by simp [h10]
        have H10 : Hid _ := h10
        clear h10
        go_wp2_with fail
        go_round
        case rel => exact ⟨j, _, by omega, by go_num, by rw [HS.out, if_neg H10.out]; go_num, rfl, Adv.last_keep HQ.out H10.out⟩
        case measure => simp [intOf]
    · obtain rfl : k = 0 := by omega
      have hq := HQ.out
      rw [Nat.sub_zero] at hnl
      have hw1 : wrap64 (1 + (Adv.nl f 0 t : Nat)) = 1 + (Adv.nl f 0 t : Nat) := Adv.wrap64_id _ ⟨by omega, by omega⟩
      by_cases hq0 : q < 0
      · have hcol := law_none_to f 0 t 1 q (Nat.zero_le _) ⟨by omega, by omega⟩ hq hq0
        rw [Nat.sub_zero] at hcol
        clear hq HQ
        go_wp2_with (first | (go_at_call 17; refine (chars_to w.heap.size len f 0 t _ _ _ hl (Bytes.alloc HB3.out (by omega) _) (Nat.zero_le _) htn rfl rfl).mono ?_; rintro e w4 ⟨rfl, rfl⟩))
        go_ret
        exact ⟨rfl, HE.out _⟩
      · obtain ⟨j, rfl, hj1, hj2, hcol⟩ := law_fed_to f 0 t 1 q (Nat.zero_le _) hq hq0
        rw [Nat.sub_zero] at hcol
        clear hq HQ
        go_wp2_with (first | (go_at_call 17; refine (chars_to w.heap.size len f (j + 1) t _ _ _ hl (Bytes.alloc HB3.out (by omega) _) (by omega) htn (by omega) rfl).mono ?_; rintro e w4 ⟨rfl, rfl⟩))
        go_ret
        exact ⟨rfl, HE.out _⟩
end Go.Proofs.Qxb6604135a
