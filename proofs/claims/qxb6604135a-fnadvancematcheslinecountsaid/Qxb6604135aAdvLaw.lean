/-
  Seat b6604135a: the walk of FnAdvanceMatchesLineCount (5).
-/
import Derived.Test.Qxb6604135aAdvZ
namespace Go.Proofs.Qxb6604135a
open Go.ChangeShapes Go.WideShapes Go.ChangeAt Go.RowKit

theorem chars_to (b n : Nat) (f : Nat → Int) (s t : Nat) (x y : Int) (w : World) (hn : n ≤ 1048576) (hB : Bytes w b n f) (hst : s ≤ t) (htn : t ≤ n) (hx : x = s) (hy : y = t) :
    Calls Try.prog 17 #[.slice (some ⟨b, 0, none⟩) n n, .int .i64 x, .int .i64 y] w fun e w' => e = .returned (.int .i64 (Adv.ch f s (t - s))) ∧ w = w' := by
  obtain ⟨m, rfl⟩ : ∃ m, t = s + m := ⟨t - s, by omega⟩
  subst hx hy
  rw [show s + m - s = m from by omega]
  exact chars_any b n f s m w hn hB htn

/-- Where the law counts from. -/
def Frm (o l c : Int) (s : Nat) (L C : Int) : Prop := (l ≠ 0 ∧ o = s ∧ L = l ∧ C = c) ∨ (l = 0 ∧ s = 0 ∧ L = 1 ∧ C = 1)

theorem adv_to (b n : Nat) (f : Nat → Int) (s t : Nat) (o l c y L C : Int) (w : World) (hL : -9223372036854775808 ≤ l ∧ l ≤ 9223372036854775807) (hn : n ≤ 1048576) (hB : Bytes w b n f) (hb : b < w.heap.size) (hst : s ≤ t) (htn : t ≤ n) (hy : y = t) (hF : Hid (Frm o l c s L C)) :
    Calls Try.prog 16 #[.agg #[.int .i64 o, .int .i64 l, .int .i64 c], .slice (some ⟨b, 0, none⟩) n n, .int .i64 y] w fun e w' =>
      e = .returned (.agg #[.int .i64 t, .int .i64 (wrap64 (L + Adv.nl f s (t - s))), .int .i64 (Adv.col f s C (t - s))]) ∧ Below w.heap.size w w' := by
  obtain ⟨m, rfl⟩ : ∃ m, t = s + m := ⟨t - s, by omega⟩
  subst hy
  rw [show s + m - s = m from by omega]
  rcases hF.out with ⟨h1, h2, h3, h4⟩ | ⟨h1, h2, h3, h4⟩
  · subst h2 h3 h4
    exact adv_any b n f s m L C (by simpa using h1) hL w hn hB hb htn
  · subst h1 h2
    rw [Nat.zero_add] at *
    exact adv_zero b n f m o c L C h3 h4 w hn hB hb htn

theorem law_big (a0 a1 a2 a4 : Int) (x : Option Addr) (len cap : Nat) (w : World) (h : 1048576 < len) (hm : len ≤ 9223372036854775807) :
    Calls Try.prog 5 #[.int .i64 a0, .int .i64 a1, .int .i64 a2, .slice x len cap, .int .i64 a4] w fun e w' => e = .returned (.bool true) ∧ w = w' := by
  go_enter Try.func5, Try.ntmps5
  go_wp2
  go_ret
  exact ⟨rfl, rfl⟩

theorem law_off (a0 a1 a2 a4 : Int) (x : Option Addr) (len cap : Nat) (w : World) (h : len ≤ 1048576) (hm : a4 < 0 ∨ len < a4) :
    Calls Try.prog 5 #[.int .i64 a0, .int .i64 a1, .int .i64 a2, .slice x len cap, .int .i64 a4] w fun e w' => e = .returned (.bool true) ∧ w = w' := by
  rcases hm with hm | hm
  · go_enter Try.func5, Try.ntmps5
    go_wp2
    go_ret
    exact ⟨rfl, rfl⟩
  · have hm2 : ¬ a4 < 0 := by omega
    go_enter Try.func5, Try.ntmps5
    go_wp2
    go_ret
    exact ⟨rfl, rfl⟩

theorem law_pos (a0 a1 a2 a4 : Int) (x : Option Addr) (len cap : Nat) (w : World) (h : len ≤ 1048576) (h1 : 0 ≤ a4) (h2 : a4 ≤ len) (h3 : (a1 == 0) = false) (hm : a0 < 0 ∨ a4 < a0) :
    Calls Try.prog 5 #[.int .i64 a0, .int .i64 a1, .int .i64 a2, .slice x len cap, .int .i64 a4] w fun e w' => e = .returned (.bool true) ∧ w = w' := by
  rcases hm with hm | hm
  · go_enter Try.func5, Try.ntmps5
    go_wp2
    go_ret
    exact ⟨rfl, rfl⟩
  · have hm2 : ¬ a0 < 0 := by omega
    go_enter Try.func5, Try.ntmps5
    go_wp2
    go_ret
    exact ⟨rfl, rfl⟩

set_option maxHeartbeats 1000000 in
theorem law_nil (a1 a2 : Int) (w : World) (h3 : (a1 == 0) = false) (hL : -9223372036854775808 ≤ a1 ∧ a1 ≤ 9223372036854775807) (hC : -9223372036854775808 ≤ a2 ∧ a2 ≤ 9223372036854775807) :
    Calls Try.prog 5 #[.int .i64 0, .int .i64 a1, .int .i64 a2, .slice none 0 0, .int .i64 0] w fun e w' => e = .returned (.bool true) ∧ Below w.heap.size w w' := by
  go_enter Try.func5, Try.ntmps5
  go_wp2_with (first
    | (go_at_call 11; refine (cloneBytes_nil _).mono ?_; rintro e w' ⟨rfl, rfl⟩)
    | (go_at_call 16; refine (adv_nil _ _ _ h3).mono ?_; rintro e w' ⟨rfl, hbel⟩)
    | go_in)
  refine wp_loop_rounds 1 ?_
  rw [rounds_succ]
  go_wp2_with (first
    | (go_at_call 17; refine (chars_nil _).mono ?_; rintro e w2 ⟨rfl, rfl⟩)
    | go_in)
  go_ret
  exact ⟨rfl, (((Below.refl _ _).alloc (Nat.le_refl _) _).trans (hbel.mono (by simp))).alloc (by have := hbel.size; simp at this; omega) _⟩

set_option maxHeartbeats 1000000 in
theorem law_nil0 (a0 a2 : Int) (w : World) :
    Calls Try.prog 5 #[.int .i64 a0, .int .i64 0, .int .i64 a2, .slice none 0 0, .int .i64 0] w fun e w' => e = .returned (.bool true) ∧ Below w.heap.size w w' := by
  go_enter Try.func5, Try.ntmps5
  go_wp2_with (first
    | (go_at_call 11; refine (cloneBytes_nil _).mono ?_; rintro e w' ⟨rfl, rfl⟩)
    | (go_at_call 16; refine (adv_nil0 _ _ _).mono ?_; rintro e w' ⟨rfl, hbel⟩)
    | go_in)
  refine wp_loop_rounds 1 ?_
  rw [rounds_succ]
  go_wp2_with (first
    | (go_at_call 17; refine (chars_nil _).mono ?_; rintro e w2 ⟨rfl, rfl⟩)
    | go_in)
  go_ret
  exact ⟨rfl, (((Below.refl _ _).alloc (Nat.le_refl _) _).trans (hbel.mono (by simp))).alloc (by have := hbel.size; simp at this; omega) _⟩
end Go.Proofs.Qxb6604135a
