/-
  Seat b6604135a: Position.Advance (16) where the receiver has no line; both over a nil slice.
-/
import Derived.Test.Qxb6604135aAdv
namespace Go.Proofs.Qxb6604135a
open Go.ChangeShapes Go.WideShapes Go.ChangeAt Go.RowKit

set_option maxHeartbeats 1000000 in
theorem adv_zero (b n : Nat) (f : Nat → Int) (m : Nat) (o c L C : Int) (HL : Hid (L = 1)) (HC1 : Hid (C = 1)) (w : World) (hn : n ≤ 1048576) (hB : Bytes w b n f) (hb : b < w.heap.size) (hsm : m ≤ n) :
    Calls Try.prog 16 #[.agg #[.int .i64 o, .int .i64 0, .int .i64 c], .slice (some ⟨b, 0, none⟩) n n, .int .i64 (m : Nat)] w fun e w' =>
      e = .returned (.agg #[.int .i64 (m : Nat), .int .i64 (wrap64 (L + Adv.nl f 0 m)), .int .i64 (Adv.col f 0 C m)]) ∧ Below w.heap.size w w' := by
  have hr1 := tri_alloc w 0 1 1
  have hr2 := tri_alloc (w.alloc (.cells #[.int .i64 0, .int .i64 1, .int .i64 1] 34)) 0 0 0
  rw [World.size_alloc] at hr2
  have hbel : Below w.heap.size w ((w.alloc (.cells #[.int .i64 0, .int .i64 1, .int .i64 1] 34)).alloc (.cells #[.int .i64 0, .int .i64 0, .int .i64 0] 34)) :=
    ((Below.refl _ _).alloc (Nat.le_refl _) _).alloc (by simp) _
  have hl0 : wrap64 (L + ((0 : Nat) : Int)) = L := by rw [HL.out, Adv.wrap64_id] <;> simp
  have HR1 : Hid _ := hr1.alloc (.cells #[.int .i64 0, .int .i64 0, .int .i64 0] 34)
  have HR2 : Hid _ := hr2
  have HB : Hid _ := hbel
  have HL0 : Hid _ := hl0
  clear hr1 hr2 hbel hl0
  by_cases hns : m < 0
  · omega
  all_goals
    go_enter Try.func16, Try.ntmps16
    go_wp2
    go_loopw [19] (fun i wr => ∃ k : Nat, k ≤ m ∧ i = .int .i64 k ∧ wr.rowIs w.heap.size 34 3 (tri 0 (wrap64 (L + Adv.nl f 0 k)) (Adv.col f 0 C k)) ∧ wr.rowIs (w.heap.size + 1) 34 3 (tri 0 0 0) ∧ Below w.heap.size w wr) (fun i _ => m - (intOf i).toNat)
    case atStart => exact ⟨0, Nat.zero_le _, rfl, by rw [show Adv.nl f 0 0 = 0 from rfl, HL0.out, show Adv.col f 0 C 0 = C from rfl, HL.out, HC1.out]; exact HR1.out, HR2.out, HB.out⟩
    case round =>
      obtain ⟨k, hk, rfl, hp, hq, hbel⟩ := hrel
      clear HR1 HR2 HB HL0
      have c0 : wr.cell? ⟨w.heap.size, 0, none⟩ = some (.int .i64 0) := (hp.cell (by omega)).trans (congrArg some (tri0 _ _ _))
      have c1 : wr.cell? ⟨w.heap.size, 1, none⟩ = some (.int .i64 (wrap64 (L + Adv.nl f 0 k))) := (hp.cell (by omega)).trans (congrArg some (tri1 _ _ _))
      have c2 : wr.cell? ⟨w.heap.size, 2, none⟩ = some (.int .i64 (Adv.col f 0 C k)) := (hp.cell (by omega)).trans (congrArg some (tri2 _ _ _))
      have f0 := hp.frozen 0
      have f1 := hp.frozen 1
      have f2 := hp.frozen 2
      by_cases hlt : k < m
      · first
        | (exfalso; omega)
        | (obtain ⟨hck, hlo, hhi⟩ := hB k (by omega)
           have hck' : wr.cell? ⟨b, k, none⟩ = some (.int .u8 (f k)) := (hbel.cell (p := ⟨b, k, none⟩) hb).trans hck
           have hA := and_C0 (f k) ⟨hlo, hhi⟩
           have HN : Hid (Adv.nl f 0 (k + 1) = Adv.nl f 0 k + (if f k = 10 then 1 else 0)) := by show _ + (if f (0 + k) = 10 then 1 else 0) = _; rw [Nat.zero_add]
           have HC : Hid (Adv.col f 0 C (k + 1) = if f k = 10 then 1 else if f k < 128 ∨ 192 ≤ f k then wrap64 (Adv.col f 0 C k + 1) else Adv.col f 0 C k) := by show (if f (0 + k) = 10 then (1 : Int) else if f (0 + k) < 128 ∨ 192 ≤ f (0 + k) then _ else _) = _; rw [Nat.zero_add]
           have HP : Hid _ := hp
           have HQ : Hid _ := hq
           have HB : Hid _ := hbel
           clear hB hck hp hq hbel
           by_cases h10 : f k = 10
           · have t1 : (f k == 10) = true := by simp [h10]
             have H10 : Hid _ := h10
             clear h10 hA
             go_wp2
             go_roundw
             case rel =>
               refine ⟨k + 1, by omega, by go_num, ?_, World.rowIs.setOther (World.rowIs.setOther HQ.out (by simp) _) (by simp) _, (HB.out.setCell (Nat.le_refl _) _).setCell (Nat.le_refl _) _⟩
               rw [HN.out, HC.out, if_pos H10.out, if_pos H10.out, adv_line]
               exact tri_set2 (tri_set1 HP.out _) 1
             case measure => simp [intOf]; omega
           · have t1 : (f k == 10) = false := by simp [h10]
             by_cases hch : f k < 128 ∨ 192 ≤ f k
             · rw [decide_eq_true hch] at hA
               have H10 : Hid _ := h10
               have HH : Hid _ := hch
               clear h10 hch
               go_wp2
               go_roundw
               case rel =>
                 refine ⟨k + 1, by omega, by go_num, ?_, World.rowIs.setOther HQ.out (by simp) _, HB.out.setCell (Nat.le_refl _) _⟩
                 rw [HN.out, HC.out, if_neg H10.out, if_neg H10.out, if_pos HH.out]
                 exact tri_set2 HP.out _
               case measure => simp [intOf]; omega
             · rw [decide_eq_false hch] at hA
               have H10 : Hid _ := h10
               have HH : Hid _ := hch
               clear h10 hch
               go_wp2
               go_roundw
               case rel =>
                 refine ⟨k + 1, by omega, by go_num, ?_, HQ.out, HB.out⟩
                 rw [HN.out, HC.out, if_neg H10.out, if_neg H10.out, if_neg HH.out]
                 exact HP.out
               case measure => simp [intOf]; omega)
      · have q0 : wr.cell? ⟨w.heap.size + 1, 0, none⟩ = some (.int .i64 0) := hq.cell (by omega)
        have q1 : wr.cell? ⟨w.heap.size + 1, 1, none⟩ = some (.int .i64 0) := hq.cell (by omega)
        have q2 : wr.cell? ⟨w.heap.size + 1, 2, none⟩ = some (.int .i64 0) := hq.cell (by omega)
        have g0 := hq.frozen 0
        have g1 := hq.frozen 1
        have g2 := hq.frozen 2
        obtain rfl : k = m := by omega
        have HB : Hid _ := hbel
        have hsz : w.heap.size + 1 < wr.heap.size := hq.lt
        clear hB hp hq hbel
        go_wp2
        refine bodyPost_ret (v := .agg #[.int .i64 (k : Nat), .int .i64 (wrap64 (L + Adv.nl f 0 k)), .int .i64 (Adv.col f 0 C k)]) ?_ rfl ⟨rfl, ?_⟩
        · simp [results, Try.results16, go_sem, q0, q1, q2]
        · exact (((HB.out.setCell (Nat.le_refl _) _).setCell (Nat.le_succ _) _).setCell (Nat.le_succ _) _).setCell (Nat.le_succ _) _

set_option maxHeartbeats 400000 in
theorem adv_nil (w : World) (l c : Int) (hl : (l == 0) = false) :
    Calls Try.prog 16 #[.agg #[.int .i64 0, .int .i64 l, .int .i64 c], .slice none 0 0, .int .i64 0] w fun e w' =>
      e = .returned (.agg #[.int .i64 0, .int .i64 l, .int .i64 c]) ∧ Below w.heap.size w w' := by
  go_enter Try.func16, Try.ntmps16
  go_wp2
  refine wp_loop_rounds 1 ?_
  rw [rounds_succ]
  go_wp2
  refine bodyPost_ret (v := .agg #[.int .i64 0, .int .i64 l, .int .i64 c]) ?_ rfl ⟨rfl, ?_⟩
  · simp [results, Try.results16, go_sem]
  · exact ((Below.refl _ _).alloc (Nat.le_refl _) _).alloc (by simp) _

set_option maxHeartbeats 400000 in
theorem adv_nil0 (w : World) (o c : Int) :
    Calls Try.prog 16 #[.agg #[.int .i64 o, .int .i64 0, .int .i64 c], .slice none 0 0, .int .i64 0] w fun e w' =>
      e = .returned (.agg #[.int .i64 0, .int .i64 1, .int .i64 1]) ∧ Below w.heap.size w w' := by
  go_enter Try.func16, Try.ntmps16
  go_wp2
  refine wp_loop_rounds 1 ?_
  rw [rounds_succ]
  go_wp2
  refine bodyPost_ret (v := .agg #[.int .i64 0, .int .i64 1, .int .i64 1]) ?_ rfl ⟨rfl, ?_⟩
  · simp [results, Try.results16, go_sem]
  · exact ((Below.refl _ _).alloc (Nat.le_refl _) _).alloc (by simp) _

theorem chars_nil (w : World) : Calls Try.prog 17 #[.slice none 0 0, .int .i64 0, .int .i64 0] w fun e w' => e = .returned (.int .i64 0) ∧ w = w' := by
  go_enter Try.func17, Try.ntmps17
  go_wp2
  refine wp_loop_rounds 1 ?_
  rw [rounds_succ]
  go_wp2
  go_ret
  exact ⟨rfl, rfl⟩
end Go.Proofs.Qxb6604135a
