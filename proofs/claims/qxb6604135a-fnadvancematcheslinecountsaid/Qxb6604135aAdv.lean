/-
  Seat b6604135a: the contracts of zzCharsIn (17) and Position.Advance (16), over a row of bytes that lies at the head of a block.
-/
import Derived.Test.Qxb6604135aBase
import Derived.Test.Qxb6604135aAdvPlain
import Derived.WalkLawsBesides
namespace Go.Proofs.Qxb6604135a
open Go.ChangeShapes Go.WideShapes Go.ChangeAt Go.RowKit

/-- Whatever lies where: k bytes from s on lie in block b. -/
def Bytes (w : World) (b n : Nat) (f : Nat → Int) : Prop := ∀ i, i < n → w.cell? ⟨b, i, none⟩ = some (.int .u8 (f i)) ∧ 0 ≤ f i ∧ f i ≤ 255

theorem ret_int {k : IntKind} {a b : Int} (h : a = b) : Ending.returned (.int k a) = .returned (.int k b) := by rw [h]

set_option maxHeartbeats 400000 in
theorem chars_any (b n : Nat) (f : Nat → Int) (s m : Nat) (w : World) (hn : n ≤ 1048576) (hB : Bytes w b n f) (hsm : s + m ≤ n) :
    Calls Try.prog 17 #[.slice (some ⟨b, 0, none⟩) n n, .int .i64 s, .int .i64 (s + m : Nat)] w fun e w' => e = .returned (.int .i64 (Adv.ch f s m)) ∧ w = w' := by
  go_enter Try.func17, Try.ntmps17
  go_wp2
  go_loop [7, 8] (fun c i => ∃ k : Nat, k ≤ m ∧ i = .int .i64 (s + k : Nat) ∧ c = .int .i64 (Adv.ch f s k)) (fun _ i => s + m - (intOf i).toNat)
  case atStart => exact ⟨0, Nat.zero_le _, rfl, rfl⟩
  case round =>
    obtain ⟨k, hk, rfl, rfl⟩ := hrel
    have hcl := Adv.ch_le f s k
    by_cases hlt : k < m
    · obtain ⟨hck, hlo, hhi⟩ := hB (s + k) (by omega)
      have HS : Hid (Adv.ch f s (k + 1) = Adv.ch f s k + (if f (s + k) < 128 ∨ 192 ≤ f (s + k) then 1 else 0)) := rfl
      clear hB
      go_wp2
      all_goals
        go_round
        case rel => exact ⟨k + 1, by omega, by go_num, by have h := HS.out; split at h <;> first | (exfalso; omega) | (rw [h]; go_num)⟩
        case measure => simp [intOf]; omega
    · go_wp2
      go_ret
      obtain rfl : k = m := by omega
      exact ⟨rfl, rfl⟩

/-- A row of three numbers: a Position. -/
def tri (a b c : Int) : Nat → Value := fun i => .int .i64 (if i = 0 then a else if i = 1 then b else c)
theorem tri0 (a b c : Int) : tri a b c 0 = .int .i64 a := rfl
theorem tri1 (a b c : Int) : tri a b c 1 = .int .i64 b := rfl
theorem tri2 (a b c : Int) : tri a b c 2 = .int .i64 c := rfl
theorem tri_alloc (w : World) (a b c : Int) : (w.alloc (.cells #[.int .i64 a, .int .i64 b, .int .i64 c] 34)).rowIs w.heap.size 34 3 (tri a b c) :=
  World.rowIs_alloc w #[.int .i64 a, .int .i64 b, .int .i64 c] 34 (tri a b c) (fun i hi => by
    simp at hi
    match i, hi with
    | 0, _ => rfl
    | 1, _ => rfl
    | 2, _ => rfl)
theorem tri_set0 {w : World} {B : Nat} {a b c : Int} (h : w.rowIs B 34 3 (tri a b c)) (x : Int) : (w.setCell ⟨B, 0, none⟩ (.int .i64 x)).rowIs B 34 3 (tri x b c) :=
  (h.set 0 (.int .i64 x)).congr fun i hi => by
    match i, hi with
    | 0, _ => rfl
    | 1, _ => rfl
    | 2, _ => rfl
theorem tri_set1 {w : World} {B : Nat} {a b c : Int} (h : w.rowIs B 34 3 (tri a b c)) (x : Int) : (w.setCell ⟨B, 1, none⟩ (.int .i64 x)).rowIs B 34 3 (tri a x c) :=
  (h.set 1 (.int .i64 x)).congr fun i hi => by
    match i, hi with
    | 0, _ => rfl
    | 1, _ => rfl
    | 2, _ => rfl
theorem tri_set2 {w : World} {B : Nat} {a b c : Int} (h : w.rowIs B 34 3 (tri a b c)) (x : Int) : (w.setCell ⟨B, 2, none⟩ (.int .i64 x)).rowIs B 34 3 (tri a b x) :=
  (h.set 2 (.int .i64 x)).congr fun i hi => by
    match i, hi with
    | 0, _ => rfl
    | 1, _ => rfl
    | 2, _ => rfl

theorem and_C0 (c : Int) (h : 0 ≤ c ∧ c ≤ 255) : (bits .and .u8 c 192 != 128) = decide (c < 128 ∨ 192 ≤ c) := by
  have all : ∀ n : Fin 256, (bits .and .u8 ((n.val : Nat) : Int) 192 != 128) = decide (((n.val : Nat) : Int) < 128 ∨ 192 ≤ ((n.val : Nat) : Int)) := by decide +kernel
  obtain ⟨n, rfl⟩ : ∃ n : Nat, c = n := ⟨c.toNat, by omega⟩
  exact all ⟨n, by omega⟩

theorem adv_line (l : Int) (k : Nat) : wrap64 (l + ((k + 1 : Nat) : Int)) = wrap64 (wrap64 (l + (k : Int)) + 1) := by
  rw [Adv.wrap64_add]; congr 1; simp; omega

set_option maxHeartbeats 1000000 in
theorem adv_any (b n : Nat) (f : Nat → Int) (s m : Nat) (l c : Int) (hl : (l == 0) = false) (hL : -9223372036854775808 ≤ l ∧ l ≤ 9223372036854775807) (w : World) (hn : n ≤ 1048576) (hB : Bytes w b n f) (hb : b < w.heap.size) (hsm : s + m ≤ n) :
    Calls Try.prog 16 #[.agg #[.int .i64 (s : Int), .int .i64 l, .int .i64 c], .slice (some ⟨b, 0, none⟩) n n, .int .i64 (s + m : Nat)] w fun e w' =>
      e = .returned (.agg #[.int .i64 (s + m : Nat), .int .i64 (wrap64 (l + Adv.nl f s m)), .int .i64 (Adv.col f s c m)]) ∧ Below w.heap.size w w' := by
  have hr1 := tri_alloc w s l c
  have hr2 := tri_alloc (w.alloc (.cells #[.int .i64 (s : Int), .int .i64 l, .int .i64 c] 34)) 0 0 0
  rw [World.size_alloc] at hr2
  have hbel : Below w.heap.size w ((w.alloc (.cells #[.int .i64 (s : Int), .int .i64 l, .int .i64 c] 34)).alloc (.cells #[.int .i64 0, .int .i64 0, .int .i64 0] 34)) :=
    ((Below.refl _ _).alloc (Nat.le_refl _) _).alloc (by simp) _
  have hl0 : wrap64 (l + ((0 : Nat) : Int)) = l := by rw [Adv.wrap64_id] <;> simp <;> omega
  have HR1 : Hid _ := hr1.alloc (.cells #[.int .i64 0, .int .i64 0, .int .i64 0] 34)
  have HR2 : Hid _ := hr2
  have HB : Hid _ := hbel
  have HL0 : Hid _ := hl0
  clear hr1 hr2 hbel hl0
  by_cases hns : n = s
  all_goals
    go_enter Try.func16, Try.ntmps16
    go_wp2
    go_loopw [19] (fun i wr => ∃ k : Nat, k ≤ m ∧ i = .int .i64 k ∧ wr.rowIs w.heap.size 34 3 (tri s (wrap64 (l + Adv.nl f s k)) (Adv.col f s c k)) ∧ wr.rowIs (w.heap.size + 1) 34 3 (tri 0 0 0) ∧ Below w.heap.size w wr) (fun i _ => m - (intOf i).toNat)
    case atStart => exact ⟨0, Nat.zero_le _, rfl, by rw [show Adv.nl f s 0 = 0 from rfl, HL0.out]; exact HR1.out, HR2.out, HB.out⟩
    case round =>
      obtain ⟨k, hk, rfl, hp, hq, hbel⟩ := hrel
      clear HR1 HR2 HB HL0
      have c0 : wr.cell? ⟨w.heap.size, 0, none⟩ = some (.int .i64 s) := hp.cell (by omega)
      have c1 : wr.cell? ⟨w.heap.size, 1, none⟩ = some (.int .i64 (wrap64 (l + Adv.nl f s k))) := hp.cell (by omega)
      have c2 : wr.cell? ⟨w.heap.size, 2, none⟩ = some (.int .i64 (Adv.col f s c k)) := hp.cell (by omega)
      have f0 := hp.frozen 0
      have f1 := hp.frozen 1
      have f2 := hp.frozen 2
      by_cases hlt : k < m
      · first
        | (exfalso; omega)
        | (obtain ⟨hck, hlo, hhi⟩ := hB (s + k) (by omega)
           have hck' : wr.cell? ⟨b, s + k, none⟩ = some (.int .u8 (f (s + k))) := (hbel.cell (p := ⟨b, s + k, none⟩) hb).trans hck
           have hA := and_C0 (f (s + k)) ⟨hlo, hhi⟩
           have HN : Hid (Adv.nl f s (k + 1) = Adv.nl f s k + (if f (s + k) = 10 then 1 else 0)) := rfl
           have HC : Hid (Adv.col f s c (k + 1) = if f (s + k) = 10 then 1 else if f (s + k) < 128 ∨ 192 ≤ f (s + k) then wrap64 (Adv.col f s c k + 1) else Adv.col f s c k) := rfl
           have HP : Hid _ := hp
           have HQ : Hid _ := hq
           have HB : Hid _ := hbel
           clear hB hck hp hq hbel
           by_cases h10 : f (s + k) = 10
           · have t1 : (f (s + k) == 10) = true := by simp [h10]
             have H10 : Hid _ := h10
             clear h10 hA
             go_wp2
             go_roundw
             case rel =>
               refine ⟨k + 1, by omega, by go_num, ?_, World.rowIs.setOther (World.rowIs.setOther HQ.out (by simp) _) (by simp) _, (HB.out.setCell (Nat.le_refl _) _).setCell (Nat.le_refl _) _⟩
               rw [HN.out, HC.out, if_pos H10.out, if_pos H10.out, adv_line]
               exact tri_set2 (tri_set1 HP.out _) 1
             case measure => simp [intOf]; omega
           · have t1 : (f (s + k) == 10) = false := by simp [h10]
             by_cases hch : f (s + k) < 128 ∨ 192 ≤ f (s + k)
             · rw [decide_eq_true hch] at hA
               have H10 : Hid _ := h10
               have HH : Hid _ := hch
               clear h10 hch
               go_wp2
               go_roundw
               case rel =>
                 refine ⟨k + 1, by omega, by go_num, ?_, World.rowIs.setOther HQ.out (by simp) _, HB.out.setCell (Nat.le_refl _) _⟩
                 rw [HN.out, HC.out, if_neg H10.out, if_neg H10.out, if_pos HH.out]
                 exact tri_set2 HP.out _
               case measure => simp [intOf]; omega
             · rw [decide_eq_false hch] at hA
               have H10 : Hid _ := h10
               have HH : Hid _ := hch
               clear h10 hch
               go_wp2
               go_roundw
               case rel =>
                 refine ⟨k + 1, by omega, by go_num, ?_, HQ.out, HB.out⟩
                 rw [HN.out, HC.out, if_neg H10.out, if_neg H10.out, if_neg HH.out]
                 exact HP.out
               case measure => simp [intOf]; omega)
      · have q0 : wr.cell? ⟨w.heap.size + 1, 0, none⟩ = some (.int .i64 0) := hq.cell (by omega)
        have q1 : wr.cell? ⟨w.heap.size + 1, 1, none⟩ = some (.int .i64 0) := hq.cell (by omega)
        have q2 : wr.cell? ⟨w.heap.size + 1, 2, none⟩ = some (.int .i64 0) := hq.cell (by omega)
        have g0 := hq.frozen 0
        have g1 := hq.frozen 1
        have g2 := hq.frozen 2
        obtain rfl : k = m := by omega
        have HB : Hid _ := hbel
        have hsz : w.heap.size + 1 < wr.heap.size := hq.lt
        clear hB hp hq hbel
        go_wp2
        refine bodyPost_ret (v := .agg #[.int .i64 (s + k : Nat), .int .i64 (wrap64 (l + Adv.nl f s k)), .int .i64 (Adv.col f s c k)]) ?_ rfl ⟨rfl, ?_⟩
        · simp [results, Try.results16, go_sem, q0, q1, q2]
        · exact (((HB.out.setCell (Nat.le_refl _) _).setCell (Nat.le_succ _) _).setCell (Nat.le_succ _) _).setCell (Nat.le_succ _) _
end Go.Proofs.Qxb6604135a
