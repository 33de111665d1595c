/-
  Seat b6604135a: what zzBuildLevels (26) keeps from round to round; no walk.
-/
import Derived.Test.Qxb6604135aLow
namespace Go.Proofs.Qxb6604135a
open Go.ChangeShapes Go.WideShapes Go.ChangeAt Go.RowKit

theorem Try.info37 : (Try.prog.info? 37).map (fun i => (i.zero, i.size, i.bytes)) = some (some (.slice none 0 0), 1, 24) := by kernel_rfl

/-- A slice's length: for a loop's measure. -/
def lenOf : Value → Nat | .slice _ n _ => n | _ => 0

theorem row_set {w : World} {b : Nat} {t : TypeId} {n : Nat} {k : IntKind} {g : Nat → Int} (h : w.rowIs b t n (fun j => .int k (g j))) (i : Nat) (y : Int) : (w.setCell ⟨b, i, none⟩ (.int k y)).rowIs b t n (fun j => .int k (if j = i then y else g j)) :=
  (h.set i (.int k y)).congr fun j _ => by
    by_cases e : j = i
    · rw [if_pos e, if_pos e]
    · rw [if_neg e, if_neg e]

/-- The header of level k. -/
def Hdr (A N : Nat → Nat) (k : Nat) : Value := .slice (some ⟨A k, 0, none⟩) (N k) (N k)

theorem Nums.below {B : Nat} {w w' : World} {b n : Nat} {g : Nat → Int} (h : Nums w b n g) (hb : Below B w w') (hB : 0 < n → b < B) : Nums w' b n g :=
  fun i hi => ⟨(hb.cell (p := ⟨b, i, none⟩) (hB (by omega))).trans (h i hi).1, (h i hi).2⟩
theorem Nums.lt {w : World} {b n : Nat} {g : Nat → Int} (h : Nums w b n g) (hn : 0 < n) : b < w.heap.size := World.block_lt_of_cell? _ _ (h 0 hn).1
theorem Nums.alloc {w : World} {b n : Nat} {g : Nat → Int} (h : Nums w b n g) (o : Obj) : Nums (w.alloc o) b n g :=
  h.below ((Below.refl w.heap.size w).alloc (Nat.le_refl _) o) (fun hn => h.lt hn)

theorem below_grown {w w' : World} (h : Below w.heap.size w w') : w.grownBy w' none := ⟨h.os, h.tape, h.output, h.size, fun k hk _ => h.block k hk⟩
theorem owns_below {w w' : World} {base : Nat} {e : TypeId} {size : Nat} {v : Value} {n : Nat} {xs : List Value} (ho : w.ownsRow base e size v n xs) (h : Below w.heap.size w w') : w'.ownsRow base e size v n xs :=
  ho.kept (below_grown h) (by cases v.ownBlock with
    | none => exact .inl rfl
    | some _ => exact .inr (by simp))

/-- What has been built so far. -/
def Built (w0 : World) (A0 n : Nat) (g : Nat → Int) (wr : World) (v : Value) (K : Nat) (A N : Nat → Nat) (L : Nat → Nat → Int) : Prop :=
  0 < K ∧ N (K - 1) + K ≤ n + 1 ∧ wr.ownsRow w0.heap.size 37 1 v K ((List.range K).map (Hdr A N)) ∧ (∀ k, k < K → 0 < N k ∧ N k ≤ n ∧ Nums wr (A k) (N k) (L k)) ∧
  (∀ k, k + 1 < K → Low.Stands N L k) ∧ N 0 = n ∧ L 0 = g ∧ A 0 = A0 ∧ Below w0.heap.size w0 wr

theorem built_start (w : World) (A0 n : Nat) (g : Nat → Int) (hn : 0 < n) (hG : Nums w A0 n g) :
    Built w A0 n g (w.alloc (.cells #[.slice (some ⟨A0, 0, none⟩) n n] 37)) (.slice (some ⟨w.heap.size, 0, none⟩) 1 1) 1 (fun _ => A0) (fun _ => n) (fun _ => g) := by
  refine ⟨by omega, Nat.le_refl (n + 1), ?_, fun k hk => ⟨hn, Nat.le_refl _, hG.alloc _⟩, fun k hk => by omega, rfl, rfl, rfl, (Below.refl _ _).alloc (Nat.le_refl _) _⟩
  exact World.ownsRow_lit w #[.slice (some ⟨A0, 0, none⟩) n n] 1 (Nat.le_refl _) (by unfold maxLen; omega) rfl

/-- f with one more value. -/
def upd {α : Type} (f : Nat → α) (K : Nat) (x : α) : Nat → α := fun k => if k = K then x else f k
theorem upd_at {α : Type} (f : Nat → α) (K : Nat) (x : α) : upd f K x K = x := if_pos rfl
theorem upd_old {α : Type} (f : Nat → α) {K k : Nat} (x : α) (h : k < K) : upd f K x k = f k := if_neg (by omega)

theorem hdr_map (A N : Nat → Nat) (K a m : Nat) : (List.range (K + 1)).map (Hdr (upd A K a) (upd N K m)) = (List.range K).map (Hdr A N) ++ [.slice (some ⟨a, 0, none⟩) m m] := by
  rw [List.range_succ, List.map_append]
  congr 1
  · apply List.map_congr_left
    intro k hk
    have hk' := List.mem_range.1 hk
    unfold Hdr
    rw [upd_old _ _ hk', upd_old _ _ hk']
  · simp [Hdr, upd_at]

/-- A level's block is not the headers' own. -/
theorem apart {w : World} {base K : Nat} {v : Value} {A N : Nat → Nat} {b n : Nat} {g : Nat → Int} (ho : w.ownsRow base 37 1 v K ((List.range K).map (Hdr A N))) (hK : 0 < K) (hG : Nums w b n g) (hn : 0 < n) : some b ≠ v.ownBlock := by
  rcases ho.2 with ⟨_, h0⟩ | ⟨gg, cap, cur, rfl, _, hg, hnc, _, hcs, htake⟩
  · omega
  · intro e
    simp only [Value.ownBlock, Option.some.injEq] at e
    subst e
    have hc := (ho.cellAt (g := b) 0 (by omega))
    rw [(hG 0 hn).1] at hc
    rw [List.getElem?_map, List.getElem?_range (by omega)] at hc
    simp [Hdr] at hc

/-- A round: a new level M of m entries in block b (new), its header appended. -/
theorem built_step {w0 wr w2 w3 w4 : World} {A0 n : Nat} {g : Nat → Int} {v v' : Value} {K : Nat} {A N : Nat → Nat} {L : Nat → Nat → Int} {M : Nat → Int}
    (h : Built w0 A0 n g wr v K A N L) (h64 : 64 < N (K - 1)) (hw0 : w0.heap.size ≤ wr.heap.size)
    (hrow : Nums w2 wr.heap.size ((N (K - 1) + 63) / 64) M) (hb2 : Below wr.heap.size wr w2)
    (hM : ∀ j, j < (N (K - 1) + 63) / 64 → Low.IsMin (L (K - 1)) (j * 64) (min (j * 64 + 64) (N (K - 1))) (M j))
    (hw3 : w3 = w2.alloc (.cells #[.slice (some ⟨wr.heap.size, 0, none⟩) ((N (K - 1) + 63) / 64) ((N (K - 1) + 63) / 64)] 37))
    (hown : w4.ownsRow w0.heap.size 37 1 v' (K + 1) ((List.range K).map (Hdr A N) ++ [.slice (some ⟨wr.heap.size, 0, none⟩) ((N (K - 1) + 63) / 64) ((N (K - 1) + 63) / 64)]))
    (hgrow : w3.grownBy w4 v.ownBlock) :
    Built w0 A0 n g w4 v' (K + 1) (upd A K wr.heap.size) (upd N K ((N (K - 1) + 63) / 64)) (upd L K M) := by
  obtain ⟨hK, hsum, ho, hlev, hst, hN0, hL0, hA0, hbel⟩ := h
  subst hw3
  have hpos : 0 < (N (K - 1) + 63) / 64 := by omega
  have hb3 : Below wr.heap.size wr (w2.alloc (.cells #[.slice (some ⟨wr.heap.size, 0, none⟩) ((N (K - 1) + 63) / 64) ((N (K - 1) + 63) / 64)] 37)) := hb2.alloc hb2.size _
  have ho3 := owns_below ho hb3
  have keep : ∀ {b m : Nat} {q : Nat → Int}, Nums (w2.alloc (.cells #[.slice (some ⟨wr.heap.size, 0, none⟩) ((N (K - 1) + 63) / 64) ((N (K - 1) + 63) / 64)] 37)) b m q → 0 < m → Nums w4 b m q :=
    fun hq hm i hi => ⟨hgrow.cell (hq i hi).1 (apart ho3 hK hq hm), (hq i hi).2⟩
  refine ⟨by omega, ?_, ?_, fun k hk => ?_, fun k hk => ?_, ?_, ?_, ?_, ?_⟩
  · rw [Nat.add_sub_cancel, upd_at]; omega
  · rw [hdr_map]; exact hown
  · by_cases e : k = K
    · subst e
      rw [upd_at, upd_at, upd_at]
      have := (hlev (k - 1) (by omega)).2.1
      exact ⟨hpos, by omega, keep (hrow.alloc _) hpos⟩
    · have hk' : k < K := by omega
      rw [upd_old _ _ hk', upd_old _ _ hk', upd_old _ _ hk']
      obtain ⟨l1, l2, l3⟩ := hlev k hk'
      exact ⟨l1, l2, keep (l3.below hb3 (fun _ => l3.lt l1)) l1⟩
  · by_cases e : k + 1 = K
    · subst e
      unfold Low.Stands
      rw [upd_at, upd_at, upd_old _ _ (Nat.lt_succ_self k), upd_old _ _ (Nat.lt_succ_self k)]
      exact ⟨rfl, hM⟩
    · have := hst k (by omega)
      unfold Low.Stands at this ⊢
      rw [upd_old N _ (show k + 1 < K by omega), upd_old N _ (show k < K by omega), upd_old L _ (show k < K by omega), upd_old L _ (show k + 1 < K by omega)]
      exact this
  · rw [upd_old _ _ hK]; exact hN0
  · rw [upd_old _ _ hK]; exact hL0
  · rw [upd_old _ _ hK]; exact hA0
  · refine ((hbel.trans (hb3.mono hw0))).grown hgrow (by have := hb3.size; omega) (fun k hk => ?_)
    exact (ho.lt k hk).1

/-- The last round's state is an index in memory. -/
theorem built_done {w0 wr : World} {A0 n : Nat} {g : Nat → Int} {v : Value} {K : Nat} {A N : Nat → Nat} {L : Nat → Nat → Int} (h : Built w0 A0 n g wr v K A N L) (hn : n ≤ 1048576) (h64 : ¬ 64 < N (K - 1)) :
    ∃ B Kc, v = .slice (some ⟨B, 0, none⟩) K Kc ∧ K ≤ n + 1 ∧ Levels wr B K A N L ∧ Low.WF K N L ∧ N 0 = n ∧ L 0 = g ∧ A 0 = A0 ∧ Below w0.heap.size w0 wr := by
  obtain ⟨hK, hsum, ho, hlev, hst, hN0, hL0, hA0, hbel⟩ := h
  rcases ho.2 with ⟨_, h0⟩ | ⟨B, cap, cur, rfl, _, hg, hnc, _, hcs, htake⟩
  · omega
  · refine ⟨B, cap, rfl, by omega, fun k hk => ?_, ⟨hK, by omega, hst⟩, hN0, hL0, hA0, hbel⟩
    obtain ⟨l1, l2, l3⟩ := hlev k hk
    refine ⟨?_, by omega, l3⟩
    have hc := (ho.cellAt (g := B) k (by omega))
    rw [List.getElem?_map, List.getElem?_range hk] at hc
    exact hc
end Go.Proofs.Qxb6604135a
