/-
  PROOF OF 'Rows.FnFirstLowIsFirstLowBlockSaid' (the frame: after the shells given with the seat, with an argument that is a slice of slices; the walk: ours).
-/
import Derived.Test.Qxb6604135aRows
import Derived.WalkKit
import Derived.ProofKit
import Derived.OpenShut
import Derived.ShutString
import Derived.ChangeOld
import Derived.Below
import Derived.Deep.Matrix
import Derived.Test.Qxb6604135aBlk
namespace Go.Proofs.Qxb6604135a.fnFirstLowIsFirstLowBlock
open Go.ChangeShapes Go.WideShapes Go.ChangeAt Go.RowKit
open Go.ChangeMaps (open_string shut_string)
set_option linter.unusedVariables false

theorem own : ownKnob Try.prog.godebug = none := by kernel_rfl
theorem laidOut : laidOutB Try.prog = true := by kernel_rfl

/-- WHAT THE WALK IS TOLD OF A SLICE OF INTEGERS THAT CAME IN: it is nil; or it leads to a row of 'cap' cells, the numbers 'zs' (the first 'len' are its elements, the rest its spare room), each fitting its kind. -/
def IsRow (k : IntKind) (w : World) (a : Option Addr) (len cap : Nat) (zs : List Int) : Prop :=
  (a = none ∧ len = 0 ∧ cap = 0 ∧ zs = []) ∨
  ∃ x, a = some x ∧ len ≤ cap ∧ cap ≤ maxLen ∧ zs.length = cap ∧ (∀ i, i < zs.length → w.cell? (x.add i) = some (.int k (zs.getD i 0))) ∧ ∀ n ∈ zs, (Lit.int k n).wf = true

/-- WHAT THE WALK IS TOLD OF A SLICE OF SLICES THAT CAME IN. -/
def IsRows (w : World) (a : Option Addr) (len cap : Nat) (R : Nat → Option Addr) (n c : Nat → Nat) (Z : Nat → List Int) : Prop :=
  (a = none ∧ len = 0 ∧ cap = 0) ∨
  ∃ x, a = some x ∧ len ≤ cap ∧ cap ≤ maxLen ∧ ∀ r, r < cap → w.cell? (x.add r) = some (.slice (R r) (n r) (c r)) ∧ n r ≤ c r ∧ c r ≤ maxLen ∧ (Z r).length = c r ∧ (∀ m ∈ Z r, (Lit.int .u16 m).wf = true) ∧ (R r = none → c r = 0) ∧
    ∀ a', R r = some a' → ∀ i, i < c r → w.cell? (a'.add i) = some (.int .u16 ((Z r).getD i 0))

theorem outer_of {w : World} {a : Option Addr} {len cap : Nat} {R : Nat → Option Addr} {n c : Nat → Nat} {Z : Nat → List Int} (h : IsRows w a len cap R n c Z) : Outer w a len R n c (fun r i => (Z r).getD i 0) := by
  rcases h with ⟨_, h0, _⟩ | ⟨x, rfl, hl, hm, hx⟩
  · exact .inl h0
  · by_cases h0 : len = 0
    · exact .inl h0
    obtain ⟨B, O, e, _, hc⟩ := addr_at (g := fun r => .slice (R r) (n r) (c r)) (fun r hr => (hx r (Nat.lt_of_lt_of_le hr hl)).1) (Nat.pos_of_ne_zero h0)
    subst e
    refine .inr ⟨B, O, rfl, fun r hr => ?_⟩
    obtain ⟨_, r1, r2, r3, r4, r5, r6⟩ := hx r (Nat.lt_of_lt_of_le hr hl)
    unfold maxLen at r2
    refine ⟨hc r hr, fun hn => ?_, by omega, fun a' ha i hi => ⟨r6 a' ha i (by omega), range_u16 r4 i⟩⟩
    have := r5 hn
    omega

/-! ### STEP 1: THE WALK -/
theorem walk (a0 : Option Addr) (len0 cap0 : Nat) (z0 : List Int) (l1 : Option Addr) (len1 cap1 : Nat) (R : Nat → Option Addr) (n c : Nat → Nat) (Z : Nat → List Int) (a2 a3 a4 : Int) (w : World) (w0 : IsRow .u16 w a0 len0 cap0 z0) (w1 : IsRows w l1 len1 cap1 R n c Z)
    (w2 : (Lit.int .i64 a2).wf = true) (w3 : (Lit.int .i64 a3).wf = true) (w4 : (Lit.int .i64 a4).wf = true) :
    Calls Try.prog 6 #[.slice a0 len0 cap0, .slice l1 len1 cap1, .int .i64 a2, .int .i64 a3, .int .i64 a4] w fun e w' => e = .returned (.bool true) ∧ Below w.heap.size w w' := by
  have same : ∀ {e : Ending} {w' : World}, e = .returned (.bool true) ∧ w = w' → e = .returned (.bool true) ∧ Below w.heap.size w w' := fun ⟨h1, h2⟩ => ⟨h1, h2 ▸ Below.refl _ _⟩
  have b3 := bounds_i64 w3
  have hO := outer_of w1
  have hl1 : l1 = none → len1 = 0 ∧ cap1 = 0 := fun h => by
    rcases w1 with ⟨_, h1, h2⟩ | ⟨x, h1, _⟩
    · exact ⟨h1, h2⟩
    · rw [h] at h1; simp at h1
  have hl63 : len1 ≤ 9223372036854775807 := by
    rcases w1 with ⟨_, h1, h2⟩ | ⟨x, h1, h2, h3, _⟩
    · omega
    · unfold maxLen at h3; omega
  have hm63 : len0 ≤ 9223372036854775807 := by
    rcases w0 with ⟨_, h1, h2, _⟩ | ⟨x, h1, h2, h3, _⟩
    · omega
    · unfold maxLen at h3; omega
  by_cases hbig : 524288 < len0 ∨ 65536 < len1
  · exact (blk_big a0 l1 len0 cap0 len1 cap1 R n c _ a2 a3 a4 w hm63 hl63 hO hbig).mono fun e w' h => same h
  by_cases hneg : a3 < 0
  · exact (blk_neg a0 l1 len0 cap0 len1 cap1 R n c _ a2 a3 a4 w (by omega) (by omega) hO hneg).mono fun e w' h => same h
  obtain ⟨b, rfl⟩ : ∃ b : Nat, a3 = b := ⟨a3.toNat, by omega⟩
  by_cases h0 : len0 = 0
  · subst h0
    refine blk_empty a0 l1 cap0 len1 cap1 R n c _ a2 a4 b w (by omega) (by omega) hO (fun h => ?_) hl1
    rcases w0 with ⟨_, _, h2, _⟩ | ⟨x, h1, _⟩
    · exact h2
    · rw [h] at h1; simp at h1
  · rcases w0 with ⟨_, h1, _⟩ | ⟨x, rfl, hlc, hcm, hz, hcell, hwf⟩
    · omega
    rcases hO with hK | ⟨B, O, rfl, hR⟩
    · subst hK; exact (blk_none (some x) l1 len0 cap0 cap1 a2 a4 b w (by omega) (by omega)).mono fun e w' h => same h
    · by_cases hK : len1 = 0
      · subst hK; exact (blk_none (some x) _ len0 cap0 cap1 a2 a4 b w (by omega) (by omega)).mono fun e w' h => same h
      obtain ⟨K1, rfl⟩ : ∃ K1, len1 = K1 + 1 := ⟨len1 - 1, by omega⟩
      exact blk_main x len0 cap0 B O K1 cap1 (fun i => z0.getD i 0) R n c _ a2 a4 b w (by omega) (by omega) (by omega) (by omega) hR (fun i hi => hcell i (by omega))

/-! ### THE ROW's STEP: WRITTEN OUT: LEAVE IT -/
set_option maxRecDepth 100000 in
theorem lifted (os : Os) (started : os.Started) (H : Type) (enc : TypeId × Value → H) :
    ReturnsInHanded {} Try.checked os 6 .any (Rows.fnFirstLowIsFirstLowBlockSpec.pre6 enc Try.prog Try.f6 Rows.fnFirstLowIsFirstLowBlockRow.domain false) (Rows.fnFirstLowIsFirstLowBlockSpec.post enc Try.prog Try.f6 false true false false) := by
  refine returnsInHanded_of_change (C := Try.checked) own started (by kernel_rfl) Try.func6
    (ChangeSpec.witness6 (enc := enc) (C := Try.checked) false ⟨#[], #[.slice none 0 0, .slice none 0 0, .int .i64 0, .int .i64 0, .int .i64 0], []⟩ 8 (by kernel_rfl) (by kernel_rfl) (by kernel_rfl) (by kernel_rfl)) ?_
  intro W base args ds gs before hval0 hW hcnd _
  have hval : ∀ (j : Nat) t v, Try.f6.params[j]? = some t → args[j]? = some v → Value.okWide Try.prog W .any base t v := hval0
  have hW' := hW
  obtain ⟨p, q, hA0, hV, rfl, hfz, hnd⟩ := hW
  have hA : DataW.TrodAll enc Try.prog W 0 (fun _ => true) true Try.f6.params.toList args.toList ds p := hA0
  rw [Try.params6] at hA hval
  obtain ⟨v0, vs0, d0, ds0, p0, q0, hargs, rfl, rfl, h0, r0⟩ := trodAll_cons hA
  obtain ⟨v1, vs1, d1, ds1, p1, q1, rfl, rfl, rfl, h1, r1⟩ := trodAll_cons r0
  obtain ⟨v2, vs2, d2, ds2, p2, q2, rfl, rfl, rfl, h2, r2⟩ := trodAll_cons r1
  obtain ⟨v3, vs3, d3, ds3, p3, q3, rfl, rfl, rfl, h3, r3⟩ := trodAll_cons r2
  obtain ⟨v4, vs4, d4, ds4, p4, q4, rfl, rfl, rfl, h4, r4⟩ := trodAll_cons r3
  obtain ⟨rfl, rfl, rfl⟩ := trodAll_nil r4
  obtain rfl : args = #[v0, v1, v2, v3, v4] := by cases args; simp_all
  obtain ⟨rfl, rfl⟩ := trodVars_none hV
  obtain ⟨a0, len0, cap0, rfl⟩ := okWide_slice Try.underlying37 (hval 0 37 v0 rfl rfl)
  have k0 := h0
  have lt0 : ∀ x ∈ p0, x.block < W.heap.size := by obtain ⟨m, hm⟩ := k0; exact DataW.trod_lt m _ _ _ hm
  obtain ⟨z0, w0⟩ : ∃ zs, IsRow .u16 W a0 len0 cap0 zs := by
    obtain ⟨fuel, hf⟩ := h0
    rcases open_ints Try.underlying37 Try.underlying28 (by kernel_rfl) hf with ⟨hcs, _⟩ | ⟨x, l, c, zs, hcs, _, hl, hm, hz, _, hcell, hwz⟩
    · simp [Value.cells] at hcs
      obtain ⟨rfl, rfl, rfl⟩ := hcs
      exact ⟨[], .inl ⟨rfl, rfl, rfl, rfl⟩⟩
    · simp [Value.cells] at hcs
      obtain ⟨rfl, rfl, rfl⟩ := hcs
      exact ⟨zs, .inr ⟨_, rfl, hl, hm, by simpa using hz, hcell, hwz⟩⟩
  obtain ⟨l1, len1, cap1, rfl⟩ := okWide_slice Try.underlying38 (hval 1 38 v1 rfl rfl)
  have k1 := h1
  have lt1 : ∀ x ∈ p1, x.block < W.heap.size := by obtain ⟨m, hm⟩ := k1; exact DataW.trod_lt m _ _ _ hm
  obtain ⟨R, n, c, Z, w1⟩ : ∃ R n c Z, IsRows W l1 len1 cap1 R n c Z := by
    obtain ⟨fuel, hf⟩ := h1
    rcases Go.Deep.open_int_rows Try.underlying38 Try.underlying37 Try.underlying28 (by kernel_rfl) (by kernel_rfl) hf with ⟨hcs, _⟩ | ⟨x, l, cc, A, L, C, Z, hcs, _, hl, hm, _, hx⟩
    · simp [Value.cells] at hcs
      obtain ⟨rfl, rfl, rfl⟩ := hcs
      exact ⟨fun _ => none, fun _ => 0, fun _ => 0, fun _ => [], .inl ⟨rfl, rfl, rfl⟩⟩
    · simp [Value.cells] at hcs
      obtain ⟨rfl, rfl, rfl⟩ := hcs
      exact ⟨A, L, C, Z, .inr ⟨_, rfl, hl, hm, fun r hr => by
        obtain ⟨e1, e2, e3, e4, e5, e6, e7⟩ := hx r hr
        exact ⟨e1, e2, e3, e4, e5, e6, fun a' ha => (e7 a' ha).2⟩⟩⟩
  obtain ⟨a2, rfl, rfl, rfl, w2⟩ := open_int Try.underlying3 (hval 2 3 v2 rfl rfl) h2
  obtain ⟨a3, rfl, rfl, rfl, w3⟩ := open_int Try.underlying3 (hval 3 3 v3 rfl rfl) h3
  obtain ⟨a4, rfl, rfl, rfl, w4⟩ := open_int Try.underlying3 (hval 4 3 v4 rfl rfl) h4
  clear hA0 hval0
  refine (walk a0 len0 cap0 z0 l1 len1 cap1 R n c Z a2 a3 a4 W w0 w1 w2 w3 w4).mono fun e W' ⟨he, bel⟩ => ?_
  subst he
  exact ⟨_, rfl, _, _, _, [], _, [], hW', trodAll_mk1 (shut_bool Try.underlying4 _), (trodAll_cons_mk (Below.trod laidOut (by kernel_rfl) (of_decide_eq_true (by kernel_rfl)) k0 bel lt0) (trodAll_cons_mk (Below.trod laidOut (by kernel_rfl) (of_decide_eq_true (by kernel_rfl)) k1 bel lt1) (trodAll_cons_mk (shut_int Try.underlying3 w2) (trodAll_cons_mk (shut_int Try.underlying3 w3) (trodAll_cons_mk (shut_int Try.underlying3 w4) trodAll_mk0))))), rfl, bel.frame _, fun h => by cases h⟩

theorem over : Rows.fnFirstLowIsFirstLowBlockRow.holds Try.pinned (OpenSpec.ofChange Rows.fnFirstLowIsFirstLowBlockSpec) :=
  OpenClaim.holds_of_wide 6 Try.f6 rfl rfl rfl rfl rfl rfl rfl ⟨rfl, rfl, rfl, rfl, rfl⟩ rfl rfl rfl rfl rfl (by kernel_rfl) Try.func6 (by kernel_rfl)
    (of_decide_eq_true (by kernel_rfl)) (by unfold Func.isWrapper; first | (rw [if_pos (by decide +kernel)]; kernel_rfl) | (rw [if_neg (by decide +kernel)]; exact ⟨rfl, rfl⟩))
    (fun os started H enc _ => lifted os started H enc)

/-- ████ THE STATEMENT ████ -/
theorem proved : Rows.FnFirstLowIsFirstLowBlockSaid := over
#print axioms proved
end Go.Proofs.Qxb6604135a.fnFirstLowIsFirstLowBlock
