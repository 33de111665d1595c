/-
  Seat b6604177a: plain facts on texts and decimal numbers: no Go in sight.
-/
import Derived.Laws.BytesArg
namespace Go.Proofs.Qxb6604177a.Dec

/-- The text s has n bytes, byte k being g k. -/
def Txt (s : ByteArray) (n : Nat) (g : Nat → Int) : Prop := s.size = n ∧ ∀ k (h : k < s.size), (s[k].toNat : Int) = g k

/-- The bytes of a text as numbers. -/
def byt (s : ByteArray) (k : Nat) : Int := if h : k < s.size then (s[k].toNat : Int) else 0
theorem byt_at {s : ByteArray} {k : Nat} (h : k < s.size) : (s[k].toNat : Int) = byt s k := by unfold byt; rw [dif_pos h]
theorem txt_self (s : ByteArray) : Txt s s.size (byt s) := ⟨rfl, fun _ h => byt_at h⟩

theorem txt_ext {s t : ByteArray} {n : Nat} {g : Nat → Int} (hs : Txt s n g) (ht : Txt t n g) : s = t := by
  apply ByteArray.ext
  apply Array.ext
  · exact hs.1.trans ht.1.symm
  · intro i h1 h2
    have a := hs.2 i h1
    have b := ht.2 i h2
    have e : (s[i]'h1).toNat = (t[i]'h2).toNat := by omega
    exact UInt8.toNat_inj.1 e

theorem txt_nums (n : Nat) (g : Nat → Int) (hg : ∀ k, k < n → 0 ≤ g k ∧ g k ≤ 255) : Txt (strOfNums ((List.range n).map g)) n g := by
  have hsz : (strOfNums ((List.range n).map g)).size = n := by rw [strOfNums_size]; simp
  refine ⟨hsz, fun k h => ?_⟩
  have hk : k < n := by omega
  have e : (strOfNums ((List.range n).map g))[k] = UInt8.ofNat (g k).toNat := by
    show (((List.range n).map g).map (fun n => UInt8.ofNat n.toNat)).toArray[k]'(by simpa using hk) = _
    simp
  have := hg k hk
  rw [e, UInt8.toNat_ofNat']
  omega

theorem txt_append {a b : ByteArray} {n m : Nat} {g h : Nat → Int} (ha : Txt a n g) (hb : Txt b m h) : Txt (a ++ b) (n + m) (fun k => if k < n then g k else h (k - n)) := by
  have hsz : (a ++ b).size = n + m := by rw [ByteArray.size_append, ha.1, hb.1]
  refine ⟨hsz, fun k hk => ?_⟩
  by_cases c : k < n
  · have hk' : k < a.size := by rw [ha.1]; exact c
    have e : (a ++ b)[k] = a[k] := ByteArray.getElem_append_left hk'
    rw [e]
    show _ = if k < n then g k else h (k - n)
    rw [if_pos c]
    exact ha.2 k hk'
  · have hk' : a.size ≤ k := by rw [ha.1]; omega
    have e : (a ++ b)[k] = b[k - a.size]'(by rw [ha.1, hb.1]; omega) := ByteArray.getElem_append_right hk'
    rw [e]
    show _ = if k < n then g k else h (k - n)
    rw [if_neg c, hb.2 (k - a.size) (by rw [ha.1, hb.1]; omega), ha.1]

/-- The number that the first n bytes write behind the number a. -/
def val (g : Nat → Int) (a : Int) : Nat → Int
  | 0 => a
  | n + 1 => 10 * val g a n + (g n - 48)

theorem val_split (g : Nat → Int) (a : Int) (z : Nat) : ∀ m, val g a (z + m) = val (fun k => g (z + k)) (val g a z) m
  | 0 => rfl
  | m + 1 => by
    show 10 * val g a (z + m) + (g (z + m) - 48) = _
    rw [val_split g a z m]; rfl
theorem val_congr {g h : Nat → Int} (a : Int) : ∀ n, (∀ k, k < n → g k = h k) → val g a n = val h a n
  | 0, _ => rfl
  | n + 1, e => by
    show 10 * val g a n + (g n - 48) = 10 * val h a n + (h n - 48)
    rw [val_congr a n (fun k hk => e k (by omega)), e n (by omega)]
theorem val_zeros {g : Nat → Int} : ∀ n, (∀ k, k < n → g k = 48) → val g 0 n = 0
  | 0, _ => rfl
  | n + 1, e => by
    show 10 * val g 0 n + (g n - 48) = 0
    rw [val_zeros n (fun k hk => e k (by omega)), e n (by omega)]; rfl

/-- All n bytes are digits. -/
def Digs (g : Nat → Int) (n : Nat) : Prop := ∀ k, k < n → 48 ≤ g k ∧ g k ≤ 57

theorem val_rng {g : Nat → Int} : ∀ n, Digs g n → 0 ≤ val g 0 n ∧ val g 0 n < 10 ^ n
  | 0, _ => ⟨Int.le_refl _, by show (0 : Int) < 10 ^ 0; decide⟩
  | n + 1, h => by
    have ih := val_rng n (fun k hk => h k (by omega))
    have hd := h n (by omega)
    have e : (10 : Int) ^ (n + 1) = 10 ^ n * 10 := Int.pow_succ 10 n
    show 0 ≤ 10 * val g 0 n + (g n - 48) ∧ 10 * val g 0 n + (g n - 48) < 10 ^ (n + 1)
    omega
theorem pow_small : ∀ n, n ≤ 8 → (10 : Int) ^ n ≤ 100000000 := by
  intro n h
  match n, h with
  | 0, _ => decide
  | 1, _ => decide
  | 2, _ => decide
  | 3, _ => decide
  | 4, _ => decide
  | 5, _ => decide
  | 6, _ => decide
  | 7, _ => decide
  | 8, _ => decide
theorem val_small {g : Nat → Int} {n : Nat} (h : Digs g n) (hn : n ≤ 8) : 0 ≤ val g 0 n ∧ val g 0 n ≤ 99999999 := by
  have := val_rng n h
  have := pow_small n hn
  omega
theorem val_nine {g : Nat → Int} {n : Nat} (h : Digs g n) (hn : n ≤ 9) : 0 ≤ val g 0 n ∧ val g 0 n ≤ 999999999 := by
  match n, hn, h with
  | 0, _, _ => exact ⟨Int.le_refl _, by show (0 : Int) ≤ 999999999; decide⟩
  | n + 1, hn, h =>
    have := val_small (g := g) (n := n) (fun k hk => h k (by omega)) (by omega)
    have := h n (by omega)
    show 0 ≤ 10 * val g 0 n + (g n - 48) ∧ 10 * val g 0 n + (g n - 48) ≤ 999999999
    omega

/-! A number taken apart from behind. -/

/-- What has been written at the places i, i+1, .. i+m-1 behind q is the number N. -/
theorem val_front (g : Nat → Int) (a : Int) (m : Nat) : val g a (m + 1) = val (fun k => g (1 + k)) (10 * a + (g 0 - 48)) m := by
  have := val_split g a 1 m
  rw [Nat.add_comm 1 m] at this
  exact this
/-- One digit more ahead of those that are there. -/
theorem val_step (h : Nat → Int) (i m : Nat) (q d : Int) (hd : h i = 48 + d) : val (fun k => h (i + k)) q (m + 1) = val (fun k => h (i + 1 + k)) (10 * q + d) m := by
  rw [val_front]
  have e1 : (10 * q + (h (i + 0) - 48)) = 10 * q + d := by rw [Nat.add_zero, hd]; omega
  rw [e1]
  exact val_congr _ m (fun k _ => by show h (i + (1 + k)) = h (i + 1 + k); rw [Nat.add_assoc])

/-- The text s written out with leading zeros to nine places: its digits. -/
def pad (g : Nat → Int) (n : Nat) (k : Nat) : Int := if k < 9 - n then 48 else g (k - (9 - n))
theorem pad_digs {g : Nat → Int} {n : Nat} (h : Digs g n) (hn : n ≤ 9) : Digs (pad g n) 9 := by
  intro k hk
  unfold pad
  split
  · omega
  · exact h _ (by omega)
theorem pad_val {g : Nat → Int} {n : Nat} (hn : n ≤ 9) : val (pad g n) 0 9 = val g 0 n := by
  have h := val_split (pad g n) 0 (9 - n) n
  rw [show 9 - n + n = 9 from by omega] at h
  rw [h, val_zeros (g := pad g n) (9 - n) (fun k hk => if_pos hk)]
  exact val_congr 0 n (fun k _ => by show pad g n (9 - n + k) = g k; unfold pad; rw [if_neg (by omega), show 9 - n + k - (9 - n) = k from by omega])
end Go.Proofs.Qxb6604177a.Dec
