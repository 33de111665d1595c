/-
  Seat b6604177a: the walk of FnSmallIntegerSpec (3).
-/
import Derived.Test.Qxb6604177aReads
namespace Go.Proofs.Qxb6604177a
open Go.ChangeShapes Go.WideShapes Go.ChangeAt Go.RowKit

theorem spec_big (s : ByteArray) (w : World) (h : 1048576 < s.size) (hm : s.size ≤ 9223372036854775807) : Calls Try.prog 3 #[.string s] w fun e w' => e = .returned (.bool true) ∧ w = w' := by
  go_enter Try.func3, Try.ntmps3
  go_wp2
  go_ret
  exact ⟨rfl, rfl⟩

set_option maxHeartbeats 400000 in
theorem spec_long (s : ByteArray) (w : World) (h : 9 < s.size) (hm : s.size ≤ 1048576) : Calls Try.prog 3 #[.string s] w fun e w' => e = .returned (.bool true) ∧ w = w' := by
  go_enter Try.func3, Try.ntmps3
  go_wp2_with (first
    | (go_at_call 11; refine (zz_of _ 0 false _ (fun w => small_long s w h (by omega))).mono ?_; rintro e w3 ⟨rfl, rfl⟩)
    | (go_at_call 10; go_in))
  go_ret
  exact ⟨rfl, rfl⟩

set_option maxHeartbeats 400000 in
theorem spec_no (s : ByteArray) (w : World) (h : s.size ≤ 9) (hD : ¬ Dec.Digs (Dec.byt s) s.size) : Calls Try.prog 3 #[.string s] w fun e w' => e = .returned (.bool true) ∧ w = w' := by
  have HD : Hid (¬ Dec.Digs (Dec.byt s) s.size) := hD
  clear hD
  go_enter Try.func3, Try.ntmps3
  go_wp2_with (first
    | (go_at_call 11; refine (zz_of _ 0 false _ (fun w => small_no s w h HD.out)).mono ?_; rintro e w3 ⟨rfl, rfl⟩)
    | (go_at_call 12; refine (digits_no s _ (by omega) HD.out).mono ?_; rintro e w3 ⟨rfl, rfl⟩)
    | (go_at_call 10; go_in))
  go_ret
  exact ⟨rfl, rfl⟩

set_option maxHeartbeats 400000 in
theorem spec_yes (s : ByteArray) (w : World) (h : s.size ≤ 9) (hD : Dec.Digs (Dec.byt s) s.size) : Calls Try.prog 3 #[.string s] w fun e w' => e = .returned (.bool true) ∧ Grown w w' := by
  have HD : Hid (Dec.Digs (Dec.byt s) s.size) := hD
  have hv := Dec.val_nine hD h
  have HV : Hid (Dec.val (Dec.pad (Dec.byt s) s.size) 0 9 = Dec.val (Dec.byt s) 0 s.size) := Dec.pad_val h
  have HP : Hid (Dec.Digs (Dec.pad (Dec.byt s) s.size) 9) := Dec.pad_digs hD h
  obtain ⟨v, hve⟩ : ∃ v, v = Dec.val (Dec.byt s) 0 s.size := ⟨_, rfl⟩
  have HE : Hid (v = Dec.val (Dec.byt s) 0 s.size) := hve
  rw [← hve] at hv
  clear hD hve
  have H1 : Hid (∀ w : World, Calls Try.prog 28 #[.string s] w fun e w' => e = .returned (.tuple #[.int .i32 v, .bool true]) ∧ w = w') := fun w => by
    rw [HE.out]; exact small_yes s s.size (Dec.byt s) w h (Dec.txt_self s) HD.out
  have H2 : Hid (∀ w : World, Calls Try.prog 13 #[.int .i32 v] w fun e w' => ∃ t, e = .returned (.string t) ∧ Dec.Txt t 9 (Dec.pad (Dec.byt s) s.size) ∧ Grown w w') := fun w => by
    rw [HE.out, ← HV.out]; exact nine_any _ w HP.out
  go_enter Try.func3, Try.ntmps3
  go_wp2_with (first
    | (go_at_call 11; refine (zz_of _ v true _ H1.out).mono ?_; rintro e w3 ⟨rfl, rfl⟩)
    | (go_at_call 12; refine (digits_yes s _ (by omega) HD.out).mono ?_; rintro e w3 ⟨rfl, rfl⟩)
    | (go_at_call 10; go_in))
  refine (H2.out _).mono ?_
  rintro e w1 ⟨t1, rfl, hT1, hg1⟩
  have HT1 : Hid (Dec.Txt t1 9 (Dec.pad (Dec.byt s) s.size)) := hT1
  have HG1 : Hid (Grown w w1) := hg1
  clear hT1 hg1
  go_wp2_with fail
  refine (pad_any s _ h HD.out).mono ?_
  rintro e w2 ⟨t2, rfl, hT2, hg2⟩
  obtain rfl := Dec.txt_ext HT1.out hT2
  have HG2 : Hid (Grown w w2) := grown_trans HG1.out hg2
  clear hT2 hg2
  go_wp2_with fail
  go_ret
  exact ⟨rfl, HG2.out⟩
end Go.Proofs.Qxb6604177a
