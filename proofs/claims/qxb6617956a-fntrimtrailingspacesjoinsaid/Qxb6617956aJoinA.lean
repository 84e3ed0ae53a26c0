/-
  THE WALKS OF FnTrimTrailingSpacesJoin, one theorem a way through her tests.
-/
import Derived.Test.Qxb6617956aWalks
import Derived.Test.Qxb6617956aJoinPlain
namespace Go.Proofs.Qxb6617956a.join
set_option linter.unusedVariables false
open Go.RowKit

set_option maxHeartbeats 400000 in
theorem c1ay (a b : ByteArray) (ha : a.size ≤ 524288) (hb : b.size ≤ 524288) (w : World)
    (ho : oddB a = true) (hb0 : 0 < b.size) (h2 : spB (b.extract 1 b.size) = true) (hos : oddB (a ++ b) = true) :
    Calls Try.prog 4 #[.string a, .string b] w fun e w' => e = .returned (.bool true) ∧ w = w' := by
  have z1 : a.size ≤ 2000000 := by omega
  have z5 : b.size ≤ 2000000 := by omega
  have z2 : (a ++ b).size ≤ 2000000 := by rw [ByteArray.size_append]; omega
  have z3 : (a ++ b ++ ⟨#[32]⟩).size ≤ 2000000 := by rw [ByteArray.size_append, ByteArray.size_append]; show _ + _ + 1 ≤ _; omega
  have z4 : (b.extract 1 b.size).size ≤ maxLen := by unfold maxLen; rw [ByteArray.size_extract]; omega
  have heq : ((trS (a ++ b)).toList == (a ++ b.extract 0 1).toList) = true := by rw [join_odd_sp a b ho hb0 h2]; simp
  have hfin : ((trS (a ++ b ++ ⟨#[32]⟩)).toList == (a ++ b ++ ⟨#[32]⟩).toList) = true := by rw [space_odd _ hos]; simp
  have q1 : ∀ wx : World, (Op.stringOp .add a b).run Try.prog wx = .ok (.string (a ++ b)) wx := fun wx => run_string_add_sum wx _ _ (by omega)
  have q2 : ∀ wx : World, (Op.stringOp .add (a ++ b) ⟨#[32]⟩).run Try.prog wx = .ok (.string (a ++ b ++ ⟨#[32]⟩)) wx := fun wx => run_string_add_sum wx _ _ (by rw [ByteArray.size_append]; show _ + 1 ≤ _; omega)
  have q3 : ∀ wx : World, (Op.stringOp .add a (b.extract 0 1)).run Try.prog wx = .ok (.string (a ++ b.extract 0 1)) wx := fun wx => run_string_add_sum wx _ _ (by rw [ByteArray.size_extract]; omega)
  go_enter Try.func4, Try.ntmps4
  go_wp2_with (first | (go_at_call 9; go_in) | (go_at_call 6; refine (tr6 _ _ (by assumption)).mono ?_; rintro e w' ⟨rfl, rfl⟩) | (go_at_call 7; refine (all7 _ _ (by assumption)).mono ?_; rintro e w' ⟨rfl, rfl⟩) | (go_at_call 10; refine (odd10 _ _ (by assumption)).mono ?_; rintro e w' ⟨rfl, rfl⟩))
  go_ret
  exact ⟨rfl, rfl⟩

set_option maxHeartbeats 400000 in
theorem c1an (a b : ByteArray) (ha : a.size ≤ 524288) (hb : b.size ≤ 524288) (w : World)
    (ho : oddB a = true) (hb0 : 0 < b.size) (h2 : spB (b.extract 1 b.size) = true) (hos : oddB (a ++ b) = false) :
    Calls Try.prog 4 #[.string a, .string b] w fun e w' => e = .returned (.bool true) ∧ w = w' := by
  have z1 : a.size ≤ 2000000 := by omega
  have z5 : b.size ≤ 2000000 := by omega
  have z2 : (a ++ b).size ≤ 2000000 := by rw [ByteArray.size_append]; omega
  have z3 : (a ++ b ++ ⟨#[32]⟩).size ≤ 2000000 := by rw [ByteArray.size_append, ByteArray.size_append]; show _ + _ + 1 ≤ _; omega
  have z4 : (b.extract 1 b.size).size ≤ maxLen := by unfold maxLen; rw [ByteArray.size_extract]; omega
  have heq : ((trS (a ++ b)).toList == (a ++ b.extract 0 1).toList) = true := by rw [join_odd_sp a b ho hb0 h2]; simp
  have hfin : ((trS (a ++ b ++ ⟨#[32]⟩)).toList == (trS (a ++ b)).toList) = true := by rw [space_even _ hos]; simp
  have q1 : ∀ wx : World, (Op.stringOp .add a b).run Try.prog wx = .ok (.string (a ++ b)) wx := fun wx => run_string_add_sum wx _ _ (by omega)
  have q2 : ∀ wx : World, (Op.stringOp .add (a ++ b) ⟨#[32]⟩).run Try.prog wx = .ok (.string (a ++ b ++ ⟨#[32]⟩)) wx := fun wx => run_string_add_sum wx _ _ (by rw [ByteArray.size_append]; show _ + 1 ≤ _; omega)
  have q3 : ∀ wx : World, (Op.stringOp .add a (b.extract 0 1)).run Try.prog wx = .ok (.string (a ++ b.extract 0 1)) wx := fun wx => run_string_add_sum wx _ _ (by rw [ByteArray.size_extract]; omega)
  go_enter Try.func4, Try.ntmps4
  go_wp2_with (first | (go_at_call 9; go_in) | (go_at_call 6; refine (tr6 _ _ (by assumption)).mono ?_; rintro e w' ⟨rfl, rfl⟩) | (go_at_call 7; refine (all7 _ _ (by assumption)).mono ?_; rintro e w' ⟨rfl, rfl⟩) | (go_at_call 10; refine (odd10 _ _ (by assumption)).mono ?_; rintro e w' ⟨rfl, rfl⟩))
  go_ret
  exact ⟨rfl, rfl⟩

set_option maxHeartbeats 400000 in
theorem c1by (a b : ByteArray) (ha : a.size ≤ 524288) (hb : b.size ≤ 524288) (w : World)
    (ho : oddB a = true) (hb0 : 0 < b.size) (h2 : spB (b.extract 1 b.size) = false) (hos : oddB (a ++ b) = true) :
    Calls Try.prog 4 #[.string a, .string b] w fun e w' => e = .returned (.bool true) ∧ w = w' := by
  have z1 : a.size ≤ 2000000 := by omega
  have z5 : b.size ≤ 2000000 := by omega
  have z2 : (a ++ b).size ≤ 2000000 := by rw [ByteArray.size_append]; omega
  have z3 : (a ++ b ++ ⟨#[32]⟩).size ≤ 2000000 := by rw [ByteArray.size_append, ByteArray.size_append]; show _ + _ + 1 ≤ _; omega
  have z4 : (b.extract 1 b.size).size ≤ maxLen := by unfold maxLen; rw [ByteArray.size_extract]; omega
  have z7 : (b.extract 1 b.size).size ≤ 2000000 := by rw [ByteArray.size_extract]; omega
  have heq : ((trS (a ++ b)).toList == (a ++ b.extract 0 1 ++ trS (b.extract 1 b.size)).toList) = true := by rw [join_odd_not a b ho hb0 h2]; simp
  have hfin : ((trS (a ++ b ++ ⟨#[32]⟩)).toList == (a ++ b ++ ⟨#[32]⟩).toList) = true := by rw [space_odd _ hos]; simp
  have hadd : ∀ wx : World, (Op.stringOp .add (a ++ b.extract 0 1) (trS (b.extract 1 b.size))).run Try.prog wx = .ok (.string (a ++ b.extract 0 1 ++ trS (b.extract 1 b.size))) wx := fun wx => run_string_add_sum wx _ _ (by
    have := trS_le (b.extract 1 b.size)
    rw [ByteArray.size_extract] at this; rw [ByteArray.size_append, ByteArray.size_extract]; omega)
  have q1 : ∀ wx : World, (Op.stringOp .add a b).run Try.prog wx = .ok (.string (a ++ b)) wx := fun wx => run_string_add_sum wx _ _ (by omega)
  have q2 : ∀ wx : World, (Op.stringOp .add (a ++ b) ⟨#[32]⟩).run Try.prog wx = .ok (.string (a ++ b ++ ⟨#[32]⟩)) wx := fun wx => run_string_add_sum wx _ _ (by rw [ByteArray.size_append]; show _ + 1 ≤ _; omega)
  have q3 : ∀ wx : World, (Op.stringOp .add a (b.extract 0 1)).run Try.prog wx = .ok (.string (a ++ b.extract 0 1)) wx := fun wx => run_string_add_sum wx _ _ (by rw [ByteArray.size_extract]; omega)
  go_enter Try.func4, Try.ntmps4
  go_wp2_with (first | (go_at_call 9; go_in) | (go_at_call 6; refine (tr6 _ _ (by assumption)).mono ?_; rintro e w' ⟨rfl, rfl⟩) | (go_at_call 7; refine (all7 _ _ (by assumption)).mono ?_; rintro e w' ⟨rfl, rfl⟩) | (go_at_call 10; refine (odd10 _ _ (by assumption)).mono ?_; rintro e w' ⟨rfl, rfl⟩))
  go_ret
  exact ⟨rfl, rfl⟩

set_option maxHeartbeats 400000 in
theorem c1bn (a b : ByteArray) (ha : a.size ≤ 524288) (hb : b.size ≤ 524288) (w : World)
    (ho : oddB a = true) (hb0 : 0 < b.size) (h2 : spB (b.extract 1 b.size) = false) (hos : oddB (a ++ b) = false) :
    Calls Try.prog 4 #[.string a, .string b] w fun e w' => e = .returned (.bool true) ∧ w = w' := by
  have z1 : a.size ≤ 2000000 := by omega
  have z5 : b.size ≤ 2000000 := by omega
  have z2 : (a ++ b).size ≤ 2000000 := by rw [ByteArray.size_append]; omega
  have z3 : (a ++ b ++ ⟨#[32]⟩).size ≤ 2000000 := by rw [ByteArray.size_append, ByteArray.size_append]; show _ + _ + 1 ≤ _; omega
  have z4 : (b.extract 1 b.size).size ≤ maxLen := by unfold maxLen; rw [ByteArray.size_extract]; omega
  have z7 : (b.extract 1 b.size).size ≤ 2000000 := by rw [ByteArray.size_extract]; omega
  have heq : ((trS (a ++ b)).toList == (a ++ b.extract 0 1 ++ trS (b.extract 1 b.size)).toList) = true := by rw [join_odd_not a b ho hb0 h2]; simp
  have hfin : ((trS (a ++ b ++ ⟨#[32]⟩)).toList == (trS (a ++ b)).toList) = true := by rw [space_even _ hos]; simp
  have hadd : ∀ wx : World, (Op.stringOp .add (a ++ b.extract 0 1) (trS (b.extract 1 b.size))).run Try.prog wx = .ok (.string (a ++ b.extract 0 1 ++ trS (b.extract 1 b.size))) wx := fun wx => run_string_add_sum wx _ _ (by
    have := trS_le (b.extract 1 b.size)
    rw [ByteArray.size_extract] at this; rw [ByteArray.size_append, ByteArray.size_extract]; omega)
  have q1 : ∀ wx : World, (Op.stringOp .add a b).run Try.prog wx = .ok (.string (a ++ b)) wx := fun wx => run_string_add_sum wx _ _ (by omega)
  have q2 : ∀ wx : World, (Op.stringOp .add (a ++ b) ⟨#[32]⟩).run Try.prog wx = .ok (.string (a ++ b ++ ⟨#[32]⟩)) wx := fun wx => run_string_add_sum wx _ _ (by rw [ByteArray.size_append]; show _ + 1 ≤ _; omega)
  have q3 : ∀ wx : World, (Op.stringOp .add a (b.extract 0 1)).run Try.prog wx = .ok (.string (a ++ b.extract 0 1)) wx := fun wx => run_string_add_sum wx _ _ (by rw [ByteArray.size_extract]; omega)
  go_enter Try.func4, Try.ntmps4
  go_wp2_with (first | (go_at_call 9; go_in) | (go_at_call 6; refine (tr6 _ _ (by assumption)).mono ?_; rintro e w' ⟨rfl, rfl⟩) | (go_at_call 7; refine (all7 _ _ (by assumption)).mono ?_; rintro e w' ⟨rfl, rfl⟩) | (go_at_call 10; refine (odd10 _ _ (by assumption)).mono ?_; rintro e w' ⟨rfl, rfl⟩))
  go_ret
  exact ⟨rfl, rfl⟩

end Go.Proofs.Qxb6617956a.join
