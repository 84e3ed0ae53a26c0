/-
  PLAIN LAWS AND SHARED CONTRACTS ON abs (seat b6619250a). 'absI a': |a|. 'In64 a': a fits int64.
-/
import Derived.Test.Qxb6619250aRows
import Derived.WalkKit
namespace Go.Proofs.Qxb6619250a
open Go.RowKit

def absI (a : Int) : Int := if a < 0 then -a else a
def In64 (a : Int) : Prop := -9223372036854775808 ≤ a ∧ a ≤ 9223372036854775807

theorem ret_int {k : IntKind} {a b : Int} (h : a = b) : Ending.returned (.int k a) = .returned (.int k b) := by rw [h]

theorem abs_neg {a : Int} (h : In64 a) (h0 : a < 0) : IntKind.u64.wrap (wrap64 (-a)) = absI a := by
  unfold In64 at h; unfold absI wrap64; rw [IntKind.wrap_u64, if_pos h0]; omega
theorem abs_pos {a : Int} (h : In64 a) (h0 : ¬ a < 0) : IntKind.u64.wrap a = absI a := by
  unfold In64 at h; unfold absI; rw [IntKind.wrap_u64, if_neg h0]; omega
theorem in_neg (a : Int) : In64 (wrap64 (-a)) := by unfold In64 wrap64; omega
theorem abs_even {a : Int} (h : In64 a) : absI (wrap64 (-a)) = absI a := by
  unfold In64 at h; unfold absI wrap64; split <;> split <;> omega

theorem ret_bool {a b : Bool} (h : a = b) : Ending.returned (.bool a) = .returned (.bool b) := by rw [h]
theorem res_less {a : Int} (h : In64 a) (h0 : IntKind.u64.wrap (-IntKind.u64.wrap a) < IntKind.u64.wrap a) : (absI a == IntKind.u64.wrap (-IntKind.u64.wrap a)) = true := by
  rw [beq_iff_eq]
  unfold In64 at h; rw [IntKind.wrap_u64, IntKind.wrap_u64] at h0 ⊢; unfold absI; split <;> omega
theorem res_more {a : Int} (h : In64 a) (h0 : ¬ IntKind.u64.wrap (-IntKind.u64.wrap a) < IntKind.u64.wrap a) : (absI a == IntKind.u64.wrap a) = true := by
  rw [beq_iff_eq]
  unfold In64 at h; rw [IntKind.wrap_u64, IntKind.wrap_u64] at h0; rw [IntKind.wrap_u64]; unfold absI; split <;> omega

theorem toNat_ofInt64 (a : Int) : ((BitVec.ofInt 64 a).toNat : Int) = a % 18446744073709551616 := by
  rw [BitVec.toNat_ofInt]; omega
theorem xor_zero {a : Int} (h : In64 a) : bits .xor .i64 a 0 = a := by
  unfold In64 at h
  show IntKind.i64.wrap ((BitVec.ofInt 64 a ^^^ BitVec.ofInt 64 0).toNat : Int) = a
  have e : BitVec.ofInt 64 0 = 0#64 := by decide
  rw [e, BitVec.xor_zero, toNat_ofInt64, IntKind.wrap_i64]
  omega
theorem xor_ones {a : Int} (h : In64 a) : bits .xor .i64 a (-1) = -a - 1 := by
  unfold In64 at h
  show IntKind.i64.wrap ((BitVec.ofInt 64 a ^^^ BitVec.ofInt 64 (-1)).toNat : Int) = _
  have e : BitVec.ofInt 64 (-1) = BitVec.allOnes 64 := by decide
  have t := toNat_ofInt64 a
  rw [e, BitVec.xor_allOnes, BitVec.toNat_not, IntKind.wrap_i64]
  omega
theorem bra_eq {a : Int} (h : In64 a) : IntKind.u64.wrap (IntKind.u64.wrap (bits BinOp.xor IntKind.i64 a (a / 9223372036854775808)) - IntKind.u64.wrap (a / 9223372036854775808)) = absI a := by
  by_cases h0 : a < 0
  · have e : a / 9223372036854775808 = -1 := by unfold In64 at h; omega
    rw [e, xor_ones h, IntKind.wrap_u64, IntKind.wrap_u64, IntKind.wrap_u64]
    unfold In64 at h; unfold absI; rw [if_pos h0]; omega
  · have e : a / 9223372036854775808 = 0 := by unfold In64 at h; omega
    rw [e, xor_zero h, IntKind.wrap_u64, IntKind.wrap_u64, IntKind.wrap_u64]
    unfold In64 at h; unfold absI; rw [if_neg h0]; omega

/-! ### The contracts -/
theorem abs16 (a : Int) (w : World) (h : In64 a) :
    Calls Try.prog 16 #[.int .i64 a] w fun e w' => e = .returned (.int .u64 (absI a)) ∧ w = w' := by
  have H : Hid (In64 a) := h
  clear h
  by_cases h0 : a < 0
  · go_enter Try.func16, Try.ntmps16
    go_wp2
    go_ret
    exact ⟨ret_int (abs_neg H.out h0), rfl⟩
  · go_enter Try.func16, Try.ntmps16
    go_wp2
    go_ret
    exact ⟨ret_int (abs_pos H.out (by omega)), rfl⟩
theorem abs13 (a : Int) (w : World) (h : In64 a) :
    Calls Try.prog 13 #[.int .i64 a] w fun e w' => e = .returned (.int .u64 (absI a)) ∧ w = w' := by
  have H : Hid (In64 a) := h
  clear h
  go_enter Try.func13, Try.ntmps13
  go_wp2_with (go_at_call 16; refine (abs16 _ _ H.out).mono ?_; rintro e w' ⟨rfl, rfl⟩)
  go_ret
  exact ⟨rfl, rfl⟩
theorem bra14 (a : Int) (w : World) (h : In64 a) :
    Calls Try.prog 14 #[.int .i64 a] w fun e w' => e = .returned (.int .u64 (absI a)) ∧ w = w' := by
  have H : Hid (In64 a) := h
  clear h
  go_enter Try.func14, Try.ntmps14
  go_wp2
  go_ret
  exact ⟨ret_int (bra_eq H.out), rfl⟩

end Go.Proofs.Qxb6619250a
