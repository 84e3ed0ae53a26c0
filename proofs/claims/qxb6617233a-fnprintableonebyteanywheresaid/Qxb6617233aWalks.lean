/-
  THE SHARED CONTRACTS OF THE SEAT b6617233a: printableWithoutSpace and its wrapper; the two bounds.
-/
import Derived.Test.Qxb6617233aRows
import Derived.Test.Qxb6617233aPlain
import Derived.WalkKit
namespace Go.Proofs.Qxb6617233a
open Go.RowKit

theorem ret_bool {a b : Bool} (h : b = a) : Ending.returned (.bool a) = .returned (.bool b) := by rw [h]

set_option maxHeartbeats 400000 in
theorem pr8 (s : ByteArray) (w : World) (hs : s.size ≤ maxLen) :
    Calls Try.prog 8 #[.string s] w fun e w' => e = .returned (.bool (prB s)) ∧ w = w' := by
  unfold maxLen at hs
  go_enter Try.func8, Try.ntmps8
  go_wp2
  go_loop [7] (fun i => ∃ k : Nat, k ≤ s.size ∧ i = .int .i64 k ∧ Hid (prL (s.data.toList.take k) = true)) (fun i => s.size - (intOf i).toNat)
  case atStart => exact ⟨0, Nat.zero_le _, rfl, by simp [prL, Hid]⟩
  case round =>
    obtain ⟨k, hk, rfl, hp⟩ := hrel
    by_cases hlt : k < s.size
    · by_cases h1 : (s[k].toNat : Int) ≤ 32
      · go_wp2
        go_ret
        exact ⟨ret_bool (pr_bad s k hlt (okB_low h1)), rfl⟩
      · by_cases h2 : (126 : Int) < (s[k].toNat : Int)
        · go_wp2
          go_ret
          exact ⟨ret_bool (pr_bad s k hlt (okB_high h2)), rfl⟩
        · go_wp2
          go_round
          case rel => exact ⟨k + 1, by omega, by go_num, pr_step s k hlt hp.out (okB_true h1 h2)⟩
          case measure => simp [intOf]; omega
    · go_wp2
      go_ret
      exact ⟨ret_bool (pr_all s k (by omega) hp.out), rfl⟩

theorem pr6 (s : ByteArray) (w : World) (hs : s.size ≤ maxLen) :
    Calls Try.prog 6 #[.string s] w fun e w' => e = .returned (.bool (prB s)) ∧ w = w' := by
  go_enter Try.func6, Try.ntmps6
  go_wp2_with (go_at_call 8; refine (pr8 _ _ hs).mono ?_; rintro e w' ⟨rfl, rfl⟩)
  go_ret
  exact ⟨rfl, rfl⟩

end Go.Proofs.Qxb6617233a
