/-
  THE WALKS OF FnTrimTrailingSpacesIsShortestUnescapedCut, the answer r of trimTrailingSpaces a variable.
-/
import Derived.Test.Qxb6617956aWalks
namespace Go.Proofs.Qxb6617956a.cut
open Go.RowKit

theorem bs8s (s : ByteArray) (m : Nat) (w : World) (hs : s.size ≤ 2000000) (hk : m + 1 ≤ s.size) :
    Calls Try.prog 8 #[.string s, .int .i64 ((m : Int) + 1)] w fun e w' => e = .returned (.int .i64 (bsI s (m + 1))) ∧ w = w' := by
  have h := bs8 s (m + 1) w hs hk
  have e : ((m + 1 : Nat) : Int) = (m : Int) + 1 := by omega
  rwa [e] at h
theorem bs8z (s : ByteArray) (w : World) (hs : s.size ≤ 2000000) :
    Calls Try.prog 8 #[.string s, .int .i64 0] w fun e w' => e = .returned (.int .i64 (bsI s 0)) ∧ w = w' := by
  have h := bs8 s 0 w hs (by omega)
  have e : ((0 : Nat) : Int) = 0 := by omega
  rwa [e] at h

set_option maxHeartbeats 1600000 in
theorem core_pos (s r : ByteArray) (m : Nat) (hs : s.size ≤ 1048576) (hr : r.size = m + 1) (hrs : m + 1 ≤ s.size) (H : Hid (trS s = r)) (w : World)
    (heq : ((s.extract 0 (m + 1)).toList == r.toList) = true) (hsp : spB (s.extract (m + 1) s.size) = true)
    (hm : m < r.size) (hch : Hid (¬ (r[m].toNat = 32 ∧ bsI r m % 2 = 0))) (hev : Hid (m + 1 < s.size → bsI s (m + 1) % 2 = 0)) :
    Calls Try.prog 3 #[.string s] w fun e w' => e = .returned (.bool true) ∧ Grown w w' := by
  have m1 : (s.extract (m + 1) s.size).size ≤ maxLen := by unfold maxLen; rw [ByteArray.size_extract]; omega
  have b1 := bsI_nonneg r m
  have b2 := bsI_nonneg s (m + 1)
  have C : Hid (∀ w, Calls Try.prog 6 #[.string s] w fun e w' => e = .returned (.string r) ∧ w = w') := by
    intro w; rw [← H.out]; exact tr6 s w (by omega)
  by_cases hc32 : r[m].toNat = 32
  · have hc : ((r[m].toNat : Int) == 32) = true := by rw [hc32]; rfl
    have ho : bsI r m % 2 = 1 := by
      have := hch.out
      by_cases e : bsI r m % 2 = 0
      · exact absurd ⟨hc32, e⟩ this
      · omega
    clear hc32 hch H
    by_cases hlt : m + 1 < s.size
    · have he : bsI s (m + 1) % 2 = 0 := hev.out hlt
      clear hev
      go_enter Try.func3, Try.ntmps3
      go_wp2_with (first | (go_at_call 5; go_in) | (go_at_call 6; refine (C.out _).mono ?_; rintro e w' ⟨rfl, rfl⟩) | (go_at_call 7; refine (all7 _ _ (by assumption)).mono ?_; rintro e w' ⟨rfl, rfl⟩))
      refine (bs8 r m _ (by omega) (by omega)).mono ?_
      rintro e w' ⟨rfl, rfl⟩
      go_wp2_with fail
      refine (bs8s s m _ (by omega) (by omega)).mono ?_
      rintro e w' ⟨rfl, rfl⟩
      go_wp2
      go_ret
      exact ⟨rfl, Grown.refl _⟩
    · clear hev
      go_enter Try.func3, Try.ntmps3
      go_wp2_with (first | (go_at_call 5; go_in) | (go_at_call 6; refine (C.out _).mono ?_; rintro e w' ⟨rfl, rfl⟩) | (go_at_call 7; refine (all7 _ _ (by assumption)).mono ?_; rintro e w' ⟨rfl, rfl⟩))
      refine (bs8 r m _ (by omega) (by omega)).mono ?_
      rintro e w' ⟨rfl, rfl⟩
      go_wp2
      go_ret
      exact ⟨rfl, Grown.refl _⟩
  · have hc : ((r[m].toNat : Int) == 32) = false := by simp; omega
    clear hc32 hch H
    by_cases hlt : m + 1 < s.size
    · have he : bsI s (m + 1) % 2 = 0 := hev.out hlt
      clear hev
      go_enter Try.func3, Try.ntmps3
      go_wp2_with (first | (go_at_call 5; go_in) | (go_at_call 6; refine (C.out _).mono ?_; rintro e w' ⟨rfl, rfl⟩) | (go_at_call 7; refine (all7 _ _ (by assumption)).mono ?_; rintro e w' ⟨rfl, rfl⟩))
      refine (bs8s s m _ (by omega) (by omega)).mono ?_
      rintro e w' ⟨rfl, rfl⟩
      go_wp2
      go_ret
      exact ⟨rfl, Grown.refl _⟩
    · clear hev
      go_enter Try.func3, Try.ntmps3
      go_wp2_with (first | (go_at_call 5; go_in) | (go_at_call 6; refine (C.out _).mono ?_; rintro e w' ⟨rfl, rfl⟩) | (go_at_call 7; refine (all7 _ _ (by assumption)).mono ?_; rintro e w' ⟨rfl, rfl⟩))
      go_ret
      exact ⟨rfl, Grown.refl _⟩

set_option maxHeartbeats 1600000 in
theorem core_zero (s r : ByteArray) (hs : s.size ≤ 1048576) (hr : r.size = 0) (H : Hid (trS s = r)) (w : World)
    (heq : r.toList.isEmpty = true) (hsp : spB s = true) :
    Calls Try.prog 3 #[.string s] w fun e w' => e = .returned (.bool true) ∧ Grown w w' := by
  have m2 : s.size ≤ maxLen := by unfold maxLen; omega
  have b2 : bsI s 0 = 0 := rfl
  have C : Hid (∀ w, Calls Try.prog 6 #[.string s] w fun e w' => e = .returned (.string r) ∧ w = w') := by
    intro w; rw [← H.out]; exact tr6 s w (by omega)
  by_cases hlt : 0 < s.size
  · go_enter Try.func3, Try.ntmps3
    go_wp2_with (first | (go_at_call 5; go_in) | (go_at_call 6; refine (C.out _).mono ?_; rintro e w' ⟨rfl, rfl⟩) | (go_at_call 7; refine (all7 _ _ (by assumption)).mono ?_; rintro e w' ⟨rfl, rfl⟩))
    refine (bs8z s _ (by omega)).mono ?_
    rintro e w' ⟨rfl, rfl⟩
    go_wp2
    go_ret
    exact ⟨rfl, Grown.refl _⟩
  · go_enter Try.func3, Try.ntmps3
    go_wp2_with (first | (go_at_call 5; go_in) | (go_at_call 6; refine (C.out _).mono ?_; rintro e w' ⟨rfl, rfl⟩) | (go_at_call 7; refine (all7 _ _ (by assumption)).mono ?_; rintro e w' ⟨rfl, rfl⟩))
    go_ret
    exact ⟨rfl, Grown.refl _⟩
end Go.Proofs.Qxb6617956a.cut
