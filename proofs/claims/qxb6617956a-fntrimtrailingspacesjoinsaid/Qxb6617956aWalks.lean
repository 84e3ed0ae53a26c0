/-
  THE SHARED CONTRACTS OF THE SEAT b6617956a.
-/
import Derived.Test.Qxb6617956aRows
import Derived.Test.Qxb6617956aPlain
import Derived.WalkKit
namespace Go.Proofs.Qxb6617956a
open Go.RowKit

theorem ret_bool {a b : Bool} (h : b = a) : Ending.returned (.bool a) = .returned (.bool b) := by rw [h]
theorem ret_int {k : IntKind} {a b : Int} (h : a = b) : Ending.returned (.int k a) = .returned (.int k b) := by rw [h]
theorem ret_str {a b : ByteArray} (h : a = b) : Ending.returned (.string a) = .returned (.string b) := by rw [h]

theorem sp_step (s : ByteArray) (k : Nat) (h : k < s.size) (hp : spL (s.data.toList.take k) = true) (hc : s[k].toNat = 32) : spL (s.data.toList.take (k + 1)) = true := by
  have e : s.data.toList.take (k + 1) = s.data.toList.take k ++ [s[k]] := by
    rw [List.take_succ_eq_append_getElem (by simpa using h)]; rfl
  rw [e]
  unfold spL at hp ⊢
  rw [List.all_append, hp]
  simp [hc]
theorem sp_bad (s : ByteArray) (k : Nat) (h : k < s.size) (hc : ¬ s[k].toNat = 32) : spB s = false := by
  cases e : spB s with
  | false => rfl
  | true =>
    unfold spB spL at e
    rw [List.all_eq_true] at e
    have := e s[k] (by exact List.getElem_mem (l := s.data.toList) (n := k) (by simpa using h))
    simp at this
    exact absurd this hc
theorem sp_all (s : ByteArray) (k : Nat) (h : s.size ≤ k) (hp : spL (s.data.toList.take k) = true) : spB s = true := by
  unfold spB
  rwa [List.take_of_length_le (by simpa using h)] at hp

set_option maxHeartbeats 400000 in
theorem all7 (s : ByteArray) (w : World) (hs : s.size ≤ maxLen) :
    Calls Try.prog 7 #[.string s] w fun e w' => e = .returned (.bool (spB s)) ∧ w = w' := by
  unfold maxLen at hs
  go_enter Try.func7, Try.ntmps7
  go_wp2
  go_loop [3] (fun i => ∃ k : Nat, k ≤ s.size ∧ i = .int .i64 k ∧ Hid (spL (s.data.toList.take k) = true)) (fun i => s.size - (intOf i).toNat)
  case atStart => exact ⟨0, Nat.zero_le _, rfl, by simp [spL, Hid]⟩
  case round =>
    obtain ⟨k, hk, rfl, hp⟩ := hrel
    by_cases hlt : k < s.size
    · by_cases h1 : s[k].toNat = 32
      · have h1' : ((s[k].toNat : Int) == 32) = true := by rw [h1]; rfl
        have H1 : Hid (s[k].toNat = 32) := h1
        clear h1
        go_wp2
        go_round
        case rel => exact ⟨k + 1, by omega, by go_num, sp_step s k hlt hp.out H1.out⟩
        case measure => simp [intOf]; omega
      · have h1' : ((s[k].toNat : Int) == 32) = false := by simp; omega
        go_wp2
        go_ret
        exact ⟨ret_bool (sp_bad s k hlt h1), rfl⟩
    · go_wp2
      go_ret
      exact ⟨ret_bool (sp_all s k (by omega) hp.out), rfl⟩

theorem bs_stop (s : ByteArray) (k i : Nat) (c : Int) (hi : i < s.size) (hc : ¬ s[i].toNat = 92) (H : c + bsI s (i + 1) = bsI s k) : c = bsI s k := by
  unfold bsI at H ⊢
  rw [rv_succ s i hi] at H
  simp [bsR, hc] at H
  exact H
theorem bs_go (s : ByteArray) (k i : Nat) (c : Int) (hi : i < s.size) (hc : s[i].toNat = 92) (H : c + bsI s (i + 1) = bsI s k) : c + 1 + bsI s i = bsI s k := by
  unfold bsI at H ⊢
  rw [rv_succ s i hi] at H
  simp [bsR, hc] at H
  omega
theorem bs_end (s : ByteArray) (k : Nat) (c : Int) (H : c + bsI s 0 = bsI s k) : c = bsI s k := by
  have e : bsI s 0 = 0 := rfl
  omega

set_option maxHeartbeats 400000 in
theorem bs8 (s : ByteArray) (k : Nat) (w : World) (hs : s.size ≤ 2000000) (hk : k ≤ s.size) :
    Calls Try.prog 8 #[.string s, .int .i64 (k : Int)] w fun e w' => e = .returned (.int .i64 (bsI s k)) ∧ w = w' := by
  go_enter Try.func8, Try.ntmps8
  go_wp2
  go_loop [5, 6] (fun c j => ∃ (i : Nat) (n : Int), i ≤ s.size ∧ 0 ≤ n ∧ n + i ≤ 2000000 ∧ j = .int .i64 ((i : Int) - 1) ∧ c = .int .i64 n ∧ Hid (n + bsI s i = bsI s k)) (fun _ j => (intOf j + 1).toNat)
  case atStart => exact ⟨k, 0, hk, by omega, by omega, rfl, rfl, by simp [Hid]⟩
  case round =>
    obtain ⟨i, n, hi, hn, hni, rfl, rfl, H⟩ := hrel
    by_cases hz : i = 0
    · subst hz
      go_wp2
      go_ret
      exact ⟨ret_int (bs_end s k n H.out), rfl⟩
    · obtain ⟨m, rfl⟩ : ∃ m, i = m + 1 := ⟨i - 1, by omega⟩
      have e0 : ((m + 1 : Nat) : Int) - 1 = (m : Int) := by omega
      rw [e0]
      clear e0 hz
      have hm : m < s.size := by omega
      by_cases h1 : s[m].toNat = 92
      · have h1' : ((s[m].toNat : Int) == 92) = true := by rw [h1]; rfl
        have H1 : Hid (s[m].toNat = 92) := h1
        clear h1
        go_wp2
        go_round
        case rel => exact ⟨m, n + 1, by omega, by omega, by omega, rfl, rfl, bs_go s k m n hm H1.out H.out⟩
        case measure => simp [intOf]
      · have h1' : ((s[m].toNat : Int) == 92) = false := by simp; omega
        go_wp2
        go_ret
        exact ⟨ret_int (bs_stop s k m n hm h1 H.out), rfl⟩

set_option maxHeartbeats 400000 in
theorem odd10 (s : ByteArray) (w : World) (hs : s.size ≤ 2000000) :
    Calls Try.prog 10 #[.string s] w fun e w' => e = .returned (.bool (oddB s)) ∧ w = w' := by
  have hb := bsI_nonneg s s.size
  have he : (bsI s s.size % 2 == 1) = oddB s := by
    unfold oddB bsI
    rw [esc_bs]
    by_cases h : bsR (rv s s.size) % 2 = 1
    · simp [h]; omega
    · simp [h]; omega
  go_enter Try.func10, Try.ntmps10
  go_wp2_with (go_at_call 8; refine (bs8 s s.size _ hs (Nat.le_refl _)).mono ?_; rintro e w' ⟨rfl, rfl⟩)
  go_ret
  exact ⟨rfl, rfl⟩

theorem en_last (s : ByteArray) (k : Nat) (h : k < s.size) (hl : s.size = k + 1) (he : escR (rv s k) = false) (hc : s[k].toNat = 92) : enR (rv s (k + 2)) = k + 1 := by
  rw [rv_over s (k + 2) (by omega), hl]
  exact (en_bs1 s k h he hc).2
theorem tr_end (s : ByteArray) (k e : Nat) (h : s.size ≤ k) (H : e = enR (rv s k)) : s.extract 0 e = trS s := by
  rw [rv_over s k h] at H
  unfold trS enS
  rw [H]

set_option maxHeartbeats 400000 in
theorem tr11 (s : ByteArray) (w : World) (hs : s.size ≤ 2000000) :
    Calls Try.prog 11 #[.string s] w fun e w' => e = .returned (.string (trS s)) ∧ w = w' := by
  go_enter Try.func11, Try.ntmps11
  go_wp2
  go_loop [3, 4] (fun n j => ∃ (k e : Nat), k ≤ s.size + 1 ∧ e ≤ s.size ∧ j = .int .i64 (k : Int) ∧ n = .int .i64 (e : Int) ∧ Hid (k ≤ s.size → escR (rv s k) = false) ∧ Hid (e = enR (rv s k))) (fun _ j => s.size + 1 - (intOf j).toNat)
  case atStart => exact ⟨0, 0, by omega, by omega, rfl, rfl, fun _ => rfl, rfl⟩
  case round =>
    obtain ⟨k, e, hk, he, rfl, rfl, H1, H2⟩ := hrel
    by_cases hlt : k < s.size
    · by_cases h1 : s[k].toNat = 92
      · have h1' : ((s[k].toNat : Int) == 92) = true := by rw [h1]; rfl
        have H3 : Hid (s[k].toNat = 92) := h1
        clear h1
        by_cases h2 : k + 1 < s.size
        · go_wp2
          go_round
          case rel => exact ⟨k + 2, k + 2, by omega, by omega, by go_num, by go_num, fun _ => (en_bs2 s k h2 (H1.out (by omega)) H3.out).1, (en_bs2 s k h2 (H1.out (by omega)) H3.out).2.symm⟩
          case measure => simp [intOf]; omega
        · go_wp2
          go_round
          case rel => exact ⟨k + 2, k + 1, by omega, by omega, by go_num, by rw [if_pos (by omega)]; go_num, fun h => absurd h (by omega), (en_last s k hlt (by omega) (H1.out (by omega)) H3.out).symm⟩
          case measure => simp [intOf]; omega
      · have h1' : ((s[k].toNat : Int) == 92) = false := by simp; omega
        by_cases h2 : s[k].toNat = 32
        · have h2' : ((s[k].toNat : Int) == 32) = true := by rw [h2]; rfl
          have H3 : Hid (s[k].toNat = 32) := h2
          clear h2
          go_wp2
          go_round
          case rel => exact ⟨k + 1, e, by omega, by omega, by go_num, rfl, fun _ => (en_space s k hlt (H1.out (by omega)) H3.out).1, (H2.out.trans (en_space s k hlt (H1.out (by omega)) H3.out).2.symm)⟩
          case measure => simp [intOf]; omega
        · have h2' : ((s[k].toNat : Int) == 32) = false := by simp; omega
          go_wp2
          go_round
          case rel => exact ⟨k + 1, k + 1, by omega, by omega, by go_num, by go_num, fun _ => (en_other s k hlt h1 h2).1, (en_other s k hlt h1 h2).2.symm⟩
          case measure => simp [intOf]; omega
    · go_wp2
      go_ret
      exact ⟨ret_str (tr_end s k e (by omega) H2.out), rfl⟩

theorem tr6 (s : ByteArray) (w : World) (hs : s.size ≤ 2000000) :
    Calls Try.prog 6 #[.string s] w fun e w' => e = .returned (.string (trS s)) ∧ w = w' := by
  go_enter Try.func6, Try.ntmps6
  go_wp2_with (go_at_call 11; refine (tr11 _ _ hs).mono ?_; rintro e w' ⟨rfl, rfl⟩)
  go_ret
  exact ⟨rfl, rfl⟩

end Go.Proofs.Qxb6617956a
