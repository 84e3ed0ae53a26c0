/-
  THE SHARED CONTRACTS ON DECIMALS (seat b6619250a): zzDigitRun, zzHasPoint, isDecimal and its wrapper.
-/
import Derived.Test.Qxb6619250aRows
import Derived.Test.Qxb6619250aDec
import Derived.WalkKit
namespace Go.Proofs.Qxb6619250a
open Go.RowKit

theorem retB {a b : Bool} (h : b = a) : Ending.returned (.bool a) = .returned (.bool b) := by rw [h]

theorem drop_cons (s : ByteArray) (k : Nat) (h : k < s.size) : s.data.toList.drop k = s[k] :: s.data.toList.drop (k + 1) :=
  List.drop_eq_getElem_cons (show k < s.data.toList.length from h)
theorem drop_end (s : ByteArray) (k : Nat) (h : s.size ≤ k) : s.data.toList.drop k = [] :=
  List.drop_eq_nil_of_le (show s.data.toList.length ≤ k from h)
theorem take_snoc (s : ByteArray) (k : Nat) (h : k < s.size) : s.data.toList.take (k + 1) = s.data.toList.take k ++ [s[k]] := by
  rw [List.take_succ_eq_append_getElem (by simpa using h)]; rfl
theorem take_end (s : ByteArray) (k : Nat) (h : s.size ≤ k) : s.data.toList.take k = s.data.toList :=
  List.take_of_length_le (show s.data.toList.length ≤ k from h)
theorem mem_at (s : ByteArray) (k : Nat) (h : k < s.size) : s[k] ∈ s.data.toList :=
  List.getElem_mem (l := s.data.toList) (n := k) (show k < s.data.toList.length from h)

theorem dig_yes {c : UInt8} (h1 : 48 ≤ (c.toNat : Int)) (h2 : (c.toNat : Int) ≤ 57) : dig c = true := by unfold dig; exact decide_eq_true ⟨h1, h2⟩
theorem dig_low {c : UInt8} (h1 : (c.toNat : Int) < 48) : dig c = false := by unfold dig; exact decide_eq_false (by omega)
theorem dig_high {c : UInt8} (h1 : (57 : Int) < (c.toNat : Int)) : dig c = false := by unfold dig; exact decide_eq_false (by omega)

/-! ### zzDigitRun -/
theorem dr_bad (s : ByteArray) (k : Nat) (h : k < s.size) (hc : dig s[k] = false) : drB s = false := by
  unfold drB
  refine drL_bad ?_
  cases e : s.data.toList.all dig with
  | false => rfl
  | true =>
    have := List.all_eq_true.1 e s[k] (mem_at s k h)
    rw [hc] at this; exact this.symm
theorem dr_step (s : ByteArray) (k : Nat) (h : k < s.size) (hp : (s.data.toList.take k).all dig = true) (hc : dig s[k] = true) : (s.data.toList.take (k + 1)).all dig = true := by
  rw [take_snoc s k h, List.all_append, hp]; simp [hc]
theorem dr_all (s : ByteArray) (k : Nat) (h0 : 0 < s.size) (h : s.size ≤ k) (hp : (s.data.toList.take k).all dig = true) : drB s = true := by
  rw [take_end s k h] at hp
  unfold drB
  rw [drL_len hp]
  exact decide_eq_true h0
theorem dr_none (s : ByteArray) (h : s.size = 0) : drB s = false := by
  unfold drB
  rw [List.eq_nil_of_length_eq_zero (show s.data.toList.length = 0 from h)]; rfl

set_option maxHeartbeats 400000 in
theorem dr12 (s : ByteArray) (w : World) (hs : s.size ≤ 2000000) :
    Calls Try.prog 12 #[.string s] w fun e w' => e = .returned (.bool (drB s)) ∧ w = w' := by
  by_cases hz : s.size = 0
  · go_enter Try.func12, Try.ntmps12
    go_wp2
    go_ret
    exact ⟨retB (dr_none s hz), rfl⟩
  · have h0 : 0 < s.size := by omega
    have hz' : ((s.size : Int) == 0) = false := by rw [beq_eq_false_iff_ne]; omega
    clear hz
    go_enter Try.func12, Try.ntmps12
    go_wp2
    go_loop [3] (fun i => ∃ k : Nat, k ≤ s.size ∧ i = .int .i64 k ∧ Hid ((s.data.toList.take k).all dig = true)) (fun i => s.size - (intOf i).toNat)
    case atStart => exact ⟨0, Nat.zero_le _, rfl, by simp [Hid]⟩
    case round =>
      obtain ⟨k, hk, rfl, hp⟩ := hrel
      by_cases hlt : k < s.size
      · by_cases h1 : (s[k].toNat : Int) < 48
        · go_wp2
          go_ret
          exact ⟨retB (dr_bad s k hlt (dig_low h1)), rfl⟩
        · by_cases h2 : (57 : Int) < (s[k].toNat : Int)
          · go_wp2
            go_ret
            exact ⟨retB (dr_bad s k hlt (dig_high h2)), rfl⟩
          · go_wp2
            go_round
            case rel => exact ⟨k + 1, by omega, by go_num, dr_step s k hlt hp.out (dig_yes (by omega) (by omega))⟩
            case measure => simp [intOf]; omega
      · go_wp2
        go_ret
        exact ⟨retB (dr_all s k h0 (by omega) hp.out), rfl⟩

/-! ### zzHasPoint -/
theorem hp_yes (s : ByteArray) (k : Nat) (h : k < s.size) (hc : s[k].toNat = 46) : hpB s = true := by
  unfold hpB hpL
  exact List.any_eq_true.2 ⟨s[k], mem_at s k h, decide_eq_true hc⟩
theorem hp_step (s : ByteArray) (k : Nat) (h : k < s.size) (hp : hpL (s.data.toList.take k) = false) (hc : ¬ s[k].toNat = 46) : hpL (s.data.toList.take (k + 1)) = false := by
  unfold hpL at *
  rw [take_snoc s k h, List.any_append, hp]; simp [hc]
theorem hp_all (s : ByteArray) (k : Nat) (h : s.size ≤ k) (hp : hpL (s.data.toList.take k) = false) : hpB s = false := by
  rw [take_end s k h] at hp; exact hp

set_option maxHeartbeats 400000 in
theorem hp11 (s : ByteArray) (w : World) (hs : s.size ≤ 2000000) :
    Calls Try.prog 11 #[.string s] w fun e w' => e = .returned (.bool (hpB s)) ∧ w = w' := by
  go_enter Try.func11, Try.ntmps11
  go_wp2
  go_loop [3] (fun i => ∃ k : Nat, k ≤ s.size ∧ i = .int .i64 k ∧ Hid (hpL (s.data.toList.take k) = false)) (fun i => s.size - (intOf i).toNat)
  case atStart => exact ⟨0, Nat.zero_le _, rfl, by simp [Hid, hpL]⟩
  case round =>
    obtain ⟨k, hk, rfl, hp⟩ := hrel
    by_cases hlt : k < s.size
    · by_cases h1 : s[k].toNat = 46
      · have h1' : ((s[k].toNat : Int) == 46) = true := by rw [h1]; rfl
        have H1 : Hid (s[k].toNat = 46) := h1
        clear h1
        go_wp2
        go_ret
        exact ⟨retB (hp_yes s k hlt H1.out), rfl⟩
      · have h1' : ((s[k].toNat : Int) == 46) = false := by simp; omega
        go_wp2
        go_round
        case rel => exact ⟨k + 1, by omega, by go_num, hp_step s k hlt hp.out h1⟩
        case measure => simp [intOf]; omega
    · go_wp2
      go_ret
      exact ⟨retB (hp_all s k (by omega) hp.out), rfl⟩

/-! ### isDecimal: what is left gives what the whole gives -/
def Left (s : ByteArray) (k d : Nat) (saw : Bool) (f : Nat) : Prop := run (s.data.toList.drop k) (decide (k = 0)) d saw f = isDec s

theorem left_start (s : ByteArray) : Left s 0 0 false 0 := rfl
theorem left_dig {s : ByteArray} {k d f : Nat} {saw : Bool} (H : Left s k d saw f) (h : k < s.size) (hc : dig s[k] = true) : Left s (k + 1) (d + 1) saw (if saw = true then f + 1 else f) := by
  unfold Left at *
  rw [drop_cons s k h, run_cons, if_pos hc] at H
  rw [← H]; rfl
theorem left_minus {s : ByteArray} {k d f : Nat} {saw : Bool} (H : Left s k d saw f) (h : k < s.size) (hc : s[k].toNat = 45) (hk : k = 0) : Left s (k + 1) d saw f := by
  unfold Left at *
  rw [drop_cons s k h, run_cons, if_neg (by rw [dig_45 hc]; simp), if_pos ⟨hc, decide_eq_true hk⟩] at H
  rw [← H]; rfl
theorem left_point {s : ByteArray} {k d f : Nat} (H : Left s k d false f) (h : k < s.size) (hc : s[k].toNat = 46) (hd : 0 < d) : Left s (k + 1) d true f := by
  unfold Left at *
  rw [drop_cons s k h, run_cons, if_neg (by rw [dig_46 hc]; simp), if_neg (by omega), if_pos ⟨hc, rfl, hd⟩] at H
  rw [← H]; rfl
theorem left_bad {s : ByteArray} {k d f : Nat} {saw : Bool} (H : Left s k d saw f) (h : k < s.size) (hc : dig s[k] = false) (h1 : ¬ (s[k].toNat = 45 ∧ k = 0)) (h2 : ¬ (s[k].toNat = 46 ∧ saw = false ∧ 0 < d)) : isDec s = false := by
  unfold Left at H
  rw [drop_cons s k h, run_cons, if_neg (by rw [hc]; simp), if_neg (by rw [decide_eq_true_iff]; exact h1), if_neg h2] at H
  exact H.symm
theorem left_end {s : ByteArray} {k d f : Nat} {saw : Bool} (H : Left s k d saw f) (h : s.size ≤ k) : isDec s = (decide (0 < d) && (!saw || decide (0 < f))) := by
  unfold Left at H
  rw [drop_end s k h] at H
  exact H.symm

set_option maxHeartbeats 1600000 in
theorem dec15 (s : ByteArray) (w : World) (hs : s.size ≤ 2000000) :
    Calls Try.prog 15 #[.string s] w fun e w' => e = .returned (.bool (isDec s)) ∧ w = w' := by
  go_enter Try.func15, Try.ntmps15
  go_wp2
  go_loop [3, 4, 5, 6] (fun n b m i => ∃ (k d f : Nat) (saw : Bool), k ≤ s.size ∧ d ≤ k ∧ f ≤ k ∧ n = .int .i64 d ∧ b = .bool saw ∧ m = .int .i64 f ∧ i = .int .i64 k ∧ Hid (Left s k d saw f)) (fun _ _ _ i => s.size - (intOf i).toNat)
  case atStart => exact ⟨0, 0, 0, false, by omega, by omega, by omega, rfl, rfl, rfl, rfl, left_start s⟩
  case round =>
    obtain ⟨k, d, f, saw, hk, hdk, hfk, rfl, rfl, rfl, rfl, H⟩ := hrel
    by_cases hlt : k < s.size
    · by_cases hlo : (s[k].toNat : Int) < 48
      · by_cases h45 : s[k].toNat = 45
        · have t45 : ((s[k].toNat : Int) == 45) = true := by rw [h45]; rfl
          have t46 : ((s[k].toNat : Int) == 46) = false := by rw [h45]; rfl
          have X : Hid (s[k].toNat = 45) := h45
          clear h45
          by_cases hk0 : k = 0
          · have tk : ((k : Int) == 0) = true := by rw [hk0]; rfl
            have Y : Hid (k = 0) := hk0
            clear hk0
            go_wp2
            go_round
            case rel => exact ⟨k + 1, d, f, saw, by omega, by omega, by omega, rfl, rfl, rfl, by go_num, left_minus H.out hlt X.out Y.out⟩
            case measure => simp [intOf]; omega
          · have tk : ((k : Int) == 0) = false := by simp; omega
            go_wp2
            go_ret
            exact ⟨retB (left_bad H.out hlt (dig_low hlo) (fun c => hk0 c.2) (fun c => by have := X.out; omega)), rfl⟩
        · have t45 : ((s[k].toNat : Int) == 45) = false := by simp; omega
          by_cases h46 : s[k].toNat = 46
          · have t46 : ((s[k].toNat : Int) == 46) = true := by rw [h46]; rfl
            have X : Hid (s[k].toNat = 46) := h46
            clear h46
            cases saw
            · by_cases hd0 : 0 < d
              · go_wp2
                go_round
                case rel => exact ⟨k + 1, d, f, true, by omega, by omega, by omega, rfl, rfl, rfl, by go_num, left_point H.out hlt X.out hd0⟩
                case measure => simp [intOf]; omega
              · go_wp2
                go_ret
                exact ⟨retB (left_bad H.out hlt (dig_low hlo) (fun c => h45 c.1) (fun c => by omega)), rfl⟩
            · go_wp2
              go_ret
              exact ⟨retB (left_bad H.out hlt (dig_low hlo) (fun c => h45 c.1) (fun c => by simp at c)), rfl⟩
          · have t46 : ((s[k].toNat : Int) == 46) = false := by simp; omega
            go_wp2
            go_ret
            exact ⟨retB (left_bad H.out hlt (dig_low hlo) (fun c => h45 c.1) (fun c => h46 c.1)), rfl⟩
      · by_cases hhi : (57 : Int) < (s[k].toNat : Int)
        · have t45 : ((s[k].toNat : Int) == 45) = false := by simp; omega
          have t46 : ((s[k].toNat : Int) == 46) = false := by simp; omega
          go_wp2
          go_ret
          exact ⟨retB (left_bad H.out hlt (dig_high hhi) (fun c => by omega) (fun c => by omega)), rfl⟩
        · cases saw
          · go_wp2
            go_round
            case rel => exact ⟨k + 1, d + 1, f, false, by omega, by omega, by omega, by go_num, rfl, rfl, by go_num, left_dig H.out hlt (dig_yes (by omega) (by omega))⟩
            case measure => simp [intOf]; omega
          · go_wp2
            go_round
            case rel => exact ⟨k + 1, d + 1, f + 1, true, by omega, by omega, by omega, by go_num, rfl, by go_num, by go_num, left_dig H.out hlt (dig_yes (by omega) (by omega))⟩
            case measure => simp [intOf]; omega
    · have E := left_end H.out (by omega)
      have E' : Hid (isDec s = (decide (0 < d) && (!saw || decide (0 < f)))) := E
      clear E
      by_cases hd0 : 0 < d
      · cases saw
        · go_wp2
          go_ret
          exact ⟨retB (by rw [E'.out]; simp [hd0]), rfl⟩
        · by_cases hf0 : 0 < f
          · go_wp2
            go_ret
            exact ⟨retB (by rw [E'.out]; simp [hd0, hf0]), rfl⟩
          · go_wp2
            go_ret
            exact ⟨retB (by rw [E'.out]; simp; omega), rfl⟩
      · go_wp2
        go_ret
        exact ⟨retB (by rw [E'.out]; simp; omega), rfl⟩

theorem dec8 (s : ByteArray) (w : World) (hs : s.size ≤ 2000000) :
    Calls Try.prog 8 #[.string s] w fun e w' => e = .returned (.bool (isDec s)) ∧ w = w' := by
  go_enter Try.func8, Try.ntmps8
  go_wp2_with (go_at_call 15; refine (dec15 _ _ hs).mono ?_; rintro e w' ⟨rfl, rfl⟩)
  go_ret
  exact ⟨rfl, rfl⟩

end Go.Proofs.Qxb6619250a
