/-
  THE CONTRACT ON zzDecimalGrammar (seat b6619250a).
-/
import Derived.Test.Qxb6619250aDecWalks
namespace Go.Proofs.Qxb6619250a
open Go.RowKit

theorem ext_list (s : ByteArray) (a b : Nat) : (s.extract a b).data.toList = (s.data.toList.drop a).take (b - a) := by
  rw [ByteArray.data_extract, Array.toList_extract]
theorem ext_tail (s : ByteArray) (a : Nat) : (s.extract a s.size).data.toList = s.data.toList.drop a := by
  rw [ext_list]
  exact List.take_of_length_le (by rw [List.length_drop]; exact Nat.le_refl _)
theorem ext_head (s : ByteArray) (b : Nat) : (s.extract 0 b).data.toList = s.data.toList.take b := by
  rw [ext_list, List.drop_zero, Nat.sub_zero]

def Cut (t : ByteArray) (k : Nat) : Prop := cut (t.data.toList.take k) (t.data.toList.drop k) = cutB t
theorem cut_start (t : ByteArray) : Cut t 0 := rfl
theorem cut_cons (acc l : List UInt8) (c : UInt8) : cut acc (c :: l) = if c.toNat = 46 then drL acc && drL l else cut (acc ++ [c]) l := by
  rw [cut]
theorem cut_step {t : ByteArray} {k : Nat} (H : Cut t k) (h : k < t.size) (hc : ¬ t[k].toNat = 46) : Cut t (k + 1) := by
  unfold Cut at *
  rw [drop_cons t k h, cut_cons, if_neg hc, ← take_snoc t k h] at H
  exact H
theorem cut_hit {t : ByteArray} {k : Nat} (H : Cut t k) (h : k < t.size) (hc : t[k].toNat = 46) : cutB t = (drB (t.extract 0 k) && drB (t.extract (k + 1) t.size)) := by
  unfold Cut at H
  rw [drop_cons t k h, cut_cons, if_pos hc] at H
  unfold drB
  rw [ext_head, ext_tail]
  exact H.symm
theorem cut_miss {t : ByteArray} {k : Nat} (H : Cut t k) (h : t.size ≤ k) : cutB t = drB t := by
  unfold Cut at H
  rw [drop_end t k h, take_end t k h] at H
  rw [← H]
  unfold drB
  rw [cut]

theorem gr_plain_none (s : ByteArray) (h : s.size = 0) : grB s = cutB s := by
  unfold grB cutB
  rw [List.eq_nil_of_length_eq_zero (show s.data.toList.length = 0 from h)]; rfl
theorem gr_plain (s : ByteArray) (h : 0 < s.size) (hc : ¬ s[0].toNat = 45) : grB s = cutB s := by
  unfold grB cutB
  have e := drop_cons s 0 h
  rw [List.drop_zero] at e
  rw [e, body_cons, if_neg hc]
theorem gr_minus (s : ByteArray) (h : 0 < s.size) (hc : s[0].toNat = 45) : grB s = cutB (s.extract 1 s.size) := by
  unfold grB cutB
  rw [ext_tail]
  have e := drop_cons s 0 h
  rw [List.drop_zero] at e
  rw [e, body_cons, if_pos hc]
  rfl

set_option maxHeartbeats 1600000 in
theorem gr_none (t : ByteArray) (w : World) (hs : t.size ≤ 2000000) (hz : ¬ 0 < t.size) (G : Hid (grB t = cutB t)) :
    Calls Try.prog 9 #[.string t] w fun e w' => e = .returned (.bool (grB t)) ∧ w = w' := by
  go_enter Try.func9, Try.ntmps9
  go_wp2
  go_loop [4, 5] (fun p i => ∃ k : Nat, k ≤ t.size ∧ p = .int .i64 (-1) ∧ i = .int .i64 k ∧ Hid (Cut t k)) (fun _ i => t.size - (intOf i).toNat)
  case atStart => exact ⟨0, Nat.zero_le _, rfl, rfl, cut_start t⟩
  case round =>
    obtain ⟨k, hk, rfl, rfl, H⟩ := hrel
    by_cases hlt : k < t.size
    · exact absurd hlt (by omega)
    · have X : Hid (cutB t = drB t) := cut_miss H.out (by omega)
      clear H
      go_wp2_with (go_at_call 12; refine (dr12 _ _ (by assumption)).mono ?_; rintro e w' ⟨rfl, rfl⟩)
      go_ret
      exact ⟨retB (by rw [G.out, X.out]), rfl⟩

set_option maxHeartbeats 1600000 in
theorem gr_some (t : ByteArray) (w : World) (hs : t.size ≤ 2000000) (hz : 0 < t.size) (hc : ((t[0].toNat : Int) == 45) = false) (G : Hid (grB t = cutB t)) :
    Calls Try.prog 9 #[.string t] w fun e w' => e = .returned (.bool (grB t)) ∧ w = w' := by
  go_enter Try.func9, Try.ntmps9
  go_wp2
  go_loop [4, 5] (fun p i => ∃ k : Nat, k ≤ t.size ∧ p = .int .i64 (-1) ∧ i = .int .i64 k ∧ Hid (Cut t k)) (fun _ i => t.size - (intOf i).toNat)
  case atStart => exact ⟨0, Nat.zero_le _, rfl, rfl, cut_start t⟩
  case round =>
    obtain ⟨k, hk, rfl, rfl, H⟩ := hrel
    by_cases hlt : k < t.size
    · by_cases h1 : t[k].toNat = 46
      · have h1' : ((t[k].toNat : Int) == 46) = true := by rw [h1]; rfl
        have X : Hid (cutB t = (drB (t.extract 0 k) && drB (t.extract (k + 1) t.size))) := cut_hit H.out hlt h1
        have z1 : (t.extract 0 k).size ≤ 2000000 := by rw [ByteArray.size_extract]; omega
        have z2 : (t.extract (k + 1) t.size).size ≤ 2000000 := by rw [ByteArray.size_extract]; omega
        clear h1 H
        cases hd : drB (t.extract 0 k)
        · go_wp2_with (go_at_call 12; refine (dr12 _ _ (by assumption)).mono ?_; rintro e w' ⟨rfl, rfl⟩)
          go_ret
          exact ⟨retB (by rw [G.out, X.out, hd]; rfl), rfl⟩
        · go_wp2_with (go_at_call 12; refine (dr12 _ _ (by assumption)).mono ?_; rintro e w' ⟨rfl, rfl⟩)
          go_ret
          exact ⟨retB (by rw [G.out, X.out, hd]; rfl), rfl⟩
      · have h1' : ((t[k].toNat : Int) == 46) = false := by simp; omega
        go_wp2
        go_round
        case rel => exact ⟨k + 1, by omega, rfl, by go_num, cut_step H.out hlt h1⟩
        case measure => simp [intOf]; omega
    · have X : Hid (cutB t = drB t) := cut_miss H.out (by omega)
      clear H
      go_wp2_with (go_at_call 12; refine (dr12 _ _ (by assumption)).mono ?_; rintro e w' ⟨rfl, rfl⟩)
      go_ret
      exact ⟨retB (by rw [G.out, X.out]), rfl⟩

set_option maxHeartbeats 1600000 in
theorem gr_sign (s t : ByteArray) (w : World) (hss : s.size ≤ 2000000) (hs : t.size ≤ 2000000) (hz : 0 < s.size) (hc : ((s[0].toNat : Int) == 45) = true) (T : Hid (s.extract 1 s.size = t)) (G : Hid (grB s = cutB t)) :
    Calls Try.prog 9 #[.string s] w fun e w' => e = .returned (.bool (grB s)) ∧ w = w' := by
  have q : ∀ wx : World, (Instr.slice 9 (.string s) (some (.int .i64 1)) none none).run Try.prog wx = .ok (.string t) wx := by
    intro wx
    rw [run_slice_string_from_if wx 9 s .i64 1 Try.underlying9, if_pos (by omega), ← T.out]
    rfl
  go_enter Try.func9, Try.ntmps9
  go_wp2
  clear q
  go_loop [4, 5] (fun p i => ∃ k : Nat, k ≤ t.size ∧ p = .int .i64 (-1) ∧ i = .int .i64 k ∧ Hid (Cut t k)) (fun _ i => t.size - (intOf i).toNat)
  case atStart => exact ⟨0, Nat.zero_le _, rfl, rfl, cut_start t⟩
  case round =>
    obtain ⟨k, hk, rfl, rfl, H⟩ := hrel
    by_cases hlt : k < t.size
    · by_cases h1 : t[k].toNat = 46
      · have h1' : ((t[k].toNat : Int) == 46) = true := by rw [h1]; rfl
        have X : Hid (cutB t = (drB (t.extract 0 k) && drB (t.extract (k + 1) t.size))) := cut_hit H.out hlt h1
        have z1 : (t.extract 0 k).size ≤ 2000000 := by rw [ByteArray.size_extract]; omega
        have z2 : (t.extract (k + 1) t.size).size ≤ 2000000 := by rw [ByteArray.size_extract]; omega
        clear h1 H
        cases hd : drB (t.extract 0 k)
        · go_wp2_with (go_at_call 12; refine (dr12 _ _ (by assumption)).mono ?_; rintro e w' ⟨rfl, rfl⟩)
          go_ret
          exact ⟨retB (by rw [G.out, X.out, hd]; rfl), rfl⟩
        · go_wp2_with (go_at_call 12; refine (dr12 _ _ (by assumption)).mono ?_; rintro e w' ⟨rfl, rfl⟩)
          go_ret
          exact ⟨retB (by rw [G.out, X.out, hd]; rfl), rfl⟩
      · have h1' : ((t[k].toNat : Int) == 46) = false := by simp; omega
        go_wp2
        go_round
        case rel => exact ⟨k + 1, by omega, rfl, by go_num, cut_step H.out hlt h1⟩
        case measure => simp [intOf]; omega
    · have X : Hid (cutB t = drB t) := cut_miss H.out (by omega)
      clear H
      go_wp2_with (go_at_call 12; refine (dr12 _ _ (by assumption)).mono ?_; rintro e w' ⟨rfl, rfl⟩)
      go_ret
      exact ⟨retB (by rw [G.out, X.out]), rfl⟩

theorem gr9 (s : ByteArray) (w : World) (hs : s.size ≤ 2000000) :
    Calls Try.prog 9 #[.string s] w fun e w' => e = .returned (.bool (grB s)) ∧ w = w' := by
  by_cases hz : 0 < s.size
  · by_cases hc : s[0].toNat = 45
    · exact gr_sign s (s.extract 1 s.size) w hs (by rw [ByteArray.size_extract]; omega) hz (by rw [hc]; rfl) rfl (gr_minus s hz hc)
    · exact gr_some s w hs hz (by rw [beq_eq_false_iff_ne]; omega) (gr_plain s hz hc)
  · exact gr_none s w hs hz (gr_plain_none s (by omega))

end Go.Proofs.Qxb6619250a
