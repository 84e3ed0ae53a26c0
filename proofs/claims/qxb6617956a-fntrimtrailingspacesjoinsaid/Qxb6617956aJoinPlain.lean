/-
  PLAIN LAWS FOR FnTrimTrailingSpacesJoin: no Go in sight. Lists are texts read from their end.
-/
import Derived.Test.Qxb6617956aPlain
namespace Go.Proofs.Qxb6617956a

theorem spL_cons (c : UInt8) (r : List UInt8) : spL (c :: r) = (decide (c.toNat = 32) && spL r) := by simp [spL]
theorem sp_esc : ∀ r : List UInt8, spL r = true → escR r = false
  | [], _ => rfl
  | c :: r, h => by
    rw [spL_cons, Bool.and_eq_true] at h
    have hc : c.toNat = 32 := of_decide_eq_true h.1
    simp [escR, hc]
theorem en_zero_of_sp : ∀ r : List UInt8, spL r = true → enR r = 0
  | [], _ => rfl
  | c :: r, h => by
    rw [spL_cons, Bool.and_eq_true] at h
    have hc : c.toNat = 32 := of_decide_eq_true h.1
    unfold enR
    rw [if_pos ⟨sp_esc r h.2, hc⟩]
    exact en_zero_of_sp r h.2
theorem sp_of_en_zero : ∀ r : List UInt8, enR r = 0 → spL r = true
  | [], _ => rfl
  | c :: r, h => by
    unfold enR at h
    split at h
    · rename_i k
      rw [spL_cons, sp_of_en_zero r h, decide_eq_true k.2]; rfl
    · omega
theorem esc_app (y : List UInt8) (hy : escR y = false) : ∀ x : List UInt8, escR (x ++ y) = escR x
  | [] => hy
  | c :: x => by
    show (!escR (x ++ y) && decide (c.toNat = 92)) = (!escR x && decide (c.toNat = 92))
    rw [esc_app y hy x]
theorem en_app_sp (y : List UInt8) (hy : escR y = false) : ∀ x : List UInt8, spL x = true → enR (x ++ y) = enR y
  | [], _ => rfl
  | c :: x, h => by
    rw [spL_cons, Bool.and_eq_true] at h
    have hc : c.toNat = 32 := of_decide_eq_true h.1
    show (if escR (x ++ y) = false ∧ c.toNat = 32 then enR (x ++ y) else (x ++ y).length + 1) = _
    rw [esc_app y hy x, if_pos ⟨sp_esc x h.2, hc⟩]
    exact en_app_sp y hy x h.2
theorem en_app (y : List UInt8) (hy : escR y = false) : ∀ x : List UInt8, spL x = false → enR (x ++ y) = y.length + enR x
  | [], h => by simp [spL] at h
  | c :: x, h => by
    show (if escR (x ++ y) = false ∧ c.toNat = 32 then enR (x ++ y) else (x ++ y).length + 1) = y.length + (if escR x = false ∧ c.toNat = 32 then enR x else x.length + 1)
    rw [esc_app y hy x]
    split
    · rename_i k
      rw [spL_cons, decide_eq_true k.2, Bool.true_and] at h
      exact en_app y hy x h
    · rw [List.length_append]; omega

/-! ### Of strings -/
theorem rv_full (s : ByteArray) : rv s s.size = s.data.toList.reverse := by
  unfold rv
  rw [List.take_of_length_le (show s.data.toList.length ≤ s.size from Nat.le_refl _)]
theorem rv_app (a b : ByteArray) : rv (a ++ b) (a ++ b).size = rv b b.size ++ rv a a.size := by
  rw [rv_full, rv_full, rv_full, ByteArray.data_append, Array.toList_append, List.reverse_append]
theorem spB_rv (s : ByteArray) : spL (rv s s.size) = spB s := by
  rw [rv_full]; unfold spB spL; rw [List.all_reverse]
theorem rv_length (s : ByteArray) : (rv s s.size).length = s.size := rv_len s s.size (Nat.le_refl _)

theorem ext_app_left (a b : ByteArray) (n : Nat) (h : n ≤ a.size) : (a ++ b).extract 0 n = a.extract 0 n := by
  apply ByteArray.ext
  apply Array.toList_inj.1
  have hl : a.data.toList.length = a.size := rfl
  rw [ext_list, ext_list, ByteArray.data_append, Array.toList_append, List.drop_zero, List.drop_zero, List.take_append_of_le_length (by omega)]
theorem ext_app_right (a b : ByteArray) (n : Nat) : (a ++ b).extract 0 (a.size + n) = a ++ b.extract 0 n := by
  apply ByteArray.ext
  apply Array.toList_inj.1
  have hl : a.data.toList.length = a.size := rfl
  rw [ByteArray.data_append, Array.toList_append, ext_list, ext_list, ByteArray.data_append, Array.toList_append, List.drop_zero, List.drop_zero]
  have e : a.size + n - 0 = a.data.toList.length + n := by omega
  rw [e, List.take_length_add_append, Nat.sub_zero]

/-- b all spaces, put behind a text whose last backslash escapes nothing: what was trimmed before is trimmed now. -/
theorem tr_sp (a b : ByteArray) (ha : oddB a = false) (hb : spB b = true) : trS (a ++ b) = trS a := by
  have e : enS (a ++ b) = enS a := by
    unfold enS; rw [rv_app, en_app_sp _ ha _ (by rw [spB_rv]; exact hb)]
  unfold trS
  rw [e, ext_app_left _ _ _ (enS_le a)]
/-- b not all spaces. -/
theorem tr_not (a b : ByteArray) (ha : oddB a = false) (hb : spB b = false) : trS (a ++ b) = a ++ trS b := by
  have e : enS (a ++ b) = a.size + enS b := by
    unfold enS; rw [rv_app, en_app _ ha _ (by rw [spB_rv]; exact hb), rv_length]
  unfold trS
  rw [e, ext_app_right]
theorem tr_empty (a b : ByteArray) (hb : b.size = 0) : trS (a ++ b) = trS a := by
  have : b = ByteArray.empty := by
    apply ByteArray.ext
    exact Array.eq_empty_of_size_eq_zero hb
  rw [this, ByteArray.append_empty]
theorem sp_empty (b : ByteArray) (hb : b.size = 0) : spB b = true := by
  unfold spB
  rw [List.eq_nil_of_length_eq_zero (show b.data.toList.length = 0 from hb)]; rfl

/-- One byte behind a text that ends in an escaping backslash: it is kept, and escapes nothing. -/
theorem tr_one (a c : ByteArray) (ha : oddB a = true) (hc : c.size = 1) : trS (a ++ c) = a ++ c ∧ oddB (a ++ c) = false := by
  obtain ⟨x, hx⟩ : ∃ x, rv c c.size = [x] := List.length_eq_one_iff.1 (by rw [rv_length]; exact hc)
  have hr : rv (a ++ c) (a ++ c).size = x :: rv a a.size := by rw [rv_app, hx]; rfl
  have ha' : escR (rv a a.size) = true := ha
  have e : enS (a ++ c) = (a ++ c).size := by
    unfold enS; rw [hr]
    unfold enR
    rw [if_neg (by rw [ha']; simp), rv_length, ByteArray.size_append, hc]
  refine ⟨?_, ?_⟩
  · unfold trS; rw [e, ByteArray.extract_zero_size]
  · unfold oddB; rw [hr]; simp [escR, ha']

theorem split_one (b : ByteArray) (h : 0 < b.size) : b = b.extract 0 1 ++ b.extract 1 b.size := by
  rw [ByteArray.extract_append_extract]
  have e1 : min 0 1 = 0 := rfl
  have e2 : max 1 b.size = b.size := by omega
  rw [e1, e2]; simp

theorem join_odd_sp (a b : ByteArray) (ha : oddB a = true) (hb : 0 < b.size) (h2 : spB (b.extract 1 b.size) = true) : trS (a ++ b) = a ++ b.extract 0 1 := by
  have hc : (b.extract 0 1).size = 1 := by rw [ByteArray.size_extract]; omega
  have g := tr_one a (b.extract 0 1) ha hc
  have e : a ++ b = (a ++ b.extract 0 1) ++ b.extract 1 b.size := by rw [ByteArray.append_assoc, ← split_one b hb]
  rw [e, tr_sp _ _ g.2 h2, g.1]
theorem join_odd_not (a b : ByteArray) (ha : oddB a = true) (hb : 0 < b.size) (h2 : spB (b.extract 1 b.size) = false) : trS (a ++ b) = a ++ b.extract 0 1 ++ trS (b.extract 1 b.size) := by
  have hc : (b.extract 0 1).size = 1 := by rw [ByteArray.size_extract]; omega
  have g := tr_one a (b.extract 0 1) ha hc
  have e : a ++ b = (a ++ b.extract 0 1) ++ b.extract 1 b.size := by rw [ByteArray.append_assoc, ← split_one b hb]
  have e2 := tr_not (a ++ b.extract 0 1) (b.extract 1 b.size) g.2 h2
  rw [← e] at e2
  exact e2

theorem sp_one : spB ⟨#[32]⟩ = true := by decide
theorem space_odd (s : ByteArray) (h : oddB s = true) : trS (s ++ ⟨#[32]⟩) = s ++ ⟨#[32]⟩ := (tr_one s ⟨#[32]⟩ h rfl).1
theorem space_even (s : ByteArray) (h : oddB s = false) : trS (s ++ ⟨#[32]⟩) = trS s := tr_sp s ⟨#[32]⟩ h sp_one
theorem trS_le (s : ByteArray) : (trS s).size ≤ s.size := by rw [trS_size]; exact enS_le s

end Go.Proofs.Qxb6617956a
