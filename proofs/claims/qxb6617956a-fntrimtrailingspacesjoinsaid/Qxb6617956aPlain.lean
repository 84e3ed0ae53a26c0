/-
  PLAIN LAWS OF THE SEAT b6617956a: no Go in sight. A line is read from its end: 'rv s k': the first k bytes of s, the last one first.
-/
import Derived.WalkKit
namespace Go.Proofs.Qxb6617956a
open Go.RowKit

/-- Does the text end in a backslash that escapes what comes next? -/
def escR : List UInt8 → Bool
  | [] => false
  | c :: r => !escR r && decide (c.toNat = 92)

/-- Where the trimmed text ends. -/
def enR : List UInt8 → Nat
  | [] => 0
  | c :: r => if escR r = false ∧ c.toNat = 32 then enR r else r.length + 1

/-- How many backslashes stand at the end. -/
def bsR : List UInt8 → Nat
  | [] => 0
  | c :: r => if c.toNat = 92 then bsR r + 1 else 0

def rv (s : ByteArray) (k : Nat) : List UInt8 := (s.data.toList.take k).reverse
def enS (s : ByteArray) : Nat := enR (rv s s.size)
def trS (s : ByteArray) : ByteArray := s.extract 0 (enS s)
def bsI (s : ByteArray) (k : Nat) : Int := bsR (rv s k)
def oddB (s : ByteArray) : Bool := escR (rv s s.size)
def spL (l : List UInt8) : Bool := l.all fun c => decide (c.toNat = 32)
def spB (s : ByteArray) : Bool := spL s.data.toList

theorem rv_zero (s : ByteArray) : rv s 0 = [] := rfl
theorem rv_succ (s : ByteArray) (k : Nat) (h : k < s.size) : rv s (k + 1) = s[k] :: rv s k := by
  unfold rv
  rw [List.take_succ_eq_append_getElem (by simpa using h), List.reverse_append]; rfl
theorem rv_len (s : ByteArray) (k : Nat) (h : k ≤ s.size) : (rv s k).length = k := by
  unfold rv; rw [List.length_reverse, List.length_take]
  have : s.data.toList.length = s.size := rfl
  omega
theorem rv_over (s : ByteArray) (k : Nat) (h : s.size ≤ k) : rv s k = rv s s.size := by
  unfold rv
  have e : s.data.toList.length = s.size := rfl
  rw [List.take_of_length_le (by omega), List.take_of_length_le (by omega)]

theorem enR_le : ∀ r : List UInt8, enR r ≤ r.length
  | [] => Nat.le_refl _
  | c :: r => by
    unfold enR
    have := enR_le r
    split <;> simp <;> omega
theorem enS_le (s : ByteArray) : enS s ≤ s.size := by
  have := enR_le (rv s s.size); rw [rv_len s s.size (Nat.le_refl _)] at this; exact this

theorem esc_bs : ∀ r : List UInt8, escR r = decide (bsR r % 2 = 1)
  | [] => rfl
  | c :: r => by
    have ih := esc_bs r
    unfold escR bsR
    rw [ih]
    by_cases h : c.toNat = 92
    · simp only [h, if_true, decide_true, Bool.and_true]
      rw [← decide_not]
      exact decide_eq_decide.2 (by omega)
    · simp [h]

theorem bsI_nonneg (s : ByteArray) (k : Nat) : 0 ≤ bsI s k := by unfold bsI; omega
theorem bsR_le : ∀ r : List UInt8, bsR r ≤ r.length
  | [] => Nat.le_refl _
  | c :: r => by
    have := bsR_le r
    unfold bsR; split <;> simp; omega

/-! ### The loop of trimTrailingSpaces, round by round -/
theorem en_bs2 (s : ByteArray) (k : Nat) (h : k + 1 < s.size) (he : escR (rv s k) = false) (hc : (s[k]'(by omega)).toNat = 92) :
    escR (rv s (k + 2)) = false ∧ enR (rv s (k + 2)) = k + 2 := by
  have e1 : escR (rv s (k + 1)) = true := by rw [rv_succ s k (by omega)]; simp [escR, he, hc]
  rw [rv_succ s (k + 1) h]
  refine ⟨by simp [escR, e1], ?_⟩
  have hl := rv_len s (k + 1) (by omega)
  simp [enR, e1, hl]
theorem en_bs1 (s : ByteArray) (k : Nat) (h : k < s.size) (he : escR (rv s k) = false) (hc : s[k].toNat = 92) :
    escR (rv s (k + 1)) = true ∧ enR (rv s (k + 1)) = k + 1 := by
  have hl := rv_len s k (by omega)
  rw [rv_succ s k h]
  exact ⟨by simp [escR, he, hc], by simp [enR, hc, hl]⟩
theorem en_other (s : ByteArray) (k : Nat) (h : k < s.size) (h1 : s[k].toNat ≠ 92) (h2 : s[k].toNat ≠ 32) :
    escR (rv s (k + 1)) = false ∧ enR (rv s (k + 1)) = k + 1 := by
  have hl := rv_len s k (by omega)
  rw [rv_succ s k h]
  exact ⟨by simp [escR, h1], by simp [enR, h2, hl]⟩
theorem en_space (s : ByteArray) (k : Nat) (h : k < s.size) (he : escR (rv s k) = false) (hc : s[k].toNat = 32) :
    escR (rv s (k + 1)) = false ∧ enR (rv s (k + 1)) = enR (rv s k) := by
  rw [rv_succ s k h]
  exact ⟨by simp [escR, hc], by simp [enR, he, hc]⟩

/-! ### What the end is -/
theorem en_succ (s : ByteArray) (k : Nat) (h : k < s.size) : enR (rv s (k + 1)) = if escR (rv s k) = false ∧ s[k].toNat = 32 then enR (rv s k) else k + 1 := by
  rw [rv_succ s k h]
  show (if escR (rv s k) = false ∧ s[k].toNat = 32 then enR (rv s k) else (rv s k).length + 1) = _
  rw [rv_len s k (by omega)]
theorem en_le (s : ByteArray) (k : Nat) (h : k ≤ s.size) : enR (rv s k) ≤ k := by
  have := enR_le (rv s k); rwa [rv_len s k h] at this

theorem en_spaces (s : ByteArray) : ∀ k, k ≤ s.size → ∀ j (hj : j < s.size), enR (rv s k) ≤ j → j < k → s[j].toNat = 32
  | 0, _, j, _, _, h => by omega
  | k + 1, hk, j, hj, h1, h2 => by
    rw [en_succ s k (by omega)] at h1
    split at h1
    · rename_i c
      by_cases e : j = k
      · subst e; exact c.2
      · exact en_spaces s k (by omega) j hj h1 (by omega)
    · omega
theorem en_last_char (s : ByteArray) : ∀ k, k ≤ s.size → ∀ m (hm : m < s.size), enR (rv s k) = m + 1 → ¬ (escR (rv s m) = false ∧ s[m].toNat = 32)
  | 0, _, m, _, h => by simp [rv_zero, enR] at h
  | k + 1, hk, m, hm, h => by
    rw [en_succ s k (by omega)] at h
    split at h
    · exact en_last_char s k (by omega) m hm h
    · rename_i c
      obtain rfl : k = m := by omega
      exact c
theorem en_esc (s : ByteArray) : ∀ k, k ≤ s.size → enR (rv s k) < k → escR (rv s (enR (rv s k))) = false
  | 0, _, h => by omega
  | k + 1, hk, h => by
    have e := en_succ s k (by omega)
    rw [e] at h ⊢
    split at h
    · rename_i c
      rw [if_pos c]
      by_cases e2 : enR (rv s k) = k
      · rw [e2]; exact c.1
      · exact en_esc s k (by omega) (by have := en_le s k (by omega); omega)
    · omega

/-! ### The head of the line -/
theorem ext_list (s : ByteArray) (a b : Nat) : (s.extract a b).data.toList = (s.data.toList.drop a).take (b - a) := by
  rw [ByteArray.data_extract, Array.toList_extract]
theorem trS_size (s : ByteArray) : (trS s).size = enS s := by
  unfold trS; rw [ByteArray.size_extract]; have := enS_le s; omega
theorem rv_ext (s : ByteArray) (n k : Nat) (h : k ≤ n) : rv (s.extract 0 n) k = rv s k := by
  unfold rv
  rw [ext_list, List.drop_zero, List.take_take]
  congr 2; omega
theorem get_ext (s : ByteArray) (n m : Nat) (h : m < (s.extract 0 n).size) (h' : m < s.size) : (s.extract 0 n)[m] = s[m] := by
  have hn : m < n := by rw [ByteArray.size_extract] at h; omega
  have e1 := rv_succ (s.extract 0 n) m h
  have e2 := rv_succ s m h'
  rw [rv_ext s n (m + 1) (by omega), e2] at e1
  exact (List.cons.inj e1).1.symm

/-! ### The first law -/
theorem cut_eq (s : ByteArray) : ((s.extract 0 (trS s).size).toList == (trS s).toList) = true := by
  rw [trS_size]; unfold trS; simp
theorem cut_spaces (s : ByteArray) : spB (s.extract (enS s) s.size) = true := by
  unfold spB spL
  rw [List.all_eq_true]
  intro c hc
  rw [ext_list] at hc
  obtain ⟨i, hi, rfl⟩ := List.mem_iff_getElem.1 hc
  have hsz : s.data.toList.length = s.size := rfl
  have hi2 : enS s + i < s.size := by
    rw [List.length_take, List.length_drop] at hi; omega
  have := en_spaces s s.size (Nat.le_refl _) (enS s + i) hi2 (by show enS s ≤ _; omega) hi2
  rw [List.getElem_take, List.getElem_drop]
  exact decide_eq_true this
theorem cut_char (s : ByteArray) (m : Nat) (h : enS s = m + 1) (hm : m < (trS s).size) : ¬ ((trS s)[m].toNat = 32 ∧ bsI (trS s) m % 2 = 0) := by
  have hms : m < s.size := by have := enS_le s; omega
  have g := en_last_char s s.size (Nat.le_refl _) m hms h
  have e1 : (trS s)[m] = s[m] := get_ext s (enS s) m hm hms
  have e2 : rv (trS s) m = rv s m := rv_ext s (enS s) m (by omega)
  unfold bsI
  rw [e1, e2]
  rw [esc_bs] at g
  intro c
  apply g
  exact ⟨decide_eq_false (by omega), c.1⟩
theorem cut_even (s : ByteArray) (h : enS s < s.size) : bsI s (enS s) % 2 = 0 := by
  have g := en_esc s s.size (Nat.le_refl _) h
  rw [esc_bs] at g
  have g2 := of_decide_eq_false g
  have : bsR (rv s (enS s)) % 2 ≠ 1 := g2
  unfold bsI
  omega

end Go.Proofs.Qxb6617956a
