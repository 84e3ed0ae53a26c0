/-
  PLAIN LAWS OF THE SEAT b6617233a: no Go in sight. 'prB s': every byte of s lies in 33 .. 126.
-/
import Derived.WalkKit
import Derived.ProofKit
namespace Go.Proofs.Qxb6617233a
open Go.RowKit

def okB (c : UInt8) : Bool := decide (33 ≤ (c.toNat : Int) ∧ (c.toNat : Int) ≤ 126)
def prL (l : List UInt8) : Bool := l.all okB
def prB (s : ByteArray) : Bool := prL s.data.toList

theorem prL_append (a b : List UInt8) : prL (a ++ b) = (prL a && prL b) := by unfold prL; rw [List.all_append]

theorem prB_append (a b : ByteArray) : prB (a ++ b) = (prB a && prB b) := by
  unfold prB; rw [ByteArray.data_append, Array.toList_append, prL_append]

theorem prB_comm (a b : ByteArray) : prB (a ++ b) = prB (b ++ a) := by
  rw [prB_append, prB_append, Bool.and_comm]

theorem okB_true {c : UInt8} (h1 : ¬ (c.toNat : Int) ≤ 32) (h2 : ¬ (126 : Int) < (c.toNat : Int)) : okB c = true := by
  unfold okB; exact decide_eq_true (by omega)
theorem okB_low {c : UInt8} (h1 : (c.toNat : Int) ≤ 32) : okB c = false := by
  unfold okB; exact decide_eq_false (by omega)
theorem okB_high {c : UInt8} (h1 : (126 : Int) < (c.toNat : Int)) : okB c = false := by
  unfold okB; exact decide_eq_false (by omega)

theorem take_snoc (s : ByteArray) (k : Nat) (h : k < s.size) : s.data.toList.take (k + 1) = s.data.toList.take k ++ [s[k]] := by
  rw [List.take_succ_eq_append_getElem (by simpa using h)]; rfl

theorem pr_step (s : ByteArray) (k : Nat) (h : k < s.size) (hp : prL (s.data.toList.take k) = true) (hc : okB s[k] = true) : prL (s.data.toList.take (k + 1)) = true := by
  rw [take_snoc s k h, prL_append, hp]; simp [prL, hc]

theorem pr_bad (s : ByteArray) (k : Nat) (h : k < s.size) (hc : okB s[k] = false) : prB s = false := by
  unfold prB
  have e : s.data.toList = s.data.toList.take (k + 1) ++ s.data.toList.drop (k + 1) := (List.take_append_drop _ _).symm
  rw [e, prL_append, take_snoc s k h, prL_append]; simp [prL, hc]

theorem pr_all (s : ByteArray) (k : Nat) (h : s.size ≤ k) (hp : prL (s.data.toList.take k) = true) : prB s = true := by
  unfold prB
  rwa [List.take_of_length_le (by simpa using h)] at hp

/-! ### The row of bytes that the law itself makes and fills -/
structure Fill (w : World) (n k : Nat) (xs : List Int) (wr : World) : Prop where
  len : xs.length = n
  cell : ∀ j, j < n → wr.cell? ⟨w.heap.size, j, none⟩ = some (.int .u8 (xs.getD j 0))
  free : ∀ j, wr.frozen? ⟨w.heap.size, j, none⟩ = false
  good : ∀ j, j < k → 33 ≤ xs.getD j 0 ∧ xs.getD j 0 ≤ 126
  grown : Grown w wr

theorem fill_start (w : World) (n : Nat) : Fill w n 0 (List.replicate n 0) (w.alloc (.cells (madeCells #[.int .u8 0] n) 5)) where
  len := by simp
  cell := fun j hj => by
    rw [World.cell?_alloc_at _ _ _ _ rfl, ← Array.getElem?_toList, toList_madeCells_one]
    simp [hj]
  free := fun j => World.frozen?_alloc_at _ _ _ _ rfl
  good := fun j hj => by omega
  grown := (Grown.refl _).alloc _ _

theorem fill_step {w wr : World} {n k : Nat} {xs : List Int} (h : Fill w n k xs wr) (hk : k < n) (v : Int) (h1 : 33 ≤ v) (h2 : v ≤ 126) :
    Fill w n (k + 1) (xs.set k v) (wr.setCell ⟨w.heap.size, k, none⟩ (.int .u8 v)) where
  len := by simp [h.len]
  cell := fun j hj => by
    by_cases e : j = k
    · subst e
      rw [World.cell?_setCell_same _ _ _ (h.cell j hj)]
      simp [h.len, hj]
    · have hne : (⟨w.heap.size, k, none⟩ : Addr) ≠ ⟨w.heap.size, j, none⟩ := by intro c; injection c; omega
      rw [World.cell?_setCell_other _ _ _ _ hne, h.cell j hj]
      simp [List.getElem?_set_ne (show k ≠ j by omega)]
  free := fun j => by rw [World.frozen?_setCell]; exact h.free j
  good := fun j hj => by
    have hl := h.len
    by_cases e : j = k
    · subst e
      simp [hl, hk, h1, h2]
    · have := h.good j (by omega)
      simpa [List.getElem?_set_ne (show k ≠ j by omega)] using this
  grown := h.grown.setCell (Nat.le_refl _) _

theorem fill_end {w wr : World} {n : Nat} {xs : List Int} (h : Fill w n n xs wr) : prB (strOfNums xs) = true := by
  unfold prB prL
  rw [strOfNums_data, List.all_eq_true]
  intro c hc
  obtain ⟨x, hx, rfl⟩ := List.mem_map.1 hc
  obtain ⟨j, hj, rfl⟩ := List.mem_iff_getElem.1 hx
  have g := h.good j (by rw [← h.len]; exact hj)
  rw [List.getD, List.getElem?_eq_getElem hj] at g
  simp only [Option.getD_some] at g
  unfold okB
  refine decide_eq_true ?_
  have e : (UInt8.ofNat xs[j].toNat).toNat = xs[j].toNat := by
    rw [UInt8.toNat_ofNat']; omega
  rw [e]
  omega

theorem fold_bd (x : Int) : 33 ≤ 33 + x % 94 ∧ 33 + x % 94 ≤ 126 := by omega

end Go.Proofs.Qxb6617233a
