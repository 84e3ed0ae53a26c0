/-
  PLAIN LAWS ON DECIMALS (seat b6619250a): no Go in sight.
-/
import Derived.WalkKit
namespace Go.Proofs.Qxb6619250a

def dig (c : UInt8) : Bool := decide (48 ≤ (c.toNat : Int) ∧ (c.toNat : Int) ≤ 57)
/-- A nonempty run of digits. -/
def drL (l : List UInt8) : Bool := !l.isEmpty && l.all dig
/-- Is there a point? -/
def hpL (l : List UInt8) : Bool := l.any fun c => decide (c.toNat = 46)

/-- What isDecimal does with what is left: at the first place or not, d digits so far, a point seen or not, f digits behind it. -/
def run : List UInt8 → Bool → Nat → Bool → Nat → Bool
  | [], _, d, saw, f => decide (0 < d) && (!saw || decide (0 < f))
  | c :: l, first, d, saw, f =>
    if dig c = true then run l false (d + 1) saw (if saw = true then f + 1 else f)
    else if c.toNat = 45 ∧ first = true then run l false d saw f
    else if c.toNat = 46 ∧ saw = false ∧ 0 < d then run l false d true f
    else false

/-- What the grammar's road does behind the sign: the text before the point is gathered. -/
def cut : List UInt8 → List UInt8 → Bool
  | acc, [] => drL acc
  | acc, c :: l => if c.toNat = 46 then drL acc && drL l else cut (acc ++ [c]) l

def bodyL : List UInt8 → List UInt8
  | [] => []
  | c :: l => if c.toNat = 45 then l else c :: l

theorem body_cons (c : UInt8) (l : List UInt8) : bodyL (c :: l) = if c.toNat = 45 then l else c :: l := rfl
theorem run_cons (c : UInt8) (l : List UInt8) (first : Bool) (d : Nat) (saw : Bool) (f : Nat) : run (c :: l) first d saw f =
    if dig c = true then run l false (d + 1) saw (if saw = true then f + 1 else f)
    else if c.toNat = 45 ∧ first = true then run l false d saw f
    else if c.toNat = 46 ∧ saw = false ∧ 0 < d then run l false d true f
    else false := rfl
def isDec (s : ByteArray) : Bool := run s.data.toList true 0 false 0
def drB (s : ByteArray) : Bool := drL s.data.toList
def hpB (s : ByteArray) : Bool := hpL s.data.toList
def cutB (s : ByteArray) : Bool := cut [] s.data.toList
def grB (s : ByteArray) : Bool := cut [] (bodyL s.data.toList)

theorem dig_46 {c : UInt8} (h : c.toNat = 46) : dig c = false := by unfold dig; exact decide_eq_false (by omega)
theorem dig_45 {c : UInt8} (h : c.toNat = 45) : dig c = false := by unfold dig; exact decide_eq_false (by omega)
theorem dig_not {c : UInt8} (h : dig c = true) : c.toNat ≠ 46 ∧ c.toNat ≠ 45 := by
  have := of_decide_eq_true h; omega

theorem drL_bad {acc : List UInt8} (h : acc.all dig = false) : drL acc = false := by unfold drL; rw [h]; simp
theorem drL_of {acc : List UInt8} (h : acc.all dig = true) : drL acc = !acc.isEmpty := by unfold drL; rw [h]; simp
theorem drL_len {acc : List UInt8} (h : acc.all dig = true) : drL acc = decide (0 < acc.length) := by
  rw [drL_of h]; cases acc <;> simp

theorem cut_bad : ∀ (l acc : List UInt8), acc.all dig = false → cut acc l = false
  | [], acc, h => drL_bad h
  | c :: l, acc, h => by
    unfold cut
    split
    · rw [drL_bad h]; rfl
    · exact cut_bad l (acc ++ [c]) (by rw [List.all_append, h]; rfl)
theorem cut_all : ∀ (l acc : List UInt8), l.all dig = true → cut acc l = drL (acc ++ l)
  | [], acc, _ => by simp [cut]
  | c :: l, acc, h => by
    rw [List.all_cons, Bool.and_eq_true] at h
    unfold cut
    rw [if_neg (dig_not h.1).1, cut_all l _ h.2, List.append_assoc]; rfl

theorem run_saw : ∀ (l : List UInt8) (d f : Nat), 0 < d → run l false d true f = (l.all dig && (decide (0 < f) || !l.isEmpty))
  | [], d, f, h => by simp [run, h]
  | c :: l, d, f, h => by
    unfold run
    by_cases hc : dig c = true
    · rw [if_pos hc, if_pos rfl, run_saw l (d + 1) (f + 1) (by omega)]
      simp [hc]
    · rw [if_neg hc, if_neg (by simp), if_neg (by simp)]
      simp [hc]
theorem run_cut : ∀ (l acc : List UInt8), acc.all dig = true → run l false acc.length false 0 = cut acc l
  | [], acc, h => by
    unfold run cut
    rw [drL_len h]; simp
  | c :: l, acc, h => by
    unfold run cut
    by_cases hc : dig c = true
    · rw [if_pos hc, if_neg (dig_not hc).1]
      have := run_cut l (acc ++ [c]) (by rw [List.all_append, h]; simp [hc])
      rw [List.length_append] at this
      exact this
    · rw [if_neg hc, if_neg (by simp)]
      by_cases h46 : c.toNat = 46
      · rw [if_pos h46, drL_len h]
        by_cases hd : 0 < acc.length
        · rw [if_pos ⟨h46, rfl, hd⟩, run_saw l _ _ hd]
          simp [hd, drL, Bool.and_comm]
        · rw [if_neg (fun k => hd k.2.2)]
          simp [hd]
      · rw [if_neg (fun k => h46 k.1), if_neg h46]
        exact (cut_bad l _ (by rw [List.all_append]; simp [hc])).symm
theorem run_top : ∀ l : List UInt8, run l true 0 false 0 = cut [] (bodyL l)
  | [] => rfl
  | c :: l => by
    by_cases h45 : c.toNat = 45
    · have e : bodyL (c :: l) = l := by rw [body_cons, if_pos h45]
      rw [e, ← run_cut l [] rfl]
      have hc := dig_45 h45
      show run (c :: l) true 0 false 0 = run l false 0 false 0
      rw [run_cons, if_neg (by rw [hc]; simp), if_pos ⟨h45, rfl⟩]
    · have e : bodyL (c :: l) = c :: l := by rw [body_cons, if_neg h45]
      rw [e, ← run_cut (c :: l) [] rfl]
      show run (c :: l) true 0 false 0 = run (c :: l) false 0 false 0
      rw [run_cons, run_cons, if_neg (show ¬ (c.toNat = 45 ∧ true = true) from fun k => h45 k.1), if_neg (show ¬ (c.toNat = 45 ∧ false = true) from fun k => h45 k.1)]

/-- The first law. -/
theorem dec_grammar (s : ByteArray) : isDec s = grB s := run_top _

theorem cut_join (b : List UInt8) (p : UInt8) (hp : p.toNat = 46) : ∀ (r acc : List UInt8), cut acc (r ++ p :: b) = (cut acc r && !hpL r && drL b)
  | [], acc => by
    show (if p.toNat = 46 then drL acc && drL b else cut (acc ++ [p]) b) = _
    rw [if_pos hp]
    simp [cut, hpL]
  | c :: r, acc => by
    show (if c.toNat = 46 then drL acc && drL (r ++ p :: b) else cut (acc ++ [c]) (r ++ p :: b)) = ((if c.toNat = 46 then drL acc && drL r else cut (acc ++ [c]) r) && !hpL (c :: r) && drL b)
    by_cases h : c.toNat = 46
    · have e : drL (r ++ p :: b) = false := drL_bad (by rw [List.all_append, List.all_cons, dig_46 hp]; simp)
      have e2 : hpL (c :: r) = true := by simp [hpL, h]
      rw [if_pos h, e, e2]; simp
    · have e2 : hpL (c :: r) = hpL r := by simp [hpL, h]
      rw [if_neg h, if_neg h, e2]
      exact cut_join b p hp r (acc ++ [c])
theorem body_join (b : List UInt8) (p : UInt8) (hp : p.toNat = 46) (a : List UInt8) : cut [] (bodyL (a ++ p :: b)) = (cut [] (bodyL a) && !hpL a && drL b) := by
  cases a with
  | nil =>
    have e : bodyL ([] ++ p :: b) = [] ++ p :: b := by
      show (if p.toNat = 45 then b else p :: b) = _
      rw [if_neg (by omega)]; rfl
    rw [e, cut_join b p hp]; rfl
  | cons c r =>
    by_cases h : c.toNat = 45
    · have e1 : bodyL (c :: r ++ p :: b) = r ++ p :: b := by
        show (if c.toNat = 45 then r ++ p :: b else c :: (r ++ p :: b)) = _
        rw [if_pos h]
      have e2 : bodyL (c :: r) = r := by rw [body_cons, if_pos h]
      have e3 : hpL (c :: r) = hpL r := by simp [hpL, h]
      rw [e1, e2, e3, cut_join b p hp]
    · have e1 : bodyL (c :: r ++ p :: b) = (c :: r) ++ p :: b := by
        show (if c.toNat = 45 then r ++ p :: b else c :: (r ++ p :: b)) = _
        rw [if_neg h]; rfl
      have e2 : bodyL (c :: r) = c :: r := by rw [body_cons, if_neg h]
      rw [e1, e2, cut_join b p hp]

theorem data_app (a b : ByteArray) : (a ++ b).data.toList = a.data.toList ++ b.data.toList := by
  rw [ByteArray.data_append, Array.toList_append]
/-- The second law's four parts. -/
theorem dec_join (a b : ByteArray) : isDec (a ++ ⟨#[46]⟩ ++ b) = (isDec a && !hpB a && drB b) := by
  rw [dec_grammar, dec_grammar]
  unfold grB hpB drB
  rw [data_app, data_app, List.append_assoc]
  exact body_join _ 46 rfl _
theorem dr_parts {b : ByteArray} (h : drB b = true) : b.data.toList.all dig = true ∧ b.data.toList ≠ [] := by
  unfold drB drL at h
  rw [Bool.and_eq_true] at h
  refine ⟨h.2, fun e => ?_⟩
  rw [e] at h; simp at h
theorem dec_run (b : ByteArray) (h : drB b = true) : isDec b = true := by
  obtain ⟨h1, h2⟩ := dr_parts h
  rw [dec_grammar]
  unfold grB
  have e : bodyL b.data.toList = b.data.toList := by
    cases hl : b.data.toList with
    | nil => rfl
    | cons c l =>
      rw [hl, List.all_cons, Bool.and_eq_true] at h1
      rw [body_cons, if_neg (dig_not h1.1).2]
  rw [e, cut_all _ _ h1]
  exact h
theorem dec_minus (b : ByteArray) (h : drB b = true) : isDec (⟨#[45]⟩ ++ b) = true := by
  obtain ⟨h1, h2⟩ := dr_parts h
  rw [dec_grammar]
  unfold grB
  rw [data_app]
  have e : bodyL ((⟨#[45]⟩ : ByteArray).data.toList ++ b.data.toList) = b.data.toList := rfl
  rw [e, cut_all _ _ h1]
  exact h
theorem dec_point_end (b : ByteArray) : isDec (b ++ ⟨#[46]⟩) = false := by
  have := dec_join b ByteArray.empty
  rw [ByteArray.append_empty] at this
  rw [this]
  have e : drB ByteArray.empty = false := rfl
  rw [e]; simp
theorem dec_point_head (b : ByteArray) : isDec (⟨#[46]⟩ ++ b) = false := by
  have := dec_join ByteArray.empty b
  rw [ByteArray.empty_append] at this
  rw [this]
  rfl

end Go.Proofs.Qxb6619250a
