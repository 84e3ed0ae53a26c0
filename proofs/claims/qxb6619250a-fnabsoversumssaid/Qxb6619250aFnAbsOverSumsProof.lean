/-
  A PROOF OF 'Rows.FnAbsOverSumsSaid': the frame off the seat's shell, the walk typed by an AI agent.
-/
import Derived.Test.Qxb6619250aRows
import Derived.Test.Qxb6619250aAbs
import Derived.WalkKit
import Derived.ProofKit
import Derived.OpenShut
import Derived.ShutString
namespace Go.Proofs.Qxb6619250a.fnAbsOverSums
open Go.ChangeShapes Go.WideShapes Go.ChangeAt Go.RowKit
open Go.ChangeMaps (open_string shut_string)
set_option linter.unusedVariables false      -- a walk need not use every 'w<i>' (that an integer argument fits its kind)

theorem own : ownKnob Try.prog.godebug = none := by kernel_rfl

/-! ### THE PLAIN LAW -/
theorem over_pos {a b : Int} (h : In64 a) (hb : In64 b) (p : 0 < b) (o : ¬ wrap64 (9223372036854775807 - b) < a) : In64 (a + b) := by
  unfold In64 at *; unfold wrap64 at o; omega
theorem over_neg {a b : Int} (h : In64 a) (hb : In64 b) (p : b < 0) (o : ¬ a < wrap64 (-9223372036854775808 - b)) : In64 (a + b) := by
  unfold In64 at *; unfold wrap64 at o; omega
theorem over_zero {a b : Int} (h : In64 a) (p : ¬ 0 < b) (n : ¬ b < 0) : In64 (a + b) := by
  unfold In64 at *; omega
theorem in_wrap (n : Int) : In64 (wrap64 n) := by unfold In64 wrap64; omega
theorem wrap_in {n : Int} (h : In64 n) : wrap64 n = n := by unfold In64 at h; unfold wrap64; omega
theorem absI_cases (a : Int) : (a < 0 ∧ absI a = -a) ∨ (¬ a < 0 ∧ absI a = a) := by
  unfold absI; by_cases h : a < 0
  · rw [if_pos h]; exact .inl ⟨h, rfl⟩
  · rw [if_neg h]; exact .inr ⟨h, rfl⟩

theorem sum_same {a b : Int} (h : In64 a) (hb : In64 b) (hs : In64 (a + b)) (g : a < 0 ↔ b < 0) : (absI (wrap64 (a + b)) == IntKind.u64.wrap (absI a + absI b)) = true := by
  rw [beq_iff_eq, wrap_in hs, IntKind.wrap_u64]
  unfold In64 at *
  rcases absI_cases a with ⟨a1, a2⟩ | ⟨a1, a2⟩ <;> rcases absI_cases b with ⟨b1, b2⟩ | ⟨b1, b2⟩ <;> rcases absI_cases (a + b) with ⟨c1, c2⟩ | ⟨c1, c2⟩ <;> rw [a2, b2, c2] <;> omega
theorem sum_less {a b : Int} (h : In64 a) (hb : In64 b) (hs : In64 (a + b)) (g : ¬ (a < 0 ↔ b < 0)) (l : absI b ≤ absI a) : (absI (wrap64 (a + b)) == IntKind.u64.wrap (absI a - absI b)) = true := by
  rw [beq_iff_eq, wrap_in hs, IntKind.wrap_u64]
  unfold In64 at *
  rcases absI_cases a with ⟨a1, a2⟩ | ⟨a1, a2⟩ <;> rcases absI_cases b with ⟨b1, b2⟩ | ⟨b1, b2⟩ <;> rcases absI_cases (a + b) with ⟨c1, c2⟩ | ⟨c1, c2⟩ <;> rw [a2, b2] at l <;> rw [a2, b2, c2] <;> omega
theorem sum_more {a b : Int} (h : In64 a) (hb : In64 b) (hs : In64 (a + b)) (g : ¬ (a < 0 ↔ b < 0)) (l : ¬ absI b ≤ absI a) : (absI (wrap64 (a + b)) == IntKind.u64.wrap (absI b - absI a)) = true := by
  rw [beq_iff_eq, wrap_in hs, IntKind.wrap_u64]
  unfold In64 at *
  rcases absI_cases a with ⟨a1, a2⟩ | ⟨a1, a2⟩ <;> rcases absI_cases b with ⟨b1, b2⟩ | ⟨b1, b2⟩ <;> rcases absI_cases (a + b) with ⟨c1, c2⟩ | ⟨c1, c2⟩ <;> rw [a2, b2] at l <;> rw [a2, b2, c2] <;> omega

/-! ### THE WALK: the Go text returns true -/
set_option maxHeartbeats 1600000 in
theorem walk (a0 : Int) (a1 : Int) (w0 : (Lit.int .i64 a0).wf = true) (w1 : (Lit.int .i64 a1).wf = true) (w : World) :
    Calls Try.prog 6 #[.int .i64 a0, .int .i64 a1] w fun e w' => e = .returned (.bool true) ∧ Grown w w' := by
  have h : In64 a0 := bounds_i64 w0
  have hb : In64 a1 := bounds_i64 w1
  have hab : In64 (wrap64 (a0 + a1)) := in_wrap _
  clear w0 w1
  by_cases p : 0 < a1
  · by_cases o : wrap64 (9223372036854775807 - a1) < a0
    · go_enter Try.func6, Try.ntmps6
      go_wp2
      go_ret
      exact ⟨rfl, Grown.refl _⟩
    · have hs : Hid (In64 (a0 + a1)) := over_pos h hb p o
      by_cases g : a0 < 0 ↔ a1 < 0
      · have G : Hid (a0 < 0 ↔ a1 < 0) := g
        have gd : (decide (a0 < 0) == decide (a1 < 0)) = true := by rw [beq_iff_eq]; exact decide_eq_decide.2 g
        clear g
        go_enter Try.func6, Try.ntmps6
        go_wp2_with (first | (go_at_call 13; refine (abs13 _ _ (by assumption)).mono ?_; rintro e w' ⟨rfl, rfl⟩) | (go_at_call 14; refine (bra14 _ _ (by assumption)).mono ?_; rintro e w' ⟨rfl, rfl⟩))
        go_ret
        exact ⟨ret_bool (sum_same h hb hs.out G.out), Grown.refl _⟩
      · have G : Hid (¬ (a0 < 0 ↔ a1 < 0)) := g
        have gd : (decide (a0 < 0) == decide (a1 < 0)) = false := by
          rw [beq_eq_false_iff_ne]; intro c; exact g (decide_eq_decide.1 c)
        clear g
        by_cases l : absI a1 ≤ absI a0
        · go_enter Try.func6, Try.ntmps6
          go_wp2_with (first | (go_at_call 13; refine (abs13 _ _ (by assumption)).mono ?_; rintro e w' ⟨rfl, rfl⟩) | (go_at_call 14; refine (bra14 _ _ (by assumption)).mono ?_; rintro e w' ⟨rfl, rfl⟩))
          go_ret
          exact ⟨ret_bool (sum_less h hb hs.out G.out l), Grown.refl _⟩
        · go_enter Try.func6, Try.ntmps6
          go_wp2_with (first | (go_at_call 13; refine (abs13 _ _ (by assumption)).mono ?_; rintro e w' ⟨rfl, rfl⟩) | (go_at_call 14; refine (bra14 _ _ (by assumption)).mono ?_; rintro e w' ⟨rfl, rfl⟩))
          go_ret
          exact ⟨ret_bool (sum_more h hb hs.out G.out (by omega)), Grown.refl _⟩
  · by_cases n : a1 < 0
    · by_cases o : a0 < wrap64 (-9223372036854775808 - a1)
      · go_enter Try.func6, Try.ntmps6
        go_wp2
        go_ret
        exact ⟨rfl, Grown.refl _⟩
      · have hs : Hid (In64 (a0 + a1)) := over_neg h hb n o
        by_cases g : a0 < 0 ↔ a1 < 0
        · have G : Hid (a0 < 0 ↔ a1 < 0) := g
          have gd : (decide (a0 < 0) == decide (a1 < 0)) = true := by rw [beq_iff_eq]; exact decide_eq_decide.2 g
          have sa : a0 < 0 := g.2 n
          clear g
          go_enter Try.func6, Try.ntmps6
          go_wp2_with (first | (go_at_call 13; refine (abs13 _ _ (by assumption)).mono ?_; rintro e w' ⟨rfl, rfl⟩) | (go_at_call 14; refine (bra14 _ _ (by assumption)).mono ?_; rintro e w' ⟨rfl, rfl⟩))
          go_ret
          exact ⟨ret_bool (sum_same h hb hs.out G.out), Grown.refl _⟩
        · have G : Hid (¬ (a0 < 0 ↔ a1 < 0)) := g
          have gd : (decide (a0 < 0) == decide (a1 < 0)) = false := by
            rw [beq_eq_false_iff_ne]; intro c; exact g (decide_eq_decide.1 c)
          have sa : ¬ a0 < 0 := fun c => g ⟨fun _ => n, fun _ => c⟩
          clear g
          by_cases l : absI a1 ≤ absI a0
          · go_enter Try.func6, Try.ntmps6
            go_wp2_with (first | (go_at_call 13; refine (abs13 _ _ (by assumption)).mono ?_; rintro e w' ⟨rfl, rfl⟩) | (go_at_call 14; refine (bra14 _ _ (by assumption)).mono ?_; rintro e w' ⟨rfl, rfl⟩))
            go_ret
            exact ⟨ret_bool (sum_less h hb hs.out G.out l), Grown.refl _⟩
          · go_enter Try.func6, Try.ntmps6
            go_wp2_with (first | (go_at_call 13; refine (abs13 _ _ (by assumption)).mono ?_; rintro e w' ⟨rfl, rfl⟩) | (go_at_call 14; refine (bra14 _ _ (by assumption)).mono ?_; rintro e w' ⟨rfl, rfl⟩))
            go_ret
            exact ⟨ret_bool (sum_more h hb hs.out G.out (by omega)), Grown.refl _⟩
    · have hs : Hid (In64 (a0 + a1)) := over_zero h p n
      by_cases g : a0 < 0 ↔ a1 < 0
      · have G : Hid (a0 < 0 ↔ a1 < 0) := g
        have gd : (decide (a0 < 0) == decide (a1 < 0)) = true := by rw [beq_iff_eq]; exact decide_eq_decide.2 g
        clear g
        go_enter Try.func6, Try.ntmps6
        go_wp2_with (first | (go_at_call 13; refine (abs13 _ _ (by assumption)).mono ?_; rintro e w' ⟨rfl, rfl⟩) | (go_at_call 14; refine (bra14 _ _ (by assumption)).mono ?_; rintro e w' ⟨rfl, rfl⟩))
        go_ret
        exact ⟨ret_bool (sum_same h hb hs.out G.out), Grown.refl _⟩
      · have G : Hid (¬ (a0 < 0 ↔ a1 < 0)) := g
        have gd : (decide (a0 < 0) == decide (a1 < 0)) = false := by
          rw [beq_eq_false_iff_ne]; intro c; exact g (decide_eq_decide.1 c)
        clear g
        by_cases l : absI a1 ≤ absI a0
        · go_enter Try.func6, Try.ntmps6
          go_wp2_with (first | (go_at_call 13; refine (abs13 _ _ (by assumption)).mono ?_; rintro e w' ⟨rfl, rfl⟩) | (go_at_call 14; refine (bra14 _ _ (by assumption)).mono ?_; rintro e w' ⟨rfl, rfl⟩))
          go_ret
          exact ⟨ret_bool (sum_less h hb hs.out G.out l), Grown.refl _⟩
        · go_enter Try.func6, Try.ntmps6
          go_wp2_with (first | (go_at_call 13; refine (abs13 _ _ (by assumption)).mono ?_; rintro e w' ⟨rfl, rfl⟩) | (go_at_call 14; refine (bra14 _ _ (by assumption)).mono ?_; rintro e w' ⟨rfl, rfl⟩))
          go_ret
          exact ⟨ret_bool (sum_more h hb hs.out G.out (by omega)), Grown.refl _⟩

/-! ### THE ROW's STEP: WRITTEN OUT: LEAVE IT -/
set_option maxRecDepth 100000 in
theorem lifted (os : Os) (started : os.Started) (H : Type) (enc : TypeId × Value → H) :
    ReturnsInHanded {} Try.checked os 6 .any (Rows.fnAbsOverSumsSpec.pre6 enc Try.prog Try.f6 Rows.fnAbsOverSumsRow.domain false) (Rows.fnAbsOverSumsSpec.post enc Try.prog Try.f6 false true false false) := by
  refine returnsInHanded_of_change (C := Try.checked) own started (by kernel_rfl) Try.func6
    (ChangeSpec.witness6 (enc := enc) (C := Try.checked) false ⟨#[], #[.int .i64 0, .int .i64 0], []⟩ 8 (by kernel_rfl) (by kernel_rfl) (by kernel_rfl) (by kernel_rfl)) ?_
  intro W base args ds gs before hval0 hW hcnd _
  have hval : ∀ (j : Nat) t v, Try.f6.params[j]? = some t → args[j]? = some v → Value.okWide Try.prog W .any base t v := hval0
  have hW' := hW
  obtain ⟨p, q, hA0, hV, rfl, hfz, hnd⟩ := hW
  have hA : DataW.TrodAll enc Try.prog W 0 (fun _ => true) true Try.f6.params.toList args.toList ds p := hA0
  rw [Try.params6] at hA hval
  obtain ⟨v0, vs0, d0, ds0, p0, q0, hargs, rfl, rfl, h0, r0⟩ := trodAll_cons hA
  obtain ⟨v1, vs1, d1, ds1, p1, q1, rfl, rfl, rfl, h1, r1⟩ := trodAll_cons r0
  obtain ⟨rfl, rfl, rfl⟩ := trodAll_nil r1
  obtain rfl : args = #[v0, v1] := by cases args; simp_all
  obtain ⟨rfl, rfl⟩ := trodVars_none hV
  obtain ⟨a0, rfl, rfl, rfl, w0⟩ := open_int Try.underlying2 (hval 0 2 v0 rfl rfl) h0
  obtain ⟨a1, rfl, rfl, rfl, w1⟩ := open_int Try.underlying2 (hval 1 2 v1 rfl rfl) h1
  clear hA0 hval0
  simp only [List.append_nil] at hW'
  refine (walk a0 a1 w0 w1 W).mono fun e W' ⟨he, hg⟩ => ?_
  subst he
  exact ⟨_, rfl, post_of_same (pa := []) (pv := []) hW' (fun _ _ _ => (trodAll_cons_mk (shut_bool Try.underlying4 _) trodAll_mk0)) (fun sp _ => (trodAll_cons_mk (shut_int Try.underlying2 w0) (trodAll_cons_mk (shut_int Try.underlying2 w1) trodAll_mk0))) (fun _ _ => rfl) rfl
    (hg.frame _) hg.2.1 (ok_one (by kernel_rfl) rfl (okWide_bool_mk Try.underlying4 _))⟩

theorem over : Rows.fnAbsOverSumsRow.holds Try.pinned (OpenSpec.ofChange Rows.fnAbsOverSumsSpec) :=
  OpenClaim.holds_of_wide 6 Try.f6 rfl rfl rfl rfl rfl rfl rfl ⟨rfl, rfl, rfl, rfl, rfl⟩ rfl rfl rfl rfl rfl (by kernel_rfl) Try.func6 (by kernel_rfl)
    (of_decide_eq_true (by kernel_rfl)) (by unfold Func.isWrapper; first | (rw [if_pos (by decide +kernel)]; kernel_rfl) | (rw [if_neg (by decide +kernel)]; exact ⟨rfl, rfl⟩))
    (fun os started H enc _ => lifted os started H enc)

/-- ████ THE STATEMENT ████ -/
theorem proved : Rows.FnAbsOverSumsSaid :=
  over
#print axioms proved
end Go.Proofs.Qxb6619250a.fnAbsOverSums
