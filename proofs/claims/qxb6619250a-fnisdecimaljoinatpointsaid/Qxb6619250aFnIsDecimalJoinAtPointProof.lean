/-
  A PROOF OF 'Rows.FnIsDecimalJoinAtPointSaid': the frame off the seat's shell, the walk typed by an AI agent.
-/
import Derived.Test.Qxb6619250aRows
import Derived.Test.Qxb6619250aDecWalks
import Derived.WalkKit
import Derived.ProofKit
import Derived.OpenShut
import Derived.ShutString
namespace Go.Proofs.Qxb6619250a.fnIsDecimalJoinAtPoint
open Go.ChangeShapes Go.WideShapes Go.ChangeAt Go.RowKit
open Go.ChangeMaps (open_string shut_string)
set_option linter.unusedVariables false      -- a walk need not use every 'w<i>' (that an integer argument fits its kind)

theorem own : ownKnob Try.prog.godebug = none := by kernel_rfl

/-! ### THE WALK: the Go text returns true -/
set_option maxHeartbeats 1600000 in
theorem walk_main (a b : ByteArray) (ha : a.size ≤ 65536) (hb : b.size ≤ 65536) (w : World) (p h d : Bool) (hp : isDec a = p) (hh : hpB a = h) (hd : drB b = d) :
    Calls Try.prog 4 #[.string a, .string b] w fun e w' => e = .returned (.bool true) ∧ Grown w w' := by
  have j := dec_join a b
  rw [hp, hh, hd] at j
  have z0 : (⟨#[46]⟩ : ByteArray).size = 1 := rfl
  have z1 : (⟨#[45]⟩ : ByteArray).size = 1 := rfl
  have s0 : a.size ≤ 2000000 := by omega
  have s1 : b.size ≤ 2000000 := by omega
  have s2 : (a ++ ⟨#[46]⟩ ++ b).size ≤ 2000000 := by rw [ByteArray.size_append, ByteArray.size_append, z0]; omega
  have s3 : ((⟨#[45]⟩ : ByteArray) ++ b).size ≤ 2000000 := by rw [ByteArray.size_append, z1]; omega
  have s4 : (b ++ ⟨#[46]⟩).size ≤ 2000000 := by rw [ByteArray.size_append, z0]; omega
  have s5 : ((⟨#[46]⟩ : ByteArray) ++ b).size ≤ 2000000 := by rw [ByteArray.size_append, z0]; omega
  have q1 : ∀ wx : World, (Op.stringOp .add a ⟨#[46]⟩).run Try.prog wx = .ok (.string (a ++ ⟨#[46]⟩)) wx := fun wx => run_string_add_sum wx _ _ (by rw [z0]; omega)
  have q2 : ∀ wx : World, (Op.stringOp .add (a ++ ⟨#[46]⟩) b).run Try.prog wx = .ok (.string (a ++ ⟨#[46]⟩ ++ b)) wx := fun wx => run_string_add_sum wx _ _ (by rw [ByteArray.size_append, z0]; omega)
  have q3 : ∀ wx : World, (Op.stringOp .add ⟨#[45]⟩ b).run Try.prog wx = .ok (.string (⟨#[45]⟩ ++ b)) wx := fun wx => run_string_add_sum wx _ _ (by rw [z1]; omega)
  have q4 : ∀ wx : World, (Op.stringOp .add b ⟨#[46]⟩).run Try.prog wx = .ok (.string (b ++ ⟨#[46]⟩)) wx := fun wx => run_string_add_sum wx _ _ (by rw [z0]; omega)
  have q5 : ∀ wx : World, (Op.stringOp .add ⟨#[46]⟩ b).run Try.prog wx = .ok (.string (⟨#[46]⟩ ++ b)) wx := fun wx => run_string_add_sum wx _ _ (by rw [z0]; omega)
  clear z0 z1
  have k1 := dec_point_end b
  have k2 := dec_point_head b
  cases d
  · clear k1 k2 q3 q4 q5 s3 s4 s5
    simp only [Bool.and_false] at j
    cases p
    · clear hh
      go_enter Try.func4, Try.ntmps4
      go_wp2_with (first | (go_at_call 10; go_in) | (go_at_call 8; refine (dec8 _ _ (by assumption)).mono ?_; rintro e w' ⟨rfl, rfl⟩) | (go_at_call 11; refine (hp11 _ _ (by assumption)).mono ?_; rintro e w' ⟨rfl, rfl⟩) | (go_at_call 12; refine (dr12 _ _ (by assumption)).mono ?_; rintro e w' ⟨rfl, rfl⟩))
      go_ret
      exact ⟨rfl, Grown.refl _⟩
    · cases h
      all_goals
        go_enter Try.func4, Try.ntmps4
        go_wp2_with (first | (go_at_call 10; go_in) | (go_at_call 8; refine (dec8 _ _ (by assumption)).mono ?_; rintro e w' ⟨rfl, rfl⟩) | (go_at_call 11; refine (hp11 _ _ (by assumption)).mono ?_; rintro e w' ⟨rfl, rfl⟩) | (go_at_call 12; refine (dr12 _ _ (by assumption)).mono ?_; rintro e w' ⟨rfl, rfl⟩))
        go_ret
        exact ⟨rfl, Grown.refl _⟩
  · have k3 := dec_run b hd
    have k4 := dec_minus b hd
    cases p
    · clear hh
      simp only [Bool.false_and] at j
      go_enter Try.func4, Try.ntmps4
      go_wp2_with (first | (go_at_call 10; go_in) | (go_at_call 8; refine (dec8 _ _ (by assumption)).mono ?_; rintro e w' ⟨rfl, rfl⟩) | (go_at_call 11; refine (hp11 _ _ (by assumption)).mono ?_; rintro e w' ⟨rfl, rfl⟩) | (go_at_call 12; refine (dr12 _ _ (by assumption)).mono ?_; rintro e w' ⟨rfl, rfl⟩))
      go_ret
      exact ⟨rfl, Grown.refl _⟩
    · cases h
      all_goals
        simp only [Bool.and_self, Bool.not_false, Bool.not_true, Bool.and_false, Bool.false_and] at j
        go_enter Try.func4, Try.ntmps4
        go_wp2_with (first | (go_at_call 10; go_in) | (go_at_call 8; refine (dec8 _ _ (by assumption)).mono ?_; rintro e w' ⟨rfl, rfl⟩) | (go_at_call 11; refine (hp11 _ _ (by assumption)).mono ?_; rintro e w' ⟨rfl, rfl⟩) | (go_at_call 12; refine (dr12 _ _ (by assumption)).mono ?_; rintro e w' ⟨rfl, rfl⟩))
        go_ret
        exact ⟨rfl, Grown.refl _⟩

set_option maxHeartbeats 400000 in
theorem walk (a0 : ByteArray) (a1 : ByteArray) (w0 : a0.size ≤ maxLen) (w1 : a1.size ≤ maxLen) (w : World) :
    Calls Try.prog 4 #[.string a0, .string a1] w fun e w' => e = .returned (.bool true) ∧ Grown w w' := by
  unfold maxLen at w0 w1
  by_cases c0 : a0.size ≤ 65536
  · by_cases c1 : a1.size ≤ 65536
    · exact walk_main a0 a1 c0 c1 w _ _ _ rfl rfl rfl
    · by_cases c2 : a1.size ≤ 1048576
      · by_cases c3 : a0.size + a1.size ≤ 1048576
        all_goals
          go_enter Try.func4, Try.ntmps4
          go_wp2
          go_ret
          exact ⟨rfl, Grown.refl _⟩
      · go_enter Try.func4, Try.ntmps4
        go_wp2
        go_ret
        exact ⟨rfl, Grown.refl _⟩
  · by_cases c2 : a0.size ≤ 1048576
    · by_cases c4 : a1.size ≤ 1048576
      · by_cases c3 : a0.size + a1.size ≤ 1048576
        all_goals
          go_enter Try.func4, Try.ntmps4
          go_wp2
          go_ret
          exact ⟨rfl, Grown.refl _⟩
      · go_enter Try.func4, Try.ntmps4
        go_wp2
        go_ret
        exact ⟨rfl, Grown.refl _⟩
    · go_enter Try.func4, Try.ntmps4
      go_wp2
      go_ret
      exact ⟨rfl, Grown.refl _⟩

/-! ### THE ROW's STEP: WRITTEN OUT: LEAVE IT -/
set_option maxRecDepth 100000 in
theorem lifted (os : Os) (started : os.Started) (H : Type) (enc : TypeId × Value → H) :
    ReturnsInHanded {} Try.checked os 4 .any (Rows.fnIsDecimalJoinAtPointSpec.pre6 enc Try.prog Try.f4 Rows.fnIsDecimalJoinAtPointRow.domain false) (Rows.fnIsDecimalJoinAtPointSpec.post enc Try.prog Try.f4 false true false false) := by
  refine returnsInHanded_of_change (C := Try.checked) own started (by kernel_rfl) Try.func4
    (ChangeSpec.witness6 (enc := enc) (C := Try.checked) false ⟨#[], #[.string ByteArray.empty, .string ByteArray.empty], []⟩ 8 (by kernel_rfl) (by kernel_rfl) (by kernel_rfl) (by kernel_rfl)) ?_
  intro W base args ds gs before hval0 hW hcnd _
  have hval : ∀ (j : Nat) t v, Try.f4.params[j]? = some t → args[j]? = some v → Value.okWide Try.prog W .any base t v := hval0
  have hW' := hW
  obtain ⟨p, q, hA0, hV, rfl, hfz, hnd⟩ := hW
  have hA : DataW.TrodAll enc Try.prog W 0 (fun _ => true) true Try.f4.params.toList args.toList ds p := hA0
  rw [Try.params4] at hA hval
  obtain ⟨v0, vs0, d0, ds0, p0, q0, hargs, rfl, rfl, h0, r0⟩ := trodAll_cons hA
  obtain ⟨v1, vs1, d1, ds1, p1, q1, rfl, rfl, rfl, h1, r1⟩ := trodAll_cons r0
  obtain ⟨rfl, rfl, rfl⟩ := trodAll_nil r1
  obtain rfl : args = #[v0, v1] := by cases args; simp_all
  obtain ⟨rfl, rfl⟩ := trodVars_none hV
  obtain ⟨a0, rfl, rfl, rfl, w0⟩ := open_string Try.underlying9 (hval 0 9 v0 rfl rfl) h0
  obtain ⟨a1, rfl, rfl, rfl, w1⟩ := open_string Try.underlying9 (hval 1 9 v1 rfl rfl) h1
  clear hA0 hval0
  simp only [List.append_nil] at hW'
  refine (walk a0 a1 w0 w1 W).mono fun e W' ⟨he, hg⟩ => ?_
  subst he
  exact ⟨_, rfl, post_of_same (pa := []) (pv := []) hW' (fun _ _ _ => (trodAll_cons_mk (shut_bool Try.underlying4 _) trodAll_mk0)) (fun sp _ => (trodAll_cons_mk (shut_string Try.underlying9 w0) (trodAll_cons_mk (shut_string Try.underlying9 w1) trodAll_mk0))) (fun _ _ => rfl) rfl
    (hg.frame _) hg.2.1 (ok_one (by kernel_rfl) rfl (okWide_bool_mk Try.underlying4 _))⟩

theorem over : Rows.fnIsDecimalJoinAtPointRow.holds Try.pinned (OpenSpec.ofChange Rows.fnIsDecimalJoinAtPointSpec) :=
  OpenClaim.holds_of_wide 4 Try.f4 rfl rfl rfl rfl rfl rfl rfl ⟨rfl, rfl, rfl, rfl, rfl⟩ rfl rfl rfl rfl rfl (by kernel_rfl) Try.func4 (by kernel_rfl)
    (of_decide_eq_true (by kernel_rfl)) (by unfold Func.isWrapper; first | (rw [if_pos (by decide +kernel)]; kernel_rfl) | (rw [if_neg (by decide +kernel)]; exact ⟨rfl, rfl⟩))
    (fun os started H enc _ => lifted os started H enc)

/-- ████ THE STATEMENT ████ -/
theorem proved : Rows.FnIsDecimalJoinAtPointSaid :=
  over
#print axioms proved
end Go.Proofs.Qxb6619250a.fnIsDecimalJoinAtPoint
