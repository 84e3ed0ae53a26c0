/-
  A PROOF OF 'Rows.FnPrintableJoinIsAndSaid': the frame off the seat's shell, the walk typed by an AI agent.
-/
import Derived.Test.Qxb6617233aRows
import Derived.Test.Qxb6617233aWalks
import Derived.WalkKit
import Derived.ProofKit
import Derived.OpenShut
import Derived.ShutString
namespace Go.Proofs.Qxb6617233a.fnPrintableJoinIsAnd
open Go.ChangeShapes Go.WideShapes Go.ChangeAt Go.RowKit
open Go.ChangeMaps (open_string shut_string)
set_option linter.unusedVariables false      -- a walk need not use every 'w<i>' (that an integer argument fits its kind)

theorem own : ownKnob Try.prog.godebug = none := by kernel_rfl

/-! ### THE WALK: the Go text returns true -/
theorem info5 : (Try.prog.info? 5).map (fun i => (i.zero, i.size, i.bytes)) = some (some (.int .u8 0), 1, 1) := by kernel_rfl

theorem run_mk (n : Nat) (hn : n ≤ 1048576) (wx : World) :
    (Instr.makeSlice 24 (.int .i64 (n : Int)) (.int .i64 (n : Int))).run Try.prog wx = .ok (.slice (some ⟨wx.heap.size, 0, none⟩) n n) (wx.alloc (.cells (madeCells #[.int .u8 0] n) 5)) := by
  obtain ⟨i, hi, hz0, hz1, hz2⟩ := info_parts info5
  have h := run_make (P := Try.prog) wx 24 5 i (.int .u8 0) Try.underlying24 hi hz0 .i64 .i64 (n : Int) (n : Int) (by omega) (by omega) (by rw [hz2]; omega) (by omega)
  rw [h, hz1]
  simp [Value.cells]

set_option maxHeartbeats 400000 in
theorem walk_main (a0 : ByteArray) (a1 : ByteArray) (h0 : a0.size ≤ 524288) (h1 : a1.size ≤ 524288) (w : World) (p q : Bool) (hp : prB a0 = p) (hq : prB a1 = q) :
    Calls Try.prog 3 #[.string a0, .string a1] w fun e w' => e = .returned (.bool true) ∧ Grown w w' := by
  have e1 := prB_append a0 a1
  have e2 := prB_append a1 a0
  rw [hp, hq] at e1 e2
  have hmk := run_mk (a0.size + a1.size) (by omega)
  rw [Int.natCast_add] at hmk
  have m0 : a0.size ≤ maxLen := by unfold maxLen; omega
  have m1 : a1.size ≤ maxLen := by unfold maxLen; omega
  have m01 : (a0 ++ a1).size ≤ maxLen := by unfold maxLen; rw [ByteArray.size_append]; omega
  have m10 : (a1 ++ a0).size ≤ maxLen := by unfold maxLen; rw [ByteArray.size_append]; omega
  cases p <;> cases q
  all_goals
    simp only [Bool.and_self, Bool.and_true, Bool.and_false] at e1 e2
    go_enter Try.func3, Try.ntmps3
    go_wp2_with (first | (go_at_call 6; refine (pr6 _ _ (by assumption)).mono ?_; rintro e w' ⟨rfl, rfl⟩) | (go_at_call 5; go_in))
    clear hmk e1 e2 hp hq m0 m1 m01 m10
    go_loopw [11] (fun i wr => ∃ (k : Nat) (xs : List Int), k ≤ a0.size + a1.size ∧ i = .int .i64 k ∧ Hid (Fill w (a0.size + a1.size) k xs wr)) (fun i _ => a0.size + a1.size - (intOf i).toNat)
    case atStart => exact ⟨0, _, by omega, rfl, fill_start _ _⟩
    case round =>
      obtain ⟨k, xs, hk, rfl, hf⟩ := hrel
      by_cases hlt : k < a0.size + a1.size
      · have hc := hf.out.cell k hlt
        have hz := hf.out.free k
        go_wp2
        go_roundw
        case rel =>
          exact ⟨k + 1, _, by omega, by go_num, fill_step hf.out hlt _ (fold_bd _).1 (fold_bd _).2⟩
        case measure => simp [intOf]; omega
      · have hconv := run_convert_bytes_arg (P := Try.prog) wr 24 5 Try.underlying24 Try.underlying5 w.heap.size 0 (a0.size + a1.size) (a0.size + a1.size) xs hf.out.len (by simpa using hf.out.cell) 9 Try.underlying9
        have hsz : (strOfNums xs).size ≤ maxLen := by unfold maxLen; rw [strOfNums_size, hf.out.len]; omega
        have hkn : k = a0.size + a1.size := by omega
        subst hkn
        have hend := fill_end hf.out
        go_wp2_with (go_at_call 6; refine (pr6 _ _ hsz).mono ?_; rintro e w' ⟨rfl, rfl⟩)
        go_ret
        exact ⟨rfl, hf.out.grown⟩

set_option maxHeartbeats 400000 in
theorem walk (a0 : ByteArray) (a1 : ByteArray) (w0 : a0.size ≤ maxLen) (w1 : a1.size ≤ maxLen) (w : World) :
    Calls Try.prog 3 #[.string a0, .string a1] w fun e w' => e = .returned (.bool true) ∧ Grown w w' := by
  unfold maxLen at w0 w1
  by_cases c0 : a0.size ≤ 524288
  · by_cases c1 : a1.size ≤ 524288
    · exact walk_main a0 a1 c0 c1 w _ _ rfl rfl
    · by_cases c2 : a1.size ≤ 1048576
      · by_cases c3 : a0.size + a1.size ≤ 1048576
        all_goals
          go_enter Try.func3, Try.ntmps3
          go_wp2
          go_ret
          exact ⟨rfl, Grown.refl _⟩
      · go_enter Try.func3, Try.ntmps3
        go_wp2
        go_ret
        exact ⟨rfl, Grown.refl _⟩
  · by_cases c2 : a0.size ≤ 1048576
    · by_cases c4 : a1.size ≤ 1048576
      · by_cases c3 : a0.size + a1.size ≤ 1048576
        all_goals
          go_enter Try.func3, Try.ntmps3
          go_wp2
          go_ret
          exact ⟨rfl, Grown.refl _⟩
      · go_enter Try.func3, Try.ntmps3
        go_wp2
        go_ret
        exact ⟨rfl, Grown.refl _⟩
    · go_enter Try.func3, Try.ntmps3
      go_wp2
      go_ret
      exact ⟨rfl, Grown.refl _⟩

/-! ### THE ROW's STEP: WRITTEN OUT: LEAVE IT -/
set_option maxRecDepth 100000 in
theorem lifted (os : Os) (started : os.Started) (H : Type) (enc : TypeId × Value → H) :
    ReturnsInHanded {} Try.checked os 3 .any (Rows.fnPrintableJoinIsAndSpec.pre6 enc Try.prog Try.f3 Rows.fnPrintableJoinIsAndRow.domain false) (Rows.fnPrintableJoinIsAndSpec.post enc Try.prog Try.f3 false true false false) := by
  refine returnsInHanded_of_change (C := Try.checked) own started (by kernel_rfl) Try.func3
    (ChangeSpec.witness6 (enc := enc) (C := Try.checked) false ⟨#[], #[.string ByteArray.empty, .string ByteArray.empty], []⟩ 8 (by kernel_rfl) (by kernel_rfl) (by kernel_rfl) (by kernel_rfl)) ?_
  intro W base args ds gs before hval0 hW hcnd _
  have hval : ∀ (j : Nat) t v, Try.f3.params[j]? = some t → args[j]? = some v → Value.okWide Try.prog W .any base t v := hval0
  have hW' := hW
  obtain ⟨p, q, hA0, hV, rfl, hfz, hnd⟩ := hW
  have hA : DataW.TrodAll enc Try.prog W 0 (fun _ => true) true Try.f3.params.toList args.toList ds p := hA0
  rw [Try.params3] at hA hval
  obtain ⟨v0, vs0, d0, ds0, p0, q0, hargs, rfl, rfl, h0, r0⟩ := trodAll_cons hA
  obtain ⟨v1, vs1, d1, ds1, p1, q1, rfl, rfl, rfl, h1, r1⟩ := trodAll_cons r0
  obtain ⟨rfl, rfl, rfl⟩ := trodAll_nil r1
  obtain rfl : args = #[v0, v1] := by cases args; simp_all
  obtain ⟨rfl, rfl⟩ := trodVars_none hV
  obtain ⟨a0, rfl, rfl, rfl, w0⟩ := open_string Try.underlying9 (hval 0 9 v0 rfl rfl) h0
  obtain ⟨a1, rfl, rfl, rfl, w1⟩ := open_string Try.underlying9 (hval 1 9 v1 rfl rfl) h1
  clear hA0 hval0
  simp only [List.append_nil] at hW'
  refine (walk a0 a1 w0 w1 W).mono fun e W' ⟨he, hg⟩ => ?_
  subst he
  exact ⟨_, rfl, post_of_same (pa := []) (pv := []) hW' (fun _ _ _ => (trodAll_cons_mk (shut_bool Try.underlying4 _) trodAll_mk0)) (fun sp _ => (trodAll_cons_mk (shut_string Try.underlying9 w0) (trodAll_cons_mk (shut_string Try.underlying9 w1) trodAll_mk0))) (fun _ _ => rfl) rfl
    (hg.frame _) hg.2.1 (ok_one (by kernel_rfl) rfl (okWide_bool_mk Try.underlying4 _))⟩

theorem over : Rows.fnPrintableJoinIsAndRow.holds Try.pinned (OpenSpec.ofChange Rows.fnPrintableJoinIsAndSpec) :=
  OpenClaim.holds_of_wide 3 Try.f3 rfl rfl rfl rfl rfl rfl rfl ⟨rfl, rfl, rfl, rfl, rfl⟩ rfl rfl rfl rfl rfl (by kernel_rfl) Try.func3 (by kernel_rfl)
    (of_decide_eq_true (by kernel_rfl)) (by unfold Func.isWrapper; first | (rw [if_pos (by decide +kernel)]; kernel_rfl) | (rw [if_neg (by decide +kernel)]; exact ⟨rfl, rfl⟩))
    (fun os started H enc _ => lifted os started H enc)

/-- ████ THE STATEMENT ████ -/
theorem proved : Rows.FnPrintableJoinIsAndSaid :=
  over
#print axioms proved
end Go.Proofs.Qxb6617233a.fnPrintableJoinIsAnd
