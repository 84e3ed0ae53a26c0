/-
  A PROOF OF 'Rows.FnPrintableOneByteAnywhereSaid': the frame off the seat's shell, the walk typed by an AI agent.
-/
import Derived.Test.Qxb6617233aRows
import Derived.Test.Qxb6617233aWalks
import Derived.WalkKit
import Derived.ProofKit
import Derived.OpenShut
import Derived.ShutString
import Derived.Deep.QuietTactic
import Derived.BigQuiet
namespace Go.Proofs.Qxb6617233a.fnPrintableOneByteAnywhere
open Go.ChangeShapes Go.WideShapes Go.ChangeAt Go.RowKit
open Go.ChangeMaps (open_string shut_string)
set_option linter.unusedVariables false      -- a walk need not use every 'w<i>' (that an integer argument fits its kind)

theorem own : ownKnob Try.prog.godebug = none := by kernel_rfl

/-! ### THE WALK: the Go text returns true -/
def oneS (c : Int) : ByteArray := strOfNums [c]
theorem oneS_size (c : Int) : (oneS c).size = 1 := by simp [oneS, strOfNums_size]

theorem run_one (c : Int) (wx : World) :
    (convert 24 9 (.slice (some ⟨wx.heap.size, 0, none⟩) 1 1)).run Try.prog (wx.alloc (.cells #[.int .u8 c] 5)) = .ok (.string (oneS c)) (wx.alloc (.cells #[.int .u8 c] 5)) := by
  refine run_convert_bytes_arg (P := Try.prog) _ 24 5 Try.underlying24 Try.underlying5 wx.heap.size 0 1 1 [c] rfl ?_ 9 Try.underlying9
  intro i hi
  obtain rfl : i = 0 := by omega
  rw [World.cell?_alloc_at _ _ _ _ rfl]
  rfl

def cnt (k : Nat) : Int := if k < 33 then 0 else if k ≤ 127 then (k : Int) - 33 else 94
theorem cnt_bd (k : Nat) : 0 ≤ cnt k ∧ cnt k ≤ 94 := by unfold cnt; split <;> (try split) <;> omega
theorem cnt_yes (k : Nat) (h1 : 33 ≤ k) (h2 : k ≤ 126) : cnt (k + 1) = cnt k + 1 := by
  unfold cnt; rw [if_neg (by omega), if_pos (by omega), if_neg (by omega), if_pos (by omega)]; omega
theorem cnt_no (k : Nat) (h : ¬ (33 ≤ k ∧ k ≤ 126)) : cnt (k + 1) = cnt k := by
  unfold cnt; repeat' split
  all_goals omega
theorem oneS_pr (k : Nat) (h : k < 256) : prB (oneS (k : Int)) = decide (33 ≤ k ∧ k ≤ 126) := by
  have e : (UInt8.ofNat k).toNat = k := by rw [UInt8.toNat_ofNat']; omega
  have g : (oneS (k : Int)).data.toList = [UInt8.ofNat k] := rfl
  unfold prB prL
  rw [g]
  simp only [List.all_cons, List.all_nil, Bool.and_true]
  unfold okB
  rw [e]
  exact decide_eq_decide.2 (by omega)
theorem grown_drewN {W w' : World} (h : Grown W w') (n : Nat) : Grown W (w'.drewN n) := h
theorem oneS_yes (k : Nat) (h1 : 33 ≤ k) (h2 : k ≤ 126) : prB (oneS (k : Int)) = true := by
  rw [oneS_pr k (by omega)]; exact decide_eq_true ⟨h1, h2⟩
theorem oneS_no (k : Nat) (h : k < 256) (h2 : ¬ (33 ≤ k ∧ k ≤ 126)) : prB (oneS (k : Int)) = false := by
  rw [oneS_pr k h]; exact decide_eq_false h2

set_option maxRecDepth 8000 in
set_option maxHeartbeats 1600000 in
theorem walk_main (s : ByteArray) (j : Nat) (c : Int) (h0 : s.size ≤ 1048576) (hj : j ≤ s.size) (hc0 : 0 ≤ c) (hc1 : c ≤ 255) (w : World)
    (p q : Bool) (hp : prB s = p) (hq : prB (oneS c) = q) (hr : prB (s.extract 0 j ++ oneS c ++ s.extract j s.size) = (p && q)) :
    Calls Try.prog 4 #[.string s, .int .i64 (j : Int), .int .u8 c] w fun e w' => e = .returned (.bool true) ∧ Grown w w' := by
  have hone := oneS_size c
  have hrun := run_one c
  have m0 : s.size ≤ maxLen := by unfold maxLen; omega
  have m1 : (oneS c).size ≤ maxLen := by unfold maxLen; omega
  have m2 : (s.extract 0 j ++ oneS c ++ s.extract j s.size).size ≤ maxLen := by unfold maxLen; simp [ByteArray.size_append, ByteArray.size_extract]; omega
  have x1 : (s.extract 0 j).size = j := by rw [ByteArray.size_extract]; omega
  have x2 : (s.extract j s.size).size = s.size - j := by rw [ByteArray.size_extract]; omega
  have hadd1 : ∀ wx : World, (Op.stringOp .add (s.extract 0 j) (oneS c)).run Try.prog wx = .ok (.string (s.extract 0 j ++ oneS c)) wx := fun wx => run_string_add_sum wx _ _ (by omega)
  have hadd2 : ∀ wx : World, (Op.stringOp .add (s.extract 0 j ++ oneS c) (s.extract j s.size)).run Try.prog wx = .ok (.string (s.extract 0 j ++ oneS c ++ s.extract j s.size)) wx := fun wx => run_string_add_sum wx _ _ (by rw [ByteArray.size_append]; omega)
  clear x1 x2
  cases p <;> cases q
  all_goals
    simp only [Bool.and_self, Bool.and_true, Bool.and_false] at hr
    go_enter Try.func4, Try.ntmps4
    go_wp2_with (go_at_call 7; go_in)
    go_quiet ((go_at_call 6; exact Calls.quiet_of_same ((pr6 _ _ (by assumption)).mono fun _ _ h => ⟨h.1, h.2.symm⟩)))
    go_wp2_with (go_at_call 6; refine (pr6 _ _ (by assumption)).mono ?_; rintro e w' ⟨rfl, rfl⟩)
    clear hadd1 hadd2 hrun hone hp hq hr m0 m1 m2
    have hgr : Grown w ((w.alloc (.cells #[.int .u8 c] 5)).drewN nq) := grown_drewN ((Grown.refl _).alloc _ _) _
    go_loopw [11, 12] (fun n v wr => ∃ k : Nat, k ≤ 256 ∧ v = .int .i64 k ∧ n = .int .i64 (cnt k) ∧ Hid (Grown w wr)) (fun _ v _ => 256 - (intOf v).toNat)
    case atStart => exact ⟨0, by omega, rfl, rfl, hgr⟩
    case round =>
      obtain ⟨k, hk, rfl, rfl, hg⟩ := hrel
      clear hgr
      have hcn := cnt_bd k
      by_cases hlt : k < 256
      · have hrun := run_one (k : Int)
        have m1 : (oneS (k : Int)).size ≤ maxLen := by unfold maxLen; rw [oneS_size]; omega
        by_cases hok : 33 ≤ k ∧ k ≤ 126
        · have hv := oneS_yes k hok.1 hok.2
          go_wp2_with (go_at_call 6; refine (pr6 _ _ (by assumption)).mono ?_; rintro e w' ⟨rfl, rfl⟩)
          go_roundw
          case rel => exact ⟨k + 1, by omega, by go_num, by rw [cnt_yes k hok.1 hok.2], hg.out.alloc _ _⟩
          case measure => simp [intOf]; omega
        · have hv := oneS_no k hlt hok
          go_wp2_with (go_at_call 6; refine (pr6 _ _ (by assumption)).mono ?_; rintro e w' ⟨rfl, rfl⟩)
          go_roundw
          case rel => exact ⟨k + 1, by omega, by go_num, by rw [cnt_no k hok], hg.out.alloc _ _⟩
          case measure => simp [intOf]; omega
      · obtain rfl : k = 256 := by omega
        have hend : cnt 256 = 94 := rfl
        go_wp2
        go_ret
        exact ⟨rfl, hg.out⟩

theorem insert_pr (s : ByteArray) (j : Nat) (hj : j ≤ s.size) (x : ByteArray) : prB (s.extract 0 j ++ x ++ s.extract j s.size) = (prB s && prB x) := by
  have e : s = s.extract 0 j ++ s.extract j s.size := by
    rw [ByteArray.extract_append_extract]
    simp [hj]
  have e2 : prB s = (prB (s.extract 0 j) && prB (s.extract j s.size)) := by
    rw [← prB_append, ← e]
  rw [prB_append, prB_append, e2]
  cases prB (s.extract 0 j) <;> cases prB (s.extract j s.size) <;> cases prB x <;> rfl

set_option maxHeartbeats 400000 in
theorem walk (a0 : ByteArray) (a1 : Int) (a2 : Int) (w0 : a0.size ≤ maxLen) (w1 : (Lit.int .i64 a1).wf = true) (w2 : (Lit.int .u8 a2).wf = true) (w : World) :
    Calls Try.prog 4 #[.string a0, .int .i64 a1, .int .u8 a2] w fun e w' => e = .returned (.bool true) ∧ Grown w w' := by
  unfold maxLen at w0
  have hb := bounds_u8 w2
  by_cases c0 : a0.size ≤ 1048576
  · by_cases c1 : a1 < 0
    · go_enter Try.func4, Try.ntmps4
      go_wp2
      go_ret
      exact ⟨rfl, Grown.refl _⟩
    · by_cases c2 : (a0.size : Int) < a1
      · go_enter Try.func4, Try.ntmps4
        go_wp2
        go_ret
        exact ⟨rfl, Grown.refl _⟩
      · obtain ⟨j, rfl⟩ : ∃ j : Nat, a1 = (j : Int) := ⟨a1.toNat, by omega⟩
        exact walk_main a0 j a2 c0 (by omega) hb.1 (by omega) w _ _ rfl rfl (insert_pr a0 j (by omega) _)
  · go_enter Try.func4, Try.ntmps4
    go_wp2
    go_ret
    exact ⟨rfl, Grown.refl _⟩

/-! ### THE ROW's STEP: WRITTEN OUT: LEAVE IT -/
set_option maxRecDepth 100000 in
theorem lifted (os : Os) (started : os.Started) (H : Type) (enc : TypeId × Value → H) :
    ReturnsInHanded {} Try.checked os 4 .any (Rows.fnPrintableOneByteAnywhereSpec.pre6 enc Try.prog Try.f4 Rows.fnPrintableOneByteAnywhereRow.domain false) (Rows.fnPrintableOneByteAnywhereSpec.post enc Try.prog Try.f4 false true false false) := by
  refine returnsInHanded_of_change (C := Try.checked) own started (by kernel_rfl) Try.func4
    (ChangeSpec.witness6 (enc := enc) (C := Try.checked) false ⟨#[], #[.string ByteArray.empty, .int .i64 0, .int .u8 0], []⟩ 8 (by kernel_rfl) (by kernel_rfl) (by kernel_rfl) (by kernel_rfl)) ?_
  intro W base args ds gs before hval0 hW hcnd _
  have hval : ∀ (j : Nat) t v, Try.f4.params[j]? = some t → args[j]? = some v → Value.okWide Try.prog W .any base t v := hval0
  have hW' := hW
  obtain ⟨p, q, hA0, hV, rfl, hfz, hnd⟩ := hW
  have hA : DataW.TrodAll enc Try.prog W 0 (fun _ => true) true Try.f4.params.toList args.toList ds p := hA0
  rw [Try.params4] at hA hval
  obtain ⟨v0, vs0, d0, ds0, p0, q0, hargs, rfl, rfl, h0, r0⟩ := trodAll_cons hA
  obtain ⟨v1, vs1, d1, ds1, p1, q1, rfl, rfl, rfl, h1, r1⟩ := trodAll_cons r0
  obtain ⟨v2, vs2, d2, ds2, p2, q2, rfl, rfl, rfl, h2, r2⟩ := trodAll_cons r1
  obtain ⟨rfl, rfl, rfl⟩ := trodAll_nil r2
  obtain rfl : args = #[v0, v1, v2] := by cases args; simp_all
  obtain ⟨rfl, rfl⟩ := trodVars_none hV
  obtain ⟨a0, rfl, rfl, rfl, w0⟩ := open_string Try.underlying9 (hval 0 9 v0 rfl rfl) h0
  obtain ⟨a1, rfl, rfl, rfl, w1⟩ := open_int Try.underlying3 (hval 1 3 v1 rfl rfl) h1
  obtain ⟨a2, rfl, rfl, rfl, w2⟩ := open_int Try.underlying5 (hval 2 5 v2 rfl rfl) h2
  clear hA0 hval0
  simp only [List.append_nil] at hW'
  refine (walk a0 a1 a2 w0 w1 w2 W).mono fun e W' ⟨he, hg⟩ => ?_
  subst he
  exact ⟨_, rfl, post_of_same (pa := []) (pv := []) hW' (fun _ _ _ => (trodAll_cons_mk (shut_bool Try.underlying4 _) trodAll_mk0)) (fun sp _ => (trodAll_cons_mk (shut_string Try.underlying9 w0) (trodAll_cons_mk (shut_int Try.underlying3 w1) (trodAll_cons_mk (shut_int Try.underlying5 w2) trodAll_mk0)))) (fun _ _ => rfl) rfl
    (hg.frame _) hg.2.1 (ok_one (by kernel_rfl) rfl (okWide_bool_mk Try.underlying4 _))⟩

theorem over : Rows.fnPrintableOneByteAnywhereRow.holds Try.pinned (OpenSpec.ofChange Rows.fnPrintableOneByteAnywhereSpec) :=
  OpenClaim.holds_of_wide 4 Try.f4 rfl rfl rfl rfl rfl rfl rfl ⟨rfl, rfl, rfl, rfl, rfl⟩ rfl rfl rfl rfl rfl (by kernel_rfl) Try.func4 (by kernel_rfl)
    (of_decide_eq_true (by kernel_rfl)) (by unfold Func.isWrapper; first | (rw [if_pos (by decide +kernel)]; kernel_rfl) | (rw [if_neg (by decide +kernel)]; exact ⟨rfl, rfl⟩))
    (fun os started H enc _ => lifted os started H enc)

/-- ████ THE STATEMENT ████ -/
theorem proved : Rows.FnPrintableOneByteAnywhereSaid :=
  over
#print axioms proved
end Go.Proofs.Qxb6617233a.fnPrintableOneByteAnywhere
