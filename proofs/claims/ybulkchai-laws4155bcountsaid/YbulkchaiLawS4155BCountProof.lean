/- 'resp.LawS4155BCount' returns true. The frame is the guide's shell; the loop's relation counts the spaces below i. -/
import Derived.Test.YbulkchaiRows
import Derived.WalkKit
import Derived.ProofKit
import Derived.OpenShut
import Derived.ShutString
import Derived.Test.YbulkchaiSpace
namespace Go.Proofs.Ybulkchai.lawS4155BCount
open Go.ChangeShapes Go.WideShapes Go.ChangeAt Go.RowKit
open Go.ChangeMaps (open_string shut_string)
set_option linter.unusedVariables false      -- a walk need not use every 'w<i>' (that an integer argument fits its kind)

theorem own : ownKnob Yba.prog.godebug = none := by kernel_rfl

/-- how many of the bytes below k are spaces -/
def cnt : Nat → Nat
  | 0 => 0
  | k + 1 => cnt k + if Space.sp k then 1 else 0
theorem cnt_yes {k : Nat} (h : Space.sp k = true) : cnt (k + 1) = cnt k + 1 := by simp [cnt, h]
theorem cnt_no {k : Nat} (h : Space.sp k = false) : cnt (k + 1) = cnt k := by simp [cnt, h]
theorem cnt_le (k : Nat) : cnt k ≤ k := by
  induction k with
  | zero => simp [cnt]
  | succ k ih => simp only [cnt]; split <;> omega
theorem cnt_all : cnt 256 = 6 := by decide +kernel

set_option maxRecDepth 100000 in
theorem walk (w : World) :
    Calls Yba.prog 5 #[] w fun e w' => e = .returned (.bool true) ∧ Grown w w' := by
  go_enter Yba.func5, Yba.ntmps5
  go_wp2
  go_loop [1, 2] (fun n i => ∃ k : Nat, k ≤ 256 ∧ i = .int .i64 k ∧ n = .int .i64 (cnt k)) (fun _ i => 256 - (intOf i).toNat)
  case atStart => exact ⟨0, Nat.zero_le _, rfl, rfl⟩
  case round =>
    obtain ⟨k, hk, rfl, rfl⟩ := hrel
    have hc := cnt_le k
    by_cases hlt : k < 256
    · cases hs : Space.sp k
      · have H : Hid (cnt (k + 1) = cnt k) := cnt_no hs
        go_wp2_with (first | (go_at_call 8; refine (Space.isSpace_any _ _).mono ?_; rintro e w' ⟨rfl, rfl⟩) | (go_at_call 9; refine (Space.model_any _ _).mono ?_; rintro e w' ⟨rfl, rfl⟩))
        go_round
        case rel => exact ⟨k + 1, by omega, by go_num, by rw [H.out]⟩
        case measure => simp [intOf]; omega
      · have H : Hid (cnt (k + 1) = cnt k + 1) := cnt_yes hs
        go_wp2_with (first | (go_at_call 8; refine (Space.isSpace_any _ _).mono ?_; rintro e w' ⟨rfl, rfl⟩) | (go_at_call 9; refine (Space.model_any _ _).mono ?_; rintro e w' ⟨rfl, rfl⟩))
        go_round
        case rel => exact ⟨k + 1, by omega, by go_num, by rw [H.out]; go_num⟩
        case measure => simp [intOf]; omega
    · obtain rfl : k = 256 := by omega
      have h6 : ((cnt 256 : Nat) : Int) = 6 := by rw [cnt_all]; rfl
      go_wp2
      go_ret
      exact ⟨by simp, Grown.refl _⟩

/-! ### THE ROW's STEP: WRITTEN OUT: LEAVE IT -/
set_option maxRecDepth 100000 in
theorem lifted (os : Os) (started : os.Started) (H : Type) (enc : TypeId × Value → H) :
    ReturnsInHanded {} Yba.checked os 5 .any (Rows.lawS4155BCountSpec.pre6 enc Yba.prog Yba.f5 Rows.lawS4155BCountRow.domain false) (Rows.lawS4155BCountSpec.post enc Yba.prog Yba.f5 false true false false) := by
  refine returnsInHanded_of_change (C := Yba.checked) own started (by kernel_rfl) Yba.func5
    (ChangeSpec.witness6 (enc := enc) (C := Yba.checked) false ⟨#[], #[], []⟩ 8 (by kernel_rfl) (by kernel_rfl) (by kernel_rfl) (by kernel_rfl)) ?_
  intro W base args ds gs before hval0 hW hcnd _
  have hval : ∀ (j : Nat) t v, Yba.f5.params[j]? = some t → args[j]? = some v → Value.okWide Yba.prog W .any base t v := hval0
  have hW' := hW
  obtain ⟨p, q, hA0, hV, rfl, hfz, hnd⟩ := hW
  have hA : DataW.TrodAll enc Yba.prog W 0 (fun _ => true) true Yba.f5.params.toList args.toList ds p := hA0
  rw [Yba.params5] at hA hval
  obtain ⟨rfl, rfl, rfl⟩ := trodAll_none hA
  obtain ⟨rfl, rfl⟩ := trodVars_none hV
  clear hA0 hval0
  simp only [List.append_nil] at hW'
  refine (walk  W).mono fun e W' ⟨he, hg⟩ => ?_
  subst he
  exact ⟨_, rfl, post_of_same (pa := []) (pv := []) hW' (fun _ _ _ => (trodAll_cons_mk (shut_bool Yba.underlying4 _) trodAll_mk0)) (fun sp _ => rfl) (fun _ _ => rfl) rfl
    (hg.frame _) hg.2.1 (ok_one (by kernel_rfl) rfl (okWide_bool_mk Yba.underlying4 _))⟩

theorem over : Rows.lawS4155BCountRow.holds Yba.pinned (OpenSpec.ofChange Rows.lawS4155BCountSpec) :=
  OpenClaim.holds_of_wide 5 Yba.f5 rfl rfl rfl rfl rfl rfl rfl ⟨rfl, rfl, rfl, rfl, rfl⟩ rfl rfl rfl rfl rfl (by kernel_rfl) Yba.func5 (by kernel_rfl)
    (of_decide_eq_true (by kernel_rfl)) (by unfold Func.isWrapper; first | (rw [if_pos (by decide +kernel)]; kernel_rfl) | (rw [if_neg (by decide +kernel)]; exact ⟨rfl, rfl⟩))
    (fun os started H enc _ => lifted os started H enc)

/-- ████ THE STATEMENT ████ -/
theorem proved : Rows.LawS4155BCountSaid :=
  over
end Go.Proofs.Ybulkchai.lawS4155BCount
