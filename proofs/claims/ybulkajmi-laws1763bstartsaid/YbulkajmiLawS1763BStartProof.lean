import Derived.Test.YbulkajmiDate
import Derived.Test.YbulkajmiRows
import Derived.WalkKit
import Derived.ProofKit
import Derived.OpenShut
import Derived.ShutString
namespace Go.Proofs.Ybulkajmi.lawS1763BStart
open Go.ChangeShapes Go.WideShapes Go.ChangeAt Go.RowKit
open Go.ChangeMaps (open_string shut_string)
set_option linter.unusedVariables false      -- a walk need not use every 'w<i>' (that an integer argument fits its kind)

theorem own : ownKnob Yba.prog.godebug = none := by kernel_rfl

theorem at_start (q : Int) : dC (q * 146097) = 4 * q ∧ dN (q * 146097) = 0 := by unfold dN dC; omega
theorem at_start2 (q : Int) : dy (q * 146097) = 0 ∧ dR (q * 146097) = 0 ∧ dm (q * 146097) = 0 ∧ dD (q * 146097) = 1 := by
  have h := (at_start q).2
  have h1 : dy (q * 146097) = 0 := by unfold dy; rw [h]; rfl
  have h2 : dR (q * 146097) = 0 := by unfold dR; rw [h, h1]; rfl
  have h3 : dm (q * 146097) = 0 := by unfold dm; rw [h2]; rfl
  exact ⟨h1, h2, h3, by unfold dD; rw [h2, h3]; rfl⟩

set_option maxHeartbeats 400000 in
theorem walk (a0 : Int) (w0 : (Lit.int .u32 a0).wf = true) (w : World) :
    Calls Yba.prog 5 #[.int .u32 a0] w fun e w' => e = .returned (.bool true) ∧ Grown w w' := by
  have hb := bounds_u32 w0
  have hs := at_start a0
  have hs2 := at_start2 a0
  have eY : dY (a0 * 146097) = -292277022800 + 400 * a0 := by
    unfold dY
    rw [if_neg (by omega)]
    omega
  have eM : dM (a0 * 146097) = 3 := by
    unfold dM
    rw [if_neg (by omega)]
    omega
  have eD := hs2.2.2.2
  clear hs hs2
  go_enter Yba.func5, Yba.ntmps5
  go_wp2_with (go_at_call 7; refine (date_any _ (by omega) (by omega) w).mono ?_; rintro e w' ⟨rfl, rfl⟩)
  go_ret
  exact ⟨rfl, by repeat (first | exact Grown.refl _ | apply Grown.drew | apply Grown.alloc)⟩

/-! ### THE ROW's STEP: WRITTEN OUT: LEAVE IT -/
set_option maxRecDepth 100000 in
theorem lifted (os : Os) (started : os.Started) (H : Type) (enc : TypeId × Value → H) :
    ReturnsInHanded {} Yba.checked os 5 .any (Rows.lawS1763BStartSpec.pre6 enc Yba.prog Yba.f5 Rows.lawS1763BStartRow.domain false) (Rows.lawS1763BStartSpec.post enc Yba.prog Yba.f5 false true false false) := by
  refine returnsInHanded_of_change (C := Yba.checked) own started (by kernel_rfl) Yba.func5
    (ChangeSpec.witness6 (enc := enc) (C := Yba.checked) false ⟨#[], #[.int .u32 0], []⟩ 8 (by kernel_rfl) (by kernel_rfl) (by kernel_rfl) (by kernel_rfl)) ?_
  intro W base args ds gs before hval0 hW hcnd _
  have hval : ∀ (j : Nat) t v, Yba.f5.params[j]? = some t → args[j]? = some v → Value.okWide Yba.prog W .any base t v := hval0
  have hW' := hW
  obtain ⟨p, q, hA0, hV, rfl, hfz, hnd⟩ := hW
  have hA : DataW.TrodAll enc Yba.prog W 0 (fun _ => true) true Yba.f5.params.toList args.toList ds p := hA0
  rw [Yba.params5] at hA hval
  obtain ⟨v0, vs0, d0, ds0, p0, q0, hargs, rfl, rfl, h0, r0⟩ := trodAll_cons hA
  obtain ⟨rfl, rfl, rfl⟩ := trodAll_nil r0
  obtain rfl : args = #[v0] := by cases args; simp_all
  obtain ⟨rfl, rfl⟩ := trodVars_none hV
  obtain ⟨a0, rfl, rfl, rfl, w0⟩ := open_int Yba.underlying22 (hval 0 22 v0 rfl rfl) h0
  clear hA0 hval0
  simp only [List.append_nil] at hW'
  refine (walk a0 w0 W).mono fun e W' ⟨he, hg⟩ => ?_
  subst he
  exact ⟨_, rfl, post_of_same (pa := []) (pv := []) hW' (fun _ _ _ => (trodAll_cons_mk (shut_bool Yba.underlying4 _) trodAll_mk0)) (fun sp _ => (trodAll_cons_mk (shut_int Yba.underlying22 w0) trodAll_mk0)) (fun _ _ => rfl) rfl
    (hg.frame _) hg.2.1 (ok_one (by kernel_rfl) rfl (okWide_bool_mk Yba.underlying4 _))⟩

theorem over : Rows.lawS1763BStartRow.holds Yba.pinned (OpenSpec.ofChange Rows.lawS1763BStartSpec) :=
  OpenClaim.holds_of_wide 5 Yba.f5 rfl rfl rfl rfl rfl rfl rfl ⟨rfl, rfl, rfl, rfl, rfl⟩ rfl rfl rfl rfl rfl (by kernel_rfl) Yba.func5 (by kernel_rfl)
    (of_decide_eq_true (by kernel_rfl)) (by unfold Func.isWrapper; first | (rw [if_pos (by decide +kernel)]; kernel_rfl) | (rw [if_neg (by decide +kernel)]; exact ⟨rfl, rfl⟩))
    (fun os started H enc _ => lifted os started H enc)

/-- ████ THE STATEMENT ████ -/
theorem proved : Rows.LawS1763BStartSaid :=
  over
end Go.Proofs.Ybulkajmi.lawS1763BStart
