import Derived.Test.YbulkajmiWalks
import Derived.Test.YbulkajmiRows
import Derived.WalkKit
import Derived.ProofKit
import Derived.OpenShut
import Derived.ShutString
namespace Go.Proofs.Ybulkajmi.lawS1763BNext
open Go.ChangeShapes Go.WideShapes Go.ChangeAt Go.RowKit
open Go.ChangeMaps (open_string shut_string)
set_option linter.unusedVariables false      -- a walk need not use every 'w<i>' (that an integer argument fits its kind)

theorem own : ownKnob Yba.prog.godebug = none := by kernel_rfl

theorem dim_bd (y m : Int) : 28 ≤ dim y m ∧ dim y m ≤ 31 := by
  have := lp01_cases y
  unfold dim
  split
  · omega
  · split <;> omega

theorem dY_bd (n : Int) (h0 : 0 ≤ n) (h1 : n ≤ 1000000000000000) : -292277022800 ≤ dY n ∧ dY n ≤ 100000000000000 := by
  have := dC_bd n h0 h1
  have := dy_bd n h0
  unfold dY
  split <;> omega

set_option maxHeartbeats 1000000 in
theorem core (a0 a1 n : Int) (b0 : 0 ≤ a0 ∧ a0 ≤ 4294967295) (b1 : 0 ≤ a1 ∧ a1 ≤ 4294967295) (hn : Hid (n = a0 * 146097 + a1 * 1009 % 146097)) (n0 : 0 ≤ n) (n1 : n ≤ 700000000000000) (w : World) :
    Calls Yba.prog 3 #[.int .u32 a0, .int .u32 a1] w fun e w' => e = .returned (.bool true) ∧ w = w' := by
  have hY := dY_bd n n0 (by omega)
  have hD := dim_bd (dY n) (dM n)
  obtain ⟨v1, v2, v3⟩ := next_date n n0
  have c6 : Calls Yba.prog 6 #[.int .u32 a0, .int .u32 a1] w fun e w' => e = .returned (.int .u64 n) ∧ w = w' := by
    rw [hn.out]
    exact day_any a0 a1 w b0.1 b0.2 b1.1 b1.2
  have C6 : Hid (Calls Yba.prog 6 #[.int .u32 a0, .int .u32 a1] w fun e w' => e = .returned (.int .u64 n) ∧ w = w') := c6
  clear c6 hn
  rcases v3 with ⟨p1, p2, p3, p4⟩ | ⟨p1, p2, p3, p4, p5⟩ | ⟨p1, p2, p3, p4, p5⟩
  · have t1 : (dD n == dim (dY n) (dM n)) = false := by simpa using p1
    clear p1
    go_enter Yba.func3, Yba.ntmps3
    go_wp2_with (first
      | (go_at_call 6; refine C6.out.mono ?_; rintro e w' ⟨rfl, rfl⟩)
      | (go_at_call 7; refine (date_any _ (by omega) (by omega) w).mono ?_; rintro e w' ⟨rfl, rfl⟩)
      | (go_at_call 8; refine (days_any (dY n) (dM n) w (by omega) (by omega)).mono ?_; rintro e w' ⟨rfl, rfl⟩))
    go_ret
    exact ⟨rfl, rfl⟩
  · have t1 : (dD n == dim (dY n) (dM n)) = true := by simpa using p1
    have t2 : (dM n == 12) = true := by simpa using p2
    clear p1 p2
    go_enter Yba.func3, Yba.ntmps3
    go_wp2_with (first
      | (go_at_call 6; refine C6.out.mono ?_; rintro e w' ⟨rfl, rfl⟩)
      | (go_at_call 7; refine (date_any _ (by omega) (by omega) w).mono ?_; rintro e w' ⟨rfl, rfl⟩)
      | (go_at_call 8; refine (days_any (dY n) (dM n) w (by omega) (by omega)).mono ?_; rintro e w' ⟨rfl, rfl⟩))
    go_ret
    exact ⟨rfl, rfl⟩
  · have t1 : (dD n == dim (dY n) (dM n)) = true := by simpa using p1
    have t2 : (dM n == 12) = false := by simpa using p2
    clear p1 p2
    go_enter Yba.func3, Yba.ntmps3
    go_wp2_with (first
      | (go_at_call 6; refine C6.out.mono ?_; rintro e w' ⟨rfl, rfl⟩)
      | (go_at_call 7; refine (date_any _ (by omega) (by omega) w).mono ?_; rintro e w' ⟨rfl, rfl⟩)
      | (go_at_call 8; refine (days_any (dY n) (dM n) w (by omega) (by omega)).mono ?_; rintro e w' ⟨rfl, rfl⟩))
    go_ret
    exact ⟨rfl, rfl⟩

theorem walk (a0 : Int) (a1 : Int) (w0 : (Lit.int .u32 a0).wf = true) (w1 : (Lit.int .u32 a1).wf = true) (w : World) :
    Calls Yba.prog 3 #[.int .u32 a0, .int .u32 a1] w fun e w' => e = .returned (.bool true) ∧ Grown w w' := by
  have b0 := bounds_u32 w0
  have b1 := bounds_u32 w1
  refine (core a0 a1 _ b0 b1 rfl (by omega) (by omega) w).mono fun e w' h => ⟨h.1, ?_⟩
  rw [h.2]
  exact Grown.refl _

/-! ### THE ROW's STEP: WRITTEN OUT: LEAVE IT -/
set_option maxRecDepth 100000 in
theorem lifted (os : Os) (started : os.Started) (H : Type) (enc : TypeId × Value → H) :
    ReturnsInHanded {} Yba.checked os 3 .any (Rows.lawS1763BNextSpec.pre6 enc Yba.prog Yba.f3 Rows.lawS1763BNextRow.domain false) (Rows.lawS1763BNextSpec.post enc Yba.prog Yba.f3 false true false false) := by
  refine returnsInHanded_of_change (C := Yba.checked) own started (by kernel_rfl) Yba.func3
    (ChangeSpec.witness6 (enc := enc) (C := Yba.checked) false ⟨#[], #[.int .u32 0, .int .u32 0], []⟩ 8 (by kernel_rfl) (by kernel_rfl) (by kernel_rfl) (by kernel_rfl)) ?_
  intro W base args ds gs before hval0 hW hcnd _
  have hval : ∀ (j : Nat) t v, Yba.f3.params[j]? = some t → args[j]? = some v → Value.okWide Yba.prog W .any base t v := hval0
  have hW' := hW
  obtain ⟨p, q, hA0, hV, rfl, hfz, hnd⟩ := hW
  have hA : DataW.TrodAll enc Yba.prog W 0 (fun _ => true) true Yba.f3.params.toList args.toList ds p := hA0
  rw [Yba.params3] at hA hval
  obtain ⟨v0, vs0, d0, ds0, p0, q0, hargs, rfl, rfl, h0, r0⟩ := trodAll_cons hA
  obtain ⟨v1, vs1, d1, ds1, p1, q1, rfl, rfl, rfl, h1, r1⟩ := trodAll_cons r0
  obtain ⟨rfl, rfl, rfl⟩ := trodAll_nil r1
  obtain rfl : args = #[v0, v1] := by cases args; simp_all
  obtain ⟨rfl, rfl⟩ := trodVars_none hV
  obtain ⟨a0, rfl, rfl, rfl, w0⟩ := open_int Yba.underlying22 (hval 0 22 v0 rfl rfl) h0
  obtain ⟨a1, rfl, rfl, rfl, w1⟩ := open_int Yba.underlying22 (hval 1 22 v1 rfl rfl) h1
  clear hA0 hval0
  simp only [List.append_nil] at hW'
  refine (walk a0 a1 w0 w1 W).mono fun e W' ⟨he, hg⟩ => ?_
  subst he
  exact ⟨_, rfl, post_of_same (pa := []) (pv := []) hW' (fun _ _ _ => (trodAll_cons_mk (shut_bool Yba.underlying4 _) trodAll_mk0)) (fun sp _ => (trodAll_cons_mk (shut_int Yba.underlying22 w0) (trodAll_cons_mk (shut_int Yba.underlying22 w1) trodAll_mk0))) (fun _ _ => rfl) rfl
    (hg.frame _) hg.2.1 (ok_one (by kernel_rfl) rfl (okWide_bool_mk Yba.underlying4 _))⟩

theorem over : Rows.lawS1763BNextRow.holds Yba.pinned (OpenSpec.ofChange Rows.lawS1763BNextSpec) :=
  OpenClaim.holds_of_wide 3 Yba.f3 rfl rfl rfl rfl rfl rfl rfl ⟨rfl, rfl, rfl, rfl, rfl⟩ rfl rfl rfl rfl rfl (by kernel_rfl) Yba.func3 (by kernel_rfl)
    (of_decide_eq_true (by kernel_rfl)) (by unfold Func.isWrapper; first | (rw [if_pos (by decide +kernel)]; kernel_rfl) | (rw [if_neg (by decide +kernel)]; exact ⟨rfl, rfl⟩))
    (fun os started H enc _ => lifted os started H enc)

/-- ████ THE STATEMENT ████ -/
theorem proved : Rows.LawS1763BNextSaid :=
  over
end Go.Proofs.Ybulkajmi.lawS1763BNext
