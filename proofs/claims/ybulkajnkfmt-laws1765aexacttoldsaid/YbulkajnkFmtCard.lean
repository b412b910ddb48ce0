import Derived.Test.YbulkajnkFmtProof
namespace Go.Proofs.YbulkajnkFmt

theorem cardLaidOut : laidOutB Ybaf.pinned.checked.prog = true := by kernel_rfl
theorem cardStops : Ybaf.pinned.checked.prog.stops = ["fmt.Sprintf"] := by kernel_rfl
theorem cardKnobs : Ybaf.pinned.checked.prog.stopKnobs = [] := by kernel_rfl
theorem cardQuiet (os : Os) : Stop.quiet Ybaf.pinned.checked.prog os := by
  intro k hk
  rw [cardKnobs] at hk
  cases hk

set_option maxRecDepth 100000 in
/-- THE TOLD AND TIED CARD. -/
theorem lawS1765AExact_told : Rows.LawS1765AExactToldSaid :=
  Claim7.holds_of_told_tied_any_at .later (p := Ybaf.pinned) (s := OpenSpec.ofChange Rows.lawS1765AExactSpec) (c := Rows.lawS1765AExactRow) 3 Ybaf.f3 "fmt.Sprintf" [] [] _ _ _ _ _ (by kernel_rfl) rfl rfl rfl cardLaidOut (by kernel_rfl) rfl ⟨rfl, rfl, rfl, rfl, rfl, rfl, rfl⟩ rfl rfl (by kernel_rfl) (by kernel_rfl) Ybaf.func3 (by kernel_rfl)
    (of_decide_eq_true (by kernel_rfl)) (by unfold Func.isWrapper; first | (rw [if_pos (by decide +kernel)]; kernel_rfl) | (rw [if_neg (by decide +kernel)]; exact ⟨rfl, rfl⟩)) cardStops.symm rfl cardKnobs.symm (by kernel_rfl)
    (by kernel_rfl) (by kernel_rfl) (by kernel_rfl) (by kernel_rfl) (by kernel_rfl) (by kernel_rfl) (by kernel_rfl) (by kernel_rfl) (by kernel_rfl) rfl (by kernel_rfl) rfl rfl
    rfl rfl
    rfl (by kernel_rfl) (by kernel_rfl) (by kernel_rfl) (by decide) (by kernel_rfl) lawS1765AExact_row_tie
    (OpenClaim.moreEntering_of (by kernel_rfl) (by kernel_rfl) (by kernel_rfl) (by kernel_rfl) (by kernel_rfl) (by kernel_rfl) (by kernel_rfl) (by kernel_rfl) (by kernel_rfl) (by kernel_rfl))
    ⟨_, WideRow.started_initial, cardQuiet _⟩
    (fun os started _ H enc _ => lifted os started H enc)

end Go.Proofs.YbulkajnkFmt
