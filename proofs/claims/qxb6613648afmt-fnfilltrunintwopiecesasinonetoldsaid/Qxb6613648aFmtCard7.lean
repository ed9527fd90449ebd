/-
  FnFillTrunLaysOutTheRun: the told and tied card.
-/
import Derived.Test.Qxb6613648aFmtRow7
namespace Go.Proofs.Qxb6613648aFmt
open Go.Extern.Stop Go.Stop Go.Extern
set_option maxRecDepth 100000

theorem stopsAre7 : Rows.fnFillTrunLaysOutTheRunRow.stops = Tryf.pinned.checked.prog.stops := by kernel_rfl
theorem stopKnobs : Tryf.pinned.checked.prog.stopKnobs = [] := by kernel_rfl
theorem quietAll (os : Os) : Stop.quiet Tryf.pinned.checked.prog os := by
  intro k hk
  rw [stopKnobs] at hk
  cases hk

theorem laysOut_told : Rows.FnFillTrunLaysOutTheRunToldSaid :=
  Claim7.holds_of_told_tied_any_at .later 7 Tryf.f7 _ _ [] (true, "cbb91ce4de52000fb1e4bf73d486b1b0b25d035a1fba6cb9c8d85e4d4c99cf2a") true false [.sentinel, .sentinel] true
    (by kernel_rfl) rfl rfl rfl laidOut (by kernel_rfl) rfl ⟨rfl, rfl, rfl, rfl, rfl, rfl, rfl⟩ rfl rfl (by kernel_rfl) (by kernel_rfl) Tryf.func7 (by kernel_rfl)
    (of_decide_eq_true (by kernel_rfl)) (of_decide_eq_true (by kernel_rfl)) stopsAre7 rfl stopKnobs.symm (by kernel_rfl)
    (by kernel_rfl) (by kernel_rfl) (by kernel_rfl) (by kernel_rfl) (by kernel_rfl) (by kernel_rfl) (by kernel_rfl) (by kernel_rfl) (by kernel_rfl) rfl (by kernel_rfl) rfl rfl
    rfl rfl
    rfl (by kernel_rfl) (by kernel_rfl) (by kernel_rfl) (by decide) (by kernel_rfl) fnFillTrunLaysOutTheRun_row_tie
    (OpenClaim.moreEntering_of (by kernel_rfl) (by kernel_rfl) (by kernel_rfl) (by kernel_rfl) (by kernel_rfl) (by kernel_rfl) (by kernel_rfl) (by kernel_rfl) (by kernel_rfl) (by kernel_rfl))
    ⟨_, WideRow.started_initial, quietAll _⟩
    (fun os started _ H enc _ => lifted7 os started H enc)
end Go.Proofs.Qxb6613648aFmt
