/-
  The closed facts that both rows ask; the reading of the samples, opened.
-/
import Derived.Test.Qxb6627421aFmtEncode
import Derived.Test.Qxb6627421aFmtCards
import Derived.ProofKit
import Derived.OpenShut
import Derived.Stop.JoinedAt
import Derived.Stop.Texts
import Derived.Stop.JoinedTold
import Derived.SizedLaws
import Derived.SevenToldRow
namespace Go.Proofs.Qxb6627421aFmt
open Go.ChangeShapes Go.WideShapes Go.ChangeAt Go.RowKit Go.Kit
open Go.Extern.Stop Go.Stop Go.Extern

theorem own : ownKnob Tryf.prog.godebug = none := by kernel_rfl
theorem laidOut : laidOutB Tryf.pinned.checked.prog = true := by kernel_rfl
theorem stops : Tryf.pinned.checked.prog.stops = ["fmt.Sprintf"] := by kernel_rfl
theorem stopKnobs : Tryf.pinned.checked.prog.stopKnobs = [] := by kernel_rfl
theorem quiet (os : Os) : Stop.quiet Tryf.pinned.checked.prog os := by
  intro k hk
  rw [stopKnobs] at hk
  cases hk


theorem open_samples {H : Type} {enc : TypeId × Value → H} {w : World} {so : Option Addr} {len cap : Nat} {d : DataW H} {ps : List MemPlace} (h : DataW.Trod enc Tryf.prog w 0 (fun _ => true) true 22 (.slice so len cap) d ps) :
    ∃ X : List Int, X.length = len ∧ InRange X ∧ Lies w so X := by
  obtain ⟨fuel, hf⟩ := h
  rcases open_ints Tryf.underlying22 Tryf.underlying28 (by kernel_rfl) hf with ⟨hcs, _⟩ | ⟨x, l, c, zs, hcs, _, hl, hm, hz, _, hcell, hwz⟩
  · simp [Value.cells] at hcs
    obtain ⟨rfl, rfl, rfl⟩ := hcs
    exact ⟨[], rfl, fun i hi => by simp at hi, .inl rfl⟩
  · simp [Value.cells] at hcs
    obtain ⟨rfl, rfl, rfl⟩ := hcs
    have hzl : zs.length = cap := by simpa using hz
    have hat : ∀ i, i < len → at_ (zs.take len) i = zs.getD i 0 := by
      intro i hi
      have e2 : i < zs.length := by omega
      simp [at_, hi, e2]
    refine ⟨zs.take len, by simp; omega, fun i hi => ?_, ?_⟩
    · simp at hi
      rw [hat i (by omega)]
      have e2 : i < zs.length := by omega
      have hmem : zs.getD i 0 ∈ zs := by simp [e2]
      exact bounds_i16 (hwz _ hmem)
    · by_cases h0 : len = 0
      · subst h0; exact .inl rfl
      · obtain ⟨b, off, spot⟩ := x
        have hspot : spot = none := by simpa [Addr.add] using World.cell?_spot (hcell 0 (by omega))
        subst hspot
        refine .inr ⟨b, off, rfl, fun i hi => ?_⟩
        simp at hi
        have := hcell i (by omega)
        rw [add_plain] at this
        rw [this, hat i (by omega)]
end Go.Proofs.Qxb6627421aFmt
