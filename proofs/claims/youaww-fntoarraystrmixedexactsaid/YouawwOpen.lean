/-
  What both rows' proofs share: closed facts of the program; a slice that came in, as the walks are told of it.
-/
import Derived.Test.YouawwBase
import Derived.ProofKit
import Derived.ShutString
import Derived.ChangeOld
import Derived.SliceStrings
namespace Go.Proofs.Youaww
open Go.ChangeShapes Go.WideShapes Go.ChangeAt Go.RowKit

theorem own : ownKnob Uawg.prog.godebug = none := by kernel_rfl
theorem laidOut : laidOutB Uawg.prog = true := by kernel_rfl
theorem cells9 : Uawg.prog.cellsOf 9 = 1 := by kernel_rfl

/-- A slice of strings that came in, as the walks are told of it. -/
theorem leads_strs {H : Type} {enc : TypeId × Value → H} {W : World} {a : Option Addr} {n c : Nat} {d : DataW H} {ps : List MemPlace}
    (h : DataW.Trod enc Uawg.prog W 0 (fun _ => true) true 22 (.slice a n c) d ps) : ∃ f : Nat → ByteArray, n ≤ maxLen ∧ Leads W a n (fun i => .string (f i)) := by
  obtain ⟨fuel, hf⟩ := h
  rcases open_strings Uawg.underlying22 Uawg.underlying9 cells9 hf with ⟨hcs, _⟩ | ⟨x, l, c', ss, hcs, _, hl, hm, hz, _, hcell, _⟩
  · simp [Value.cells] at hcs
    obtain ⟨rfl, rfl, rfl⟩ := hcs
    exact ⟨fun _ => ByteArray.empty, Nat.zero_le _, .inl rfl⟩
  · simp [Value.cells] at hcs
    obtain ⟨rfl, rfl, rfl⟩ := hcs
    refine ⟨fun i => ss.getD i ByteArray.empty, Nat.le_trans hl hm, ?_⟩
    simp only [if_true] at hz
    by_cases h0 : n = 0
    · exact .inl h0
    · right
      obtain ⟨b, off, spot⟩ := x
      have hspot : spot = none := by simpa [Addr.add] using World.cell?_spot (hcell 0 (by omega))
      subst hspot
      exact ⟨b, off, rfl, fun i hi => by rw [← add_plain]; exact hcell i (by omega)⟩

end Go.Proofs.Youaww
