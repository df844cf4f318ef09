/-
  Plain lemmas, closed facts of the program's tables, and what the walks are told of a slice.
-/
import Derived.Test.YouawwRows
import Derived.WalkKit
import Derived.WalkSpells
import Derived.WalkLawsBesides
namespace Go.Proofs.Youaww
open Go.RowKit

/-! ### The program's tables -/
theorem info9 : (Uawg.prog.info? 9).map (fun i => (i.zero, i.size, i.bytes)) = some (some (.string ByteArray.empty), 1, 16) := by kernel_rfl
theorem info4 : (Uawg.prog.info? 4).map (fun i => (i.zero, i.size, i.bytes)) = some (some (.bool false), 1, 1) := by kernel_rfl
theorem info20 : (Uawg.prog.info? 20).map (fun i => (i.zero, i.size, i.bytes)) = some (some .nilIface, 1, 16) := by kernel_rfl
theorem mk9 (x : Value) (w : World) : (Instr.makeInterface 9 x).run Uawg.prog w = .ok (.iface 9 x) w := run_makeInterface w 9 x (by kernel_rfl)
theorem mk22 (x : Value) (w : World) : (Instr.makeInterface 22 x).run Uawg.prog w = .ok (.iface 22 x) w := run_makeInterface w 22 x (by kernel_rfl)
theorem mk30 (x : Value) (w : World) : (Instr.makeInterface 30 x).run Uawg.prog w = .ok (.iface 30 x) w := run_makeInterface w 30 x (by kernel_rfl)
theorem mk37 (x : Value) (w : World) : (Instr.makeInterface 37 x).run Uawg.prog w = .ok (.iface 37 x) w := run_makeInterface w 37 x (by kernel_rfl)
theorem as37_37 (v : Value) (w : World) : (Instr.typeAssert (.iface 37 v) 20 37 true).run Uawg.prog w = .ok (.tuple #[v, .bool true]) w := by kernel_rfl
theorem as22_37 (v : Value) (w : World) : (Instr.typeAssert (.iface 22 v) 20 37 true).run Uawg.prog w = .ok (.tuple #[.slice none 0 0, .bool false]) w := by kernel_rfl
theorem as9_37 (v : Value) (w : World) : (Instr.typeAssert (.iface 9 v) 20 37 true).run Uawg.prog w = .ok (.tuple #[.slice none 0 0, .bool false]) w := by kernel_rfl
theorem as30_37 (v : Value) (w : World) : (Instr.typeAssert (.iface 30 v) 20 37 true).run Uawg.prog w = .ok (.tuple #[.slice none 0 0, .bool false]) w := by kernel_rfl
theorem asnil_37 (w : World) : (Instr.typeAssert .nilIface 20 37 true).run Uawg.prog w = .ok (.tuple #[.slice none 0 0, .bool false]) w := by kernel_rfl
theorem as9_9 (v : Value) (w : World) : (Instr.typeAssert (.iface 9 v) 20 9 true).run Uawg.prog w = .ok (.tuple #[v, .bool true]) w := by kernel_rfl
theorem as30_9 (v : Value) (w : World) : (Instr.typeAssert (.iface 30 v) 20 9 true).run Uawg.prog w = .ok (.tuple #[.string ByteArray.empty, .bool false]) w := by kernel_rfl

/-! ### A row that is filled from the left -/
/-- The first k cells bear f, the rest of the n cells z. -/
def fill (f : Nat → Value) (z : Value) (n k : Nat) : List Value := (List.range n).map fun i => if i < k then f i else z

theorem fill_zero (f : Nat → Value) (z : Value) (n : Nat) : fill f z n 0 = List.replicate n z := by
  apply List.ext_getElem?
  intro j
  by_cases hj : j < n <;> simp [fill, hj]

theorem fill_set (f : Nat → Value) (z : Value) (n k : Nat) : (fill f z n k).set k (f k) = fill f z n (k + 1) := by
  apply List.ext_getElem?
  intro j
  by_cases hj : j < n
  · by_cases hk : k = j
    · subst hk; simp [fill, hj]
    · have e : (j < k + 1) ↔ (j < k) := by omega
      simp [fill, hj, hk, e]
  · by_cases hk : k = j <;> simp [fill, hj, hk]

theorem fill_all (f : Nat → Value) (z : Value) (n : Nat) : fill f z n n = (List.range n).map f := by
  apply List.map_congr_left
  intro i hi
  simp [List.mem_range.1 hi]

theorem fill_at (f : Nat → Value) (z : Value) (n k j : Nat) (hj : j < n) : (fill f z n k)[j]? = some (if j < k then f j else z) := by
  simp [fill, hj]

/-- The slice value over a row of the call's own. -/
abbrev rowOf (g n : Nat) : Value := .slice (some ⟨g, 0, none⟩) n n

/-- What a function that makes a new row of n elements leaves behind: nothing old has turned, and the row holds f. -/
structure Made (w w' : World) (E : TypeId) (n : Nat) (f : Nat → Value) : Prop where
  bel : Below w.heap.size w w'
  own : w'.ownsRow w.heap.size E 1 (rowOf w.heap.size n) n ((List.range n).map f)

theorem Made.cell {w w' : World} {E : TypeId} {n : Nat} {f : Nat → Value} (h : Made w w' E n f) {j : Nat} (hj : j < n) : w'.cell? ⟨w.heap.size, j, none⟩ = some (f j) := by
  rw [h.own.cellAt j (by omega)]
  simp [hj]

theorem Made.lt {w w' : World} {E : TypeId} {n : Nat} {f : Nat → Value} (h : Made w w' E n f) : w.heap.size < w'.heap.size := (h.own.lt w.heap.size rfl).2

/-! ### What the walks are told of a slice -/
/-- Either nothing is in it, or it leads to cells that hold f. -/
def Leads (w : World) (a : Option Addr) (n : Nat) (f : Nat → Value) : Prop :=
  n = 0 ∨ ∃ b off, a = some ⟨b, off, none⟩ ∧ ∀ i, i < n → w.cell? ⟨b, off + i, none⟩ = some (f i)

end Go.Proofs.Youaww
