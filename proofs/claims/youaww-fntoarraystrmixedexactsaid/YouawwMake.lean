/-
  The contracts of the two cloners: 7 (zzCloneStrs), 8 (zzCloneBools).
-/
import Derived.Test.YouawwRead
namespace Go.Proofs.Youaww
open Go.RowKit

/-- One round's store: the relation handed on. -/
theorem own_step {w wr : World} {E : TypeId} {n k : Nat} {f : Nat → Value} {z : Value} (hb : Below w.heap.size w wr) (ho : wr.ownsRow w.heap.size E 1 (rowOf w.heap.size n) n (fill f z n k)) :
    Below w.heap.size w (wr.setCell ⟨w.heap.size, k, none⟩ (f k)) ∧ (wr.setCell ⟨w.heap.size, k, none⟩ (f k)).ownsRow w.heap.size E 1 (rowOf w.heap.size n) n (fill f z n (k + 1)) := by
  refine ⟨hb.setCell (Nat.le_refl _) _, ?_⟩
  have := (ho.stored k (f k)).1
  rwa [fill_set] at this

theorem made_fill (f : Nat → Value) (z : Value) (n : Nat) : (madeCells #[z] n).toList = fill f z n 0 := by
  rw [toList_madeCells_one, fill_zero]

/-- What the loop is told of the new row at round k. -/
theorem own_at {w wr : World} {E : TypeId} {n k : Nat} {f : Nat → Value} {z : Value} (ho : wr.ownsRow w.heap.size E 1 (rowOf w.heap.size n) n (fill f z n k)) (hk : k < n) :
    wr.cell? ⟨w.heap.size, k, none⟩ = some z ∧ wr.frozen? ⟨w.heap.size, k, none⟩ = false := by
  refine ⟨?_, ho.frozenAt k⟩
  rw [ho.cellAt k (by omega), fill_at _ _ _ _ _ hk]
  simp

theorem made_end {w wr : World} {E : TypeId} {n k : Nat} {f : Nat → Value} {z : Value} (hb : Below w.heap.size w wr) (ho : wr.ownsRow w.heap.size E 1 (rowOf w.heap.size n) n (fill f z n k)) (hk : k ≤ n) (hk' : ¬ k < n) :
    Made w wr E n f := by
  obtain rfl : k = n := by omega
  exact ⟨hb, by rw [← fill_all f z]; exact ho⟩

set_option maxHeartbeats 1000000 in
/-- 'zzCloneStrs' of a slice that is not nil: a new row with the same strings. -/
theorem cloneStrs_at (b off n c : Nat) (f : Nat → ByteArray) (hn : n ≤ 65536) (w : World) (hbB : b < w.heap.size) (hc : ∀ i, i < n → w.cell? ⟨b, off + i, none⟩ = some (.string (f i))) :
    Calls Uawg.prog 7 #[.slice (some ⟨b, off, none⟩) n c] w fun e w' => e = .returned (rowOf w.heap.size n) ∧ Made w w' 9 n (fun i => .string (f i)) := by
  have hq : ∀ (w : World) (a : Option Addr) (n c : Nat), (binOp .eql 22 (.slice a n c) (.slice none 0 0)).run Uawg.prog w = .ok (.bool a.isNone) w := fun w a n c => Lib.run_eql_slice_nil w _ _ a n c 0 0 Uawg.underlying22
  obtain ⟨i0, hi, hz0, hz1, hz2⟩ := info_parts info9
  go_enter Uawg.func7, Uawg.ntmps7
  go_wp2_with (at_make; refine wpList_make_full _ rfl _ _ 22 rfl w.heap.size 9 i0 (.string ByteArray.empty) 1 Uawg.underlying22 hi hz0 hz1 _ _ _ _ n rfl rfl rfl rfl (by rw [hz2]; omega) (by unfold maxLen; omega) (Nat.le_refl _) ?_)
  intro w1 hown hgrow
  rw [made_fill (fun i => .string (f i))] at hown
  have hb1 : Below w.heap.size w w1 := (Below.refl _ _).grown hgrow (Nat.le_refl _) (fun _ h => by cases h)
  clear hgrow hi hz0 hz1 hz2 hq
  go_wp2
  go_loopw [4] (fun i wr => ∃ k : Nat, k ≤ n ∧ i = .int .i64 k ∧ Below w.heap.size w wr ∧ wr.ownsRow w.heap.size 9 1 (rowOf w.heap.size n) n (fill (fun i => .string (f i)) (.string ByteArray.empty) n k)) (fun i _ => n - (intOf i).toNat)
  case atStart => exact ⟨0, Nat.zero_le _, rfl, hb1, hown⟩
  case round =>
    obtain ⟨k, hk, rfl, hbr, hor⟩ := hrel
    by_cases hlt : k < n
    · obtain ⟨hcg, hfg⟩ := own_at hor hlt
      have hck : wr.cell? ⟨b, off + k, none⟩ = some (.string (f k)) := (hbr.cell hbB).trans (hc k hlt)
      have R := own_step hbr hor
      clear hc hown hb1 hbr hor
      go_wp2
      go_roundw
      case rel => exact ⟨k + 1, by omega, by go_num, R.1, R.2⟩
      case measure => simp [intOf]; omega
    · have R := made_end hbr hor hk hlt
      clear hc hown hb1 hbr hor
      go_wp2
      go_ret
      exact ⟨rfl, R⟩

set_option maxHeartbeats 1000000 in
/-- 'zzCloneStrs' of a slice of no elements, whatever its address: a slice of no elements. -/
theorem cloneStrs_zero (a : Option Addr) (c : Nat) (w : World) :
    Calls Uawg.prog 7 #[.slice a 0 c] w fun e w' => ∃ a' c', e = .returned (.slice a' 0 c') ∧ Below w.heap.size w w' := by
  have hq : ∀ (w : World) (a : Option Addr) (n c : Nat), (binOp .eql 22 (.slice a n c) (.slice none 0 0)).run Uawg.prog w = .ok (.bool a.isNone) w := fun w a n c => Lib.run_eql_slice_nil w _ _ a n c 0 0 Uawg.underlying22
  obtain ⟨i0, hi, hz0, hz1, hz2⟩ := info_parts info9
  cases a with
  | none =>
    go_enter Uawg.func7, Uawg.ntmps7
    go_wp2
    go_ret
    exact ⟨_, _, rfl, Below.refl _ _⟩
  | some x =>
    go_enter Uawg.func7, Uawg.ntmps7
    go_wp2_with (at_make; refine wpList_make_full _ rfl _ _ 22 rfl w.heap.size 9 i0 (.string ByteArray.empty) 1 Uawg.underlying22 hi hz0 hz1 _ _ _ _ 0 rfl rfl rfl rfl (by omega) (by unfold maxLen; omega) (Nat.le_refl _) ?_)
    intro w1 hown hgrow
    have hb1 : Below w.heap.size w w1 := (Below.refl _ _).grown hgrow (Nat.le_refl _) (fun _ h => by cases h)
    clear hgrow hi hz0 hz1 hz2 hq hown
    go_wp2
    refine wp_loop_rounds 1 ?_
    rw [rounds_succ]
    go_wp2
    go_ret
    exact ⟨_, _, rfl, hb1⟩

set_option maxHeartbeats 1000000 in
/-- 'zzCloneBools' of a slice that is not nil: a new row with the same bools. -/
theorem cloneBools_at (b off n c : Nat) (f : Nat → Bool) (hn : n ≤ 65536) (w : World) (hbB : b < w.heap.size) (hc : ∀ i, i < n → w.cell? ⟨b, off + i, none⟩ = some (.bool (f i))) :
    Calls Uawg.prog 8 #[.slice (some ⟨b, off, none⟩) n c] w fun e w' => e = .returned (rowOf w.heap.size n) ∧ Made w w' 4 n (fun i => .bool (f i)) := by
  have hq : ∀ (w : World) (a : Option Addr) (n c : Nat), (binOp .eql 23 (.slice a n c) (.slice none 0 0)).run Uawg.prog w = .ok (.bool a.isNone) w := fun w a n c => Lib.run_eql_slice_nil w _ _ a n c 0 0 Uawg.underlying23
  obtain ⟨i0, hi, hz0, hz1, hz2⟩ := info_parts info4
  go_enter Uawg.func8, Uawg.ntmps8
  go_wp2_with (at_make; refine wpList_make_full _ rfl _ _ 23 rfl w.heap.size 4 i0 (.bool false) 1 Uawg.underlying23 hi hz0 hz1 _ _ _ _ n rfl rfl rfl rfl (by rw [hz2]; omega) (by unfold maxLen; omega) (Nat.le_refl _) ?_)
  intro w1 hown hgrow
  rw [made_fill (fun i => .bool (f i))] at hown
  have hb1 : Below w.heap.size w w1 := (Below.refl _ _).grown hgrow (Nat.le_refl _) (fun _ h => by cases h)
  clear hgrow hi hz0 hz1 hz2 hq
  go_wp2
  go_loopw [4] (fun i wr => ∃ k : Nat, k ≤ n ∧ i = .int .i64 k ∧ Below w.heap.size w wr ∧ wr.ownsRow w.heap.size 4 1 (rowOf w.heap.size n) n (fill (fun i => .bool (f i)) (.bool false) n k)) (fun i _ => n - (intOf i).toNat)
  case atStart => exact ⟨0, Nat.zero_le _, rfl, hb1, hown⟩
  case round =>
    obtain ⟨k, hk, rfl, hbr, hor⟩ := hrel
    by_cases hlt : k < n
    · obtain ⟨hcg, hfg⟩ := own_at hor hlt
      have hck : wr.cell? ⟨b, off + k, none⟩ = some (.bool (f k)) := (hbr.cell hbB).trans (hc k hlt)
      have R := own_step hbr hor
      clear hc hown hb1 hbr hor
      go_wp2
      go_roundw
      case rel => exact ⟨k + 1, by omega, by go_num, R.1, R.2⟩
      case measure => simp [intOf]; omega
    · have R := made_end hbr hor hk hlt
      clear hc hown hb1 hbr hor
      go_wp2
      go_ret
      exact ⟨rfl, R⟩

set_option maxHeartbeats 1000000 in
/-- 'zzCloneBools' of a slice of no elements, whatever its address: a slice of no elements. -/
theorem cloneBools_zero (a : Option Addr) (c : Nat) (w : World) :
    Calls Uawg.prog 8 #[.slice a 0 c] w fun e w' => ∃ a' c', e = .returned (.slice a' 0 c') ∧ Below w.heap.size w w' := by
  have hq : ∀ (w : World) (a : Option Addr) (n c : Nat), (binOp .eql 23 (.slice a n c) (.slice none 0 0)).run Uawg.prog w = .ok (.bool a.isNone) w := fun w a n c => Lib.run_eql_slice_nil w _ _ a n c 0 0 Uawg.underlying23
  obtain ⟨i0, hi, hz0, hz1, hz2⟩ := info_parts info4
  cases a with
  | none =>
    go_enter Uawg.func8, Uawg.ntmps8
    go_wp2
    go_ret
    exact ⟨_, _, rfl, Below.refl _ _⟩
  | some x =>
    go_enter Uawg.func8, Uawg.ntmps8
    go_wp2_with (at_make; refine wpList_make_full _ rfl _ _ 23 rfl w.heap.size 4 i0 (.bool false) 1 Uawg.underlying23 hi hz0 hz1 _ _ _ _ 0 rfl rfl rfl rfl (by omega) (by unfold maxLen; omega) (Nat.le_refl _) ?_)
    intro w1 hown hgrow
    have hb1 : Below w.heap.size w w1 := (Below.refl _ _).grown hgrow (Nat.le_refl _) (fun _ h => by cases h)
    clear hgrow hi hz0 hz1 hz2 hq hown
    go_wp2
    refine wp_loop_rounds 1 ?_
    rw [rounds_succ]
    go_wp2
    go_ret
    exact ⟨_, _, rfl, hb1⟩

end Go.Proofs.Youaww
