/-
  The contracts of 16 (zzBoxMixed) and 15 (toArrayStr), and of what calls them: 9, 11, 12, 13, 14.
-/
import Derived.Test.YouawwMake
namespace Go.Proofs.Youaww
open Go.RowKit

/-- The i-th boxed element: the string where the flag says so, else its length as a float. -/
def boxed (f : Nat → ByteArray) (g : Nat → Bool) (i : Nat) : Value :=
  if g i = true then .iface 9 (.string (f i)) else .iface 30 (.float .f64 (floatOfInt .f64 ((f i).size : Int)))

theorem boxed_yes {f : Nat → ByteArray} {g : Nat → Bool} {i : Nat} (h : g i = true) : boxed f g i = .iface 9 (.string (f i)) := by simp [boxed, h]
theorem boxed_no {f : Nat → ByteArray} {g : Nat → Bool} {i : Nat} (h : g i = false) : boxed f g i = .iface 30 (.float .f64 (floatOfInt .f64 ((f i).size : Int))) := by simp [boxed, h]

set_option maxHeartbeats 1000000 in
/-- 'zzBoxMixed' of two slices of one length. -/
theorem box_at (b off n c b1 off1 c1 : Nat) (f : Nat → ByteArray) (g : Nat → Bool) (hn : n ≤ 65536) (w : World) (hbB : b < w.heap.size) (hbB1 : b1 < w.heap.size)
    (hc : ∀ i, i < n → w.cell? ⟨b, off + i, none⟩ = some (.string (f i))) (hc1 : ∀ i, i < n → w.cell? ⟨b1, off1 + i, none⟩ = some (.bool (g i))) :
    Calls Uawg.prog 16 #[.slice (some ⟨b, off, none⟩) n c, .slice (some ⟨b1, off1, none⟩) n c1] w fun e w' => e = .returned (rowOf w.heap.size n) ∧ Made w w' 20 n (boxed f g) := by
  obtain ⟨i0, hi, hz0, hz1, hz2⟩ := info_parts info20
  have m9 := mk9
  have m30 := mk30
  go_enter Uawg.func16, Uawg.ntmps16
  go_wp2_with (at_make; refine wpList_make_full _ rfl _ _ 37 rfl w.heap.size 20 i0 .nilIface 1 Uawg.underlying37 hi hz0 hz1 _ _ _ _ n rfl rfl rfl rfl (by rw [hz2]; omega) (by unfold maxLen; omega) (Nat.le_refl _) ?_)
  intro w1 hown hgrow
  rw [made_fill (boxed f g)] at hown
  have hb1 : Below w.heap.size w w1 := (Below.refl _ _).grown hgrow (Nat.le_refl _) (fun _ h => by cases h)
  clear hgrow hi hz0 hz1 hz2
  go_wp2
  go_loopw [6] (fun i wr => ∃ k : Nat, k ≤ n ∧ i = .int .i64 k ∧ Below w.heap.size w wr ∧ wr.ownsRow w.heap.size 20 1 (rowOf w.heap.size n) n (fill (boxed f g) .nilIface n k)) (fun i _ => n - (intOf i).toNat)
  case atStart => exact ⟨0, Nat.zero_le _, rfl, hb1, hown⟩
  case round =>
    obtain ⟨k, hk, rfl, hbr, hor⟩ := hrel
    by_cases hlt : k < n
    · obtain ⟨hcg, hfg⟩ := own_at hor hlt
      have hck : wr.cell? ⟨b, off + k, none⟩ = some (.string (f k)) := (hbr.cell hbB).trans (hc k hlt)
      have hck1 : wr.cell? ⟨b1, off1 + k, none⟩ = some (.bool (g k)) := (hbr.cell hbB1).trans (hc1 k hlt)
      have R := own_step hbr hor
      clear hc hc1 hown hb1 hbr hor
      cases hgk : g k with
      | true =>
        rw [boxed_yes hgk] at R
        rw [hgk] at hck1
        clear hgk
        go_wp2
        go_roundw
        case rel => exact ⟨k + 1, by omega, by go_num, R.1, R.2⟩
        case measure => simp [intOf]; omega
      | false =>
        rw [boxed_no hgk] at R
        rw [hgk] at hck1
        clear hgk
        go_wp2
        go_roundw
        case rel => exact ⟨k + 1, by omega, by go_num, R.1, R.2⟩
        case measure => simp [intOf]; omega
    · have R := made_end hbr hor hk hlt
      clear hc hc1 hown hb1 hbr hor
      go_wp2
      go_ret
      exact ⟨rfl, R⟩

set_option maxHeartbeats 1000000 in
/-- 'zzBoxMixed' of no elements. -/
theorem box_zero (a a1 : Option Addr) (c n1 c1 : Nat) (w : World) :
    Calls Uawg.prog 16 #[.slice a 0 c, .slice a1 n1 c1] w fun e w' => e = .returned (rowOf w.heap.size 0) ∧ Below w.heap.size w w' := by
  obtain ⟨i0, hi, hz0, hz1, hz2⟩ := info_parts info20
  go_enter Uawg.func16, Uawg.ntmps16
  go_wp2_with (at_make; refine wpList_make_full _ rfl _ _ 37 rfl w.heap.size 20 i0 .nilIface 1 Uawg.underlying37 hi hz0 hz1 _ _ _ _ 0 rfl rfl rfl rfl (by omega) (by unfold maxLen; omega) (Nat.le_refl _) ?_)
  intro w1 hown hgrow
  have hb1 : Below w.heap.size w w1 := (Below.refl _ _).grown hgrow (Nat.le_refl _) (fun _ h => by cases h)
  clear hgrow hi hz0 hz1 hz2 hown
  go_wp2
  refine wp_loop_rounds 1 ?_
  rw [rounds_succ]
  go_wp2
  go_ret
  exact ⟨rfl, hb1⟩

/-! ### toArrayStr -/
set_option maxHeartbeats 1000000 in
/-- 'toArrayStr' of boxed elements that are all strings: the strings, and true. -/
theorem toArr_yes (gd n : Nat) (f : Nat → ByteArray) (g : Nat → Bool) (hn : n ≤ 65536) (w : World) (hbB : gd < w.heap.size) (hc : ∀ i, i < n → w.cell? ⟨gd, i, none⟩ = some (boxed f g i)) (hall : ∀ i, i < n → g i = true) :
    Calls Uawg.prog 15 #[.iface 37 (rowOf gd n)] w fun e w' => e = .returned (.tuple #[rowOf w.heap.size n, .bool true]) ∧ Made w w' 9 n (fun i => .string (f i)) := by
  obtain ⟨i0, hi, hz0, hz1, hz2⟩ := info_parts info9
  have s37 := as37_37
  have s9 := as9_9
  have hcs : ∀ i, i < n → w.cell? ⟨gd, i, none⟩ = some (.iface 9 (.string (f i))) := fun i h => by rw [hc i h, boxed_yes (hall i h)]
  clear hc hall
  go_enter Uawg.func15, Uawg.ntmps15
  go_wp2_with (at_make; refine wpList_make_full _ rfl _ _ 22 rfl w.heap.size 9 i0 (.string ByteArray.empty) 1 Uawg.underlying22 hi hz0 hz1 _ _ _ _ n rfl rfl rfl rfl (by rw [hz2]; omega) (by unfold maxLen; omega) (Nat.le_refl _) ?_)
  intro w1 hown hgrow
  rw [made_fill (fun i => .string (f i))] at hown
  have hb1 : Below w.heap.size w w1 := (Below.refl _ _).grown hgrow (Nat.le_refl _) (fun _ h => by cases h)
  clear hgrow hi hz0 hz1 hz2
  go_wp2
  go_loopw [22] (fun i wr => ∃ k : Nat, k ≤ n ∧ i = .int .i64 k ∧ Below w.heap.size w wr ∧ wr.ownsRow w.heap.size 9 1 (rowOf w.heap.size n) n (fill (fun i => .string (f i)) (.string ByteArray.empty) n k)) (fun i _ => n - (intOf i).toNat)
  case atStart => exact ⟨0, Nat.zero_le _, rfl, hb1, hown⟩
  case round =>
    obtain ⟨k, hk, rfl, hbr, hor⟩ := hrel
    by_cases hlt : k < n
    · obtain ⟨hcg, hfg⟩ := own_at hor hlt
      have hck : wr.cell? ⟨gd, k, none⟩ = some (.iface 9 (.string (f k))) := (hbr.cell hbB).trans (hcs k hlt)
      have R := own_step hbr hor
      clear hcs hown hb1 hbr hor
      go_wp2
      go_roundw
      case rel => exact ⟨k + 1, by omega, by go_num, R.1, R.2⟩
      case measure => simp [intOf]; omega
    · have R := made_end hbr hor hk hlt
      clear hcs hown hb1 hbr hor
      go_wp2
      go_ret2
      exact ⟨rfl, R⟩

set_option maxHeartbeats 1000000 in
/-- 'toArrayStr' of boxed elements of which one is no string: nil, and false. -/
theorem toArr_no (gd n j : Nat) (f : Nat → ByteArray) (g : Nat → Bool) (hn : n ≤ 65536) (w : World) (hbB : gd < w.heap.size) (hc : ∀ i, i < n → w.cell? ⟨gd, i, none⟩ = some (boxed f g i)) (hj : j < n) (hgj : g j = false) :
    Calls Uawg.prog 15 #[.iface 37 (rowOf gd n)] w fun e w' => e = .returned (.tuple #[.slice none 0 0, .bool false]) ∧ Below w.heap.size w w' := by
  obtain ⟨i0, hi, hz0, hz1, hz2⟩ := info_parts info9
  have s37 := as37_37
  have s9 := as9_9
  have s30 := as30_9
  have HG : Hid (g j = false) := hgj
  clear hgj
  go_enter Uawg.func15, Uawg.ntmps15
  go_wp2_with (at_make; refine wpList_make_full _ rfl _ _ 22 rfl w.heap.size 9 i0 (.string ByteArray.empty) 1 Uawg.underlying22 hi hz0 hz1 _ _ _ _ n rfl rfl rfl rfl (by rw [hz2]; omega) (by unfold maxLen; omega) (Nat.le_refl _) ?_)
  intro w1 hown hgrow
  rw [made_fill (fun i => .string (f i))] at hown
  have hb1 : Below w.heap.size w w1 := (Below.refl _ _).grown hgrow (Nat.le_refl _) (fun _ h => by cases h)
  clear hgrow hi hz0 hz1 hz2
  go_wp2
  go_loopw [22] (fun i wr => ∃ k : Nat, k ≤ j ∧ i = .int .i64 k ∧ Below w.heap.size w wr ∧ wr.ownsRow w.heap.size 9 1 (rowOf w.heap.size n) n (fill (fun i => .string (f i)) (.string ByteArray.empty) n k)) (fun i _ => n - (intOf i).toNat)
  case atStart => exact ⟨0, Nat.zero_le _, rfl, hb1, hown⟩
  case round =>
    obtain ⟨k, hk, rfl, hbr, hor⟩ := hrel
    have hlt : k < n := by omega
    obtain ⟨hcg, hfg⟩ := own_at hor hlt
    have hck : wr.cell? ⟨gd, k, none⟩ = some (boxed f g k) := (hbr.cell hbB).trans (hc k hlt)
    have R := own_step hbr hor
    cases hgk : g k with
    | true =>
      have hkj : k < j := by
        rcases Nat.lt_or_ge k j with h | h
        · exact h
        · have := HG.out
          rw [show j = k by omega, hgk] at this
          cases this
      rw [boxed_yes hgk] at hck
      clear hc hown hb1 hbr hor hgk
      go_wp2
      go_roundw
      case rel => exact ⟨k + 1, by omega, by go_num, R.1, R.2⟩
      case measure => simp [intOf]; omega
    | false =>
      rw [boxed_no hgk] at hck
      clear hc hown hb1 hor hgk R
      go_wp2
      go_ret2
      exact ⟨rfl, hbr⟩

set_option maxHeartbeats 1000000 in
/-- 'toArrayStr' of a []interface{} of no elements. -/
theorem toArr_zero (gd : Nat) (w : World) :
    Calls Uawg.prog 15 #[.iface 37 (rowOf gd 0)] w fun e w' => e = .returned (.tuple #[rowOf w.heap.size 0, .bool true]) ∧ Below w.heap.size w w' := by
  obtain ⟨i0, hi, hz0, hz1, hz2⟩ := info_parts info9
  have s37 := as37_37
  go_enter Uawg.func15, Uawg.ntmps15
  go_wp2_with (at_make; refine wpList_make_full _ rfl _ _ 22 rfl w.heap.size 9 i0 (.string ByteArray.empty) 1 Uawg.underlying22 hi hz0 hz1 _ _ _ _ 0 rfl rfl rfl rfl (by omega) (by unfold maxLen; omega) (Nat.le_refl _) ?_)
  intro w1 hown hgrow
  have hb1 : Below w.heap.size w w1 := (Below.refl _ _).grown hgrow (Nat.le_refl _) (fun _ h => by cases h)
  clear hgrow hi hz0 hz1 hz2 hown
  go_wp2
  refine wp_loop_rounds 1 ?_
  rw [rounds_succ]
  go_wp2
  go_ret2
  exact ⟨rfl, hb1⟩

/-- 'toArrayStr' of what is no []interface{}. -/
theorem toArr_refuses (v : Value) (w : World) (hv : ∀ w, (Instr.typeAssert v 20 37 true).run Uawg.prog w = .ok (.tuple #[.slice none 0 0, .bool false]) w) :
    Calls Uawg.prog 15 #[v] w fun e w' => e = .returned (.tuple #[.slice none 0 0, .bool false]) ∧ w' = w := by
  go_enter Uawg.func15, Uawg.ntmps15
  go_wp2
  go_ret2
  exact ⟨rfl, rfl⟩

/-! ### The callers -/
theorem strings_any (v : Value) (w : World) :
    Calls Uawg.prog 11 #[v] w fun e w' => e = .returned (.tuple #[.slice none 0 0, .bool false]) ∧ w' = w := by
  have m22 := mk22
  go_enter Uawg.func11, Uawg.ntmps11
  go_wp2_with (go_at_call 15; refine (toArr_refuses _ _ (as22_37 _)).mono ?_; rintro e w' ⟨rfl, rfl⟩)
  go_ret2
  exact ⟨rfl, rfl⟩

theorem string_any (v : Value) (w : World) :
    Calls Uawg.prog 12 #[v] w fun e w' => e = .returned (.tuple #[.slice none 0 0, .bool false]) ∧ w' = w := by
  have m9 := mk9
  go_enter Uawg.func12, Uawg.ntmps12
  go_wp2_with (go_at_call 15; refine (toArr_refuses _ _ (as9_37 _)).mono ?_; rintro e w' ⟨rfl, rfl⟩)
  go_ret2
  exact ⟨rfl, rfl⟩

theorem float_any (v : Value) (w : World) :
    Calls Uawg.prog 13 #[v] w fun e w' => e = .returned (.tuple #[.slice none 0 0, .bool false]) ∧ w' = w := by
  have m30 := mk30
  go_enter Uawg.func13, Uawg.ntmps13
  go_wp2_with (go_at_call 15; refine (toArr_refuses _ _ (as30_37 _)).mono ?_; rintro e w' ⟨rfl, rfl⟩)
  go_ret2
  exact ⟨rfl, rfl⟩

theorem nil_any (w : World) :
    Calls Uawg.prog 14 #[] w fun e w' => e = .returned (.tuple #[.slice none 0 0, .bool false]) ∧ w' = w := by
  go_enter Uawg.func14, Uawg.ntmps14
  go_wp2_with (go_at_call 15; refine (toArr_refuses _ _ asnil_37).mono ?_; rintro e w' ⟨rfl, rfl⟩)
  go_ret2
  exact ⟨rfl, rfl⟩

end Go.Proofs.Youaww
