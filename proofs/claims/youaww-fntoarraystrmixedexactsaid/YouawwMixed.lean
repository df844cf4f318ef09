/-
  The contracts of 9 (ZZtoArrayStrMixed): box, then toArrayStr.
-/
import Derived.Test.YouawwBox
namespace Go.Proofs.Youaww
open Go.RowKit

set_option maxHeartbeats 1000000 in
theorem mixed_yes (b off n c b1 off1 c1 : Nat) (f : Nat → ByteArray) (g : Nat → Bool) (hn : n ≤ 65536) (w : World) (hbB : b < w.heap.size) (hbB1 : b1 < w.heap.size)
    (hc : ∀ i, i < n → w.cell? ⟨b, off + i, none⟩ = some (.string (f i))) (hc1 : ∀ i, i < n → w.cell? ⟨b1, off1 + i, none⟩ = some (.bool (g i))) (hall : ∀ i, i < n → g i = true) :
    Calls Uawg.prog 9 #[.slice (some ⟨b, off, none⟩) n c, .slice (some ⟨b1, off1, none⟩) n c1] w fun e w' =>
      ∃ g', e = .returned (.tuple #[rowOf g' n, .bool true]) ∧ Below w.heap.size w w' ∧ ∀ i, i < n → w'.cell? ⟨g', i, none⟩ = some (.string (f i)) := by
  have m37 := mk37
  go_enter Uawg.func9, Uawg.ntmps9
  go_wp2_with fail
  refine (box_at b off n c b1 off1 c1 f g hn _ hbB hbB1 hc hc1).mono ?_
  rintro e w1 ⟨rfl, M1⟩
  go_wp2_with fail
  refine (toArr_yes w.heap.size n f g hn _ M1.lt (fun i hi => M1.cell hi) hall).mono ?_
  rintro e w2 ⟨rfl, M2⟩
  have hb : Below w.heap.size w w2 := M1.bel.trans (M2.bel.mono (Nat.le_of_lt M1.lt))
  have hcell : ∀ i, i < n → w2.cell? ⟨w1.heap.size, i, none⟩ = some (.string (f i)) := fun i hi => M2.cell hi
  have HC : Hid (∀ i, i < n → w2.cell? ⟨w1.heap.size, i, none⟩ = some (.string (f i))) := hcell
  clear hcell M1 M2 hc hc1 hall
  go_wp2
  go_ret2
  exact ⟨_, rfl, hb, HC.out⟩

set_option maxHeartbeats 1000000 in
theorem mixed_no (b off n c b1 off1 c1 j : Nat) (f : Nat → ByteArray) (g : Nat → Bool) (hn : n ≤ 65536) (w : World) (hbB : b < w.heap.size) (hbB1 : b1 < w.heap.size)
    (hc : ∀ i, i < n → w.cell? ⟨b, off + i, none⟩ = some (.string (f i))) (hc1 : ∀ i, i < n → w.cell? ⟨b1, off1 + i, none⟩ = some (.bool (g i))) (hj : j < n) (hgj : g j = false) :
    Calls Uawg.prog 9 #[.slice (some ⟨b, off, none⟩) n c, .slice (some ⟨b1, off1, none⟩) n c1] w fun e w' =>
      e = .returned (.tuple #[.slice none 0 0, .bool false]) ∧ Below w.heap.size w w' := by
  have m37 := mk37
  have HG : Hid (g j = false) := hgj
  clear hgj
  go_enter Uawg.func9, Uawg.ntmps9
  go_wp2_with fail
  refine (box_at b off n c b1 off1 c1 f g hn _ hbB hbB1 hc hc1).mono ?_
  rintro e w1 ⟨rfl, M1⟩
  go_wp2_with fail
  refine (toArr_no w.heap.size n j f g hn _ M1.lt (fun i hi => M1.cell hi) hj HG.out).mono ?_
  rintro e w2 ⟨rfl, B2⟩
  have hb : Below w.heap.size w w2 := M1.bel.trans (B2.mono (Nat.le_of_lt M1.lt))
  clear M1 B2 hc hc1
  go_wp2
  go_ret2
  exact ⟨rfl, hb⟩

set_option maxHeartbeats 1000000 in
theorem mixed_zero (a a1 : Option Addr) (c n1 c1 : Nat) (w : World) :
    Calls Uawg.prog 9 #[.slice a 0 c, .slice a1 n1 c1] w fun e w' => ∃ g', e = .returned (.tuple #[rowOf g' 0, .bool true]) ∧ Below w.heap.size w w' := by
  have m37 := mk37
  go_enter Uawg.func9, Uawg.ntmps9
  go_wp2_with fail
  refine (box_zero a a1 c n1 c1 _).mono ?_
  rintro e w1 ⟨rfl, B1⟩
  go_wp2_with fail
  refine (toArr_zero w.heap.size _).mono ?_
  rintro e w2 ⟨rfl, B2⟩
  have hb : Below w.heap.size w w2 := B1.trans (B2.mono B1.size)
  clear B1 B2
  go_wp2
  go_ret2
  exact ⟨_, rfl, hb⟩

end Go.Proofs.Youaww
