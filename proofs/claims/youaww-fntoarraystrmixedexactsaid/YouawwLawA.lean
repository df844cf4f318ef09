/-
  The walk of 3 (FnToArrayStrMixedExact).
-/
import Derived.Test.YouawwMixed
import Derived.Deep.QuietTactic
import Derived.BigQuiet
namespace Go.Proofs.Youaww
open Go.RowKit

set_option maxHeartbeats 1000000 in
/-- Two slices of one length, at least one element, all flags set. -/
theorem lawA_yes (b off n c b1 off1 c1 : Nat) (f : Nat → ByteArray) (g : Nat → Bool) (hn : n ≤ 65536) (hp : 0 < n) (w : World)
    (hc : ∀ i, i < n → w.cell? ⟨b, off + i, none⟩ = some (.string (f i))) (hc1 : ∀ i, i < n → w.cell? ⟨b1, off1 + i, none⟩ = some (.bool (g i))) (hall : ∀ i, i < n → g i = true) :
    Calls Uawg.prog 3 #[.slice (some ⟨b, off, none⟩) n c, .slice (some ⟨b1, off1, none⟩) n c1] w fun e w' => e = .returned (.bool true) ∧ Below w.heap.size w w' := by
  have hq : ∀ (w : World) (a : Option Addr) (n c : Nat), (binOp .eql 22 (.slice a n c) (.slice none 0 0)).run Uawg.prog w = .ok (.bool a.isNone) w := fun w a n c => Lib.run_eql_slice_nil w _ _ a n c 0 0 Uawg.underlying22
  have hM : n ≤ maxLen := by unfold maxLen; omega
  have hbB : b < w.heap.size := World.block_lt_of_cell? _ _ (hc 0 hp)
  have hbB1 : b1 < w.heap.size := World.block_lt_of_cell? _ _ (hc1 0 hp)
  have HC : Hid (∀ i, i < n → w.cell? ⟨b, off + i, none⟩ = some (.string (f i))) := hc
  have HC1 : Hid (∀ i, i < n → w.cell? ⟨b1, off1 + i, none⟩ = some (.bool (g i))) := hc1
  have HA : Hid (∀ i, i < n → g i = true) := hall
  clear hc hc1 hall
  go_enter Uawg.func3, Uawg.ntmps3
  go_wp2_with fail
  refine (small5_at b off n c n c1 _ f hM _ HC.out).mono ?_
  rintro e w ⟨⟨t, rfl⟩, rfl⟩
  cases t with
  | false =>
    go_wp2
    go_ret
    exact ⟨rfl, Below.refl _ _⟩
  | true =>
    go_wp2_with fail
    refine (bytes_at b off n c n c1 _ f hM _ HC.out).mono ?_
    rintro e w ⟨⟨t, rfl⟩, rfl⟩
    go_wp2_with fail
    · go_ret
      exact ⟨rfl, Below.refl _ _⟩
    refine (cloneStrs_at b off n c f hn _ hbB HC.out).mono ?_
    rintro e w1 ⟨rfl, M1⟩
    have B1 := M1.bel
    have L1 := M1.lt
    have X1 : Hid (∀ i, i < n → w1.cell? ⟨w.heap.size, i, none⟩ = some (.string (f i))) := fun i hi => M1.cell hi
    clear M1
    go_wp2_with fail
    refine (cloneBools_at b1 off1 n c1 g hn _ (by omega) (fun i hi => (B1.cell hbB1).trans (HC1.out i hi))).mono ?_
    rintro e w2 ⟨rfl, M2⟩
    have B2 := M2.bel
    have L2 := M2.lt
    have X2 : Hid (∀ i, i < n → w2.cell? ⟨w1.heap.size, i, none⟩ = some (.bool (g i))) := fun i hi => M2.cell hi
    have X1' : Hid (∀ i, i < n → w2.cell? ⟨w.heap.size, i, none⟩ = some (.string (f i))) := fun i hi => (B2.cell L1).trans (X1.out i hi)
    clear M2
    go_wp2_with fail
    refine (mixed_yes w.heap.size 0 n n w1.heap.size 0 n f g hn _ (by omega) L2 (fun i hi => by rw [Nat.zero_add]; exact X1'.out i hi) (fun i hi => by rw [Nat.zero_add]; exact X2.out i hi) HA.out).mono ?_
    rintro e w3 ⟨g', rfl, B3, X3⟩
    have hb : Below w.heap.size w w3 := (B1.trans (B2.mono (by omega))).trans (B3.mono (by omega))
    have Y1 : Hid (∀ i, i < n → w3.cell? ⟨w.heap.size, i, none⟩ = some (.string (f i))) := fun i hi => (B3.cell (by simp; omega)).trans (X1'.out i hi)
    have Y2 : Hid (∀ i, i < n → w3.cell? ⟨w1.heap.size, i, none⟩ = some (.bool true)) := fun i hi => by rw [← HA.out i hi]; exact (B3.cell L2).trans (X2.out i hi)
    have Y3 : Hid (∀ i, i < n → w3.cell? ⟨g', i, none⟩ = some (.string (f i))) := X3
    clear X1 X1' X2 X3 B1 B2 B3 L1 L2 HC HC1 HA hbB hbB1
    go_wp2
    go_loop [7, 8] (fun v i => ∃ k : Nat, k ≤ n ∧ i = .int .i64 k ∧ v = .bool true) (fun _ i => n - (intOf i).toNat)
    case atStart => exact ⟨0, Nat.zero_le _, rfl, rfl⟩
    case round =>
      obtain ⟨k, hk, rfl, rfl⟩ := hrel
      by_cases hlt : k < n
      · have hck := Y2.out k hlt
        clear Y1 Y2 Y3
        go_wp2
        go_round
        case rel => exact ⟨k + 1, by omega, by go_num, rfl⟩
        case measure => simp [intOf]; omega
      · clear Y2
        go_wp2
        go_loopw [9] (fun i wr => ∃ k : Nat, k ≤ n ∧ i = .int .i64 k ∧ ∃ m, wr = w3.drewN m) (fun i _ => n - (intOf i).toNat)
        case atStart => exact ⟨0, Nat.zero_le _, rfl, 0, rfl⟩
        case round =>
          obtain ⟨k2, hk2, rfl, m, rfl⟩ := hrel
          by_cases hlt2 : k2 < n
          · have hck1 : w3.cell? ⟨w.heap.size, k2, none⟩ = some (.string (f k2)) := Y1.out k2 hlt2
            have hck3 : w3.cell? ⟨g', k2, none⟩ = some (.string (f k2)) := Y3.out k2 hlt2
            have hlt3 : (k2 : Int) < (n : Int) := by omega
            clear Y1 Y3
            go_wp2
            go_quiet (fail)
            go_wp2
            go_roundw
            case rel => exact ⟨k2 + 1, by omega, by go_num, m + nq, rfl⟩
            case measure => simp [intOf]; omega
          · go_wp2
            go_ret
            exact ⟨rfl, ⟨hb.os, hb.tape, hb.output, hb.size, hb.block⟩⟩

/-- What the law's first loop knows at round k, where flag j is not set: behind round j its 'all' is false. -/
def AllRel (n j : Nat) (v i : Value) : Prop := ∃ (k : Nat) (x : Bool), k ≤ n ∧ i = .int .i64 k ∧ v = .bool x ∧ (j < k → x = false)

set_option maxHeartbeats 1000000 in
/-- Two slices of one length, one flag not set. -/
theorem lawA_no (b off n c b1 off1 c1 j : Nat) (f : Nat → ByteArray) (g : Nat → Bool) (hn : n ≤ 65536) (w : World)
    (hc : ∀ i, i < n → w.cell? ⟨b, off + i, none⟩ = some (.string (f i))) (hc1 : ∀ i, i < n → w.cell? ⟨b1, off1 + i, none⟩ = some (.bool (g i))) (hj : j < n) (hgj : g j = false) :
    Calls Uawg.prog 3 #[.slice (some ⟨b, off, none⟩) n c, .slice (some ⟨b1, off1, none⟩) n c1] w fun e w' => e = .returned (.bool true) ∧ Below w.heap.size w w' := by
  have hq : ∀ (w : World) (a : Option Addr) (n c : Nat), (binOp .eql 22 (.slice a n c) (.slice none 0 0)).run Uawg.prog w = .ok (.bool a.isNone) w := fun w a n c => Lib.run_eql_slice_nil w _ _ a n c 0 0 Uawg.underlying22
  have hM : n ≤ maxLen := by unfold maxLen; omega
  have hbB : b < w.heap.size := World.block_lt_of_cell? _ _ (hc j hj)
  have hbB1 : b1 < w.heap.size := World.block_lt_of_cell? _ _ (hc1 j hj)
  have HC : Hid (∀ i, i < n → w.cell? ⟨b, off + i, none⟩ = some (.string (f i))) := hc
  have HC1 : Hid (∀ i, i < n → w.cell? ⟨b1, off1 + i, none⟩ = some (.bool (g i))) := hc1
  have HG : Hid (g j = false) := hgj
  clear hc hc1 hgj
  go_enter Uawg.func3, Uawg.ntmps3
  go_wp2_with fail
  refine (small5_at b off n c n c1 _ f hM _ HC.out).mono ?_
  rintro e w ⟨⟨t, rfl⟩, rfl⟩
  cases t with
  | false =>
    go_wp2
    go_ret
    exact ⟨rfl, Below.refl _ _⟩
  | true =>
    go_wp2_with fail
    refine (bytes_at b off n c n c1 _ f hM _ HC.out).mono ?_
    rintro e w ⟨⟨t, rfl⟩, rfl⟩
    go_wp2_with fail
    · go_ret
      exact ⟨rfl, Below.refl _ _⟩
    refine (cloneStrs_at b off n c f hn _ hbB HC.out).mono ?_
    rintro e w1 ⟨rfl, M1⟩
    have B1 := M1.bel
    have L1 := M1.lt
    have X1 : Hid (∀ i, i < n → w1.cell? ⟨w.heap.size, i, none⟩ = some (.string (f i))) := fun i hi => M1.cell hi
    clear M1
    go_wp2_with fail
    refine (cloneBools_at b1 off1 n c1 g hn _ (by omega) (fun i hi => (B1.cell hbB1).trans (HC1.out i hi))).mono ?_
    rintro e w2 ⟨rfl, M2⟩
    have B2 := M2.bel
    have L2 := M2.lt
    have X2 : Hid (∀ i, i < n → w2.cell? ⟨w1.heap.size, i, none⟩ = some (.bool (g i))) := fun i hi => M2.cell hi
    have X1' : Hid (∀ i, i < n → w2.cell? ⟨w.heap.size, i, none⟩ = some (.string (f i))) := fun i hi => (B2.cell L1).trans (X1.out i hi)
    clear M2
    go_wp2_with fail
    refine (mixed_no w.heap.size 0 n n w1.heap.size 0 n j f g hn _ (by omega) L2 (fun i hi => by rw [Nat.zero_add]; exact X1'.out i hi) (fun i hi => by rw [Nat.zero_add]; exact X2.out i hi) hj HG.out).mono ?_
    rintro e w3 ⟨rfl, B3⟩
    have hb : Below w.heap.size w w3 := (B1.trans (B2.mono (by omega))).trans (B3.mono (by omega))
    have Y2 : Hid (∀ i, i < n → w3.cell? ⟨w1.heap.size, i, none⟩ = some (.bool (g i))) := fun i hi => (B3.cell L2).trans (X2.out i hi)
    clear X1 X1' X2 B1 B2 B3 L1 L2 HC HC1 hbB hbB1
    go_wp2
    go_loop [7, 8] (fun v i => AllRel n j v i) (fun _ i => n - (intOf i).toNat)
    case atStart => exact ⟨0, true, Nat.zero_le _, rfl, rfl, fun h => absurd h (Nat.not_lt_zero _)⟩
    case round =>
      obtain ⟨k, x, hk, rfl, rfl, hx⟩ := hrel
      have HX : Hid (j < k → x = false) := hx
      clear hx
      by_cases hlt : k < n
      · have hck := Y2.out k hlt
        clear Y2
        cases hgk : g k with
        | true =>
          have hjk : j < k + 1 → x = false := fun h => by
            rcases Nat.lt_or_ge j k with h' | h'
            · exact HX.out h'
            · have := HG.out
              rw [show j = k by omega, hgk] at this
              cases this
          have HX2 : Hid (j < k + 1 → x = false) := hjk
          rw [hgk] at hck
          clear hgk hjk
          go_wp2
          go_round
          case rel => exact ⟨k + 1, x, by omega, by go_num, rfl, HX2.out⟩
          case measure => simp [intOf]; omega
        | false =>
          rw [hgk] at hck
          clear hgk
          go_wp2
          go_round
          case rel => exact ⟨k + 1, false, by omega, by go_num, rfl, fun _ => rfl⟩
          case measure => simp [intOf]; omega
      · obtain rfl : x = false := HX.out (by omega)
        clear Y2
        go_wp2
        go_ret
        exact ⟨rfl, hb⟩

set_option maxHeartbeats 1000000 in
/-- Two slices of no elements. -/
theorem lawA_zero (a a1 : Option Addr) (c c1 : Nat) (w : World) :
    Calls Uawg.prog 3 #[.slice a 0 c, .slice a1 0 c1] w fun e w' => e = .returned (.bool true) ∧ Below w.heap.size w w' := by
  have hq : ∀ (w : World) (a : Option Addr) (n c : Nat), (binOp .eql 22 (.slice a n c) (.slice none 0 0)).run Uawg.prog w = .ok (.bool a.isNone) w := fun w a n c => Lib.run_eql_slice_nil w _ _ a n c 0 0 Uawg.underlying22
  go_enter Uawg.func3, Uawg.ntmps3
  go_wp2_with fail
  refine (small5_none a a1 c 0 c1 _).mono ?_
  rintro e w ⟨⟨t, rfl⟩, rfl⟩
  cases t with
  | false =>
    go_wp2
    go_ret
    exact ⟨rfl, Below.refl _ _⟩
  | true =>
    go_wp2_with fail
    refine (bytes_none a a1 c 0 c1 _).mono ?_
    rintro e w ⟨⟨t, rfl⟩, rfl⟩
    go_wp2_with fail
    · go_ret
      exact ⟨rfl, Below.refl _ _⟩
    refine (cloneStrs_zero a c _).mono ?_
    rintro e w1 ⟨a', c', rfl, B1⟩
    go_wp2_with fail
    refine (cloneBools_zero a1 c1 _).mono ?_
    rintro e w2 ⟨a1', c1', rfl, B2⟩
    go_wp2_with fail
    refine (mixed_zero a' a1' c' 0 c1' _).mono ?_
    rintro e w3 ⟨g', rfl, B3⟩
    have hb : Below w.heap.size w w3 := (B1.trans (B2.mono B1.size)).trans (B3.mono (Nat.le_trans B1.size B2.size))
    clear B1 B2 B3
    go_wp2
    refine wp_loop_rounds 1 ?_
    rw [rounds_succ]
    go_wp2
    refine wp_loop_rounds 1 ?_
    rw [rounds_succ]
    go_wp2
    go_ret
    exact ⟨rfl, hb⟩

set_option maxHeartbeats 1000000 in
/-- Too long, or of different lengths. -/
theorem lawA_out (a a1 : Option Addr) (n c n1 c1 : Nat) (f : Nat → ByteArray) (hM : n ≤ maxLen) (w : World) (h : Leads w a n (fun i => .string (f i))) (hd : 65536 < n ∨ ¬ n1 = n) :
    Calls Uawg.prog 3 #[.slice a n c, .slice a1 n1 c1] w fun e w' => e = .returned (.bool true) ∧ Below w.heap.size w w' := by
  have H : Hid (Leads w a n (fun i => .string (f i))) := h
  clear h
  by_cases h1 : n ≤ 65536
  · have hne : ((n1 : Int) != (n : Int)) = true := by rw [bne_iff_ne]; omega
    clear hd
    by_cases h2 : n1 ≤ 65536
    · go_enter Uawg.func3, Uawg.ntmps3
      go_wp2_with fail
      refine (small5_any a a1 n c n1 c1 f hM _ H.out).mono ?_
      rintro e w ⟨⟨t, rfl⟩, rfl⟩
      cases t with
      | false =>
        go_wp2
        go_ret
        exact ⟨rfl, Below.refl _ _⟩
      | true =>
        go_wp2_with fail
        refine (bytes_any a a1 n c n1 c1 f hM _ H.out).mono ?_
        rintro e w ⟨⟨t, rfl⟩, rfl⟩
        go_wp2_with fail
        all_goals (go_ret; exact ⟨rfl, Below.refl _ _⟩)
    · go_enter Uawg.func3, Uawg.ntmps3
      go_wp2_with fail
      refine (small5_any a a1 n c n1 c1 f hM _ H.out).mono ?_
      rintro e w ⟨⟨t, rfl⟩, rfl⟩
      cases t with
      | false =>
        go_wp2
        go_ret
        exact ⟨rfl, Below.refl _ _⟩
      | true =>
        go_wp2_with fail
        go_ret
        exact ⟨rfl, Below.refl _ _⟩
  · clear hd
    go_enter Uawg.func3, Uawg.ntmps3
    go_wp2_with fail
    refine (small5_any a a1 n c n1 c1 f hM _ H.out).mono ?_
    rintro e w ⟨⟨t, rfl⟩, rfl⟩
    cases t with
    | false =>
      go_wp2
      go_ret
      exact ⟨rfl, Below.refl _ _⟩
    | true =>
      go_wp2_with fail
      go_ret
      exact ⟨rfl, Below.refl _ _⟩

/-- THE WALK OF THE LAW, whatever the two slices. -/
theorem lawA_walk (a a1 : Option Addr) (n c n1 c1 : Nat) (f : Nat → ByteArray) (g : Nat → Bool) (hM : n ≤ maxLen) (w : World) (h : Leads w a n (fun i => .string (f i))) (h1 : Leads w a1 n1 (fun i => .bool (g i))) :
    Calls Uawg.prog 3 #[.slice a n c, .slice a1 n1 c1] w fun e w' => e = .returned (.bool true) ∧ Below w.heap.size w w' := by
  by_cases hd : 65536 < n ∨ ¬ n1 = n
  · exact lawA_out a a1 n c n1 c1 f hM w h hd
  · obtain rfl : n1 = n := by omega
    by_cases h0 : n1 = 0
    · subst h0
      exact lawA_zero a a1 c c1 w
    · rcases h with h | ⟨b, off, rfl, hc⟩
      · exact absurd h h0
      rcases h1 with h1 | ⟨b1, off1, rfl, hc1⟩
      · exact absurd h1 h0
      by_cases hall : ∀ i, i < n1 → g i = true
      · exact lawA_yes b off n1 c b1 off1 c1 f g (by omega) (by omega) w hc hc1 hall
      · have hex : ∃ j, j < n1 ∧ g j = false := by
          apply Classical.byContradiction
          intro hno
          apply hall
          intro i hi
          cases hg : g i with
          | true => rfl
          | false => exact absurd ⟨i, hi, hg⟩ hno
        obtain ⟨j, hj, hgj⟩ := hex
        exact lawA_no b off n1 c b1 off1 c1 j f g (by omega) w hc hc1 hj hgj

end Go.Proofs.Youaww
