/-
  The contracts of the functions that only read: 5, 6, 10. What they answer does not matter to the laws: SOME bool, SOME int; the world is as it was.
-/
import Derived.Test.YouawwBase
namespace Go.Proofs.Youaww
open Go.RowKit

/-- It returns a bool. (Behind a name: the walk's simp writes '∃ t : Bool' as an 'or'.) -/
def SomeBool (e : Ending) : Prop := ∃ t, e = .returned (.bool t)

set_option maxHeartbeats 1000000 in
/-- 'zzBytes': it returns some number. -/
theorem bytes_at (b off n c n1 c1 : Nat) (a1 : Option Addr) (f : Nat → ByteArray) (hn : n ≤ maxLen) (w : World) (hc : ∀ i, i < n → w.cell? ⟨b, off + i, none⟩ = some (.string (f i))) :
    Calls Uawg.prog 6 #[.slice (some ⟨b, off, none⟩) n c, .slice a1 n1 c1] w fun e w' => (∃ t, e = .returned (.int .i64 t)) ∧ w' = w := by
  unfold maxLen at hn
  go_enter Uawg.func6, Uawg.ntmps6
  go_wp2
  go_loop [5, 6] (fun t i => ∃ (k : Nat) (s : Int), k ≤ n ∧ i = .int .i64 k ∧ t = .int .i64 s) (fun _ i => n - (intOf i).toNat)
  case atStart => exact ⟨0, _, Nat.zero_le _, rfl, rfl⟩
  case round =>
    obtain ⟨k, s, hk, rfl, rfl⟩ := hrel
    by_cases hlt : k < n
    · have hck := hc k hlt
      clear hc
      go_wp2
      · go_ret
        exact ⟨⟨_, rfl⟩, rfl⟩
      · go_round
        case rel => exact ⟨k + 1, _, by omega, by go_num, rfl⟩
        case measure => simp [intOf]; omega
    · go_wp2
      go_ret
      exact ⟨⟨_, rfl⟩, rfl⟩

/-- The same at a slice of no elements, whatever its address. -/
theorem bytes_none (a a1 : Option Addr) (c n1 c1 : Nat) (w : World) :
    Calls Uawg.prog 6 #[.slice a 0 c, .slice a1 n1 c1] w fun e w' => (∃ t, e = .returned (.int .i64 t)) ∧ w' = w := by
  go_enter Uawg.func6, Uawg.ntmps6
  go_wp2
  refine wp_loop_rounds 1 ?_
  rw [rounds_succ]
  go_wp2
  go_ret
  exact ⟨⟨_, rfl⟩, rfl⟩

theorem bytes_any (a a1 : Option Addr) (n c n1 c1 : Nat) (f : Nat → ByteArray) (hn : n ≤ maxLen) (w : World) (h : Leads w a n (fun i => .string (f i))) :
    Calls Uawg.prog 6 #[.slice a n c, .slice a1 n1 c1] w fun e w' => (∃ t, e = .returned (.int .i64 t)) ∧ w' = w := by
  rcases h with rfl | ⟨b, off, rfl, hc⟩
  · exact bytes_none a a1 c n1 c1 w
  · exact bytes_at b off n c n1 c1 a1 f hn w hc

set_option maxHeartbeats 1000000 in
/-- 'zzBytes_FnToArrayStrMixedExact': it returns some bool. -/
theorem small5_at (b off n c n1 c1 : Nat) (a1 : Option Addr) (f : Nat → ByteArray) (hn : n ≤ maxLen) (w : World) (hc : ∀ i, i < n → w.cell? ⟨b, off + i, none⟩ = some (.string (f i))) :
    Calls Uawg.prog 5 #[.slice (some ⟨b, off, none⟩) n c, .slice a1 n1 c1] w fun e w' => SomeBool e ∧ w' = w := by
  unfold maxLen at hn
  go_enter Uawg.func5, Uawg.ntmps5
  go_wp2
  · go_ret
    exact ⟨⟨_, rfl⟩, rfl⟩
  go_loop [5, 6] (fun t i => ∃ (k : Nat) (s : Int), k ≤ n ∧ i = .int .i64 k ∧ t = .int .i64 s) (fun _ i => n - (intOf i).toNat)
  case atStart => exact ⟨0, _, Nat.zero_le _, rfl, rfl⟩
  case round =>
    obtain ⟨k, s, hk, rfl, rfl⟩ := hrel
    by_cases hlt : k < n
    · have hck := hc k hlt
      clear hc
      go_wp2
      · go_ret
        exact ⟨⟨_, rfl⟩, rfl⟩
      · go_ret
        exact ⟨⟨_, rfl⟩, rfl⟩
      · go_round
        case rel => exact ⟨k + 1, _, by omega, by go_num, rfl⟩
        case measure => simp [intOf]; omega
    · go_wp2
      all_goals (go_ret; exact ⟨⟨_, rfl⟩, rfl⟩)

theorem small5_none (a a1 : Option Addr) (c n1 c1 : Nat) (w : World) :
    Calls Uawg.prog 5 #[.slice a 0 c, .slice a1 n1 c1] w fun e w' => SomeBool e ∧ w' = w := by
  go_enter Uawg.func5, Uawg.ntmps5
  go_wp2
  refine wp_loop_rounds 1 ?_
  rw [rounds_succ]
  go_wp2
  all_goals (go_ret; exact ⟨⟨_, rfl⟩, rfl⟩)

theorem small5_any (a a1 : Option Addr) (n c n1 c1 : Nat) (f : Nat → ByteArray) (hn : n ≤ maxLen) (w : World) (h : Leads w a n (fun i => .string (f i))) :
    Calls Uawg.prog 5 #[.slice a n c, .slice a1 n1 c1] w fun e w' => SomeBool e ∧ w' = w := by
  rcases h with rfl | ⟨b, off, rfl, hc⟩
  · exact small5_none a a1 c n1 c1 w
  · exact small5_at b off n c n1 c1 a1 f hn w hc

set_option maxHeartbeats 1000000 in
/-- 'zzBytes_FnToArrayStrRefusesNonInterfaceSlices': it returns some bool. -/
theorem small10_at (b off n c : Nat) (s1 : ByteArray) (x2 : Value) (f : Nat → ByteArray) (hn : n ≤ maxLen) (w : World) (hc : ∀ i, i < n → w.cell? ⟨b, off + i, none⟩ = some (.string (f i))) :
    Calls Uawg.prog 10 #[.slice (some ⟨b, off, none⟩) n c, .string s1, x2] w fun e w' => SomeBool e ∧ w' = w := by
  unfold maxLen at hn
  go_enter Uawg.func10, Uawg.ntmps10
  go_wp2
  · go_ret
    exact ⟨⟨_, rfl⟩, rfl⟩
  go_loop [7, 8] (fun t i => ∃ (k : Nat) (s : Int), k ≤ n ∧ i = .int .i64 k ∧ t = .int .i64 s) (fun _ i => n - (intOf i).toNat)
  case atStart => exact ⟨0, _, Nat.zero_le _, rfl, rfl⟩
  case round =>
    obtain ⟨k, s, hk, rfl, rfl⟩ := hrel
    by_cases hlt : k < n
    · have hck := hc k hlt
      clear hc
      go_wp2
      · go_ret
        exact ⟨⟨_, rfl⟩, rfl⟩
      · go_ret
        exact ⟨⟨_, rfl⟩, rfl⟩
      · go_round
        case rel => exact ⟨k + 1, _, by omega, by go_num, rfl⟩
        case measure => simp [intOf]; omega
    · go_wp2
      all_goals (go_ret; exact ⟨⟨_, rfl⟩, rfl⟩)

theorem small10_none (a : Option Addr) (c : Nat) (s1 : ByteArray) (x2 : Value) (w : World) :
    Calls Uawg.prog 10 #[.slice a 0 c, .string s1, x2] w fun e w' => SomeBool e ∧ w' = w := by
  go_enter Uawg.func10, Uawg.ntmps10
  go_wp2
  refine wp_loop_rounds 1 ?_
  rw [rounds_succ]
  go_wp2
  all_goals (go_ret; exact ⟨⟨_, rfl⟩, rfl⟩)

theorem small10_any (a : Option Addr) (n c : Nat) (s1 : ByteArray) (x2 : Value) (f : Nat → ByteArray) (hn : n ≤ maxLen) (w : World) (h : Leads w a n (fun i => .string (f i))) :
    Calls Uawg.prog 10 #[.slice a n c, .string s1, x2] w fun e w' => SomeBool e ∧ w' = w := by
  rcases h with rfl | ⟨b, off, rfl, hc⟩
  · exact small10_none a c s1 x2 w
  · exact small10_at b off n c s1 x2 f hn w hc

end Go.Proofs.Youaww
