/-
  The walk of 4 (FnToArrayStrRefusesNonInterfaceSlices).
-/
import Derived.Test.YouawwMixed
namespace Go.Proofs.Youaww
open Go.RowKit

/-- 'zzCloneStrs', whatever the slice: a slice; nothing old has turned. -/
theorem cloneStrs_any (a : Option Addr) (n c : Nat) (f : Nat → ByteArray) (hn : n ≤ 65536) (w : World) (h : Leads w a n (fun i => .string (f i))) :
    Calls Uawg.prog 7 #[.slice a n c] w fun e w' => ∃ a' n' c', e = .returned (.slice a' n' c') ∧ Below w.heap.size w w' := by
  by_cases h0 : n = 0
  · subst h0
    refine (cloneStrs_zero a c w).mono ?_
    rintro e w' ⟨a', c', he, hb⟩
    exact ⟨a', 0, c', he, hb⟩
  · rcases h with h | ⟨b, off, rfl, hc⟩
    · exact absurd h h0
    · refine (cloneStrs_at b off n c f hn w (World.block_lt_of_cell? _ _ (hc 0 (by omega))) hc).mono ?_
      rintro e w' ⟨he, M⟩
      exact ⟨_, _, _, he, M.bel⟩

set_option maxHeartbeats 1000000 in
theorem lawB_walk (a : Option Addr) (n c : Nat) (f : Nat → ByteArray) (hn : n ≤ maxLen) (s : ByteArray) (x : Value) (w : World) (h : Leads w a n (fun i => .string (f i))) :
    Calls Uawg.prog 4 #[.slice a n c, .string s, x] w fun e w' => e = .returned (.bool true) ∧ Below w.heap.size w w' := by
  have hq : ∀ (w : World) (a : Option Addr) (n c : Nat), (binOp .eql 22 (.slice a n c) (.slice none 0 0)).run Uawg.prog w = .ok (.bool a.isNone) w := fun w a n c => Lib.run_eql_slice_nil w _ _ a n c 0 0 Uawg.underlying22
  have hq' : ∀ (w : World) (a : Option Addr) (n c : Nat), (binOp .neq 22 (.slice a n c) (.slice none 0 0)).run Uawg.prog w = .ok (.bool (!a.isNone)) w := fun w a n c => run_neq_slice_nil_any w _ _ a n c 0 0 Uawg.underlying22
  have H : Hid (Leads w a n (fun i => .string (f i))) := h
  clear h
  by_cases h1 : n ≤ 65536
  · by_cases h2 : s.size ≤ 1048576
    · go_enter Uawg.func4, Uawg.ntmps4
      go_wp2_with fail
      refine (small10_any a n c s x f hn _ H.out).mono ?_
      rintro e w1 ⟨⟨t, rfl⟩, rfl⟩
      cases t with
      | false =>
        go_wp2
        go_ret
        exact ⟨rfl, Below.refl _ _⟩
      | true =>
        go_wp2_with fail
        refine (bytes_any a none n c 0 0 f hn _ H.out).mono ?_
        rintro e w1 ⟨⟨t, rfl⟩, rfl⟩
        go_wp2_with fail
        · go_ret
          exact ⟨rfl, Below.refl _ _⟩
        refine (cloneStrs_any a n c f h1 _ H.out).mono ?_
        rintro e w1 ⟨a', n', c', rfl, hb⟩
        go_wp2_with fail
        refine (strings_any _ _).mono ?_
        rintro e w2 ⟨rfl, rfl⟩
        go_wp2_with fail
        refine (string_any _ _).mono ?_
        rintro e w2 ⟨rfl, rfl⟩
        go_wp2_with fail
        refine (float_any _ _).mono ?_
        rintro e w2 ⟨rfl, rfl⟩
        go_wp2_with fail
        refine (nil_any _).mono ?_
        rintro e w2 ⟨rfl, rfl⟩
        go_wp2
        go_ret
        exact ⟨rfl, hb⟩
    · go_enter Uawg.func4, Uawg.ntmps4
      go_wp2_with fail
      refine (small10_any a n c s x f hn _ H.out).mono ?_
      rintro e w1 ⟨⟨t, rfl⟩, rfl⟩
      cases t with
      | false =>
        go_wp2
        go_ret
        exact ⟨rfl, Below.refl _ _⟩
      | true =>
        go_wp2_with fail
        go_ret
        exact ⟨rfl, Below.refl _ _⟩
  · go_enter Uawg.func4, Uawg.ntmps4
    go_wp2_with fail
    refine (small10_any a n c s x f hn _ H.out).mono ?_
    rintro e w1 ⟨⟨t, rfl⟩, rfl⟩
    cases t with
    | false =>
      go_wp2
      go_ret
      exact ⟨rfl, Below.refl _ _⟩
    | true =>
      go_wp2_with fail
      go_ret
      exact ⟨rfl, Below.refl _ _⟩

end Go.Proofs.Youaww
