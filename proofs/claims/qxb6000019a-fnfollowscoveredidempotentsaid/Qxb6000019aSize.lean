/-
  The two size guards: zzBytes_FnFollowsCoveredIdempotent (26): some bool · zzBytes (10): some int. Neither turns the world.
-/
import Derived.Test.Qxb6000019aRows
import Derived.WalkKit
import Derived.WalkSpells
import Derived.WalkLawsBesides
namespace Go.Proofs.Qxb6000019a
open Go.RowKit

/-- Some bool came back; the world is as it was. -/
def SomeBool (w : World) (e : Ending) (w' : World) : Prop := ∃ x : Bool, e = .returned (.bool x) ∧ w' = w
/-- Some int came back; the world is as it was. -/
def SomeInt (w : World) (e : Ending) (w' : World) : Prop := ∃ x : Int, 0 ≤ x ∧ x ≤ 4000000 ∧ e = .returned (.int .i64 x) ∧ w' = w

set_option maxHeartbeats 1000000 in
theorem guard_some (s : ByteArray) (hs : s.size ≤ maxLen) (b off n c : Nat) (S : Nat → ByteArray) (hS : ∀ i, i < n → (S i).size ≤ maxLen) (hn : n ≤ maxLen) (a2 : Option Addr) (n2 c2 : Nat) (hn2 : n2 ≤ maxLen) (w : World)
    (hc : ∀ i, i < n → w.cell? ⟨b, off + i, none⟩ = some (.string (S i))) :
    Calls Try.prog 26 #[.string s, .slice (some ⟨b, off, none⟩) n c, .slice a2 n2 c2] w (SomeBool w) := by
  unfold maxLen at hs hn hn2
  by_cases h1 : (1048576 : Int) < s.size
  · go_enter Try.func26, Try.ntmps26
    go_wp2
    go_ret
    exact ⟨_, rfl, rfl⟩
  by_cases h2 : (1048576 : Int) < n
  · go_enter Try.func26, Try.ntmps26
    go_wp2
    go_ret
    exact ⟨_, rfl, rfl⟩
  by_cases h3 : (1048576 : Int) < s.size + n
  · go_enter Try.func26, Try.ntmps26
    go_wp2
    go_ret
    exact ⟨_, rfl, rfl⟩
  go_enter Try.func26, Try.ntmps26
  go_wp2
  go_loop [7, 8] (fun t i => ∃ (k : Nat) (z : Int), k ≤ n ∧ i = .int .i64 k ∧ t = .int .i64 z ∧ 0 ≤ z ∧ z ≤ 1048576) (fun _ i => n - (intOf i).toNat)
  case atStart => exact ⟨0, _, Nat.zero_le _, rfl, rfl, by omega, by omega⟩
  case round =>
    obtain ⟨k, z, hk, rfl, rfl, hz0, hz1⟩ := hrel
    by_cases hlt : k < n
    · have hck := hc k hlt
      have hSk := hS k hlt
      unfold maxLen at hSk
      clear hc hS
      go_wp2
      · go_ret
        exact ⟨_, rfl, rfl⟩
      · go_ret
        exact ⟨_, rfl, rfl⟩
      · go_round
        case rel => exact ⟨k + 1, _, by omega, by go_num, rfl, by omega, by omega⟩
        case measure => simp [intOf]; omega
    · clear hc hS
      go_wp2
      all_goals
        go_ret
        exact ⟨_, rfl, rfl⟩

set_option maxHeartbeats 1000000 in
/-- No key at all, wherever the slice leads. -/
theorem guard_none (s : ByteArray) (hs : s.size ≤ maxLen) (a : Option Addr) (c : Nat) (a2 : Option Addr) (n2 c2 : Nat) (hn2 : n2 ≤ maxLen) (w : World) :
    Calls Try.prog 26 #[.string s, .slice a 0 c, .slice a2 n2 c2] w (SomeBool w) := by
  unfold maxLen at hs hn2
  by_cases h1 : (1048576 : Int) < s.size
  · go_enter Try.func26, Try.ntmps26
    go_wp2
    go_ret
    exact ⟨_, rfl, rfl⟩
  go_enter Try.func26, Try.ntmps26
  go_wp2
  refine wp_loop_rounds 1 ?_
  rw [rounds_succ]
  go_wp2
  all_goals
    go_ret
    exact ⟨_, rfl, rfl⟩

set_option maxHeartbeats 1000000 in
theorem bytes_some (b off n c : Nat) (S : Nat → ByteArray) (hS : ∀ i, i < n → (S i).size ≤ maxLen) (hn : n ≤ 65536) (a2 : Option Addr) (n2 c2 : Nat) (hn2 : n2 ≤ 65536) (w : World)
    (hc : ∀ i, i < n → w.cell? ⟨b, off + i, none⟩ = some (.string (S i))) :
    Calls Try.prog 10 #[.slice (some ⟨b, off, none⟩) n c, .slice a2 n2 c2] w (SomeInt w) := by
  go_enter Try.func10, Try.ntmps10
  go_wp2
  go_loop [5, 6] (fun t i => ∃ (k : Nat) (z : Int), k ≤ n ∧ i = .int .i64 k ∧ t = .int .i64 z ∧ 0 ≤ z ∧ z ≤ 1572864) (fun _ i => n - (intOf i).toNat)
  case atStart => exact ⟨0, _, Nat.zero_le _, rfl, rfl, by omega, by omega⟩
  case round =>
    obtain ⟨k, z, hk, rfl, rfl, hz0, hz1⟩ := hrel
    by_cases hlt : k < n
    · have hck := hc k hlt
      have hSk := hS k hlt
      unfold maxLen at hSk
      clear hc hS
      go_wp2
      · go_ret
        exact ⟨_, by omega, by omega, rfl, rfl⟩
      · go_ret
        exact ⟨_, by omega, by omega, rfl, rfl⟩
      · go_round
        case rel => exact ⟨k + 1, _, by omega, by go_num, rfl, by omega, by omega⟩
        case measure => simp [intOf]; omega
    · clear hc hS
      go_wp2
      go_ret
      exact ⟨_, by omega, by omega, rfl, rfl⟩

set_option maxHeartbeats 1000000 in
theorem bytes_none (a : Option Addr) (c : Nat) (a2 : Option Addr) (n2 c2 : Nat) (hn2 : n2 ≤ 65536) (w : World) :
    Calls Try.prog 10 #[.slice a 0 c, .slice a2 n2 c2] w (SomeInt w) := by
  go_enter Try.func10, Try.ntmps10
  go_wp2
  refine wp_loop_rounds 1 ?_
  rw [rounds_succ]
  go_wp2
  all_goals
    go_ret
    exact ⟨_, by omega, by omega, rfl, rfl⟩

end Go.Proofs.Qxb6000019a
