/-
  NodeOf (28), by way of strings.Cut (29, 30), Index (31), IndexByte (32) at the one-byte separator.
-/
import Derived.Test.Qxb6000019aRows
import Derived.WalkKit
import Derived.WalkSpells
import Derived.WalkLawsBesides
import Derived.Lib.Bytealg
import Derived.Lib.Strings
import Derived.Lib.IndexLaws
import Derived.Deep.Draws
import Derived.Deep.QuietTactic
import Derived.BigQuiet
import Derived.RegionTactic
namespace Go.Proofs.Qxb6000019a
open Go.RowKit

set_option maxHeartbeats 400000 in
theorem ib_any (s : ByteArray) (c : Int) (w : World) :
    Calls Try.prog 32 #[.string s, .int .u8 c] w fun e w' => e = .returned (.int .i64 (Lib.indexByte s.data.toList c.toNat.toUInt8)) ∧ w' = w := by
  go_enter Try.func32, Try.ntmps32
  go_wp2
  rw [run_callFunc_extern Try.func36 (by kernel_rfl) (by kernel_rfl) (by kernel_rfl) (e := Extern.BytealgIndexByte.indexByte) (by kernel_rfl), Lib.run_indexByteString]
  simp only [Result.andThen]
  rw [Oper.upon_value]
  go_wp2
  go_ret
  exact ⟨rfl, rfl⟩

theorem ret_int {k : IntKind} {a b : Int} (h : a = b) : Ending.returned (.int k a) = .returned (.int k b) := by rw [h]

theorem one_at (s : ByteArray) (h : ([126] == s.toList) = true) : Lib.indexByte s.data.toList 126 = 0 := by
  have e : s.toList = [126] := (eq_of_beq h).symm
  rw [← Lib.toList_data, e]
  rfl

set_option maxHeartbeats 400000 in
/-- Index at a separator of the one byte 126: the first place of that byte, or -1. -/
theorem ix_any (s : ByteArray) (w : World) :
    Calls Try.prog 31 #[.string s, .string ⟨#[126]⟩] w fun e w' => e = .returned (.int .i64 (Lib.indexByte s.data.toList 126)) ∧ w' = w := by
  go_enter Try.func31, Try.ntmps31
  go_wp2_with (first | (go_at_call 32; refine (ib_any _ _ _).mono ?_; rintro e w' ⟨rfl, rfl⟩))
  · have h : ([126] == s.toList) = true := by assumption
    go_ret
    exact ⟨ret_int (one_at s h).symm, rfl⟩
  · go_ret
    exact ⟨ret_int rfl, rfl⟩

/-- The part ahead of the first byte 126. -/
def nodeB (s : ByteArray) : ByteArray := if Lib.indexByte s.data.toList 126 < 0 then s else s.extract 0 (Lib.indexByte s.data.toList 126).toNat

/-- Where the byte lies: nowhere, or at a place inside. -/
theorem ib_cases (l : List UInt8) (c : UInt8) : Lib.indexByte l c = -1 ∨ ∃ i : Nat, Lib.indexByte l c = i ∧ i < l.length := by
  have h := Lib.indexByte_ge l c
  by_cases e : Lib.indexByte l c = -1
  · exact .inl e
  · have e2 : Lib.indexByte l c = ((Lib.indexByte l c).toNat : Int) := by omega
    obtain ⟨h1, _⟩ := Lib.indexByte_some e2
    exact .inr ⟨_, e2, (List.getElem?_eq_some_iff.1 h1).1⟩

set_option maxHeartbeats 400000 in
theorem cut_any (s : ByteArray) (hs : s.size ≤ maxLen) (w : World) :
    Calls Try.prog 30 #[.string s, .string ⟨#[126]⟩] w fun e w' => ∃ t b n, e = .returned (.tuple #[.string (nodeB s), .string t, .bool b]) ∧ w' = w.drewN n := by
  unfold maxLen at hs
  rcases ib_cases s.data.toList 126 with hix | ⟨i, hix, hi⟩
  · have en : nodeB s = s := by unfold nodeB; rw [hix, if_pos (by decide)]
    rw [en]
    go_enter Try.func30, Try.ntmps30
    go_wp2_with (go_at_call 31; refine (ix_any _ _).mono ?_; rintro e w' ⟨rfl, rfl⟩; rw [hix])
    go_ret3
    exact ⟨_, _, 0, rfl, rfl⟩
  · have en : nodeB s = s.extract 0 i := by unfold nodeB; rw [hix, if_neg (by omega)]; rfl
    rw [en]
    rw [← Lib.size_eq] at hi
    have c1 : (0 : Int) ≤ ↑i := by omega
    have c2 : (↑i : Int) ≤ ↑s.size := by omega
    have c3 : (0 : Int) ≤ ↑i + 1 := by omega
    have c4 : (↑i + 1 : Int) ≤ ↑s.size := by omega
    go_enter Try.func30, Try.ntmps30
    go_wp2_with (go_at_call 31; refine (ix_any _ _).mono ?_; rintro e w' ⟨rfl, rfl⟩; rw [hix])
    go_region
    go_wp2
    go_ret3
    exact ⟨_, _, 1, rfl, rfl⟩

set_option maxHeartbeats 400000 in
theorem scut_any (s : ByteArray) (hs : s.size ≤ maxLen) (w : World) :
    Calls Try.prog 29 #[.string s, .string ⟨#[126]⟩] w fun e w' => ∃ t b n, e = .returned (.tuple #[.string (nodeB s), .string t, .bool b]) ∧ w' = w.drewN n := by
  go_enter Try.func29, Try.ntmps29
  go_wp2_with (go_at_call 30; refine (cut_any _ hs _).mono ?_; rintro e w' ⟨t, b, n, rfl, rfl⟩)
  go_ret3
  exact ⟨_, _, _, rfl, rfl⟩

set_option maxHeartbeats 400000 in
/-- NodeOf. -/
theorem node_any (s : ByteArray) (hs : s.size ≤ maxLen) (w : World) :
    Calls Try.prog 28 #[.string s] w fun e w' => ∃ n, e = .returned (.string (nodeB s)) ∧ w' = w.drewN n := by
  go_enter Try.func28, Try.ntmps28
  go_wp2_with (go_at_call 29; refine (scut_any _ hs _).mono ?_; rintro e w' ⟨t, b, n, rfl, rfl⟩)
  go_ret
  exact ⟨_, rfl, rfl⟩

end Go.Proofs.Qxb6000019a
