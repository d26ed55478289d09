/-
  The lexer in memory; next (25).
-/
import Derived.Test.Qxb6000614aRows
import Derived.WalkKit
import Derived.WalkSpells
import Derived.WalkLawsBesides
import Derived.Deep.Draws
import Derived.Deep.QuietTactic
import Derived.BigQuiet
import Derived.RegionTactic
import Derived.Lib.Bytealg
namespace Go.Proofs.Qxb6000614a
open Go.RowKit

/-- Block lb holds a lexer over s at place i. -/
def Lex (w : World) (lb : Nat) (s : ByteArray) (i : Int) : Prop := w.heap[lb]? = some (.cells #[.string s, .int .i64 i] 48 (0, 0))

theorem Lex.c0 {w : World} {lb : Nat} {s : ByteArray} {i : Int} (h : Lex w lb s i) : w.cell? ⟨lb, 0, none⟩ = some (.string s) := by unfold Lex at h; simp [World.cell?, h]
theorem Lex.c1 {w : World} {lb : Nat} {s : ByteArray} {i : Int} (h : Lex w lb s i) : w.cell? ⟨lb, 1, none⟩ = some (.int .i64 i) := by unfold Lex at h; simp [World.cell?, h]
theorem Lex.f1 {w : World} {lb : Nat} {s : ByteArray} {i : Int} (h : Lex w lb s i) : w.frozen? ⟨lb, 1, none⟩ = false := by unfold Lex at h; simp [World.frozen?, h]
theorem Lex.set {w : World} {lb : Nat} {s : ByteArray} {i : Int} (h : Lex w lb s i) (j : Int) : Lex (w.setCell ⟨lb, 1, none⟩ (.int .i64 j)) lb s j := by
  unfold Lex at h ⊢
  simp [World.setCell, Array.getElem?_modify, h]
theorem Lex.lt {w : World} {lb : Nat} {s : ByteArray} {i : Int} (h : Lex w lb s i) : lb < w.heap.size := (Array.getElem?_eq_some_iff.1 h).1
theorem Lex.below {B lb : Nat} {w w' : World} {s : ByteArray} {i : Int} (h : Lex w lb s i) (hb : Below B w w') (hB : lb < B) : Lex w' lb s i := (hb.block lb hB).trans h
theorem Lex.drewN {w : World} {lb n : Nat} {s : ByteArray} {i : Int} (h : Lex w lb s i) : Lex (w.drewN n) lb s i := h
theorem below_drewN {B m : Nat} {w w' : World} (h : Below B w w') : Below B w (w'.drewN m) := ⟨h.os, h.tape, h.output, h.size, h.block⟩

set_option maxHeartbeats 400000 in
theorem next_end (lb : Nat) (s : ByteArray) (i : Nat) (hi : ¬ i < s.size) (w : World) (hx : Lex w lb s i) :
    Calls Try.prog 25 #[.pointer (some ⟨lb, 0, none⟩), .int .u8 34] w fun e w' => ∃ n, e = .returned (.bool false) ∧ w' = w.drewN n := by
  have c0 := hx.c0
  have c1 := hx.c1
  have hd : decide ((i : Int) < (s.size : Int)) = false := by simpa using hi
  clear hx
  go_enter Try.func25, Try.ntmps25
  go_wp2
  go_quiet (fail)
  go_wp2
  go_ret
  exact ⟨_, rfl, rfl⟩

set_option maxHeartbeats 400000 in
theorem next_no (lb : Nat) (s : ByteArray) (i : Nat) (hi : i < s.size) (hb : ((s[i].toNat : Int) == 34) = false) (w : World) (hx : Lex w lb s i) :
    Calls Try.prog 25 #[.pointer (some ⟨lb, 0, none⟩), .int .u8 34] w fun e w' => ∃ n, e = .returned (.bool false) ∧ w' = w.drewN n := by
  have c0 := hx.c0
  have c1 := hx.c1
  have hd : (i : Int) < (s.size : Int) := by omega
  clear hx
  go_enter Try.func25, Try.ntmps25
  go_wp2
  go_quiet (fail)
  go_wp2
  go_ret
  exact ⟨_, rfl, rfl⟩

set_option maxHeartbeats 400000 in
theorem next_yes (lb : Nat) (s : ByteArray) (i : Nat) (hi : i < s.size) (hs : s.size ≤ 1048576) (hb : ((s[i].toNat : Int) == 34) = true) (w : World) (hx : Lex w lb s i) :
    Calls Try.prog 25 #[.pointer (some ⟨lb, 0, none⟩), .int .u8 34] w fun e w' => e = .returned (.bool true) ∧ Lex w' lb s (i + 1) ∧ Below lb w w' := by
  have c0 := hx.c0
  have c1 := hx.c1
  have f1 := hx.f1
  have hd : (i : Int) < (s.size : Int) := by omega
  have HX : Hid (Lex w lb s i) := hx
  clear hx
  go_enter Try.func25, Try.ntmps25
  go_wp2
  go_quiet (fail)
  go_wp2
  go_ret
  exact ⟨rfl, HX.out.drewN.set _, (below_drewN (Below.refl lb w)).setCell (p := ⟨lb, 1, none⟩) (Nat.le_refl _) _⟩

end Go.Proofs.Qxb6000614a
